/-
  'numberLength' (9): the length of the longest JSON number that s starts with.
-/
import Derived.Test.Qxb6623271aNumWalks
import Derived.Deep.CutBlock
import Derived.Deep.DeepCutAuto
namespace Go.Proofs.Qxb6623271a
open Go.RowKit
def LenOk (s : ByteArray) (e : Ending) : Prop := ∃ (r : Nat) (f : Bool), e = .returned (.tuple #[.int .i64 r, .bool f]) ∧ r ≤ s.size ∧ good s r f
def startAt (s : ByteArray) (i : Nat) : Prop := i ≤ s.size ∧ (stt s i = 0 ∧ (i < s.size → bt s i ≠ 45) ∨ stt s i = 1)
theorem startAt_minus {s : ByteArray} (h : 0 < s.size) (hc : (s[0].toNat : Int) = 45) : startAt s 1 := by
  refine ⟨h, Or.inr ?_⟩
  rw [stt_succ, stt_zero, bt_at s 0 h, hc]
  decide
theorem startAt_none {s : ByteArray} (hc : ∀ h : 0 < s.size, (s[0].toNat : Int) ≠ 45) : startAt s 0 :=
  ⟨Nat.zero_le _, Or.inl ⟨rfl, fun h => by rw [bt_at s 0 h]; exact hc h⟩⟩
theorem startAt_st {s : ByteArray} {i : Nat} (h : startAt s i) : stt s i = 0 ∨ stt s i = 1 := h.2.imp (fun h => h.1) id
theorem lenOk_none {s : ByteArray} {i : Nat} (h : startAt s i) (hd : i < s.size → dgB (bt s i) = false) : LenOk s (.returned (.tuple #[.int .i64 0, .bool false])) :=
  ⟨0, false, rfl, Nat.zero_le _, good_none h.1 h.2 hd⟩
theorem exp_done {s : ByteArray} {k m : Nat} {x : Int} {f : Bool} (h : mantAt s k f) (hk : k < s.size) (hE : bt s k = 101 ∨ bt s k = 69)
    (hx : x = k + 1 ∧ (k + 1 < s.size → bt s (k + 1) ≠ 43 ∧ bt s (k + 1) ≠ 45) ∨ x = k + 1 + 1 ∧ k + 1 < s.size ∧ (bt s (k + 1) = 43 ∨ bt s (k + 1) = 45)) (hm : skipped s x.toNat m) :
    ((m : Int) = x → good s k f) ∧ ((m : Int) ≠ x → good s m true) := by
  have h6 := mant_exp h hE
  obtain ⟨h1, h2, h3, h4⟩ := hm
  rcases hx with ⟨rfl, h5⟩ | ⟨rfl, h5, h7⟩
  · have e1 : ((k : Int) + 1).toNat = k + 1 := by omega
    rw [e1] at h1 h3
    refine ⟨fun e => ?_, fun e => good_exp (Or.inl h6) h1 (by omega) h2 h3 h4⟩
    have e2 : m = k + 1 := by omega
    subst e2
    exact good_exp_none hk h2 (Or.inl ⟨h6, h5⟩) h4
  · have e1 : ((k : Int) + 1 + 1).toNat = k + 2 := by omega
    rw [e1] at h1 h3
    have h8 := exp_sign h6 h7
    refine ⟨fun e => ?_, fun e => good_exp (Or.inr h8) h1 (by omega) h2 h3 h4⟩
    have e2 : m = k + 2 := by omega
    subst e2
    exact good_exp_none hk h2 (Or.inr h8) h4
set_option maxRecDepth 100000 in
set_option maxHeartbeats 1000000 in
theorem len_any (s : ByteArray) (w : World) (hs : s.size ≤ maxLen) :
    Calls Try.prog 9 #[.string s] w fun e w' => LenOk s e ∧ w' = w := by
  have HS : Hid (s.size ≤ maxLen) := hs
  unfold maxLen at hs
  by_cases h0 : 0 < s.size
  · go_enter Try.func9, Try.ntmps9
    go_upto_if 17 with fail
    go_cut [4] (fun v wc => ∃ i : Nat, v = .int .i64 i ∧ startAt s i ∧ wc = w)
    case first =>
      go_wp2
      · go_meet
        case rel => exact ⟨1, rfl, startAt_minus h0 (beq_iff_eq.1 ‹(_ == _) = true›), rfl⟩
      · go_meet
        case rel => exact ⟨0, rfl, startAt_none (fun _ => beq_eq_false_iff_ne.1 ‹(_ == _) = false›), rfl⟩
    case rest =>
      obtain ⟨i, rfl, hst, ew⟩ := hcut
      subst wc
      have hile := hst.1
      go_upto_block 0 with fail
      go_cut [3, 4] (fun v3 v wd => ∃ j : Nat, v3 = .bool false ∧ v = .int .i64 j ∧ intAt s j ∧ wd = w)
      case first =>
        by_cases hi : i < s.size
        · have HB : Hid (bt s i = (s[i].toNat : Int)) := bt_at s i hi
          go_wp2_with (go_at_call 10; refine (skip_any s _ _ HS.out (by omega) (by omega)).mono ?_; rintro e w' ⟨⟨j, rfl, hj⟩, rfl⟩)
          · go_meet
            case rel => exact ⟨i + 1, rfl, by go_num, intAt_zero hi (startAt_st hst) (HB.out.trans (beq_iff_eq.1 ‹(_ == _) = true›)), rfl⟩
          · go_meet
            case rel =>
              rw [Int.toNat_natCast] at hj
              exact ⟨j, rfl, rfl, intAt_digits hi (startAt_st hst) (by rw [HB.out]; assumption) (by rw [HB.out]; assumption) hj.1 hj.2.1 hj.2.2.1 hj.2.2.2, rfl⟩
          · go_ret2
            exact ⟨lenOk_none hst fun _ => by rw [HB.out]; unfold dgB; simp; omega, rfl⟩
          · go_ret2
            have h48 : (s[i].toNat : Int) ≠ 48 := beq_eq_false_iff_ne.1 ‹(_ == _) = false›
            exact ⟨lenOk_none hst fun _ => by rw [HB.out]; unfold dgB; simp; omega, rfl⟩
        · go_wp2_with fail
          go_ret2
          exact ⟨lenOk_none hst fun h => absurd h hi, rfl⟩
      case rest =>
        obtain ⟨j, rfl, rfl, hij, ew⟩ := hcut
        subst wc
        have hjle := hij.2.1
        by_cases hj : j < s.size
        · have HB : Hid (bt s j = (s[j].toNat : Int)) := bt_at s j hj
          go_upto_if 62 with fail
          go_cut [3, 4] (fun v3 v4 wd => ∃ (k : Nat) (f : Bool), v3 = .bool f ∧ v4 = .int .i64 k ∧ mantAt s k f ∧ wd = w)
          case first =>
            go_wp2_with (go_at_call 10; refine (skip_any s _ _ HS.out (by omega) (by omega)).mono ?_; rintro e w' ⟨⟨m, rfl, hm⟩, rfl⟩)
            · go_ret2
              have hmj : m = j + 1 := by have := beq_iff_eq.1 ‹((m : Int) == _) = true›; omega
              refine ⟨⟨j, false, rfl, hjle, good_dot_none hij hj (HB.out.trans (beq_iff_eq.1 ‹((s[j].toNat : Int) == 46) = true›)) ?_⟩, rfl⟩
              have := hm.2.2.2
              rwa [hmj] at this
            · go_meet
              case rel =>
                have hmj : m ≠ j + 1 := by have := beq_eq_false_iff_ne.1 ‹((m : Int) == _) = false›; omega
                have e1 : ((j : Int) + 1).toNat = j + 1 := by omega
                rw [e1] at hm
                exact ⟨m, true, rfl, rfl, mantAt_frac hij (HB.out.trans (beq_iff_eq.1 ‹((s[j].toNat : Int) == 46) = true›)) hm.1 hmj hm.2.1 hm.2.2.1 hm.2.2.2, rfl⟩
            · go_meet
              case rel => exact ⟨j, false, rfl, rfl, mantAt_int hij (fun _ => by rw [HB.out]; exact beq_eq_false_iff_ne.1 ‹(_ == _) = false›), rfl⟩
          case rest =>
            obtain ⟨k, f, rfl, rfl, hmant, ew⟩ := hcut
            subst wc
            have hkle := hmant.2.1
            by_cases hk : k < s.size
            · have HB : Hid (bt s k = (s[k].toNat : Int)) := bt_at s k hk
              go_wp2_with (go_at_call 10; refine (skip_any s _ _ HS.out (by omega) (by omega)).mono ?_; rintro e w' ⟨⟨m, rfl, hm⟩, rfl⟩)
              all_goals
                go_ret2
                refine ⟨?_, rfl⟩
                have HB' := HB.out
                simp only [beq_iff_eq, beq_eq_false_iff_ne, ne_eq] at *
                first
                  | (refine ⟨k, f, rfl, hkle, good_mant hmant ?_⟩; intro _; omega)
                  | (have hb1 := bt_at s (k + 1) (by omega)
                     first
                       | (refine ⟨k, f, rfl, hkle, (exp_done hmant hk ?_ ?_ hm).1 ?_⟩ <;> omega)
                       | (refine ⟨m, true, rfl, hm.2.1, (exp_done hmant hk ?_ ?_ hm).2 ?_⟩ <;> omega))
                  | (refine ⟨k, f, rfl, hkle, (exp_done hmant hk ?_ ?_ hm).1 ?_⟩ <;> omega)
                  | (refine ⟨m, true, rfl, hm.2.1, (exp_done hmant hk ?_ ?_ hm).2 ?_⟩ <;> omega)
            · go_wp2_with fail
              go_ret2
              exact ⟨⟨k, f, rfl, hkle, good_mant hmant (fun h => absurd h hk)⟩, rfl⟩
        · go_wp2_with fail
          go_ret2
          exact ⟨⟨j, false, rfl, hjle, good_mant (mantAt_int hij (fun h => absurd h hj)) (fun h => absurd h hj)⟩, rfl⟩
  · have e0 : s.size = 0 := by omega
    go_enter Try.func9, Try.ntmps9
    go_wp2
    go_ret2
    exact ⟨⟨0, false, rfl, Nat.zero_le _, good_none (i := 0) (Nat.zero_le _) (Or.inl ⟨rfl, fun h => by omega⟩) (fun h => by omega)⟩, rfl⟩
end Go.Proofs.Qxb6623271a
