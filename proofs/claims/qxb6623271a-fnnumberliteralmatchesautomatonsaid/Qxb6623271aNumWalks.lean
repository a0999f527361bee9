/-
  The walks of 'FnNumberLiteralMatchesAutomaton''s callees.
-/
import Derived.Test.Qxb6623271aRows
import Derived.Test.Qxb6623271aNumPlain
import Derived.WalkKit
import Derived.WalkSpells
import Derived.WalkLawsBesides
namespace Go.Proofs.Qxb6623271a
open Go.RowKit

theorem ret_int {k : IntKind} {a b : Int} (h : a = b) : Ending.returned (.int k a) = .returned (.int k b) := by rw [h]

/-- What 'skipDigits' from i answers. -/
def skipped (s : ByteArray) (i j : Nat) : Prop := i ≤ j ∧ j ≤ s.size ∧ (∀ m, i ≤ m → m < j → dgB (bt s m) = true) ∧ (j < s.size → dgB (bt s j) = false)

set_option maxHeartbeats 400000 in
theorem skip_any (s : ByteArray) (x : Int) (w : World) (hs : s.size ≤ maxLen) (h0 : 0 ≤ x) (hi : x ≤ s.size) :
    Calls Try.prog 10 #[.string s, .int .i64 x] w fun e w' => (∃ j : Nat, e = .returned (.int .i64 j) ∧ skipped s x.toNat j) ∧ w' = w := by
  obtain ⟨i, rfl⟩ := Int.eq_ofNat_of_zero_le h0
  have hi' : i ≤ s.size := by omega
  rw [Int.toNat_natCast]
  unfold maxLen at hs
  go_enter Try.func10, Try.ntmps10
  go_wp2
  go_loop [1] (fun v => ∃ k : Nat, i ≤ k ∧ k ≤ s.size ∧ v = .int .i64 k ∧ (∀ m, i ≤ m → m < k → dgB (bt s m) = true)) (fun v => s.size - (intOf v).toNat)
  case atStart => exact ⟨i, Nat.le_refl _, hi', rfl, fun m h1 h2 => by omega⟩
  case round =>
    obtain ⟨k, hk1, hk2, rfl, hd⟩ := hrel
    by_cases hlt : k < s.size
    · have hbt := bt_at s k hlt
      have HB : Hid (bt s k = (s[k].toNat : Int)) := hbt
      have HD : Hid (∀ m, i ≤ m → m < k → dgB (bt s m) = true) := hd
      clear hbt hd
      go_wp2
      · go_round
        case rel =>
          refine ⟨k + 1, by omega, by omega, by go_num, fun m h1 h2 => ?_⟩
          by_cases e : m = k
          · subst e; rw [HB.out]; exact (dg_eq _).2 ⟨by assumption, by assumption⟩
          · exact HD.out m h1 (by omega)
        case measure => simp [intOf]; omega
      · go_ret
        refine ⟨⟨k, rfl, hk1, hk2, HD.out, fun _ => ?_⟩, rfl⟩
        rw [HB.out]; unfold dgB; simp; omega
      · go_ret
        refine ⟨⟨k, rfl, hk1, hk2, HD.out, fun _ => ?_⟩, rfl⟩
        rw [HB.out]; unfold dgB; simp; omega
    · go_wp2
      go_ret
      exact ⟨⟨k, rfl, hk1, hk2, hd, fun h => absurd h hlt⟩, rfl⟩

set_option maxHeartbeats 1000000 in
theorem step_any (st c : Int) (w : World) :
    Calls Try.prog 8 #[.int .i64 st, .int .u8 c] w fun e w' => e = .returned (.int .i64 (stepZ st c)) ∧ w' = w := by
  go_enter Try.func8, Try.ntmps8
  go_wp2
  all_goals
    go_ret
    refine ⟨ret_int ?_, rfl⟩
    simp only [beq_iff_eq, beq_eq_false_iff_ne, ne_eq] at *
    simp only [stepZ, dgB, Bool.and_eq_true, decide_eq_true_eq]
    first
      | omega
      | (repeat (first | rw [if_pos (by omega)] | rw [if_neg (by omega)]); done)
      | (subst_vars; decide)
  all_goals simp [*]

theorem acc_two {a b c d : Bool} (h1 : a = c) (h2 : b = d) : Ending.returned (.tuple #[.bool a, .bool b]) = .returned (.tuple #[.bool c, .bool d]) := by rw [h1, h2]

set_option maxHeartbeats 1000000 in
theorem auto_any (s : ByteArray) (w : World) (hs : s.size ≤ maxLen) :
    Calls Try.prog 6 #[.string s] w fun e w' => e = .returned (.tuple #[.bool (accI (stt s s.size) || accF (stt s s.size)), .bool (accF (stt s s.size))]) ∧ w' = w := by
  unfold maxLen at hs
  go_enter Try.func6, Try.ntmps6
  go_wp2
  go_loop [4, 5] (fun st i => ∃ k : Nat, k ≤ s.size ∧ i = .int .i64 k ∧ st = .int .i64 (stt s k)) (fun _ i => s.size - (intOf i).toNat)
  case atStart => exact ⟨0, Nat.zero_le _, rfl, rfl⟩
  case round =>
    obtain ⟨k, hk, rfl, rfl⟩ := hrel
    by_cases hlt : k < s.size ∧ 0 ≤ stt s k
    · obtain ⟨h1, h2⟩ := hlt
      have HB : Hid (bt s k = (s[k].toNat : Int)) := bt_at s k h1
      go_wp2_with (go_at_call 8; refine (step_any _ _ _).mono ?_; rintro e w' ⟨rfl, rfl⟩)
      go_round
      case rel => exact ⟨k + 1, by omega, by go_num, by rw [stt_succ, HB.out]⟩
      case measure => simp [intOf]; omega
    · have HE : Hid (stt s s.size = stt s k) := by
        by_cases e : k = s.size
        · rw [e]; exact rfl
        · have := stt_neg (s := s) (k := k) (by omega)
          show stt s s.size = stt s k
          rw [this]; exact stt_dead' this hk
      by_cases h1 : k < s.size
      · have h2 : stt s k < 0 := by omega
        clear hlt
        go_wp2_with fail
        all_goals
          go_ret2
          refine ⟨acc_two ?_ ?_, rfl⟩
        all_goals
          rw [HE.out]
          simp only [accI, accF]
          simp_all
          try omega
      · clear hlt
        go_wp2_with fail
        all_goals
          go_ret2
          refine ⟨acc_two ?_ ?_, rfl⟩
        all_goals
          rw [HE.out]
          simp only [accI, accF]
          simp_all
end Go.Proofs.Qxb6623271a
