/-
  zzParseTail (12): the last blank, and the number behind it.
-/
import Derived.Test.Qxb6619248aDoorLine
namespace Go.Proofs.Qxb6619248aDoor
open Go.RowKit

theorem ret3 {a b c d : Int} {x y : Bool} (h1 : a = b) (h2 : c = d) (h3 : x = y) : Ending.returned (.tuple #[.int .i64 a, .int .i64 c, .bool x]) = .returned (.tuple #[.int .i64 b, .int .i64 d, .bool y]) := by rw [h1, h2, h3]
theorem int_cast {k : IntKind} {a b : Int} (h : a = b) : Value.int k a = .int k b := by rw [h]

set_option maxRecDepth 100000 in
set_option maxHeartbeats 1000000 in
/-- A number that is not negative. -/
theorem parse_pos (b off cap pl dl : Nat) (z : Nat → Int) (V : Nat → Int) (w : World) (hn : pl ≤ 8388608) (hd1 : 1 ≤ dl) (hd2 : dl ≤ 19) (hcap : pl + dl + 2 ≤ cap)
    (hc : ∀ j, j < pl + dl + 2 → w.cell? ⟨b, off + j, none⟩ = some (.int .u8 (z j))) (hsp : z pl = 32) (hnl : z (pl + dl + 1) = 10)
    (hdig : ∀ j, j < dl → 48 ≤ z (pl + 1 + j) ∧ z (pl + 1 + j) ≤ 57) (hlead : z (pl + 1) = 48 → dl = 1)
    (hV0 : V 0 = 0) (hV : ∀ m, m < dl → V (m + 1) = V m * 10 + (z (pl + 1 + m) - 48)) (hVb : ∀ m, m < dl → 0 ≤ V m ∧ V m < 1000000000000000000) (hVe : 0 ≤ V dl ∧ V dl ≤ 9223372036854775807) :
    Calls Tryd.prog 12 #[.slice (some ⟨b, off, none⟩) (pl + dl + 2) cap] w fun e w' => e = .returned (.tuple #[.int .i64 pl, .int .i64 (V dl), .bool true]) ∧ w' = w := by
  obtain ⟨n, hn'⟩ : ∃ n, n = pl + dl + 2 := ⟨_, rfl⟩
  have hc0 := hc (n - 1) (by omega)
  have e1 : z (n - 1) = 10 := by rw [hn', ← hnl]; rfl
  rw [e1] at hc0
  rw [← hn'] at hcap ⊢
  have HN : Hid (n = pl + dl + 2) := hn'
  have hn1 : pl + dl + 2 ≤ n := by omega
  have hn2 : n ≤ pl + dl + 2 := by omega
  have HC : Hid (∀ j, j < pl + dl + 2 → w.cell? ⟨b, off + j, none⟩ = some (.int .u8 (z j))) := hc
  have HSP : Hid (z pl = 32) := hsp
  have HD : Hid (∀ j, j < dl → 48 ≤ z (pl + 1 + j) ∧ z (pl + 1 + j) ≤ 57) := hdig
  have HLD : Hid (z (pl + 1) = 48 → dl = 1) := hlead
  have HV0 : Hid (V 0 = 0) := hV0
  have HV : Hid (∀ m, m < dl → V (m + 1) = V m * 10 + (z (pl + 1 + m) - 48)) := hV
  have HVB : Hid (∀ m, m < dl → 0 ≤ V m ∧ V m < 1000000000000000000) := hVb
  have HVE : Hid (0 ≤ V dl ∧ V dl ≤ 9223372036854775807) := hVe
  clear hn' hc hsp hdig hlead hV0 hV hVb hVe e1 hnl
  go_enter Tryd.func12, Tryd.ntmps12
  go_wp2
  go_loop [6, 7] (fun sp i => ∃ j : Nat, i = .int .i64 j ∧ sp = .int .i64 (-1) ∧ pl ≤ j ∧ j + 2 ≤ n) (fun _ i => (intOf i).toNat)
  case atStart => exact ⟨n - 2, int_cast (by omega), rfl, by omega, by omega⟩
  case round =>
    obtain ⟨j, rfl, rfl, hj1, hj2⟩ := hrel
    by_cases hjp : j = pl
    · subst hjp
      have hcj := HC.out j (by omega)
      rw [HSP.out] at hcj
      have hc1 := HC.out (j + 1) (by omega)
      have hd1' := HD.out 0 (by omega)
      have hld := HLD.out
      rw [Nat.add_zero] at hd1'
      generalize z (j + 1) = c0 at hc1 hd1' hld
      obtain ⟨hd1a, hd1b⟩ := hd1'
      by_cases h48 : c0 = 48
      · have hdl : dl ≤ 1 := by have := hld h48; omega
        subst h48
        clear hld
        go_wp2
        · exfalso
          have h19 : n - 1 - (j + 1) = dl := by omega
          simp only [h19, beq_iff_eq] at *
          omega
        · clear hc1 hcj
          go_loop [10, 11] (fun u i => ∃ m : Nat, m ≤ dl ∧ i = .int .i64 m ∧ u = .int .u64 (V m)) (fun _ i => dl - (intOf i).toNat)
          case atStart => exact ⟨0, Nat.zero_le _, rfl, by rw [HV0.out]⟩
          case round =>
            obtain ⟨m, hm, rfl, rfl⟩ := hrel
            by_cases hmd : m < dl
            · have hcm := HC.out (j + 1 + m) (by omega)
              rw [← Nat.add_assoc] at hcm
              have hdm := HD.out m hmd
              have hvm := HV.out m hmd
              obtain ⟨hvb1, hvb2⟩ := HVB.out m hmd
              generalize z (j + 1 + m) = c at hcm hdm hvm
              obtain ⟨hdm1, hdm2⟩ := hdm
              have HVM : Hid (V (m + 1) = V m * 10 + (c - 48)) := hvm
              clear hvm
              generalize V m = y at *
              go_wp2
              go_round
              case rel => exact ⟨m + 1, by omega, by go_num, by rw [HVM.out]⟩
              case measure => simp [intOf]; omega
            · have hmd' : m = dl := by omega
              have hve := HVE.out
              rw [← hmd'] at hve
              have HM : Hid (m = dl) := hmd'
              clear hmd'
              obtain ⟨hve1, hve2⟩ := hve
              go_wp2
              go_ret3
              exact ⟨ret3 rfl (by rw [← HM.out]) rfl, rfl⟩
      · clear hld
        go_wp2
        · exfalso
          have h19 : n - 1 - (j + 1) = dl := by omega
          simp only [h19, beq_iff_eq] at *
          omega
        · clear hc1 hcj
          go_loop [10, 11] (fun u i => ∃ m : Nat, m ≤ dl ∧ i = .int .i64 m ∧ u = .int .u64 (V m)) (fun _ i => dl - (intOf i).toNat)
          case atStart => exact ⟨0, Nat.zero_le _, rfl, by rw [HV0.out]⟩
          case round =>
            obtain ⟨m, hm, rfl, rfl⟩ := hrel
            by_cases hmd : m < dl
            · have hcm := HC.out (j + 1 + m) (by omega)
              rw [← Nat.add_assoc] at hcm
              have hdm := HD.out m hmd
              have hvm := HV.out m hmd
              obtain ⟨hvb1, hvb2⟩ := HVB.out m hmd
              generalize z (j + 1 + m) = c at hcm hdm hvm
              obtain ⟨hdm1, hdm2⟩ := hdm
              have HVM : Hid (V (m + 1) = V m * 10 + (c - 48)) := hvm
              clear hvm
              generalize V m = y at *
              go_wp2
              go_round
              case rel => exact ⟨m + 1, by omega, by go_num, by rw [HVM.out]⟩
              case measure => simp [intOf]; omega
            · have hmd' : m = dl := by omega
              have hve := HVE.out
              rw [← hmd'] at hve
              have HM : Hid (m = dl) := hmd'
              clear hmd'
              obtain ⟨hve1, hve2⟩ := hve
              go_wp2
              go_ret3
              exact ⟨ret3 rfl (by rw [← HM.out]) rfl, rfl⟩
    · have hcj := HC.out j (by omega)
      have hd := HD.out (j - pl - 1) (by omega)
      rw [show pl + 1 + (j - pl - 1) = j by omega] at hd
      generalize z j = c at hcj hd
      obtain ⟨hda, hdb⟩ := hd
      go_wp2
      go_round
      case rel => exact ⟨j - 1, int_cast (by omega), rfl, by omega, by omega⟩
      case measure => simp [intOf]; omega
theorem neg_wrap {v : Int} (h1 : 1 ≤ v) (h2 : v ≤ 9223372036854775808) : wrap64 (IntKind.u64.wrap (-v)) = -v := by
  unfold wrap64
  rw [IntKind.wrap_u64]
  omega

set_option maxRecDepth 100000 in
set_option maxHeartbeats 1000000 in
/-- A negative number. -/
theorem parse_neg (b off cap pl dl : Nat) (z : Nat → Int) (V : Nat → Int) (w : World) (hn : pl ≤ 8388608) (hd1 : 1 ≤ dl) (hd2 : dl ≤ 19) (hcap : pl + dl + 3 ≤ cap)
    (hc : ∀ j, j < pl + dl + 3 → w.cell? ⟨b, off + j, none⟩ = some (.int .u8 (z j))) (hsp : z pl = 32) (hmi : z (pl + 1) = 45) (hnl : z (pl + dl + 2) = 10)
    (hdig : ∀ j, j < dl → 48 ≤ z (pl + 2 + j) ∧ z (pl + 2 + j) ≤ 57) (hlead : z (pl + 2) ≠ 48)
    (hV0 : V 0 = 0) (hV : ∀ m, m < dl → V (m + 1) = V m * 10 + (z (pl + 2 + m) - 48)) (hVb : ∀ m, m < dl → 0 ≤ V m ∧ V m < 1000000000000000000) (hVe : 1 ≤ V dl ∧ V dl ≤ 9223372036854775808) :
    Calls Tryd.prog 12 #[.slice (some ⟨b, off, none⟩) (pl + dl + 3) cap] w fun e w' => e = .returned (.tuple #[.int .i64 pl, .int .i64 (-V dl), .bool true]) ∧ w' = w := by
  obtain ⟨n, hn'⟩ : ∃ n, n = pl + dl + 3 := ⟨_, rfl⟩
  have hc0 := hc (n - 1) (by omega)
  have e1 : z (n - 1) = 10 := by rw [hn', ← hnl]; rfl
  rw [e1] at hc0
  rw [← hn'] at hcap ⊢
  have HN : Hid (n = pl + dl + 3) := hn'
  have hn1 : pl + dl + 3 ≤ n := by omega
  have hn2 : n ≤ pl + dl + 3 := by omega
  have HC : Hid (∀ j, j < pl + dl + 3 → w.cell? ⟨b, off + j, none⟩ = some (.int .u8 (z j))) := hc
  have HSP : Hid (z pl = 32) := hsp
  have HMI : Hid (z (pl + 1) = 45) := hmi
  have HD : Hid (∀ j, j < dl → 48 ≤ z (pl + 2 + j) ∧ z (pl + 2 + j) ≤ 57) := hdig
  have HLD : Hid (z (pl + 2) ≠ 48) := hlead
  have HV0 : Hid (V 0 = 0) := hV0
  have HV : Hid (∀ m, m < dl → V (m + 1) = V m * 10 + (z (pl + 2 + m) - 48)) := hV
  have HVB : Hid (∀ m, m < dl → 0 ≤ V m ∧ V m < 1000000000000000000) := hVb
  have HVE : Hid (1 ≤ V dl ∧ V dl ≤ 9223372036854775808) := hVe
  clear hn' hc hsp hmi hdig hlead hV0 hV hVb hVe e1 hnl
  go_enter Tryd.func12, Tryd.ntmps12
  go_wp2
  go_loop [6, 7] (fun sp i => ∃ j : Nat, i = .int .i64 j ∧ sp = .int .i64 (-1) ∧ pl ≤ j ∧ j + 2 ≤ n) (fun _ i => (intOf i).toNat)
  case atStart => exact ⟨n - 2, int_cast (by omega), rfl, by omega, by omega⟩
  case round =>
    obtain ⟨j, rfl, rfl, hj1, hj2⟩ := hrel
    by_cases hjp : j = pl
    · subst hjp
      have hcj := HC.out j (by omega)
      rw [HSP.out] at hcj
      have hc1 := HC.out (j + 1) (by omega)
      rw [HMI.out] at hc1
      have hc2 := HC.out (j + 2) (by omega)
      have hc2' : w.cell? ⟨b, off + (j + 1) + 1, none⟩ = some (.int .u8 (z (j + 2))) := hc2
      have hd1' := HD.out 0 (by omega)
      have hld := HLD.out
      rw [Nat.add_zero] at hd1'
      clear hc2
      generalize z (j + 2) = c0 at hc2' hd1' hld
      obtain ⟨hd1a, hd1b⟩ := hd1'
      have h48 : (c0 == 48) = false := beq_eq_false_iff_ne.2 hld
      clear hld
      go_wp2
      · exfalso
        have h19 : n - 1 - (j + 1) - 1 = dl := by omega
        simp only [h19, beq_iff_eq] at *
        omega
      · clear hc1 hcj hc2'
        go_loop [10, 11] (fun u i => ∃ m : Nat, m ≤ dl ∧ i = .int .i64 m ∧ u = .int .u64 (V m)) (fun _ i => dl - (intOf i).toNat)
        case atStart => exact ⟨0, Nat.zero_le _, rfl, by rw [HV0.out]⟩
        case round =>
          obtain ⟨m, hm, rfl, rfl⟩ := hrel
          by_cases hmd : m < dl
          · have hcm := HC.out (j + 2 + m) (by omega)
            have hcm' : w.cell? ⟨b, off + (j + 1) + 1 + m, none⟩ = some (.int .u8 (z (j + 2 + m))) := by
              rw [show off + (j + 1) + 1 + m = off + (j + 2 + m) by omega]; exact hcm
            clear hcm
            have hdm := HD.out m hmd
            have hvm := HV.out m hmd
            obtain ⟨hvb1, hvb2⟩ := HVB.out m hmd
            generalize z (j + 2 + m) = c at hcm' hdm hvm
            obtain ⟨hdm1, hdm2⟩ := hdm
            have HVM : Hid (V (m + 1) = V m * 10 + (c - 48)) := hvm
            clear hvm
            generalize V m = y at *
            go_wp2
            go_round
            case rel => exact ⟨m + 1, by omega, by go_num, by rw [HVM.out]⟩
            case measure => simp [intOf]; omega
          · have hmd' : m = dl := by omega
            have hve := HVE.out
            rw [← hmd'] at hve
            have HM : Hid (m = dl) := hmd'
            clear hmd'
            obtain ⟨hve1, hve2⟩ := hve
            go_wp2
            go_ret3
            exact ⟨ret3 rfl ((neg_wrap hve1 hve2).trans (by rw [← HM.out])) rfl, rfl⟩
    · have hcj := HC.out j (by omega)
      have hd : z j ≠ 32 := by
        by_cases e : j = pl + 1
        · rw [e, HMI.out]; decide
        · have hd := HD.out (j - pl - 2) (by omega)
          rw [show pl + 2 + (j - pl - 2) = j by omega] at hd
          omega
      generalize z j = c at hcj hd
      have hd' : (c == 32) = false := beq_eq_false_iff_ne.2 hd
      clear hd
      go_wp2
      go_round
      case rel => exact ⟨j - 1, int_cast (by omega), rfl, by omega, by omega⟩
      case measure => simp [intOf]; omega
end Go.Proofs.Qxb6619248aDoor

