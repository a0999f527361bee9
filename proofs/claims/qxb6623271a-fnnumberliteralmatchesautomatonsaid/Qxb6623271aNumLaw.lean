/-
  'numberLiteral' (7), 'ZZnumberLiteral' (5), 'zzBytes' (4) and the law itself (3), as walks.
-/
import Derived.Test.Qxb6623271aNumLength
import Derived.RowKit3
namespace Go.Proofs.Qxb6623271a
open Go.RowKit

theorem lit_no {s : ByteArray} {r : Nat} {f : Bool} (h : good s r f) (hr : ¬ ((r : Int) = s.size ∧ (r : Int) ≠ 0)) : (accI (stt s s.size) || accF (stt s s.size)) = false ∧ accF (stt s s.size) = false := by
  unfold good at h
  rw [if_neg hr] at h
  rw [h.1, h.2]
  decide
theorem lit_yes {s : ByteArray} {r : Nat} {f : Bool} (h : good s r f) (hr : (r : Int) = s.size ∧ (r : Int) ≠ 0) : (accI (stt s s.size) || accF (stt s s.size)) = true ∧ accF (stt s s.size) = f := by
  unfold good at h
  rw [if_pos hr] at h
  rw [h.1, h.2]
  cases f <;> decide

set_option maxHeartbeats 400000 in
theorem literal_any (s : ByteArray) (w : World) (hs : s.size ≤ maxLen) :
    Calls Try.prog 7 #[.string s] w fun e w' => e = .returned (.tuple #[.bool (accI (stt s s.size) || accF (stt s s.size)), .bool (accF (stt s s.size))]) ∧ w' = w := by
  have HS : Hid (s.size ≤ maxLen) := hs
  unfold maxLen at hs
  generalize hA : (accI (stt s s.size) || accF (stt s s.size)) = A
  generalize hF : accF (stt s s.size) = F
  have HA := show Hid _ from hA
  have HF := show Hid _ from hF
  clear hA hF
  go_enter Try.func7, Try.ntmps7
  go_wp2_with (go_at_call 9; refine (len_any s _ HS.out).mono ?_; rintro e w' ⟨⟨r, f, rfl, hr, hg⟩, rfl⟩)
  all_goals
    go_ret2
    refine ⟨?_, rfl⟩
    simp only [beq_iff_eq, beq_eq_false_iff_ne, bne_iff_ne, bne_eq_false_iff_eq, ne_eq] at *
    first
      | (have h := lit_no hg (by omega); rw [HA.out, HF.out] at h; obtain ⟨rfl, rfl⟩ := h; rfl)
      | (have h := lit_yes hg (by omega); rw [HA.out, HF.out] at h; obtain ⟨rfl, rfl⟩ := h; rfl)

set_option maxHeartbeats 400000 in
theorem zzliteral_any (s : ByteArray) (w : World) (hs : s.size ≤ maxLen) :
    Calls Try.prog 5 #[.string s] w fun e w' => e = .returned (.tuple #[.bool (accI (stt s s.size) || accF (stt s s.size)), .bool (accF (stt s s.size))]) ∧ w' = w := by
  have HS : Hid (s.size ≤ maxLen) := hs
  clear hs
  go_enter Try.func5, Try.ntmps5
  go_wp2_with (go_at_call 7; refine (literal_any s _ HS.out).mono ?_; rintro e w' ⟨rfl, rfl⟩)
  go_ret2
  exact ⟨rfl, rfl⟩

set_option maxHeartbeats 400000 in
theorem zzbytes_any (s : ByteArray) (w : World) (hs : s.size ≤ maxLen) :
    Calls Try.prog 4 #[.string s] w fun e w' => (∃ b, e = .returned (.bool b)) ∧ w' = w := by
  unfold maxLen at hs
  by_cases h : s.size ≤ 1048576
  · go_enter Try.func4, Try.ntmps4
    go_wp2
    all_goals go_ret
    all_goals exact ⟨⟨_, rfl⟩, rfl⟩
  · go_enter Try.func4, Try.ntmps4
    go_wp2
    all_goals go_ret
    all_goals exact ⟨⟨_, rfl⟩, rfl⟩

set_option maxHeartbeats 400000 in
theorem law_any (s : ByteArray) (w : World) (hs : s.size ≤ maxLen) :
    Calls Try.prog 3 #[.string s] w fun e w' => e = .returned (.bool true) ∧ Grown w w' := by
  generalize hA : (accI (stt s s.size) || accF (stt s s.size)) = A
  generalize hF : accF (stt s s.size) = F
  have HC := fun w => zzliteral_any s w hs
  have HD := fun w => auto_any s w hs
  rw [hA, hF] at HC HD
  have HC' : Hid _ := HC
  have HD' : Hid _ := HD
  have HS : Hid (s.size ≤ maxLen) := hs
  clear HC HD hA hF
  unfold maxLen at hs
  go_enter Try.func3, Try.ntmps3
  go_wp2_with (first
    | (go_at_call 4; refine (zzbytes_any s _ HS.out).mono ?_; rintro e w' ⟨⟨b, rfl⟩, rfl⟩)
    | (go_at_call 5; refine (HC'.out _).mono ?_; rintro e w' ⟨rfl, rfl⟩)
    | (go_at_call 6; refine (HD'.out _).mono ?_; rintro e w' ⟨rfl, rfl⟩))
  all_goals
    go_ret
    refine ⟨?_, Grown.refl _⟩
    simp
end Go.Proofs.Qxb6623271a
