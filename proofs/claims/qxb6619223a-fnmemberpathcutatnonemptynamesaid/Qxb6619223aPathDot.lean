/-
  zzDotJoin (13) and the two bounds on lengths (8, 11).
-/
import Derived.Test.Qxb6619223aPathJoin
namespace Go.Proofs.Qxb6619223a
open Go.RowKit

/-- It returns a bool; where that is true, each of the first n names is short. -/
def BoolRet (n : Nat) (ns : List ByteArray) (e : Ending) : Prop := ∃ r, e = .returned (.bool r) ∧ (r = true → ∀ j, j < n → (ns.getD j ByteArray.empty).size ≤ 1048576)

theorem boolRet_no (n : Nat) (ns : List ByteArray) : BoolRet n ns (.returned (.bool false)) := ⟨false, rfl, fun h => by cases h⟩

theorem first_ne {ns : List ByteArray} {k : Nat} (hk : 0 < k) (hl : 0 < ns.length) (h : (ns.getD 0 ByteArray.empty).size ≠ 0) : (foldB ByteArray.empty (ns.take k)).size ≠ 0 := by
  cases ns with
  | nil => simp at hl
  | cons n ns =>
    obtain ⟨k, rfl⟩ : ∃ m, k = m + 1 := ⟨k - 1, by omega⟩
    rw [List.take_succ_cons, fold_empty]
    exact fold_ne _ (by simpa using h)

set_option maxRecDepth 100000 in
set_option maxHeartbeats 1000000 in
theorem dot_any (xa : Option Addr) (b o xl xc : Nat) (ns : List ByteArray) (w : World) (hxa : 0 < xl → xa = some ⟨b, o, none⟩) (hl : ns.length = xl) (hx : xl ≤ 1048576)
    (hc : ∀ j, j < xl → w.cell? ⟨b, o + j, none⟩ = some (.string (ns.getD j ByteArray.empty))) (hsz : tot ns ≤ 2097152) (h0 : (ns.getD 0 ByteArray.empty).size ≠ 0) :
    Calls Try.prog 13 #[.slice xa xl xc] w fun e w' => e = .returned (.string (foldB ByteArray.empty ns)) ∧ Below w.heap.size w w' := by
  obtain ⟨i0, hi, hz0, hz1, hz2⟩ := info_parts info5
  have HL : Hid (ns.length = xl) := hl
  have HZ : Hid (ByteArray.empty.size + tot ns ≤ 2097152) := by show 0 + tot ns ≤ _; omega
  have HN : Hid ((ns.getD 0 ByteArray.empty).size ≠ 0) := h0
  clear hl hsz h0
  go_enter Try.func13, Try.ntmps13
  go_wp2_with fail
  go_loopw [3, 4] (fun v i wr => ∃ k : Nat, k ≤ xl ∧ i = .int .i64 k ∧ buf w wr v (foldB ByteArray.empty (ns.take k))) (fun _ i _ => xl - (intOf i).toNat)
  case atStart => exact ⟨0, Nat.zero_le _, rfl, buf_nil w⟩
  case round =>
    obtain ⟨k, hk, rfl, hb⟩ := hrel
    by_cases hlt : k < xl
    · obtain rfl := hxa (by omega)
      have hst := foldB_step ByteArray.empty (ns := ns) (k := k) (by rw [HL.out]; exact hlt)
      have hss := size_step ByteArray.empty (ns := ns) (k := k) (by rw [HL.out]; exact hlt)
      have hz := HZ.out
      have hcell := hc k hlt
      have hbw : b < w.heap.size := World.block_lt_of_cell? _ _ hcell
      have HT : Hid (0 < k → (foldB ByteArray.empty (ns.take k)).size ≠ 0) := fun h0 => first_ne h0 (by rw [HL.out]; omega) HN.out
      have HK : Hid (k = 0 → (foldB ByteArray.empty (ns.take k)).size = 0) := fun h0 => by rw [h0]; rfl
      clear HN
      generalize ns.getD k ByteArray.empty = nm at *
      generalize foldB ByteArray.empty (ns.take k) = t at *
      have hsum : t.size + nm.size + 1 ≤ 2097152 := by omega
      have HS := show Hid _ from hst
      have HC := show Hid _ from hcell
      have hcr : wr.cell? ⟨b, o + k, none⟩ = some (.string nm) := (hb.2.cell (by exact hbw)).trans HC.out
      have hwz : w.heap.size ≤ wr.heap.size := hb.2.size
      clear hst hss hz hxa hc hcell
      by_cases h0 : 0 < k
      · have ht := HT.out h0
        go_wp2_with (at_builtin; refine wpList_append_own _ rfl _ _ 32 rfl w.heap.size 5 i0 (.int .u8 0) 1 1 Try.underlying32 hi hz0 hz1 hz2 rfl (by decide) _ _ _ rfl (hb.1.alloc _) ⟨wr.heap.size, 0, none⟩ 1 1 [.int .u8 46] rfl rfl (cell_one_new _ _ _) (ints_oneCell .u8 [46]) (by unfold maxLen; omega) (by omega) (by simp; omega) ?_)
        intro v1 w1 hown1 hg1 _
        have hb1 : buf w w1 v1 (t ++ ⟨#[46]⟩) := buf_grown (buf_alloc hb _) (by rw [strCells_dot]; exact hown1) hg1
        have hs1 : (t ++ ⟨#[46]⟩).size = t.size + 1 := by rw [ByteArray.size_append]; rfl
        have hcr1 : w1.cell? ⟨b, o + k, none⟩ = some (.string nm) := (hb1.2.cell (by exact hbw)).trans HC.out
        have hwz1 : w.heap.size ≤ w1.heap.size := hb1.2.size
        have HB1 := show Hid _ from hb1
        clear hg1 hown1 hb hcr hb1
        go_wp2_with (at_builtin; refine Lib.wpList_append_own_string _ rfl _ _ 32 9 rfl w.heap.size 5 i0 Try.underlying32 Try.underlying9 hi hz0 hz1 hz2 _ _ _ rfl HB1.out.1 nm rfl (by unfold maxLen; omega) (by omega) hwz1 ?_; intro v2 w2 hown2 hg2 _)
        go_roundw
        case rel => exact ⟨k + 1, by omega, by go_num, by rw [HS.out, mpB_cons ht]; exact buf_grown HB1.out hown2 hg2⟩
        case measure => simp [intOf]; omega
      · have ht := HK.out (by omega)
        go_wp2_with (at_builtin; refine Lib.wpList_append_own_string _ rfl _ _ 32 9 rfl w.heap.size 5 i0 Try.underlying32 Try.underlying9 hi hz0 hz1 hz2 _ _ _ rfl hb.1 nm rfl (by unfold maxLen; omega) (by omega) hwz ?_; intro v1 w1 hown1 hg1 _)
        go_roundw
        case rel => exact ⟨k + 1, by omega, by go_num, by
              have h1 := buf_grown hb hown1 hg1
              rw [eq_empty ht, empty_append] at h1
              rw [HS.out, mpB_nil ht]; exact h1⟩
        case measure => simp [intOf]; omega
    · have hcv := run_convert_own hb.1
      have HR : Hid (foldB ByteArray.empty (ns.take k) = foldB ByteArray.empty ns) := by
        show foldB ByteArray.empty (ns.take k) = foldB ByteArray.empty ns
        rw [List.take_of_length_le (by rw [HL.out]; omega)]
      clear hxa hc
      go_wp2_with fail
      go_ret
      exact ⟨ret_str HR.out, hb.2⟩

set_option maxRecDepth 100000 in
set_option maxHeartbeats 1000000 in
theorem bytes8_any (p : ByteArray) (xa : Option Addr) (b o xl xc : Nat) (ns : List ByteArray) (w : World) (hp : p.size ≤ maxLen) (hxa : 0 < xl → xa = some ⟨b, o, none⟩) (hx : xl ≤ maxLen)
    (hws : ∀ j, (ns.getD j ByteArray.empty).size ≤ maxLen) (hc : ∀ j, j < xl → w.cell? ⟨b, o + j, none⟩ = some (.string (ns.getD j ByteArray.empty))) :
    Calls Try.prog 8 #[.string p, .slice xa xl xc] w fun e w' => BoolRet xl ns e ∧ w' = w := by
  unfold maxLen at *
  go_enter Try.func8, Try.ntmps8
  go_wp2
  all_goals try (go_ret; exact ⟨boolRet_no _ _, rfl⟩)
  go_loop [5, 6] (fun z i => ∃ (k : Nat) (y : Int), k ≤ xl ∧ i = .int .i64 k ∧ z = .int .i64 y ∧ 0 ≤ y ∧ y ≤ 1048576 ∧ Hid (∀ j, j < k → (ns.getD j ByteArray.empty).size ≤ 1048576)) (fun _ i => xl - (intOf i).toNat)
  case atStart => exact ⟨0, _, Nat.zero_le _, rfl, rfl, by omega, by omega, fun j h => absurd h (Nat.not_lt_zero j)⟩
  case round =>
    obtain ⟨k, y, hk, rfl, rfl, hy0, hy1, HA⟩ := hrel
    by_cases hlt : k < xl
    · obtain rfl := hxa (by omega)
      have hcell := hc k hlt
      have hsz := hws k
      generalize hnm : ns.getD k ByteArray.empty = nm at hcell hsz
      have HN : Hid (ns.getD k ByteArray.empty = nm) := hnm
      clear hxa hc hws hnm
      go_wp2
      all_goals try (go_ret; exact ⟨boolRet_no _ _, rfl⟩)
      go_round
      case rel => exact ⟨k + 1, _, by omega, by go_num, rfl, by omega, by omega, fun j hj => by
        by_cases e : j = k
        · subst e; rw [HN.out]; omega
        · exact HA.out j (by omega)⟩
      case measure => simp [intOf]; omega
    · clear hxa hc hws
      go_wp2
      go_ret
      exact ⟨⟨true, rfl, fun _ j hj => HA.out j (by omega)⟩, rfl⟩
set_option maxRecDepth 100000 in
set_option maxHeartbeats 1000000 in
theorem bytes11_any (kk : Int) (p : ByteArray) (xa : Option Addr) (b o xl xc : Nat) (ns : List ByteArray) (w : World) (hp : p.size ≤ maxLen) (hxa : 0 < xl → xa = some ⟨b, o, none⟩) (hx : xl ≤ maxLen)
    (hws : ∀ j, (ns.getD j ByteArray.empty).size ≤ maxLen) (hc : ∀ j, j < xl → w.cell? ⟨b, o + j, none⟩ = some (.string (ns.getD j ByteArray.empty))) :
    Calls Try.prog 11 #[.string p, .slice xa xl xc, .int .i64 kk] w fun e w' => BoolRet xl ns e ∧ w' = w := by
  unfold maxLen at *
  go_enter Try.func11, Try.ntmps11
  go_wp2
  all_goals try (go_ret; exact ⟨boolRet_no _ _, rfl⟩)
  go_loop [7, 8] (fun z i => ∃ (k : Nat) (y : Int), k ≤ xl ∧ i = .int .i64 k ∧ z = .int .i64 y ∧ 0 ≤ y ∧ y ≤ 1048576 ∧ Hid (∀ j, j < k → (ns.getD j ByteArray.empty).size ≤ 1048576)) (fun _ i => xl - (intOf i).toNat)
  case atStart => exact ⟨0, _, Nat.zero_le _, rfl, rfl, by omega, by omega, fun j h => absurd h (Nat.not_lt_zero j)⟩
  case round =>
    obtain ⟨k, y, hk, rfl, rfl, hy0, hy1, HA⟩ := hrel
    by_cases hlt : k < xl
    · obtain rfl := hxa (by omega)
      have hcell := hc k hlt
      have hsz := hws k
      generalize hnm : ns.getD k ByteArray.empty = nm at hcell hsz
      have HN : Hid (ns.getD k ByteArray.empty = nm) := hnm
      clear hxa hc hws hnm
      go_wp2
      all_goals try (go_ret; exact ⟨boolRet_no _ _, rfl⟩)
      go_round
      case rel => exact ⟨k + 1, _, by omega, by go_num, rfl, by omega, by omega, fun j hj => by
        by_cases e : j = k
        · subst e; rw [HN.out]; omega
        · exact HA.out j (by omega)⟩
      case measure => simp [intOf]; omega
    · clear hxa hc hws
      go_wp2
      go_ret
      exact ⟨⟨true, rfl, fun _ j hj => HA.out j (by omega)⟩, rfl⟩
end Go.Proofs.Qxb6619223a
