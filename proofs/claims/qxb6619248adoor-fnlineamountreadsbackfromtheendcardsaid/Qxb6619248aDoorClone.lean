/-
  zzCloneBytes (6), and what a row of bytes of the call's own is.
-/
import Derived.Test.Qxb6619248aDoorRows
import Derived.Test.Qxb6619248aDoorLinePlain
import Derived.Test.Qxb6619248aDoorShelf
import Derived.WalkKit
import Derived.WalkSpells
import Derived.WalkLawsBesides
import Derived.Lib.AppendStr
import Derived.Lib.OthersKept
import Derived.Lib.Hide
import Derived.Laws.CopyOwn
namespace Go.Proofs.Qxb6619248aDoor
open Go.RowKit

theorem info5 : (Tryd.prog.info? 5).map (fun i => (i.zero, i.size, i.bytes)) = some (some (.int .u8 0), 1, 1) := by kernel_rfl
theorem infoSize5 : (Tryd.prog.info? 5).map (·.size) = some 1 := by kernel_rfl

/-- A row of bytes that the call owns, from block B on. -/
def owns (w : World) (B : Nat) (v : Value) (l : List UInt8) : Prop := w.ownsRow B 5 1 v l.length (Lib.byteCells l)

/-- Byte j as a number. -/
def bz (l : List UInt8) (j : Nat) : Int := ((l.getD j 0).toNat : Int)

theorem byteCells_get {l : List UInt8} {j : Nat} {u : Value} (h : (Lib.byteCells l)[j]? = some u) : j < l.length ∧ u = .int .u8 (bz l j) := by
  have hj : j < l.length := by
    rcases Nat.lt_or_ge j l.length with h1 | h1
    · exact h1
    · rw [List.getElem?_eq_none (by rw [Lib.byteCells_length]; exact h1)] at h
      cases h
  refine ⟨hj, ?_⟩
  simp only [Lib.byteCells, List.getElem?_map, List.getElem?_eq_getElem hj, Option.map_some, Option.some.injEq] at h
  rw [← h]
  simp [bz, List.getD_eq_getElem?_getD, List.getElem?_eq_getElem hj]

theorem byteCells_at {l : List UInt8} {j : Nat} (hj : j < l.length) : (Lib.byteCells l)[j]? = some (.int .u8 (bz l j)) := by
  simp [Lib.byteCells, bz, List.getD_eq_getElem?_getD, List.getElem?_eq_getElem hj]

theorem byteCells_one (l : List UInt8) : ∀ v ∈ Lib.byteCells l, v.oneCell' = true := by
  intro v hv
  simp only [Lib.byteCells, List.mem_map] at hv
  obtain ⟨b, _, rfl⟩ := hv
  rfl

set_option maxRecDepth 100000 in
set_option maxHeartbeats 400000 in
theorem clone_none (w : World) : Calls Tryd.prog 6 #[.slice none 0 0] w fun e w' => e = .returned (.slice none 0 0) ∧ w' = w := by
  have hq := fun (w : World) => Lib.run_eql_slice_nil (P := Tryd.prog) w 22 
  go_enter Tryd.func6, Tryd.ntmps6
  go_wp2_with fail
  go_ret
  exact ⟨rfl, rfl⟩

set_option maxRecDepth 100000 in
set_option maxHeartbeats 400000 in
theorem clone_some (x : Addr) (cap : Nat) (l : List UInt8) (w : World) (hl : l.length ≤ 1048576) (hc : ∀ j, j < l.length → w.cell? (x.add j) = some (.int .u8 (bz l j))) :
    Calls Tryd.prog 6 #[.slice (some x) l.length cap] w fun e w' => (∃ v, e = .returned v ∧ owns w' w.heap.size v l) ∧ Below w.heap.size w w' := by
  obtain ⟨i0, hi, hz0, hz1, hz2⟩ := info_parts info5
  have hq := fun (w : World) => Lib.run_eql_slice_nil (P := Tryd.prog) w 22 
  obtain ⟨n, hn⟩ : ∃ n, n = l.length := ⟨_, rfl⟩
  have HN : Hid (n = l.length) := hn
  rw [← hn] at hl hc ⊢
  clear hn
  have HC : Hid (∀ j, j < n → w.cell? (x.add j) = some (.int .u8 (bz l j))) := hc
  clear hc
  go_enter Tryd.func6, Tryd.ntmps6
  go_wp2_with (at_make; refine wpList_make_full _ rfl _ _ 22 rfl w.heap.size 5 i0 (.int .u8 0) 1 Tryd.underlying22 hi hz0 hz1 _ _ _ _ n rfl rfl rfl rfl (by rw [hz2]; omega) (by unfold maxLen; omega) (Nat.le_refl _) ?_)
  intro w1 hown1 hg1
  have hb1 : Below w.heap.size w w1 := (Below.refl _ _).grown hg1 (Nat.le_refl _) (fun k hk => by cases hk)
  obtain ⟨cur, hcur, hcl⟩ : ∃ cur : List Value, w1.heap[w.heap.size]? = some (.cells cur.toArray 5 (0, 0)) ∧ cur.length = n := by
    rcases hown1.2 with ⟨h0, _⟩ | ⟨g, cp, cr, hv, _, hg, _, _, hs, _⟩
    · cases h0
    · simp only [Value.slice.injEq, Option.some.injEq, Addr.mk.injEq, true_and, and_true] at hv
      obtain ⟨rfl, rfl⟩ := hv
      exact ⟨cr.toList, by simpa using hg, by simpa using hs⟩
  have hsrc : ∀ j u, (Lib.byteCells l)[j]? = some u → w1.cell? (x.add j) = some u := fun j u hu => by
    obtain ⟨hj, rfl⟩ := byteCells_get hu
    have h1 := HC.out j (by rw [HN.out]; exact hj)
    exact (hb1.cell (World.block_lt_of_cell? _ _ h1)).trans h1
  have hbl : (Lib.byteCells l).length = n := by rw [Lib.byteCells_length, HN.out]
  have HSRC : Hid (∀ j u, (Lib.byteCells l)[j]? = some u → w1.cell? (x.add j) = some u) := hsrc
  have HCUR : Hid (w1.heap[w.heap.size]? = some (.cells cur.toArray 5 (0, 0))) := hcur
  have HCL : Hid (cur.length = n) := hcl
  have HB1 : Hid (Below w.heap.size w w1) := hb1
  have HBL : Hid ((Lib.byteCells l).length = n) := hbl
  clear hsrc hcur hcl hb1 hbl hown1 hg1 HC
  go_wp2_with (refine wpList_copy_splice rfl _ _ 22 22 rfl 5 Tryd.underlying22 infoSize5 _ _ _ _ _ _ rfl rfl w.heap.size 0 cur 5 HCUR.out (Lib.byteCells l) (by rw [HBL.out]; exact (Nat.min_self n).symm) (fun _ => ⟨rfl, x, rfl, HSRC.out⟩) (by rw [HBL.out, HCL.out]; omega) (byteCells_one l) w.heap.size w HB1.out (Nat.le_refl _) ?_)
  intro w2 HG2 hB2
  have HB2 : Hid (Below w.heap.size w w2) := hB2
  clear hB2
  go_wp2_with fail
  go_ret
  refine ⟨⟨_, rfl, ?_⟩, HB2.out⟩
  have e1 : splice cur 0 (Lib.byteCells l) = Lib.byteCells l := by
    unfold splice
    rw [List.drop_of_length_le (by rw [HBL.out, HCL.out]; omega)]
    simp
  have hg2 := HG2.out
  rw [e1] at hg2
  refine ⟨by rw [Lib.byteCells_length, Nat.mul_one], Or.inr ⟨w.heap.size, n, _, by rw [← HN.out]; rfl, Nat.le_refl _, hg2, by rw [← HN.out]; exact Nat.le_refl _, by unfold maxLen; omega, by simp [HBL.out], ?_⟩⟩
  rw [Nat.mul_one, ← Lib.byteCells_length]
  simp
end Go.Proofs.Qxb6619248aDoor
