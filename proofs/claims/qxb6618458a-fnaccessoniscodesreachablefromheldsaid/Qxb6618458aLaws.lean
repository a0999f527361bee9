/-
  The laws of append and make at this program's slices.
-/
import Derived.Test.Qxb6618458aRow
namespace Go.Proofs.Qxb6618458a
open Go.RowKit Go.Maps

theorem info3' : (Try.prog.info? 3).map (fun i => (i.zero, i.size, i.bytes)) = some (some (.int .i64 0), 1, 8) := by kernel_rfl
theorem info4' : (Try.prog.info? 4).map (fun i => (i.zero, i.size, i.bytes)) = some (some (.bool false), 1, 1) := by kernel_rfl
theorem info9' : (Try.prog.info? 9).map (fun i => (i.zero, i.size, i.bytes)) = some (some (.string ⟨#[]⟩), 1, 16) := by kernel_rfl

theorem news_one {w : World} {g : Nat} {x : Value} (hc : w.cell? ⟨g, 0, none⟩ = some x) : ∀ (j : Nat) (u : Value), [x][j]? = some u → w.cell? ((⟨g, 0, none⟩ : Addr).add j) = some u := by
  intro j u h
  cases j with
  | zero =>
    simp only [List.getElem?_cons_zero, Option.some.injEq] at h
    subst h
    exact hc
  | succ j => simp at h

theorem RowV.len {w : World} {B : Nat} {e : TypeId} {a : Option Addr} {n cap : Nat} {xs : List Value} (h : RowV w B e (.slice a n cap) xs) : n = xs.length := by
  rcases Joins.ownsRow_forms h with ⟨h1, e⟩ | ⟨g, cap, h1⟩
  · cases h1; exact e.symm
  · cases h1; rfl
theorem RowV.frozen' {w : World} {B : Nat} {e : TypeId} {g n cap : Nat} {xs : List Value} (h : RowV w B e (.slice (some ⟨g, 0, none⟩) n cap) xs) (j : Nat) : w.frozen? ⟨g, j, none⟩ = false := by
  have := h.len; subst this; exact h.frozen j
theorem RowV.put {w : World} {B : Nat} {e : TypeId} {g n cap : Nat} {xs : List Value} (h : RowV w B e (.slice (some ⟨g, 0, none⟩) n cap) xs) (j : Nat) (x : Value) :
    RowV (w.setCell ⟨g, j, none⟩ x) B e (.slice (some ⟨g, 0, none⟩) n cap) (xs.set j x) ∧ w.grownBy (w.setCell ⟨g, j, none⟩ x) (some g) := by
  have := h.len; subst this; exact h.stored j x
theorem RowV.shape {w : World} {B : Nat} {e : TypeId} {v : Value} {xs : List Value} {n : Nat} (h : RowV w B e v xs) (he : xs.length = n) (hn : 0 < n) : ∃ g cap, v = .slice (some ⟨g, 0, none⟩) n cap := by
  subst he; exact h.form hn
theorem RowV.shapes {w : World} {B : Nat} {e : TypeId} {v : Value} {xs : List Value} {n : Nat} (h : RowV w B e v xs) (he : xs.length = n) : ∃ a cap, v = .slice a n cap := by
  subst he; exact h.forms

section
variable {ops : Array Oper} {rest : List Oper} {o : Oper} {a : Act} {Q : Exit → Act → World → Prop} (w : World)

theorem app_int (hgd : o.guard = none) (s x : Operand) (ho : o.op = .call { callee := .builtin .append, args := #[s, x], argTypes := #[39, 39] }) (B : Nat) (v : Value) (zs : List Int) (n : Nat) (hn : zs.length = n) (z : Int) (hs : a.eval s = v) (hown : RowV w B 3 v (ints zs))
    (g : Nat) (hx : a.eval x = .slice (some ⟨g, 0, none⟩) 1 1) (hc : w.cell? ⟨g, 0, none⟩ = some (.int .i64 z)) (hl : n ≤ 4194304) (hb : B ≤ w.heap.size)
    (h : ∀ g' cap w', RowV w' B 3 (.slice (some ⟨g', 0, none⟩) (n + 1) cap) (ints (zs ++ [z])) → w.grownBy w' v.ownBlock → (some g' = v.ownBlock ∨ some g' = some w.heap.size) → wpList Try.prog ops Q rest (a.put o.dst (.slice (some ⟨g', 0, none⟩) (n + 1) cap)) w') :
    wpList Try.prog ops Q (o :: rest) a w := by
  obtain ⟨i0, hi, hz0, hz1, hz2⟩ := info_parts info3'
  subst hn
  refine wpList_append_own_at w hgd s x 39 ho B 3 i0 (.int .i64 0) 1 8 Try.underlying39 hi hz0 hz1 hz2 rfl (by decide) v _ _ hs hown ⟨g, 0, none⟩ 1 1 [.int .i64 z] hx rfl (news_one hc) (fun u hu => by simp at hu; subst hu; rfl) (by rw [ints_len]; unfold maxLen; omega) (by rw [ints_len]; omega) hb ?_
  intro v' w' h1 h2 _ h4
  rw [ints_snoc, ints_len] at h1
  have h1' : RowV w' B 3 v' (ints (zs ++ [z])) := by
    unfold RowV
    rw [ints_len, List.length_append]
    exact h1
  obtain ⟨g', cap, rfl⟩ := h1'.shape (n := zs.length + 1) (by simp [ints_len]) (by omega)
  exact h g' cap w' h1' h2 h4

theorem app_str (hgd : o.guard = none) (s x : Operand) (ho : o.op = .call { callee := .builtin .append, args := #[s, x], argTypes := #[30, 30] }) (B : Nat) (v : Value) (zs : List ByteArray) (n : Nat) (hn : zs.length = n) (z : ByteArray) (hs : a.eval s = v) (hown : RowV w B 9 v (strs zs))
    (g : Nat) (hx : a.eval x = .slice (some ⟨g, 0, none⟩) 1 1) (hc : w.cell? ⟨g, 0, none⟩ = some (.string z)) (hl : n ≤ 1048576) (hb : B ≤ w.heap.size)
    (h : ∀ g' cap w', RowV w' B 9 (.slice (some ⟨g', 0, none⟩) (n + 1) cap) (strs (zs ++ [z])) → w.grownBy w' v.ownBlock → (some g' = v.ownBlock ∨ some g' = some w.heap.size) → wpList Try.prog ops Q rest (a.put o.dst (.slice (some ⟨g', 0, none⟩) (n + 1) cap)) w') :
    wpList Try.prog ops Q (o :: rest) a w := by
  obtain ⟨i0, hi, hz0, hz1, hz2⟩ := info_parts info9'
  subst hn
  refine wpList_append_own_at w hgd s x 30 ho B 9 i0 (.string ⟨#[]⟩) 1 16 Try.underlying30 hi hz0 hz1 hz2 rfl (by decide) v _ _ hs hown ⟨g, 0, none⟩ 1 1 [.string z] hx rfl (news_one hc) (fun u hu => by simp at hu; subst hu; rfl) (by rw [strs_len]; unfold maxLen; omega) (by rw [strs_len]; omega) hb ?_
  intro v' w' h1 h2 _ h4
  rw [strs_snoc, strs_len] at h1
  have h1' : RowV w' B 9 v' (strs (zs ++ [z])) := by
    unfold RowV
    rw [strs_len, List.length_append]
    exact h1
  obtain ⟨g', cap, rfl⟩ := h1'.shape (n := zs.length + 1) (by simp [strs_len]) (by omega)
  exact h g' cap w' h1' h2 h4

theorem make_int (hgd : o.guard = none) (l c : Operand) (hop : o.op = Op.makeSlice 39 l c) (B n : Nat) (hl : a.eval l = .int .i64 (n : Int)) (hc : a.eval c = .int .i64 (n : Int)) (hn : n ≤ 1048576) (hb : B ≤ w.heap.size)
    (h : ∀ (zs : List Int) w', zs.length = n → RowV w' B 3 (.slice (some ⟨w.heap.size, 0, none⟩) n n) (ints zs) → w.grownBy w' none → wpList Try.prog ops Q rest (a.put o.dst (.slice (some ⟨w.heap.size, 0, none⟩) n n)) w') :
    wpList Try.prog ops Q (o :: rest) a w := by
  obtain ⟨i0, hi, hz0, hz1, hz2⟩ := info_parts info3'
  refine wpList_make_full w hgd l c 39 hop B 3 i0 (.int .i64 0) 1 Try.underlying39 hi hz0 hz1 _ _ _ _ n hl hc rfl rfl (by rw [hz2]; omega) (by unfold maxLen; omega) hb ?_
  intro w' h1 h2
  have e : (madeCells (Value.cells (.int .i64 0)) (n * 1)).toList = ints (List.replicate n 0) := by
    apply List.ext_getElem?
    intro j
    simp only [madeCells, ints, Value.cells, List.map_replicate, Nat.mul_one, Array.toList_map, Array.toList_range, List.getElem?_map, List.getElem?_replicate]
    by_cases hj : j < n
    · rw [List.getElem?_range hj, if_pos hj]
      have : j % 1 = 0 := Nat.mod_one j
      simp [Nat.mod_one]
    · rw [if_neg hj, List.getElem?_eq_none (by simp; omega)]
      rfl
  refine h (List.replicate n 0) w' (by simp) ?_ h2
  rw [e] at h1
  unfold RowV
  rw [ints_len, List.length_replicate]
  exact h1

theorem make_bool (hgd : o.guard = none) (l c : Operand) (hop : o.op = Op.makeSlice 41 l c) (B n : Nat) (hl : a.eval l = .int .i64 (n : Int)) (hc : a.eval c = .int .i64 (n : Int)) (hn : n ≤ 1048576) (hb : B ≤ w.heap.size)
    (h : ∀ w', RowV w' B 4 (.slice (some ⟨w.heap.size, 0, none⟩) n n) (bools (List.replicate n false)) → w.grownBy w' none → wpList Try.prog ops Q rest (a.put o.dst (.slice (some ⟨w.heap.size, 0, none⟩) n n)) w') :
    wpList Try.prog ops Q (o :: rest) a w := by
  obtain ⟨i0, hi, hz0, hz1, hz2⟩ := info_parts info4'
  refine wpList_make_full w hgd l c 41 hop B 4 i0 (.bool false) 1 Try.underlying41 hi hz0 hz1 _ _ _ _ n hl hc rfl rfl (by rw [hz2]; omega) (by unfold maxLen; omega) hb ?_
  intro w' h1 h2
  have e : (madeCells (Value.cells (.bool false)) (n * 1)).toList = bools (List.replicate n false) := by
    apply List.ext_getElem?
    intro j
    simp only [madeCells, bools, Value.cells, List.map_replicate, Nat.mul_one, Array.toList_map, Array.toList_range, List.getElem?_map, List.getElem?_replicate]
    by_cases hj : j < n
    · rw [List.getElem?_range hj, if_pos hj]
      have : j % 1 = 0 := Nat.mod_one j
      simp [Nat.mod_one]
    · rw [if_neg hj, List.getElem?_eq_none (by simp; omega)]
      rfl
  refine h w' ?_ h2
  rw [e] at h1
  unfold RowV
  rw [bools_len, List.length_replicate]
  exact h1
end
end Go.Proofs.Qxb6618458a
