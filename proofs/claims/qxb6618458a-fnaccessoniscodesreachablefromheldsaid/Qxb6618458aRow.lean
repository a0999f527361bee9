/-
  Rows of the call's own, several at once; the map from an id to its index; the map of the codes seen.
-/
import Derived.Test.Qxb6618458aMap
import Derived.Maps.AppendAt
import Derived.OwnWalk
import Derived.WalkSmall
import Derived.Lib.SmallJoins
namespace Go.Proofs.Qxb6618458a
open Go.RowKit Go.Maps

/-- v holds xs in a row of the call's own. -/
def RowV (w : World) (B : Nat) (e : TypeId) (v : Value) (xs : List Value) : Prop := w.ownsRow B e 1 v xs.length xs
/-- Two rows are not one. -/
def Apart (u v : Value) : Prop := u.ownBlock = none ∨ u.ownBlock ≠ v.ownBlock

section
variable {w w' : World} {B : Nat} {e : TypeId} {u v v' : Value} {xs : List Value} {b : Nat}

theorem Apart.symm (h : Apart u v) : Apart v u := by
  unfold Apart at *
  cases hu : u.ownBlock with
  | none => cases hv : v.ownBlock with
    | none => exact Or.inl rfl
    | some a => exact Or.inr (by simp)
  | some a =>
    rcases h with h | h
    · rw [hu] at h; cases h
    · rw [hu] at h; exact Or.inr (fun e => h e.symm)

theorem RowV.alloc (h : RowV w B e v xs) (o : Obj) : RowV (w.alloc o) B e v xs := World.ownsRow.alloc h o
theorem RowV.keep (h : RowV w B e u xs) (hg : w.grownBy w' v.ownBlock) (ha : Apart u v) : RowV w' B e u xs := World.ownsRow.kept h hg ha
/-- Below the rows something has turned. -/
theorem RowV.keepMap (h : RowV w B e u xs) (hg : w.grownBy w' (some b)) (hb : b < B) : RowV w' B e u xs := World.ownsRow.kept h hg (by
  cases hu : u.ownBlock with
  | none => exact Or.inl rfl
  | some a => exact Or.inr (fun e => by have := (World.ownsRow.lt h a hu).1; cases e; omega))
theorem RowV.keepAll (h : RowV w B e u xs) (hg : w.grownBy w' none) : RowV w' B e u xs := World.ownsRow.kept h hg (by cases hu : u.ownBlock <;> simp)
theorem RowV.lt (h : RowV w B e u xs) {a : Nat} (hu : u.ownBlock = some a) : B ≤ a ∧ a < w.heap.size := World.ownsRow.lt h a hu

/-- A new row's block. -/
theorem RowV.apart_new (h : RowV w B e u xs) (ha : Apart u v) {N : Nat} (hN : w.heap.size ≤ N) (hv : v'.ownBlock = v.ownBlock ∨ v'.ownBlock = some N) : Apart u v' := by
  rcases hv with hv | hv
  · unfold Apart at *; rw [hv]; exact ha
  · cases hu : u.ownBlock with
    | none => exact Or.inl hu
    | some a =>
      refine Or.inr ?_
      rw [hu, hv]
      intro e
      have := (h.lt hu).2
      cases e
      omega

theorem row_nil (w : World) (B : Nat) (e : TypeId) : RowV w B e (.slice none 0 0) [] := World.ownsRow_nil w B e 1
theorem apart_nil (v : Value) : Apart (.slice none 0 0) v := Or.inl rfl

theorem RowV.form (h : RowV w B e v xs) (hn : 0 < xs.length) : ∃ g cap, v = .slice (some ⟨g, 0, none⟩) xs.length cap := Joins.ownsRow_form h hn
theorem RowV.forms (h : RowV w B e v xs) : ∃ a cap, v = .slice a xs.length cap := by
  rcases Joins.ownsRow_forms h with ⟨rfl, e⟩ | ⟨g, cap, rfl⟩
  · exact ⟨none, 0, by rw [e]⟩
  · exact ⟨_, cap, rfl⟩

theorem RowV.cell {g cap n : Nat} (h : RowV w B e (.slice (some ⟨g, 0, none⟩) n cap) xs) {j : Nat} {x : Value} (hx : xs[j]? = some x) : w.cell? ⟨g, j, none⟩ = some x := by
  have hj : j < xs.length := (List.getElem?_eq_some_iff.1 hx).1
  have hn : n = xs.length := by
    rcases Joins.ownsRow_forms h with ⟨h1, e⟩ | ⟨g, cap, h1⟩
    · cases h1
    · cases h1; rfl
  subst hn
  exact (World.ownsRow.cellAt (size := 1) h j (by omega)).trans hx
theorem RowV.frozen {g cap : Nat} (h : RowV w B e (.slice (some ⟨g, 0, none⟩) xs.length cap) xs) (j : Nat) : w.frozen? ⟨g, j, none⟩ = false := World.ownsRow.frozenAt h j
theorem RowV.stored {g cap : Nat} (h : RowV w B e (.slice (some ⟨g, 0, none⟩) xs.length cap) xs) (j : Nat) (x : Value) : RowV (w.setCell ⟨g, j, none⟩ x) B e (.slice (some ⟨g, 0, none⟩) xs.length cap) (xs.set j x) ∧ w.grownBy (w.setCell ⟨g, j, none⟩ x) (some g) := by
  obtain ⟨h1, h2⟩ := World.ownsRow.stored h j x
  refine ⟨?_, h2⟩
  unfold RowV
  rw [List.length_set]
  exact h1

theorem cell_one_new (w : World) (x : Value) (e : TypeId) : ∀ (j : Nat) (u : Value), [x][j]? = some u → (w.alloc (.cells #[x] e)).cell? ((⟨w.heap.size, 0, none⟩ : Addr).add j) = some u := by
  intro j u h
  cases j with
  | zero =>
    simp only [List.getElem?_cons_zero, Option.some.injEq] at h
    subst h
    show (w.alloc (.cells #[x] e)).cell? ⟨w.heap.size, 0, none⟩ = some x
    simp
  | succ j => simp at h
end

def ints (zs : List Int) : List Value := zs.map (Value.int .i64)
def bools (zs : List Bool) : List Value := zs.map Value.bool
def strs (zs : List ByteArray) : List Value := zs.map Value.string
theorem ints_len (zs : List Int) : (ints zs).length = zs.length := by simp [ints]
theorem bools_len (zs : List Bool) : (bools zs).length = zs.length := by simp [bools]
theorem strs_len (zs : List ByteArray) : (strs zs).length = zs.length := by simp [strs]
theorem ints_get {zs : List Int} {k : Nat} (h : k < zs.length) : (ints zs)[k]? = some (.int .i64 (zs.getD k 0)) := by
  simp [ints, List.getD_eq_getElem?_getD, List.getElem?_eq_getElem h]
theorem bools_get {zs : List Bool} {k : Nat} (h : k < zs.length) : (bools zs)[k]? = some (.bool (zs.getD k false)) := by
  simp [bools, List.getD_eq_getElem?_getD, List.getElem?_eq_getElem h]
theorem ints_set (zs : List Int) (k : Nat) (z : Int) : (ints zs).set k (.int .i64 z) = ints (zs.set k z) := by simp [ints, List.map_set]
theorem bools_set (zs : List Bool) (k : Nat) (z : Bool) : (bools zs).set k (.bool z) = bools (zs.set k z) := by simp [bools, List.map_set]
theorem ints_snoc (zs : List Int) (z : Int) : ints zs ++ [.int .i64 z] = ints (zs ++ [z]) := by simp [ints]
theorem strs_snoc (zs : List ByteArray) (z : ByteArray) : strs zs ++ [.string z] = strs (zs ++ [z]) := by simp [strs]

/-! ### the index of each id -/
def PosIn (w : World) (b n : Nat) (ids : List Int) : Prop := ∃ D : DataW Unit, w.ownsMap Try.prog 2 (plainElem Try.prog 3) b n D ∧ (∀ id, Maps.has D (.int .i64 id) = decide (id ∈ ids)) ∧ ∀ k, k < ids.length → ∀ zd, D.atKey (.int .i64 (ids.getD k 0)) zd = .lit (.int .i64 k)

section
variable {w w' : World} {b n : Nat} {ids : List Int}
theorem PosIn.kept {row : Option Nat} (h : PosIn w b n ids) (hg : w.grownBy w' row) (hne : some b ≠ row) : PosIn w' b n ids := by
  obtain ⟨D, h1, h2⟩ := h
  exact ⟨D, h1.kept hg hne, h2⟩
theorem PosIn.alloc (h : PosIn w b n ids) (o : Obj) : PosIn (w.alloc o) b n ids := h.kept (World.grownBy_alloc w o none) (by simp)
/-- A row's block is above the map's. -/
theorem PosIn.keptRow {v : Value} {B : Nat} {e : TypeId} {xs : List Value} (h : PosIn w b n ids) (hv : RowV w B e v xs) (hb : b < B) (hg : w.grownBy w' v.ownBlock) : PosIn w' b n ids :=
  h.kept hg (fun e => by have := (hv.lt e.symm).1; omega)

theorem pos_start (w : World) : PosIn (w.alloc (.map #[] 0)) w.heap.size 0 [] :=
  ⟨.map [], World.ownsMap_made w Try.prog 2 (plainElem Try.prog 3), fun id => by simp [Maps.has], fun k hk => by simp at hk⟩

theorem zero3 (w : World) : (zeroValue 3).run Try.prog w = .ok (.int .i64 0) w := by kernel_rfl

theorem look_pos (h : PosIn w b n ids) {k : Nat} (hk : k < ids.length) (hid : okId (ids.getD k 0)) : (Instr.lookup 38 (.map (some b)) (.int .i64 (ids.getD k 0)) true).run Try.prog w = .ok (.tuple #[.int .i64 (k : Int), .bool true]) w := by
  obtain ⟨D, h1, h2, h3⟩ := h
  obtain ⟨v, ps, hrun, hv⟩ := h1.look_ok law2 Try.underlying38 (zero3 w) (plainElem_int Try.underlying3 (by decide)) (key2 hid)
  rw [h3 k hk] at hv
  obtain ⟨c, rfl, e, _⟩ := plainElem_int_inv Try.underlying3 hv
  simp only [Prod.mk.injEq, DataW.lit.injEq, Lit.int.injEq, true_and] at e
  rw [h2, decide_eq_true (getD_mem' hk), ← e.1] at hrun
  exact hrun

theorem look_pos_no (h : PosIn w b n ids) {id : Int} (hn : id ∉ ids) (hid : okId id) : (Instr.lookup 38 (.map (some b)) (.int .i64 id) true).run Try.prog w = .ok (.tuple #[.int .i64 0, .bool false]) w := by
  obtain ⟨D, h1, h2, h3⟩ := h
  obtain ⟨v, ps, hrun, hv⟩ := h1.look_ok law2 Try.underlying38 (zero3 w) (plainElem_int Try.underlying3 (by decide)) (key2 hid)
  have hh : Maps.has D (.int .i64 id) = false := by rw [h2, decide_eq_false hn]
  rw [atKey_of_not_has hh] at hv
  obtain ⟨c, rfl, e, _⟩ := plainElem_int_inv Try.underlying3 hv
  simp only [Prod.mk.injEq, DataW.lit.injEq, Lit.int.injEq, true_and] at e
  rw [hh, ← e.1] at hrun
  exact hrun

theorem pos_put {D : DataW Unit} (hD : IsMap D) (h2 : ∀ id, Maps.has D (.int .i64 id) = decide (id ∈ ids)) (h3 : ∀ k, k < ids.length → ∀ zd, D.atKey (.int .i64 (ids.getD k 0)) zd = .lit (.int .i64 k)) {x : Int} (hx : okId x) (hn : x ∉ ids) :
    (∀ id, Maps.has (D.put (.int .i64 x) (.lit (.int .i64 ids.length))) (.int .i64 id) = decide (id ∈ ids ++ [x])) ∧
    ∀ k, k < (ids ++ [x]).length → ∀ zd, (D.put (.int .i64 x) (.lit (.int .i64 ids.length))).atKey (.int .i64 ((ids ++ [x]).getD k 0)) zd = .lit (.int .i64 k) := by
  constructor
  · intro id
    by_cases e : id = x
    · subst e; rw [has_put_same hD (keyLit2 hx)]; simp
    · have hne : (Lit.int .i64 id) ≠ .int .i64 x := fun e' => e (by cases e'; rfl)
      rw [has_put_other hne, h2]; simp [e]
  · intro k hk zd
    by_cases hl : k < ids.length
    · rw [getD_snoc_lt hl]
      have hne : (Lit.int .i64 (ids.getD k 0)) ≠ .int .i64 x := fun e' => hn (by
        have e2 : ids.getD k 0 = x := by cases e'; rfl
        rw [← e2]; exact getD_mem' hl)
      rw [atKey_put_other hne]
      exact h3 k hl zd
    · have e : k = ids.length := by simp at hk; omega
      subst e
      rw [getD_snoc_eq, atKey_put_same hD (keyLit2 hx)]
end

/-! ### the codes seen -/
def seenB (out : List ByteArray) (c : ByteArray) : Bool := out.any fun x => decide (x = c)
theorem seenB_iff (out : List ByteArray) (c : ByteArray) : seenB out c = true ↔ c ∈ out := by simp [seenB]

def SeenIn (w : World) (b n : Nat) (out : List ByteArray) : Prop := ∃ D : DataW Unit, w.ownsMap Try.prog 9 (plainElem Try.prog 4) b n D ∧ ∀ c : ByteArray, D.atKey (.string c.data.toList) (.lit (.bool false)) = .lit (.bool (seenB out c))

section
variable {w w' : World} {b n : Nat} {out : List ByteArray}
theorem SeenIn.kept {row : Option Nat} (h : SeenIn w b n out) (hg : w.grownBy w' row) (hne : some b ≠ row) : SeenIn w' b n out := by
  obtain ⟨D, h1, h2⟩ := h
  exact ⟨D, h1.kept hg hne, h2⟩
theorem SeenIn.alloc (h : SeenIn w b n out) (o : Obj) : SeenIn (w.alloc o) b n out := h.kept (World.grownBy_alloc w o none) (by simp)
theorem seen_start (w : World) : SeenIn (w.alloc (.map #[] 0)) w.heap.size 0 [] :=
  ⟨.map [], World.ownsMap_made w Try.prog 9 (plainElem Try.prog 4), fun c => by simp [DataW.atKey, seenB]⟩
theorem look_seen (h : SeenIn w b n out) {c : ByteArray} (hc : c.size ≤ maxLen) : (Instr.lookup 43 (.map (some b)) (.string c) false).run Try.prog w = .ok (.bool (seenB out c)) w := by
  obtain ⟨D, h1, h2⟩ := h
  obtain ⟨v, ps, hrun, hv⟩ := h1.lookup law9 Try.underlying43 (zero4 w) (plainElem_bool Try.underlying4 false) (key9 hc)
  rw [h2 c] at hv
  cases v with
  | bool x =>
    rw [plainElem_bool Try.underlying4] at hv
    simp only [Option.some.injEq, Prod.mk.injEq, DataW.lit.injEq, Lit.bool.injEq] at hv
    rw [hv.1] at hrun
    exact hrun
  | _ => simp [plainElem, Try.underlying4] at hv
theorem seen_put {D : DataW Unit} (hD : IsMap D) (h : ∀ c : ByteArray, D.atKey (.string c.data.toList) (.lit (.bool false)) = .lit (.bool (seenB out c))) {c0 : ByteArray} (hc : c0.size ≤ maxLen) (c : ByteArray) :
    (D.put (.string c0.data.toList) (.lit (.bool true))).atKey (.string c.data.toList) (.lit (.bool false)) = .lit (.bool (seenB (out ++ [c0]) c)) := by
  by_cases e : c = c0
  · subst e
    rw [atKey_put_same hD (keyLit9 hc)]
    simp [seenB]
  · have hne : (Lit.string c.data.toList) ≠ .string c0.data.toList := fun e' => e (ba_inj (by simpa only [Lit.string.injEq] using e'))
    rw [atKey_put_other hne, h c]
    have : ¬ c0 = c := fun e' => e e'.symm
    simp [seenB, this]
end

/-! ### the state of the first loop -/
structure St1 (w : World) (ids F L : List Int) (vF vL : Value) (wr : World) : Prop where
  pos : PosIn wr w.heap.size ids.length ids
  rf : RowV wr (w.heap.size + 1) 3 vF (ints F)
  rl : RowV wr (w.heap.size + 1) 3 vL (ints L)
  ap : Apart vF vL
  be : Below w.heap.size w wr

section
variable {w wr w' : World} {ids F L : List Int} {vF vL v' : Value}
theorem St1.big (h : St1 w ids F L vF vL wr) : w.heap.size < wr.heap.size := by
  obtain ⟨D, h1, _⟩ := h.pos
  exact h1.lt
theorem st1_start (w : World) : St1 w [] [] [] (.slice none 0 0) (.slice none 0 0) (w.alloc (.map #[] 0)) :=
  ⟨pos_start w, row_nil _ _ _, row_nil _ _ _, apart_nil _, (Below.refl _ _).alloc (Nat.le_refl _) _⟩
theorem St1.alloc (h : St1 w ids F L vF vL wr) (o : Obj) : St1 w ids F L vF vL (wr.alloc o) :=
  ⟨h.pos.alloc o, h.rf.alloc o, h.rl.alloc o, h.ap, h.be.alloc (Nat.le_of_lt h.big) o⟩
end
end Go.Proofs.Qxb6618458a
