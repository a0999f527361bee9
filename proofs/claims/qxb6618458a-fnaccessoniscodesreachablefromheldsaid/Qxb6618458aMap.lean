/-
  Maps of nodes, and what a store or a look-up does with them.
-/
import Derived.Test.Qxb6618458aBase
import Derived.Maps.RangeWalk
import Derived.Maps.OwnSet
namespace Go.Proofs.Qxb6618458a
open Go.RowKit Go.Maps

/-! ### a map of nodes -/
def ndVal (x : Nd) : Value := .agg #[.int .i64 x.id, .int .i64 x.par, .string x.code, .string x.plat, .bool x.held]
def ndData (x : Nd) : DataW Unit := .agg [.lit (.int .i64 x.id), .lit (.int .i64 x.par), .lit (.string x.code.data.toList), .lit (.string x.plat.data.toList), .lit (.bool x.held)]

/-- How a node reads as a map's element. -/
def ndElem (v : Value) : Option (DataW Unit × List MemPlace) :=
  match v with
  | .agg cs => match cs.toList with
    | [.int .i64 a, .int .i64 b, .string c, .string d, .bool h] => some (ndData ⟨a, b, c, d, h⟩, [])
    | _ => none
  | _ => none

theorem ndElem_mk (x : Nd) : ndElem (ndVal x) = some (ndData x, []) := rfl

theorem ndElem_inv {v : Value} {y : DataW Unit × List MemPlace} (h : ndElem v = some y) : ∃ x, v = ndVal x ∧ y = (ndData x, []) := by
  unfold ndElem at h
  split at h
  · split at h
    · rename_i cs a b c d hh e
      cases h
      refine ⟨⟨a, b, c, d, hh⟩, ?_, rfl⟩
      unfold ndVal
      congr 1
      apply Array.ext'
      exact e
    · cases h
  · cases h

theorem ba_inj {a b : ByteArray} (h : a.data.toList = b.data.toList) : a = b := by
  apply ByteArray.ext
  exact Array.toList_inj.1 h

theorem ndData_inj {x y : Nd} (h : ndData x = ndData y) : x = y := by
  cases x; cases y
  simp only [ndData, DataW.agg.injEq, List.cons.injEq, DataW.lit.injEq, Lit.int.injEq, Lit.string.injEq, Lit.bool.injEq, true_and, and_true] at h
  obtain ⟨h1, h2, h3, h4, h5⟩ := h
  rw [h1, h2, ba_inj h3, ba_inj h4, h5]

def nd0 : Nd := ⟨0, 0, ⟨#[]⟩, ⟨#[]⟩, false⟩

theorem law2 : Keyed Try.prog 2 := int_keyed Try.underlying2
theorem law9 : Keyed Try.prog 9 := string_keyed Try.underlying9
theorem zero29 (w : World) : (zeroValue 29).run Try.prog w = .ok (ndVal nd0) w := by kernel_rfl
theorem zero4 (w : World) : (zeroValue 4).run Try.prog w = .ok (.bool false) w := by kernel_rfl
theorem zero36 (w : World) : (zeroValue 36).run Try.prog w = .ok (.agg #[]) w := by kernel_rfl

/-- A 64-bit id. -/
def okId (id : Int) : Prop := -9223372036854775808 ≤ id ∧ id ≤ 9223372036854775807
theorem wf_id {id : Int} (h : okId id) : (Lit.int .i64 id).wf = true := by
  obtain ⟨h1, h2⟩ := h
  simp [Lit.wf, IntKind.min, IntKind.max, IntKind.signed, IntKind.bits]
  omega
theorem id_wf {id : Int} (h : (Lit.int .i64 id).wf = true) : okId id := by
  simp [Lit.wf, IntKind.min, IntKind.max, IntKind.signed, IntKind.bits] at h
  unfold okId
  omega
theorem key2 {id : Int} (h : okId id) : keyOf Try.prog 2 (.int .i64 id) = some (.int .i64 id) := keyOf_int_mk Try.underlying2 (wf_id h)
theorem keyLit2 {id : Int} (h : okId id) : WideAt.IsKeyLit (.int .i64 id) := law2.key (key2 h)
theorem key9 {s : ByteArray} (h : s.size ≤ maxLen) : keyOf Try.prog 9 (.string s) = some (.string s.data.toList) := WideMaps.keyOf_string_mk Try.underlying9 h
theorem keyLit9 {s : ByteArray} (h : s.size ≤ maxLen) : WideAt.IsKeyLit (.string s.data.toList) := law9.key (key9 h)

/-- The datum D is the table M. -/
structure MapOf (D : DataW Unit) (M : Int → Option Nd) : Prop where
  keys : ∀ kl, Maps.has D kl = true → ∃ id, kl = .int .i64 id ∧ (M id).isSome = true
  vals : ∀ id p, M id = some p → Maps.has D (.int .i64 id) = true ∧ ∀ zd, D.atKey (.int .i64 id) zd = ndData p

theorem mapOf_none {D : DataW Unit} {M : Int → Option Nd} (h : MapOf D M) {id : Int} (hn : M id = none) : Maps.has D (.int .i64 id) = false := by
  cases hh : Maps.has D (.int .i64 id) with
  | false => rfl
  | true =>
    obtain ⟨id', e, hs⟩ := h.keys _ hh
    cases e
    rw [hn] at hs
    cases hs

theorem mapOf_start : MapOf (.map []) (byId []) := ⟨fun kl h => by simp [Maps.has] at h, fun id p h => by simp [byId] at h⟩

/-- A store at id. -/
theorem mapOf_put {D : DataW Unit} {M M' : Int → Option Nd} (h : MapOf D M) (hD : IsMap D) {id : Int} (hid : okId id) {q : Nd} (h1 : M' id = some q) (h2 : ∀ j, j ≠ id → M' j = M j) : MapOf (D.put (.int .i64 id) (ndData q)) M' := by
  refine ⟨fun kl hk => ?_, fun j p hp => ?_⟩
  · by_cases e : kl = .int .i64 id
    · subst e; exact ⟨id, rfl, by rw [h1]; rfl⟩
    · rw [has_put_other e] at hk
      obtain ⟨j, rfl, hj⟩ := h.keys kl hk
      refine ⟨j, rfl, ?_⟩
      rw [h2 j (fun e' => e (by rw [e']))]
      exact hj
  · by_cases e : j = id
    · subst e
      rw [h1] at hp
      rw [← Option.some.inj hp]
      exact ⟨has_put_same hD (keyLit2 hid) _, fun zd => atKey_put_same hD (keyLit2 hid) _ _⟩
    · rw [h2 j e] at hp
      obtain ⟨g1, g2⟩ := h.vals j p hp
      have hne : (Lit.int .i64 j) ≠ .int .i64 id := fun e' => e (by cases e'; rfl)
      exact ⟨by rw [has_put_other hne]; exact g1, fun zd => by rw [atKey_put_other hne]; exact g2 zd⟩

/-- 'p, ok := m[id]'. -/
theorem look_some {w : World} {b n : Nat} {D : DataW Unit} {M : Int → Option Nd} (ho : w.ownsMap Try.prog 2 ndElem b n D) (h : MapOf D M) {id : Int} (hid : okId id) {p : Nd} (hp : M id = some p) :
    (Instr.lookup 44 (.map (some b)) (.int .i64 id) true).run Try.prog w = .ok (.tuple #[ndVal p, .bool true]) w := by
  obtain ⟨v, ps, hrun, hv⟩ := ho.look_ok law2 Try.underlying44 (zero29 w) (ndElem_mk nd0) (key2 hid)
  obtain ⟨g1, g2⟩ := h.vals id p hp
  rw [g2] at hv
  obtain ⟨x, rfl, e⟩ := ndElem_inv hv
  simp only [Prod.mk.injEq] at e
  rw [← ndData_inj e.1, g1] at hrun
  exact hrun

theorem look_none {w : World} {b n : Nat} {D : DataW Unit} {M : Int → Option Nd} (ho : w.ownsMap Try.prog 2 ndElem b n D) (h : MapOf D M) {id : Int} (hid : okId id) (hp : M id = none) :
    (Instr.lookup 44 (.map (some b)) (.int .i64 id) true).run Try.prog w = .ok (.tuple #[ndVal nd0, .bool false]) w := by
  obtain ⟨v, ps, hrun, hv⟩ := ho.look_ok law2 Try.underlying44 (zero29 w) (ndElem_mk nd0) (key2 hid)
  have g1 := mapOf_none h hp
  rw [atKey_of_not_has g1] at hv
  obtain ⟨x, rfl, e⟩ := ndElem_inv hv
  simp only [Prod.mk.injEq] at e
  rw [← ndData_inj e.1, g1] at hrun
  exact hrun

theorem run_makeMap_hint (n : Int) (w : World) : (Instr.makeMap 44 (some (.int .i64 n))).run Try.prog w = .ok (.map (some w.heap.size)) (w.alloc (.map #[] 0)) := by
  simp [Instr.makeMap, run_underlying Try.underlying44, asInt, newObj]
  rfl

theorem below_map {B : Nat} {w wr w2 : World} {o1 o2 : Obj} (h : Below B w wr) {m : Nat} (hm : B ≤ m) (hs : B ≤ wr.heap.size) (hg : ((wr.alloc o1).alloc o2).grownBy w2 (some m)) : Below B w w2 :=
  ((h.alloc hs o1).alloc (by simp; omega) o2).grown hg (by simp; omega) (fun k hk => by cases hk; exact hm)
theorem below_two {B : Nat} {w wr : World} (h : Below B w wr) (hs : B ≤ wr.heap.size) (o1 o2 : Obj) : Below B w ((wr.alloc o1).alloc o2) := (h.alloc hs o1).alloc (by simp; omega) o2


/-! ### the code set and the walked set -/
/-- A map[string]struct{} whose keys are the strings of which P holds. -/
def CodesIn (w : World) (b n : Nat) (P : ByteArray → Prop) : Prop := ∃ D : DataW Unit, w.ownsMap Try.prog 9 unitElem b n D ∧ ∀ kl, Maps.has D kl = true ↔ ∃ c : ByteArray, kl = .string c.data.toList ∧ P c
/-- A map[int64]bool that is true at the ids of a list. -/
def WalkedIn (w : World) (b n : Nat) (Wk : List Int) : Prop := ∃ D : DataW Unit, w.ownsMap Try.prog 2 (plainElem Try.prog 4) b n D ∧ ∀ id, okId id → D.atKey (.int .i64 id) (.lit (.bool false)) = .lit (.bool (decide (id ∈ Wk)))

theorem CodesIn.kept {w w' : World} {b n : Nat} {P : ByteArray → Prop} {row : Option Nat} (h : CodesIn w b n P) (hg : w.grownBy w' row) (hne : some b ≠ row) : CodesIn w' b n P := by
  obtain ⟨D, h1, h2⟩ := h
  exact ⟨D, h1.kept hg hne, h2⟩
theorem WalkedIn.kept {w w' : World} {b n : Nat} {Wk : List Int} {row : Option Nat} (h : WalkedIn w b n Wk) (hg : w.grownBy w' row) (hne : some b ≠ row) : WalkedIn w' b n Wk := by
  obtain ⟨D, h1, h2⟩ := h
  exact ⟨D, h1.kept hg hne, h2⟩
theorem CodesIn.as {w : World} {b n n' : Nat} {P P' : ByteArray → Prop} (h : CodesIn w b n P) (hn : n ≤ n') (hP : ∀ c, P' c ↔ P c) : CodesIn w b n' P' := by
  obtain ⟨D, h1, h2⟩ := h
  refine ⟨D, h1.mono hn, fun kl => ?_⟩
  rw [h2]
  constructor
  · rintro ⟨c, e, hc⟩; exact ⟨c, e, (hP c).2 hc⟩
  · rintro ⟨c, e, hc⟩; exact ⟨c, e, (hP c).1 hc⟩

theorem codes_start (w : World) : CodesIn (w.alloc (.map #[] 0)) w.heap.size 0 (fun _ => False) := by
  refine ⟨.map [], World.ownsMap_made w Try.prog 9 unitElem, fun kl => ?_⟩
  simp [Maps.has]
theorem walked_start (w : World) : WalkedIn (w.alloc (.map #[] 0)) w.heap.size 0 [] := by
  refine ⟨.map [], World.ownsMap_made w Try.prog 2 (plainElem Try.prog 4), fun id _ => ?_⟩
  simp [DataW.atKey]

theorem codes_put {D : DataW Unit} {P P' : ByteArray → Prop} (hD : IsMap D) (h : ∀ kl, Maps.has D kl = true ↔ ∃ c : ByteArray, kl = .string c.data.toList ∧ P c) {c0 : ByteArray} (hc : c0.size ≤ maxLen) (hP : ∀ c, P' c ↔ c = c0 ∨ P c) (kl : Lit) :
    Maps.has (D.put (.string c0.data.toList) (.agg [])) kl = true ↔ ∃ c : ByteArray, kl = .string c.data.toList ∧ P' c := by
  by_cases e : kl = .string c0.data.toList
  · subst e
    rw [has_put_same hD (keyLit9 hc)]
    exact ⟨fun _ => ⟨c0, rfl, (hP _).2 (Or.inl rfl)⟩, fun _ => rfl⟩
  · rw [has_put_other e, h]
    constructor
    · rintro ⟨c, e', hc⟩; exact ⟨c, e', (hP c).2 (Or.inr hc)⟩
    · rintro ⟨c, e', hc'⟩
      rcases (hP c).1 hc' with rfl | h'
      · exact absurd e' e
      · exact ⟨c, e', h'⟩

theorem walked_put {D : DataW Unit} {Wk : List Int} (hD : IsMap D) (h : ∀ id, okId id → D.atKey (.int .i64 id) (.lit (.bool false)) = .lit (.bool (decide (id ∈ Wk)))) {cur : Int} (hc : okId cur) (id : Int) (hid : okId id) :
    (D.put (.int .i64 cur) (.lit (.bool true))).atKey (.int .i64 id) (.lit (.bool false)) = .lit (.bool (decide (id ∈ cur :: Wk))) := by
  by_cases e : id = cur
  · subst e
    rw [atKey_put_same hD (keyLit2 hc)]
    simp
  · have hne : (Lit.int .i64 id) ≠ .int .i64 cur := fun e' => e (by cases e'; rfl)
    rw [atKey_put_other hne, h id hid]
    simp [e]

/-- 'walked[id]'. -/
theorem look_walked {w : World} {b n : Nat} {Wk : List Int} (h : WalkedIn w b n Wk) {id : Int} (hid : okId id) : (Instr.lookup 46 (.map (some b)) (.int .i64 id) false).run Try.prog w = .ok (.bool (decide (id ∈ Wk))) w := by
  obtain ⟨D, h1, h2⟩ := h
  obtain ⟨v, ps, hrun, hv⟩ := h1.lookup law2 Try.underlying46 (zero4 w) (plainElem_bool Try.underlying4 false) (key2 hid)
  rw [h2 id hid] at hv
  cases v with
  | bool x =>
    rw [plainElem_bool Try.underlying4] at hv
    simp only [Option.some.injEq, Prod.mk.injEq, DataW.lit.injEq, Lit.bool.injEq] at hv
    rw [hv.1] at hrun
    exact hrun
  | _ => simp [plainElem, Try.underlying4] at hv

/-! ### all four at once -/
structure Own4 (w0 : World) (B bm bc bw r k : Nat) (D : DataW Unit) (left : Lit → Bool) (cnt nc : Nat) (P : ByteArray → Prop) (nw : Nat) (Wk : List Int) (w : World) : Prop where
  rg : w.ranges Try.prog 2 ndElem bm r k D left cnt
  co : CodesIn w bc nc P
  wa : WalkedIn w bw nw Wk
  be : Below B w0 w
  o1 : B ≤ bm
  o2 : bm < bc
  o3 : bc < bw
  o4 : bw < r

section
variable {w0 w w' : World} {B bm bc bw r k : Nat} {D : DataW Unit} {left : Lit → Bool} {cnt nc : Nat} {P P' : ByteArray → Prop} {nw : Nat} {Wk : List Int}

theorem some_ne {a b : Nat} (h : a ≠ b) : some a ≠ some b := fun e => h (Option.some.inj e)

theorem Own4.big (h : Own4 w0 B bm bc bw r k D left cnt nc P nw Wk w) : B ≤ w.heap.size := by
  have := h.rg.lt
  have := h.o1
  have := h.o2
  have := h.o3
  have := h.o4
  omega

theorem Own4.alloc (h : Own4 w0 B bm bc bw r k D left cnt nc P nw Wk w) (o : Obj) : Own4 w0 B bm bc bw r k D left cnt nc P nw Wk (w.alloc o) :=
  ⟨h.rg.alloc o, h.co.kept (World.grownBy_alloc w o none) (by simp), h.wa.kept (World.grownBy_alloc w o none) (by simp), h.be.alloc h.big o, h.o1, h.o2, h.o3, h.o4⟩

/-- The loop has taken a step. -/
theorem Own4.next (h : Own4 w0 B bm bc bw r k D left cnt nc P nw Wk w) {left' : Lit → Bool} {cnt' : Nat} (hr : w'.ranges Try.prog 2 ndElem bm r k D left' cnt') (hg : w.grownBy w' (some r)) : Own4 w0 B bm bc bw r k D left' cnt' nc P nw Wk w' := by
  have := h.o1
  have := h.o2
  have := h.o3
  have := h.o4
  exact ⟨hr, h.co.kept hg (some_ne (by omega)), h.wa.kept hg (some_ne (by omega)), h.be.grown hg h.big (fun j hj => by cases hj; omega), h.o1, h.o2, h.o3, h.o4⟩

/-- A code has been stored. -/
theorem Own4.code (h : Own4 w0 B bm bc bw r k D left cnt nc P nw Wk w) {Dc : DataW Unit} {nc' : Nat} {c0 : ByteArray} (hown : w.ownsMap Try.prog 9 unitElem bc nc Dc) (hD : ∀ kl, Maps.has Dc kl = true ↔ ∃ c : ByteArray, kl = .string c.data.toList ∧ P c) (hc : c0.size ≤ maxLen)
    (hP : ∀ c, P' c ↔ c = c0 ∨ P c) (ho : w'.ownsMap Try.prog 9 unitElem bc nc' (Dc.put (.string c0.data.toList) (.agg []))) (hg : w.grownBy w' (some bc)) : Own4 w0 B bm bc bw r k D left cnt nc' P' nw Wk w' := by
  have := h.o1
  have := h.o2
  have := h.o3
  have := h.o4
  exact ⟨h.rg.kept hg (some_ne (by omega)) (some_ne (by omega)), ⟨_, ho, codes_put hown.isMap hD hc hP⟩, h.wa.kept hg (some_ne (by omega)), h.be.grown hg h.big (fun j hj => by cases hj; omega), h.o1, h.o2, h.o3, h.o4⟩

/-- An id has been walked. -/
theorem Own4.walk (h : Own4 w0 B bm bc bw r k D left cnt nc P nw Wk w) {Dw : DataW Unit} {nw' : Nat} {cur : Int} (hown : w.ownsMap Try.prog 2 (plainElem Try.prog 4) bw nw Dw) (hD : ∀ id, okId id → Dw.atKey (.int .i64 id) (.lit (.bool false)) = .lit (.bool (decide (id ∈ Wk)))) (hc : okId cur)
    (ho : w'.ownsMap Try.prog 2 (plainElem Try.prog 4) bw nw' (Dw.put (.int .i64 cur) (.lit (.bool true)))) (hg : w.grownBy w' (some bw)) : Own4 w0 B bm bc bw r k D left cnt nc P nw' (cur :: Wk) w' := by
  have := h.o1
  have := h.o2
  have := h.o3
  have := h.o4
  exact ⟨h.rg.kept hg (some_ne (by omega)) (some_ne (by omega)), h.co.kept hg (some_ne (by omega)), ⟨_, ho, walked_put hown.isMap hD hc⟩, h.be.grown hg h.big (fun j hj => by cases hj; omega), h.o1, h.o2, h.o3, h.o4⟩

theorem Own4.as (h : Own4 w0 B bm bc bw r k D left cnt nc P nw Wk w) (hP : ∀ c, P' c ↔ P c) : Own4 w0 B bm bc bw r k D left cnt nc P' nw Wk w :=
  ⟨h.rg, h.co.as (Nat.le_refl _) hP, h.wa, h.be, h.o1, h.o2, h.o3, h.o4⟩
end

/-! ### the ids that have come -/
def Come (M : Int → Option Nd) (left : Lit → Bool) (id : Int) : Prop := (M id).isSome = true ∧ left (.int .i64 id) = false

theorem same_int (a b : Int) : (Lit.int .i64 a).sameKey (.int .i64 b) = decide (a = b) := by
  simp [Lit.sameKey]

theorem come_step {M : Int → Option Nd} {left : Lit → Bool} {x : Int} (hx : (M x).isSome = true) (id : Int) : Come M (fun z => left z && !z.sameKey (.int .i64 x)) id ↔ Come M left id ∨ id = x := by
  unfold Come
  simp only [same_int]
  by_cases e : id = x
  · subst e; simp [hx]
  · simp [e]

theorem come_start {D : DataW Unit} {M : Int → Option Nd} (h : MapOf D M) (id : Int) : ¬ Come M (Maps.has D) id := by
  rintro ⟨h1, h2⟩
  obtain ⟨p, hp⟩ := Option.isSome_iff_exists.1 h1
  rw [(h.vals id p hp).1] at h2
  cases h2

/-- What a step has brought. -/
theorem came {D : DataW Unit} {M : Int → Option Nd} (h : MapOf D M) {left : Lit → Bool} (hl : ∀ kl, left kl = true → Maps.has D kl = true) {x : Int} {c : Nd} {kl : Lit} {y : DataW Unit × List MemPlace} (hk : keyOf Try.prog 2 (.int .i64 x) = some kl) (hlk : left kl = true) (hy : ndElem (ndVal c) = some y)
    (hat : ∀ zd, D.atKey kl zd = y.1) : kl = .int .i64 x ∧ M x = some c := by
  obtain ⟨x', e, rfl, _⟩ := Maps.keyOf_int_inv Try.underlying2 hk
  cases e
  refine ⟨rfl, ?_⟩
  obtain ⟨id, e, hs⟩ := h.keys _ (hl _ hlk)
  cases e
  obtain ⟨p, hp⟩ := Option.isSome_iff_exists.1 hs
  have h1 := (h.vals x p hp).2 (.lit (.bool false))
  rw [hat, ndElem_mk] at *
  cases hy
  rw [hp, ndData_inj h1]
end Go.Proofs.Qxb6618458a
