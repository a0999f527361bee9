/-
  The plain half of 'FnAccessOnIsCodesReachableFromHeld': the standing copy of each id, the climb by parent links, the codes that are reached. No Go in sight.
-/
namespace Go.Proofs.Qxb6618458a

/-- One node. -/
structure Nd where
  id : Int
  par : Int
  code : ByteArray
  plat : ByteArray
  held : Bool

/-- May a permission on p be used where asked is asked? -/
def servesB (p asked : ByteArray) : Bool := decide (p = ⟨#[97, 108, 108]⟩) || decide (p = asked) || decide (asked.size = 0)

/-- One node laid into the table: a held copy that stands there stays. -/
def putN (M : Int → Option Nd) (x : Nd) : Int → Option Nd := fun id =>
  if id = x.id then (match M id with | some p => if p.held then some p else some x | none => some x) else M id

/-- The standing copies. -/
def byId (l : List Nd) : Int → Option Nd := l.foldl putN (fun _ => none)

theorem byId_nil : byId [] = fun _ => none := rfl
theorem byId_snoc (l : List Nd) (x : Nd) : byId (l ++ [x]) = putN (byId l) x := by simp [byId]

theorem putN_other {M : Int → Option Nd} {x : Nd} {id : Int} (h : id ≠ x.id) : putN M x id = M id := by simp [putN, h]
theorem putN_held {M : Int → Option Nd} {x p : Nd} (h : M x.id = some p) (hh : p.held = true) : putN M x x.id = some p := by simp [putN, h, hh]
theorem putN_not {M : Int → Option Nd} {x p : Nd} (h : M x.id = some p) (hh : p.held = false) : putN M x x.id = some x := by simp [putN, h, hh]
theorem putN_new {M : Int → Option Nd} {x : Nd} (h : M x.id = none) : putN M x x.id = some x := by simp [putN, h]

theorem putN_some {M : Int → Option Nd} {x : Nd} : (putN M x x.id).isSome = true := by
  unfold putN
  simp only [if_true]
  cases h : M x.id with
  | none => rfl
  | some p => cases hp : p.held <;> simp [hp]

theorem putN_isSome {M : Int → Option Nd} {x : Nd} (id : Int) : (putN M x id).isSome = ((M id).isSome || decide (id = x.id)) := by
  by_cases h : id = x.id
  · subst h; rw [putN_some]; simp
  · rw [putN_other h]; simp [h]

/-- A held node that serves. -/
def startB (asked : ByteArray) (p : Nd) : Bool := p.held && servesB p.plat asked

/-- One step up. -/
def upId (M : Int → Option Nd) (id : Int) : Option Int :=
  match M id with
  | some p => if p.par = 0 then none else if (M p.par).isSome then some p.par else none
  | none => none

def upN (M : Int → Option Nd) : Nat → Int → Option Int
  | 0, id => some id
  | n + 1, id => match upN M n id with | some j => upId M j | none => none

/-- Reached from a held node that serves. -/
def Marked (M : Int → Option Nd) (asked : ByteArray) (id : Int) : Prop := ∃ s p n, M s = some p ∧ startB asked p = true ∧ upN M n s = some id

theorem marked_start {M : Int → Option Nd} {asked : ByteArray} {s : Int} {p : Nd} (h : M s = some p) (hs : startB asked p = true) : Marked M asked s := ⟨s, p, 0, h, hs, rfl⟩

theorem upId_eq {M : Int → Option Nd} {id : Int} {p q : Nd} (h : M id = some p) (h0 : p.par ≠ 0) (hq : M p.par = some q) : upId M id = some p.par := by
  simp [upId, h, h0, hq]

theorem marked_up {M : Int → Option Nd} {asked : ByteArray} {id : Int} {p q : Nd} (hm : Marked M asked id) (h : M id = some p) (h0 : p.par ≠ 0) (hq : M p.par = some q) : Marked M asked p.par := by
  obtain ⟨s, ps, n, h1, h2, h3⟩ := hm
  refine ⟨s, ps, n + 1, h1, h2, ?_⟩
  simp only [upN, h3]
  exact upId_eq h h0 hq

theorem marked_ind {M : Int → Option Nd} {asked : ByteArray} (P : Int → Prop) (h0 : ∀ s p, M s = some p → startB asked p = true → P s)
    (h1 : ∀ id p q, P id → M id = some p → p.par ≠ 0 → M p.par = some q → P p.par) {id : Int} (hm : Marked M asked id) : P id := by
  obtain ⟨s, ps, n, e1, e2, e3⟩ := hm
  have key : ∀ n id, upN M n s = some id → P id := by
    intro n
    induction n with
    | zero => intro id h; simp only [upN, Option.some.injEq] at h; subst h; exact h0 s ps e1 e2
    | succ n ih =>
      intro id h
      simp only [upN] at h
      cases hu : upN M n s with
      | none => rw [hu] at h; cases h
      | some j =>
        rw [hu] at h
        simp only [upId] at h
        cases hj : M j with
        | none => rw [hj] at h; cases h
        | some p =>
          rw [hj] at h
          simp only at h
          by_cases hp : p.par = 0
          · rw [if_pos hp] at h; cases h
          · rw [if_neg hp] at h
            cases hq : M p.par with
            | none => rw [hq] at h; simp at h
            | some q =>
              rw [hq] at h
              simp only [Option.isSome_some, if_true, Option.some.injEq] at h
              subst h
              exact h1 j p q (ih j hu) hj hp hq
  exact key n id e3

theorem marked_some {M : Int → Option Nd} {asked : ByteArray} {id : Int} (hm : Marked M asked id) : ∃ p, M id = some p :=
  marked_ind (fun id => ∃ p, M id = some p) (fun _ p h _ => ⟨p, h⟩) (fun _ _ q _ _ _ hq => ⟨q, hq⟩) hm

/-- THE CODES. -/
def Good (M : Int → Option Nd) (asked : ByteArray) (c : ByteArray) : Prop := ∃ id p, Marked M asked id ∧ M id = some p ∧ servesB p.plat asked = true ∧ p.code = c

theorem good_start {M : Int → Option Nd} {asked : ByteArray} {s : Int} {p : Nd} (h : M s = some p) (hs : startB asked p = true) : Good M asked p.code := by
  refine ⟨s, p, marked_start h hs, h, ?_, rfl⟩
  simp only [startB, Bool.and_eq_true] at hs
  exact hs.2

/-! ### the model's first loop: for each id its index, its first held copy, its last copy -/
structure P1 (l : List Nd) (i : Nat) (ids F L : List Int) : Prop where
  nodup : ids.Nodup
  lf : F.length = ids.length
  ll : L.length = ids.length
  mem : ∀ id, id ∈ ids ↔ (byId (l.take i) id).isSome = true
  each : ∀ k, k < ids.length → 0 ≤ L.getD k 0 ∧ L.getD k 0 < i ∧ F.getD k 0 < i ∧ ∃ p, byId (l.take i) (ids.getD k 0) = some p ∧
    (F.getD k 0 < 0 → p.held = false ∧ l[(L.getD k 0).toNat]? = some p) ∧ (0 ≤ F.getD k 0 → p.held = true ∧ l[(F.getD k 0).toNat]? = some p)

theorem p1_start (l : List Nd) : P1 l 0 [] [] [] :=
  ⟨List.nodup_nil, rfl, rfl, fun id => by simp [byId], fun k hk => by simp at hk⟩

/-- Behind the look-up (and, for a new id, the two appends): node x's id stands at k. -/
def Q1 (l : List Nd) (i : Nat) (x : Nd) (ids F L : List Int) (k : Nat) : Prop :=
  ∃ ids0 F0 L0, P1 l i ids0 F0 L0 ∧ ((ids = ids0 ∧ F = F0 ∧ L = L0 ∧ k < ids.length ∧ ids.getD k 0 = x.id) ∨
    (x.id ∉ ids0 ∧ ids = ids0 ++ [x.id] ∧ F = F0 ++ [-1] ∧ L = L0 ++ [(i : Int)] ∧ k = ids0.length))

theorem getD_set_eq {l : List Int} {k : Nat} (h : k < l.length) (v d : Int) : (l.set k v).getD k d = v := by
  rw [List.getD_eq_getElem?_getD, List.getElem?_set_self h]; rfl
theorem getD_set_ne {l : List Int} {k j : Nat} (h : k ≠ j) (v d : Int) : (l.set k v).getD j d = l.getD j d := by
  rw [List.getD_eq_getElem?_getD, List.getElem?_set_ne h, ← List.getD_eq_getElem?_getD]
theorem getD_snoc_lt {l : List Int} {j : Nat} (h : j < l.length) (v d : Int) : (l ++ [v]).getD j d = l.getD j d := by
  rw [List.getD_eq_getElem?_getD, List.getElem?_append_left h, ← List.getD_eq_getElem?_getD]
theorem getD_snoc_eq (l : List Int) (v d : Int) : (l ++ [v]).getD l.length d = v := by
  simp [List.getD_eq_getElem?_getD]
theorem getD_mem' {l : List Int} {k : Nat} (h : k < l.length) : l.getD k 0 ∈ l := by
  rw [List.getD_eq_getElem?_getD, List.getElem?_eq_getElem h]
  exact List.getElem_mem h
theorem nodup_inj {l : List Int} (hn : l.Nodup) {a b : Nat} (ha : a < l.length) (hb : b < l.length) (h : l.getD a 0 = l.getD b 0) : a = b := by
  rw [List.getD_eq_getElem?_getD, List.getElem?_eq_getElem ha, List.getD_eq_getElem?_getD, List.getElem?_eq_getElem hb] at h
  exact (List.getElem_inj hn).1 h

theorem q1_sizes {l : List Nd} {i : Nat} {x : Nd} {ids F L : List Int} {k : Nat} (h : Q1 l i x ids F L k) : F.length = ids.length ∧ L.length = ids.length ∧ k < ids.length ∧ ids.getD k 0 = x.id := by
  obtain ⟨ids0, F0, L0, h0, ⟨rfl, rfl, rfl, h1, h2⟩ | ⟨h1, rfl, rfl, rfl, rfl⟩⟩ := h
  · exact ⟨h0.lf, h0.ll, h1, h2⟩
  · refine ⟨?_, ?_, ?_, getD_snoc_eq _ _ _⟩ <;> simp [h0.lf, h0.ll]

theorem take_nd {l : List Nd} {i : Nat} {x : Nd} (hx : l[i]? = some x) : l.take (i + 1) = l.take i ++ [x] := by
  rw [List.take_add_one, hx]; rfl

/-- ONE ROUND. -/
theorem p1_step {l : List Nd} {i : Nat} {x : Nd} {ids F L : List Int} {k : Nat} (hx : l[i]? = some x) (h : Q1 l i x ids F L k) :
    P1 l (i + 1) ids (if x.held = true ∧ F.getD k 0 < 0 then F.set k i else F) (L.set k i) := by
  obtain ⟨hF, hL, hk, hid⟩ := q1_sizes h
  have hM : byId (l.take (i + 1)) = putN (byId (l.take i)) x := by rw [take_nd hx, byId_snoc]
  -- what the state ahead says
  obtain ⟨ids0, F0, L0, h0, hc⟩ := h
  have hnd : ids.Nodup := by
    rcases hc with ⟨rfl, _⟩ | ⟨h1, rfl, _⟩
    · exact h0.nodup
    · exact List.nodup_append.2 ⟨h0.nodup, by simp, fun a ha b hb => by
        simp only [List.mem_singleton] at hb
        subst hb
        intro e; subst e; exact h1 ha⟩
  have hmem : ∀ id, id ∈ ids ↔ (byId (l.take (i + 1)) id).isSome = true := by
    intro id
    rw [hM, putN_isSome]
    rcases hc with ⟨rfl, _, _, _, _⟩ | ⟨h1, rfl, _⟩
    · rw [Bool.or_eq_true, ← h0.mem, decide_eq_true_eq]
      constructor
      · intro h; exact Or.inl h
      · rintro (h | rfl)
        · exact h
        · rw [← hid]; exact getD_mem' hk
    · rw [Bool.or_eq_true, ← h0.mem, decide_eq_true_eq, List.mem_append, List.mem_singleton]
  refine ⟨hnd, ?_, by rw [List.length_set, hL], hmem, ?_⟩
  · split
    · rw [List.length_set, hF]
    · exact hF
  intro j hj
  by_cases hjk : j = k
  · subst hjk
    -- the row of x's own id
    have hLj : (L.set j (i : Int)).getD j 0 = i := getD_set_eq (by omega) _ _
    have hcur : (∃ p, byId (l.take i) x.id = some p ∧ (F.getD j 0 < 0 → p.held = false) ∧ (0 ≤ F.getD j 0 → p.held = true ∧ l[(F.getD j 0).toNat]? = some p) ∧ F.getD j 0 < i) ∨ (byId (l.take i) x.id = none ∧ F.getD j 0 = -1) := by
      rcases hc with ⟨rfl, rfl, rfl, h1, h2⟩ | ⟨h1, rfl, rfl, rfl, rfl⟩
      · left
        obtain ⟨_, _, b3, p, hp, e1, e2⟩ := h0.each j hj
        rw [hid] at hp
        exact ⟨p, hp, fun h => (e1 h).1, e2, b3⟩
      · right
        refine ⟨?_, ?_⟩
        · cases hb : byId (l.take i) x.id with
          | none => rfl
          | some p => exact absurd ((h0.mem x.id).2 (by rw [hb]; rfl)) h1
        · rw [← h0.lf]; exact getD_snoc_eq _ _ _
    rw [hLj]
    refine ⟨by omega, by omega, ?_, ?_⟩
    · split
      · rw [getD_set_eq (by omega)]; omega
      · rcases hcur with ⟨p, _, _, _, b⟩ | ⟨_, b⟩ <;> omega
    · rw [hid, hM]
      rcases hcur with ⟨p, hp, e1, e2, b⟩ | ⟨hp, b⟩
      · by_cases hneg : F.getD j 0 < 0
        · have hnh := e1 hneg
          refine ⟨x, putN_not hp hnh, ?_, ?_⟩
          · intro hh
            by_cases hxh : x.held = true
            · rw [if_pos ⟨hxh, hneg⟩, getD_set_eq (by omega)] at hh; omega
            · refine ⟨by simpa using hxh, ?_⟩
              simpa using hx
          · intro hh
            by_cases hxh : x.held = true
            · rw [if_pos ⟨hxh, hneg⟩, getD_set_eq (by omega)]
              exact ⟨hxh, by simpa using hx⟩
            · rw [if_neg (fun h => hxh h.1)] at hh; omega
        · obtain ⟨hph, hpl⟩ := e2 (by omega)
          refine ⟨p, putN_held hp hph, ?_, ?_⟩
          · intro hh; rw [if_neg (fun h => hneg h.2)] at hh; exact absurd hh hneg
          · intro _; rw [if_neg (fun h => hneg h.2)]; exact ⟨hph, hpl⟩
      · refine ⟨x, putN_new hp, ?_, ?_⟩
        · intro hh
          by_cases hxh : x.held = true
          · rw [if_pos ⟨hxh, by omega⟩, getD_set_eq (by omega)] at hh; omega
          · exact ⟨by simpa using hxh, by simpa using hx⟩
        · intro hh
          by_cases hxh : x.held = true
          · rw [if_pos ⟨hxh, by omega⟩, getD_set_eq (by omega)]
            exact ⟨hxh, by simpa using hx⟩
          · rw [if_neg (fun h => hxh h.1)] at hh; omega
  · -- another id's row
    have hne : ids.getD j 0 ≠ x.id := fun e => hjk (nodup_inj hnd hj hk (e.trans hid.symm))
    have hFj : (if x.held = true ∧ F.getD k 0 < 0 then F.set k (i : Int) else F).getD j 0 = F.getD j 0 := by
      split
      · exact getD_set_ne (fun e => hjk e.symm) _ _
      · rfl
    rw [hFj, getD_set_ne (fun e => hjk e.symm), hM, putN_other hne]
    rcases hc with ⟨rfl, rfl, rfl, h1, h2⟩ | ⟨h1, rfl, rfl, rfl, rfl⟩
    · obtain ⟨b1, b2, b3, r⟩ := h0.each j hj
      exact ⟨b1, by omega, by omega, r⟩
    · have hj0 : j < ids0.length := by simp at hj; omega
      rw [getD_snoc_lt (by rw [h0.ll]; exact hj0), getD_snoc_lt (by rw [h0.lf]; exact hj0), getD_snoc_lt hj0]
      obtain ⟨b1, b2, b3, r⟩ := h0.each j hj0
      exact ⟨b1, by omega, by omega, r⟩

/-! ### the standing copies by index -/
structure Std (l : List Nd) (ids R : List Int) : Prop where
  nodup : ids.Nodup
  lr : R.length = ids.length
  mem : ∀ id, id ∈ ids ↔ (byId l id).isSome = true
  each : ∀ k, k < ids.length → 0 ≤ R.getD k 0 ∧ R.getD k 0 < l.length ∧ ∃ p, byId l (ids.getD k 0) = some p ∧ l[(R.getD k 0).toNat]? = some p

theorem std_of {l : List Nd} {ids F L R : List Int} (h : P1 l l.length ids F L) (hr : R.length = ids.length) (hR : ∀ k, k < ids.length → R.getD k 0 = if 0 ≤ F.getD k 0 then F.getD k 0 else L.getD k 0) : Std l ids R := by
  refine ⟨h.nodup, hr, by simpa using h.mem, fun k hk => ?_⟩
  obtain ⟨b1, b2, b3, p, hp, e1, e2⟩ := h.each k hk
  rw [List.take_length] at hp
  rw [hR k hk]
  by_cases hF : 0 ≤ F.getD k 0
  · rw [if_pos hF]; exact ⟨hF, b3, p, hp, (e2 hF).2⟩
  · rw [if_neg hF]; exact ⟨b1, b2, p, hp, (e1 (by omega)).2⟩
end Go.Proofs.Qxb6618458a
