/-
  The plain half, second part: the work stack; the list of codes; the climb of 'AccessOn'.
-/
import Derived.Test.Qxb6618458aPlain
namespace Go.Proofs.Qxb6618458a

section
variable {l : List Nd} {ids R : List Int} {asked : ByteArray}

/-- The standing node of index k. -/
def ndAt (l : List Nd) (R : List Int) (k : Nat) : Nd := (l[(R.getD k 0).toNat]?).getD ⟨0, 0, ByteArray.empty, ByteArray.empty, false⟩

theorem std_at (h : Std l ids R) {k : Nat} (hk : k < ids.length) : byId l (ids.getD k 0) = some (ndAt l R k) ∧ l[(R.getD k 0).toNat]? = some (ndAt l R k) := by
  obtain ⟨_, _, p, hp, hl⟩ := h.each k hk
  have e : ndAt l R k = p := by unfold ndAt; rw [hl]; rfl
  rw [e]; exact ⟨hp, hl⟩

theorem std_idx (h : Std l ids R) {id : Int} {p : Nd} (hp : byId l id = some p) : ∃ k, k < ids.length ∧ ids.getD k 0 = id ∧ ndAt l R k = p := by
  have hm := (h.mem id).2 (by rw [hp]; rfl)
  obtain ⟨k, hk, e⟩ := List.getElem_of_mem hm
  have e' : ids.getD k 0 = id := by rw [List.getD_eq_getElem?_getD, List.getElem?_eq_getElem hk]; exact e
  refine ⟨k, hk, e', ?_⟩
  have := (std_at h hk).1
  rw [e', hp] at this
  exact (Option.some.inj this).symm

theorem bget_set_eq {l : List Bool} {k : Nat} (h : k < l.length) (v d : Bool) : (l.set k v).getD k d = v := by
  rw [List.getD_eq_getElem?_getD, List.getElem?_set_self h]; rfl
theorem bget_set_ne {l : List Bool} {k j : Nat} (h : k ≠ j) (v d : Bool) : (l.set k v).getD j d = l.getD j d := by
  rw [List.getD_eq_getElem?_getD, List.getElem?_set_ne h, ← List.getD_eq_getElem?_getD]

/-! ### the marks at the start -/
structure W3 (l : List Nd) (R : List Int) (asked : ByteArray) (m k : Nat) (bs : List Bool) (T : List Int) : Prop where
  len : bs.length = m
  mark : ∀ j, j < m → bs.getD j false = (decide (j < k) && startB asked (ndAt l R j))
  st : ∀ t ∈ T, ∃ j, j < k ∧ t = (j : Int) ∧ startB asked (ndAt l R j) = true
  st' : ∀ j, j < k → startB asked (ndAt l R j) = true → (j : Int) ∈ T
  tl : T.length ≤ k

theorem w3_start (l : List Nd) (R : List Int) (asked : ByteArray) (m : Nat) : W3 l R asked m 0 (List.replicate m false) [] :=
  ⟨by simp, fun j hj => by simp [List.getD_eq_getElem?_getD, hj], fun t h => by simp at h, fun j h => by omega, Nat.le_refl _⟩

theorem w3_yes {m k : Nat} {bs : List Bool} {T : List Int} (h : W3 l R asked m k bs T) (hk : k < m) (hs : startB asked (ndAt l R k) = true) : W3 l R asked m (k + 1) (bs.set k true) (T ++ [(k : Int)]) := by
  refine ⟨by rw [List.length_set, h.len], fun j hj => ?_, fun t ht => ?_, fun j hj hsj => ?_, by simp; exact h.tl⟩
  · by_cases e : j = k
    · subst e
      rw [bget_set_eq (by rw [h.len]; exact hk), hs]; simp
    · rw [bget_set_ne (fun e' => e e'.symm), h.mark j hj]
      have : decide (j < k + 1) = decide (j < k) := by simp; omega
      rw [this]
  · rw [List.mem_append, List.mem_singleton] at ht
    rcases ht with ht | rfl
    · obtain ⟨j, hj, e, hsj⟩ := h.st t ht
      exact ⟨j, by omega, e, hsj⟩
    · exact ⟨k, by omega, rfl, hs⟩
  · rw [List.mem_append, List.mem_singleton]
    by_cases e : j = k
    · right; rw [e]
    · left; exact h.st' j (by omega) hsj

theorem w3_no {m k : Nat} {bs : List Bool} {T : List Int} (h : W3 l R asked m k bs T) (hs : startB asked (ndAt l R k) = false) : W3 l R asked m (k + 1) bs T := by
  refine ⟨h.len, fun j hj => ?_, fun t ht => ?_, fun j hj hsj => ?_, by have := h.tl; omega⟩
  · rw [h.mark j hj]
    by_cases e : j = k
    · subst e; rw [hs]; simp
    · have : decide (j < k + 1) = decide (j < k) := by simp; omega
      rw [this]
  · obtain ⟨j, hj, e, hsj⟩ := h.st t ht
    exact ⟨j, by omega, e, hsj⟩
  · by_cases e : j = k
    · subst e; rw [hs] at hsj; cases hsj
    · exact h.st' j (by omega) hsj

/-! ### the work stack -/
structure W4 (l : List Nd) (ids R : List Int) (asked : ByteArray) (bs : List Bool) (T : List Int) : Prop where
  len : bs.length = ids.length
  st : ∀ t ∈ T, ∃ j, j < ids.length ∧ t = (j : Int) ∧ bs.getD j false = true
  begin_ : ∀ j, j < ids.length → startB asked (ndAt l R j) = true → bs.getD j false = true
  sound : ∀ j, j < ids.length → bs.getD j false = true → Marked (byId l) asked (ids.getD j 0)
  clos : ∀ j, j < ids.length → bs.getD j false = true → (j : Int) ∈ T ∨ ∀ i, i < ids.length → (ndAt l R j).par ≠ 0 → ids.getD i 0 = (ndAt l R j).par → bs.getD i false = true
  tl : T.length ≤ ids.length + (bs.count true)

theorem w4_start (hS : Std l ids R) {bs : List Bool} {T : List Int} (h : W3 l R asked ids.length ids.length bs T) : W4 l ids R asked bs T := by
  refine ⟨h.len, fun t ht => ?_, fun j hj hs => ?_, fun j hj hb => ?_, fun j hj hb => ?_, by have := h.tl; omega⟩
  · obtain ⟨j, hj, e, hs⟩ := h.st t ht
    exact ⟨j, hj, e, by rw [h.mark j hj]; simp [hj, hs]⟩
  · rw [h.mark j hj]; simp [hj, hs]
  · rw [h.mark j hj] at hb
    simp [hj] at hb
    exact marked_start (std_at hS hj).1 hb
  · left
    rw [h.mark j hj] at hb
    simp [hj] at hb
    exact h.st' j hj hb

/-- A pop whose parent asks for nothing. -/
theorem w4_pop {bs : List Bool} {T : List Int} {j : Nat} (h : W4 l ids R asked bs (T ++ [(j : Int)])) (hp : ∀ i, i < ids.length → (ndAt l R j).par ≠ 0 → ids.getD i 0 = (ndAt l R j).par → bs.getD i false = true) : W4 l ids R asked bs T := by
  refine ⟨h.len, fun t ht => h.st t (List.mem_append_left _ ht), h.begin_, h.sound, fun i hi hb => ?_, by have := h.tl; simp at this; omega⟩
  rcases h.clos i hi hb with hm | hc
  · rw [List.mem_append, List.mem_singleton] at hm
    rcases hm with hm | hm
    · exact Or.inl hm
    · have : i = j := by omega
      subst this
      exact Or.inr hp
  · exact Or.inr hc

theorem count_set {bs : List Bool} {i : Nat} (hi : i < bs.length) (hb : bs.getD i false = false) : (bs.set i true).count false + 1 = bs.count false ∧ (bs.set i true).count true = bs.count true + 1 := by
  induction bs generalizing i with
  | nil => simp at hi
  | cons b bs ih =>
    cases i with
    | zero =>
      simp at hb
      subst hb
      simp
    | succ i =>
      have := ih (i := i) (by simpa using hi) (by simpa using hb)
      rw [List.set_cons_succ, List.count_cons, List.count_cons, List.count_cons, List.count_cons]
      cases b <;> simp <;> omega

theorem count_le (bs : List Bool) : bs.count true ≤ bs.length ∧ bs.count false ≤ bs.length := ⟨List.count_le_length, List.count_le_length⟩

/-- A pop whose parent is marked anew. -/
theorem w4_push (hS : Std l ids R) {bs : List Bool} {T : List Int} {j i : Nat} (h : W4 l ids R asked bs (T ++ [(j : Int)])) (hi : i < ids.length) (h0 : (ndAt l R j).par ≠ 0) (he : ids.getD i 0 = (ndAt l R j).par) (hb : bs.getD i false = false) :
    W4 l ids R asked (bs.set i true) (T ++ [(i : Int)]) := by
  obtain ⟨j', hj', ej, hbj⟩ := h.st (j : Int) (by simp)
  have : j' = j := by omega
  subst this
  have hil : i < bs.length := by rw [h.len]; exact hi
  have mono : ∀ x, bs.getD x false = true → (bs.set i true).getD x false = true := fun x hx => by
    by_cases e : x = i
    · subst e; exact bget_set_eq hil _ _
    · rw [bget_set_ne (fun e' => e e'.symm)]; exact hx
  refine ⟨by rw [List.length_set, h.len], fun t ht => ?_, fun x hx hs => mono x (h.begin_ x hx hs), fun x hx hbx => ?_, fun x hx hbx => ?_, ?_⟩
  · rw [List.mem_append, List.mem_singleton] at ht
    rcases ht with ht | rfl
    · obtain ⟨x, hx, e, hbx⟩ := h.st t (List.mem_append_left _ ht)
      exact ⟨x, hx, e, mono x hbx⟩
    · exact ⟨i, hi, rfl, bget_set_eq hil _ _⟩
  · by_cases e : x = i
    · subst e
      rw [he]
      have hm := h.sound j' hj' hbj
      have hi' := (std_at hS hi).1
      rw [he] at hi'
      exact marked_up hm (std_at hS hj').1 h0 hi'
    · rw [bget_set_ne (fun e' => e e'.symm)] at hbx
      exact h.sound x hx hbx
  · by_cases e : x = i
    · subst e; left; simp
    · rw [bget_set_ne (fun e' => e e'.symm)] at hbx
      rcases h.clos x hx hbx with hm | hc
      · rw [List.mem_append, List.mem_singleton] at hm
        rcases hm with hm | hm
        · left; exact List.mem_append_left _ hm
        · have : x = j' := by omega
          subst this
          right
          intro y hy hy0 hye
          have : y = i := nodup_inj hS.nodup hy hi (hye.trans he.symm)
          subst this
          exact bget_set_eq hil _ _
      · right
        intro y hy hy0 hye
        exact mono y (hc y hy hy0 hye)
  · have h1 := h.tl
    have h2 := (count_set hil hb).2
    simp at h1 ⊢
    omega

theorem w4_end (hS : Std l ids R) {bs : List Bool} (h : W4 l ids R asked bs []) {j : Nat} (hj : j < ids.length) : bs.getD j false = true ↔ Marked (byId l) asked (ids.getD j 0) := by
  refine ⟨h.sound j hj, fun hm => ?_⟩
  have key := marked_ind (M := byId l) (asked := asked) (fun id => ∀ j, j < ids.length → ids.getD j 0 = id → bs.getD j false = true)
    (fun s p hs hst j hj e => by
      have := (std_at hS hj).1
      rw [e, hs] at this
      exact h.begin_ j hj (by rw [← Option.some.inj this]; exact hst))
    (fun id p q hP hp h0 hq j hj e => by
      obtain ⟨k, hk, ek, en⟩ := std_idx hS hp
      have hb := hP k hk ek
      rcases h.clos k hk hb with hm | hc
      · simp at hm
      · exact hc j hj (by rw [en]; exact h0) (by rw [en]; exact e)) hm
  exact key j hj rfl

/-! ### the list of codes -/
structure W5 (l : List Nd) (R : List Int) (asked : ByteArray) (bs : List Bool) (k : Nat) (out : List ByteArray) : Prop where
  nodup : out.Nodup
  mem : ∀ c, c ∈ out ↔ ∃ j, j < k ∧ bs.getD j false = true ∧ servesB (ndAt l R j).plat asked = true ∧ (ndAt l R j).code = c
  len : out.length ≤ k

theorem w5_start (l : List Nd) (R : List Int) (asked : ByteArray) (bs : List Bool) : W5 l R asked bs 0 [] :=
  ⟨List.nodup_nil, fun c => by simp, Nat.le_refl _⟩

theorem w5_skip {bs : List Bool} {k : Nat} {out : List ByteArray} (h : W5 l R asked bs k out) (hn : bs.getD k false = true → servesB (ndAt l R k).plat asked = true → (ndAt l R k).code ∈ out) : W5 l R asked bs (k + 1) out := by
  refine ⟨h.nodup, fun c => ?_, by have := h.len; omega⟩
  rw [h.mem]
  constructor
  · rintro ⟨j, hj, r⟩; exact ⟨j, by omega, r⟩
  · rintro ⟨j, hj, h1, h2, h3⟩
    by_cases e : j = k
    · subst e
      rw [← h3]
      exact (h.mem _).1 (hn h1 h2)
    · exact ⟨j, by omega, h1, h2, h3⟩

theorem w5_add {bs : List Bool} {k : Nat} {out : List ByteArray} (h : W5 l R asked bs k out) (h1 : bs.getD k false = true) (h2 : servesB (ndAt l R k).plat asked = true) (h3 : (ndAt l R k).code ∉ out) : W5 l R asked bs (k + 1) (out ++ [(ndAt l R k).code]) := by
  refine ⟨List.nodup_append.2 ⟨h.nodup, by simp, fun a ha b hb => ?_⟩, fun c => ?_, by have := h.len; simp; omega⟩
  · simp only [List.mem_singleton] at hb
    subst hb
    intro e; subst e; exact h3 ha
  · rw [List.mem_append, List.mem_singleton, h.mem]
    constructor
    · rintro (⟨j, hj, r⟩ | rfl)
      · exact ⟨j, by omega, r⟩
      · exact ⟨k, by omega, h1, h2, rfl⟩
    · rintro ⟨j, hj, r1, r2, r3⟩
      by_cases e : j = k
      · subst e; right; exact r3.symm
      · left; exact ⟨j, by omega, r1, r2, r3⟩

theorem w5_end (hS : Std l ids R) {bs : List Bool} {out : List ByteArray} (h4 : W4 l ids R asked bs []) (h : W5 l R asked bs ids.length out) (c : ByteArray) : c ∈ out ↔ Good (byId l) asked c := by
  rw [h.mem]
  constructor
  · rintro ⟨j, hj, r1, r2, r3⟩
    exact ⟨_, _, (w4_end hS h4 hj).1 r1, (std_at hS hj).1, r2, r3⟩
  · rintro ⟨id, p, hm, hp, hs, hc⟩
    obtain ⟨j, hj, e, en⟩ := std_idx hS hp
    subst e; subst en
    exact ⟨j, hj, (w4_end hS h4 hj).2 hm, hs, hc⟩
end

/-! ### the climb of 'AccessOn' -/
section
variable {M : Int → Option Nd} {asked : ByteArray}

/-- Between two starts: dn: the ids that have come; Wk: the ids walked. -/
structure A2 (M : Int → Option Nd) (asked : ByteArray) (dn : Int → Prop) (Wk : List Int) : Prop where
  clW : ∀ id ∈ Wk, ∀ p, M id = some p → p.par = 0 ∨ p.par ∈ Wk
  clS : ∀ id p, dn id → M id = some p → startB asked p = true → p.par = 0 ∨ p.par ∈ Wk
  sound : ∀ id ∈ Wk, id ≠ 0 ∧ ∃ q pq, Marked M asked q ∧ M q = some pq ∧ pq.par = id

/-- In the climb: cur: the id to look at next. -/
structure A3 (M : Int → Option Nd) (asked : ByteArray) (dn : Int → Prop) (Wk : List Int) (cur : Int) : Prop where
  clW : ∀ id ∈ Wk, ∀ p, M id = some p → p.par = 0 ∨ p.par ∈ Wk ∨ p.par = cur
  clS : ∀ id p, dn id → M id = some p → startB asked p = true → p.par = 0 ∨ p.par ∈ Wk ∨ p.par = cur
  sound : ∀ id ∈ Wk, id ≠ 0 ∧ ∃ q pq, Marked M asked q ∧ M q = some pq ∧ pq.par = id
  here : cur = 0 ∨ ∃ q pq, Marked M asked q ∧ M q = some pq ∧ pq.par = cur

/-- The codes so far. -/
def CS (M : Int → Option Nd) (asked : ByteArray) (dn : Int → Prop) (Wk : List Int) (c : ByteArray) : Prop :=
  (∃ id p, dn id ∧ M id = some p ∧ startB asked p = true ∧ p.code = c) ∨ (∃ id p, id ∈ Wk ∧ M id = some p ∧ servesB p.plat asked = true ∧ p.code = c)

theorem a2_start (M : Int → Option Nd) (asked : ByteArray) : A2 M asked (fun _ => False) [] :=
  ⟨fun id h => by simp at h, fun id p h => h.elim, fun id h => by simp at h⟩

/-- A node that does not start a climb. -/
theorem a2_skip {dn dn' : Int → Prop} {Wk : List Int} {x : Int} {p : Nd} (h : A2 M asked dn Wk) (hdn : ∀ id, dn' id ↔ dn id ∨ id = x) (hp : M x = some p) (hs : startB asked p = false) : A2 M asked dn' Wk := by
  refine ⟨h.clW, fun id q hd hq hsq => ?_, h.sound⟩
  rcases (hdn id).1 hd with hd | rfl
  · exact h.clS id q hd hq hsq
  · rw [hp] at hq
    rw [← Option.some.inj hq, hs] at hsq
    cases hsq

theorem cs_skip {dn dn' : Int → Prop} {Wk : List Int} {x : Int} {p : Nd} (hdn : ∀ id, dn' id ↔ dn id ∨ id = x) (hp : M x = some p) (hs : startB asked p = false) (c : ByteArray) : CS M asked dn' Wk c ↔ CS M asked dn Wk c := by
  unfold CS
  constructor
  · rintro (⟨id, q, hd, hq, hsq, hc⟩ | h)
    · rcases (hdn id).1 hd with hd | rfl
      · exact Or.inl ⟨id, q, hd, hq, hsq, hc⟩
      · rw [hp] at hq
        rw [← Option.some.inj hq, hs] at hsq
        cases hsq
    · exact Or.inr h
  · rintro (⟨id, q, hd, hq, hsq, hc⟩ | h)
    · exact Or.inl ⟨id, q, (hdn id).2 (Or.inl hd), hq, hsq, hc⟩
    · exact Or.inr h

/-- A node that starts a climb. -/
theorem a3_start {dn dn' : Int → Prop} {Wk : List Int} {x : Int} {p : Nd} (h : A2 M asked dn Wk) (hdn : ∀ id, dn' id ↔ dn id ∨ id = x) (hp : M x = some p) (hs : startB asked p = true) : A3 M asked dn' Wk p.par := by
  refine ⟨fun id hi q hq => ?_, fun id q hd hq hsq => ?_, h.sound, Or.inr ⟨x, p, marked_start hp hs, hp, rfl⟩⟩
  · rcases h.clW id hi q hq with h1 | h1
    · exact Or.inl h1
    · exact Or.inr (Or.inl h1)
  · rcases (hdn id).1 hd with hd | rfl
    · rcases h.clS id q hd hq hsq with h1 | h1
      · exact Or.inl h1
      · exact Or.inr (Or.inl h1)
    · rw [hp] at hq
      rw [← Option.some.inj hq]
      exact Or.inr (Or.inr rfl)

theorem cs_start {dn dn' : Int → Prop} {Wk : List Int} {x : Int} {p : Nd} (hdn : ∀ id, dn' id ↔ dn id ∨ id = x) (hp : M x = some p) (hs : startB asked p = true) (c : ByteArray) : CS M asked dn' Wk c ↔ (c = p.code ∨ CS M asked dn Wk c) := by
  unfold CS
  constructor
  · rintro (⟨id, q, hd, hq, hsq, hc⟩ | h)
    · rcases (hdn id).1 hd with hd | rfl
      · exact Or.inr (Or.inl ⟨id, q, hd, hq, hsq, hc⟩)
      · rw [hp] at hq
        left
        rw [← Option.some.inj hq] at hc
        exact hc.symm
    · exact Or.inr (Or.inr h)
  · rintro (rfl | ⟨id, q, hd, hq, hsq, hc⟩ | h)
    · exact Or.inl ⟨x, p, (hdn x).2 (Or.inr rfl), hp, hs, rfl⟩
    · exact Or.inl ⟨id, q, (hdn id).2 (Or.inl hd), hq, hsq, hc⟩
    · exact Or.inr h

/-- The climb ends. -/
theorem a3_end {dn : Int → Prop} {Wk : List Int} {cur : Int} (h : A3 M asked dn Wk cur) (he : cur = 0 ∨ cur ∈ Wk) : A2 M asked dn Wk := by
  refine ⟨fun id hi p hp => ?_, fun id p hd hp hs => ?_, h.sound⟩
  · rcases h.clW id hi p hp with h1 | h1 | h1
    · exact Or.inl h1
    · exact Or.inr h1
    · rw [h1]; exact he
  · rcases h.clS id p hd hp hs with h1 | h1 | h1
    · exact Or.inl h1
    · exact Or.inr h1
    · rw [h1]; exact he

/-- The climb comes to an id that nobody has. -/
theorem a3_break {dn : Int → Prop} {Wk : List Int} {cur : Int} (h : A3 M asked dn Wk cur) (h0 : cur ≠ 0) (hn : M cur = none) : A2 M asked dn (cur :: Wk) := by
  refine ⟨fun id hi p hp => ?_, fun id p hd hp hs => ?_, fun id hi => ?_⟩
  · rcases List.mem_cons.1 hi with rfl | hi
    · rw [hn] at hp; cases hp
    · rcases h.clW id hi p hp with h1 | h1 | h1
      · exact Or.inl h1
      · exact Or.inr (List.mem_cons_of_mem _ h1)
      · rw [h1]; exact Or.inr (List.mem_cons_self ..)
  · rcases h.clS id p hd hp hs with h1 | h1 | h1
    · exact Or.inl h1
    · exact Or.inr (List.mem_cons_of_mem _ h1)
    · rw [h1]; exact Or.inr (List.mem_cons_self ..)
  · rcases List.mem_cons.1 hi with rfl | hi
    · rcases h.here with h1 | h1
      · exact absurd h1 h0
      · exact ⟨h0, h1⟩
    · exact h.sound id hi

theorem cs_break {dn : Int → Prop} {Wk : List Int} {cur : Int} (hn : M cur = none) (c : ByteArray) : CS M asked dn (cur :: Wk) c ↔ CS M asked dn Wk c := by
  unfold CS
  constructor
  · rintro (h | ⟨id, q, hi, hq, r⟩)
    · exact Or.inl h
    · rcases List.mem_cons.1 hi with rfl | hi
      · rw [hn] at hq; cases hq
      · exact Or.inr ⟨id, q, hi, hq, r⟩
  · rintro (h | ⟨id, q, hi, r⟩)
    · exact Or.inl h
    · exact Or.inr ⟨id, q, List.mem_cons_of_mem _ hi, r⟩

/-- One step of the climb. -/
theorem a3_step {dn : Int → Prop} {Wk : List Int} {cur : Int} {u : Nd} (h : A3 M asked dn Wk cur) (h0 : cur ≠ 0) (hu : M cur = some u) : A3 M asked dn (cur :: Wk) u.par := by
  have hm : Marked M asked cur := by
    rcases h.here with h1 | ⟨q, pq, hq, hpq, e⟩
    · exact absurd h1 h0
    · subst e; exact marked_up hq hpq h0 hu
  refine ⟨fun id hi p hp => ?_, fun id p hd hp hs => ?_, fun id hi => ?_, Or.inr ⟨cur, u, hm, hu, rfl⟩⟩
  · rcases List.mem_cons.1 hi with rfl | hi
    · rw [hu] at hp
      rw [← Option.some.inj hp]
      exact Or.inr (Or.inr rfl)
    · rcases h.clW id hi p hp with h1 | h1 | h1
      · exact Or.inl h1
      · exact Or.inr (Or.inl (List.mem_cons_of_mem _ h1))
      · rw [h1]; exact Or.inr (Or.inl (List.mem_cons_self ..))
  · rcases h.clS id p hd hp hs with h1 | h1 | h1
    · exact Or.inl h1
    · exact Or.inr (Or.inl (List.mem_cons_of_mem _ h1))
    · rw [h1]; exact Or.inr (Or.inl (List.mem_cons_self ..))
  · rcases List.mem_cons.1 hi with rfl | hi
    · rcases h.here with h1 | h1
      · exact absurd h1 h0
      · exact ⟨h0, h1⟩
    · exact h.sound id hi

theorem cs_step_yes {dn : Int → Prop} {Wk : List Int} {cur : Int} {u : Nd} (hu : M cur = some u) (hs : servesB u.plat asked = true) (c : ByteArray) : CS M asked dn (cur :: Wk) c ↔ (c = u.code ∨ CS M asked dn Wk c) := by
  unfold CS
  constructor
  · rintro (h | ⟨id, q, hi, hq, hsq, hc⟩)
    · exact Or.inr (Or.inl h)
    · rcases List.mem_cons.1 hi with rfl | hi
      · rw [hu] at hq
        left
        rw [← Option.some.inj hq] at hc
        exact hc.symm
      · exact Or.inr (Or.inr ⟨id, q, hi, hq, hsq, hc⟩)
  · rintro (rfl | h | ⟨id, q, hi, r⟩)
    · exact Or.inr ⟨cur, u, List.mem_cons_self .., hu, hs, rfl⟩
    · exact Or.inl h
    · exact Or.inr ⟨id, q, List.mem_cons_of_mem _ hi, r⟩

theorem cs_step_no {dn : Int → Prop} {Wk : List Int} {cur : Int} {u : Nd} (hu : M cur = some u) (hs : servesB u.plat asked = false) (c : ByteArray) : CS M asked dn (cur :: Wk) c ↔ CS M asked dn Wk c := by
  unfold CS
  constructor
  · rintro (h | ⟨id, q, hi, hq, hsq, hc⟩)
    · exact Or.inl h
    · rcases List.mem_cons.1 hi with rfl | hi
      · rw [hu] at hq
        rw [← Option.some.inj hq, hs] at hsq
        cases hsq
      · exact Or.inr ⟨id, q, hi, hq, hsq, hc⟩
  · rintro (h | ⟨id, q, hi, r⟩)
    · exact Or.inl h
    · exact Or.inr ⟨id, q, List.mem_cons_of_mem _ hi, r⟩

/-- THE END. -/
theorem a2_end {dn : Int → Prop} {Wk : List Int} (h : A2 M asked dn Wk) (hd : ∀ id p, M id = some p → dn id) (c : ByteArray) : CS M asked dn Wk c ↔ Good M asked c := by
  constructor
  · rintro (⟨id, p, _, hp, hs, rfl⟩ | ⟨id, p, hi, hp, hs, rfl⟩)
    · exact good_start hp hs
    · obtain ⟨h0, q, pq, hq, hpq, e⟩ := h.sound id hi
      subst e
      exact ⟨_, p, marked_up hq hpq h0 hp, hp, hs, rfl⟩
  · rintro ⟨id, p, hm, hp, hs, rfl⟩
    have key := marked_ind (M := M) (asked := asked) (fun id => (∃ p, M id = some p ∧ startB asked p = true) ∨ id ∈ Wk) (fun s p hs hst => Or.inl ⟨p, hs, hst⟩)
      (fun id p q hP hp h0 hq => by
        right
        rcases hP with ⟨p', hp', hst⟩ | hw
        · rw [hp] at hp'
          rw [← Option.some.inj hp'] at hst
          exact (h.clS id p (hd id p hp) hp hst).resolve_left h0
        · exact (h.clW id hw p hp).resolve_left h0) hm
    rcases key with ⟨p', hp', hst⟩ | hw
    · rw [hp] at hp'
      rw [← Option.some.inj hp'] at hst
      exact Or.inl ⟨id, p, hd id p hp, hp, hst, rfl⟩
    · exact Or.inr ⟨id, p, hw, hp, hs, rfl⟩

/-! ### how long a climb can be -/
def leftIds (l : List Nd) (Wk : List Int) : Nat := (l.filter fun x => decide (x.id ∉ Wk)).length

theorem left_step {l : List Nd} {Wk : List Int} {cur : Int} (hc : cur ∉ Wk) (hl : ∃ x ∈ l, x.id = cur) : leftIds l (cur :: Wk) < leftIds l Wk := by
  unfold leftIds
  obtain ⟨x, hx, rfl⟩ := hl
  have e : (l.filter fun y => decide (y.id ∉ x.id :: Wk)) = (l.filter fun y => decide (y.id ∉ Wk)).filter fun y => decide (y.id ≠ x.id) := by
    rw [List.filter_filter]
    apply List.filter_congr
    intro y _
    simp [List.mem_cons, not_or]
  rw [e]
  refine List.length_filter_lt_length_iff_exists.2 ⟨x, ?_, by simp⟩
  exact List.mem_filter.2 ⟨hx, by simpa using hc⟩

theorem byId_mem {l : List Nd} {id : Int} {p : Nd} (h : byId l id = some p) : p ∈ l ∧ p.id = id := by
  have key : ∀ (r : List Nd) (id : Int) (p : Nd), byId r.reverse id = some p → p ∈ r ∧ p.id = id := by
    intro r
    induction r with
    | nil => intro id p h; simp [byId] at h
    | cons x r ih =>
      intro id p h
      rw [List.reverse_cons, byId_snoc] at h
      by_cases e : id = x.id
      · subst e
        cases hb : byId r.reverse x.id with
        | none =>
          rw [putN_new hb] at h
          rw [← Option.some.inj h]
          exact ⟨List.mem_cons_self .., rfl⟩
        | some q =>
          cases hq : q.held with
          | true =>
            rw [putN_held hb hq] at h
            rw [← Option.some.inj h]
            obtain ⟨h1, h2⟩ := ih _ _ hb
            exact ⟨List.mem_cons_of_mem _ h1, h2⟩
          | false =>
            rw [putN_not hb hq] at h
            rw [← Option.some.inj h]
            exact ⟨List.mem_cons_self .., rfl⟩
      · rw [putN_other e] at h
        obtain ⟨h1, h2⟩ := ih _ _ h
        exact ⟨List.mem_cons_of_mem _ h1, h2⟩
  have := key l.reverse id p (by simpa using h)
  simpa using this
end

/-! ### two lists without repeats with the same members -/
theorem nodup_le {α : Type} : ∀ {a b : List α}, a.Nodup → (∀ x, x ∈ a → x ∈ b) → a.length ≤ b.length
  | [], _, _, _ => Nat.zero_le _
  | x :: a, b, ha, h => by
    obtain ⟨s, t, rfl⟩ := List.append_of_mem (h x (List.mem_cons_self ..))
    obtain ⟨h1, h2⟩ := List.nodup_cons.1 ha
    have := nodup_le (a := a) (b := s ++ t) h2 (fun y hy => by
      have hy' := h y (List.mem_cons_of_mem _ hy)
      rw [List.mem_append, List.mem_cons] at hy'
      rw [List.mem_append]
      rcases hy' with h3 | rfl | h3
      · exact Or.inl h3
      · exact absurd hy h1
      · exact Or.inr h3)
    simp only [List.length_append, List.length_cons] at this ⊢
    omega
theorem nodup_len {α : Type} {a b : List α} (ha : a.Nodup) (hb : b.Nodup) (h : ∀ x, x ∈ a ↔ x ∈ b) : a.length = b.length :=
  Nat.le_antisymm (nodup_le ha fun x hx => (h x).1 hx) (nodup_le hb fun x hx => (h x).2 hx)
end Go.Proofs.Qxb6618458a
