/-
  The states of the five loops of 'zzReachableCodes'.
-/
import Derived.Test.Qxb6618458aLaws
namespace Go.Proofs.Qxb6618458a
open Go.RowKit Go.Maps

/-- What it gives back. -/
def ReachRet (w w' : World) (l : List Nd) (asked : ByteArray) (e : Ending) : Prop := ∃ v out, e = .returned v ∧ RowV w' w.heap.size 9 v (strs out) ∧ out.Nodup ∧ (∀ c, c ∈ out ↔ Good (byId l) asked c) ∧ out.length ≤ l.length ∧ Below w.heap.size w w'

theorem p1_len {l : List Nd} {k : Nat} {ids F L : List Int} (h : P1 l k ids F L) : ids.length ≤ k := by
  have h1 : ids.length ≤ ((l.take k).map (·.id)).length := nodup_le h.nodup fun id hid => by
    obtain ⟨p, hp⟩ := Option.isSome_iff_exists.1 ((h.mem id).1 hid)
    obtain ⟨h1, h2⟩ := byId_mem hp
    exact List.mem_map.2 ⟨p, h1, h2⟩
  simp only [List.length_map, List.length_take] at h1
  omega

theorem mem_at {ids : List Int} {x : Int} (h : x ∈ ids) : ∃ j, j < ids.length ∧ ids.getD j 0 = x := by
  obtain ⟨k, hk, e⟩ := List.getElem_of_mem h
  exact ⟨k, hk, by rw [List.getD_eq_getElem?_getD, List.getElem?_eq_getElem hk]; exact e⟩

section
variable {w wr w' : World} {ids F L : List Int} {vF vL v' : Value} {g n cap : Nat}
/-- 'last[j] = i'. -/
theorem St1.putL (h : St1 w ids F L vF (.slice (some ⟨g, 0, none⟩) n cap) wr) (j : Nat) (z : Int) : St1 w ids F (L.set j z) vF (.slice (some ⟨g, 0, none⟩) n cap) (wr.setCell ⟨g, j, none⟩ (.int .i64 z)) := by
  obtain ⟨r1, r2⟩ := h.rl.put j (.int .i64 z)
  rw [ints_set] at r1
  have hg := (h.rl.lt (a := g) rfl).1
  exact ⟨h.pos.kept r2 (some_ne (by omega)), h.rf.keep (v := .slice (some ⟨g, 0, none⟩) n cap) r2 h.ap, r1, h.ap, h.be.setCell (p := ⟨g, j, none⟩) (by simp; omega) _⟩
/-- 'firstHeld[j] = i'. -/
theorem St1.putF (h : St1 w ids F L (.slice (some ⟨g, 0, none⟩) n cap) vL wr) (j : Nat) (z : Int) : St1 w ids (F.set j z) L (.slice (some ⟨g, 0, none⟩) n cap) vL (wr.setCell ⟨g, j, none⟩ (.int .i64 z)) := by
  obtain ⟨r1, r2⟩ := h.rf.put j (.int .i64 z)
  rw [ints_set] at r1
  have hg := (h.rf.lt (a := g) rfl).1
  exact ⟨h.pos.kept r2 (some_ne (by omega)), r1, h.rl.keep (v := .slice (some ⟨g, 0, none⟩) n cap) r2 h.ap.symm, h.ap, h.be.setCell (p := ⟨g, j, none⟩) (by simp; omega) _⟩

/-- An append to firstHeld. -/
theorem St1.appF (h : St1 w ids F L vF vL wr) {F' : List Int} (hr : RowV w' (w.heap.size + 1) 3 v' (ints F')) (hg : wr.grownBy w' vF.ownBlock) (hv : v'.ownBlock = vF.ownBlock ∨ v'.ownBlock = some wr.heap.size) : St1 w ids F' L v' vL w' :=
  ⟨h.pos.keptRow h.rf (Nat.lt_succ_self _) hg, hr, h.rl.keep hg h.ap.symm, (h.rl.apart_new h.ap.symm (Nat.le_refl _) hv).symm, h.be.grown hg (Nat.le_of_lt h.big) (fun a ha => by have := (h.rf.lt ha).1; omega)⟩
/-- An append to last. -/
theorem St1.appL (h : St1 w ids F L vF vL wr) {L' : List Int} (hr : RowV w' (w.heap.size + 1) 3 v' (ints L')) (hg : wr.grownBy w' vL.ownBlock) (hv : v'.ownBlock = vL.ownBlock ∨ v'.ownBlock = some wr.heap.size) : St1 w ids F L' vF v' w' :=
  ⟨h.pos.keptRow h.rl (Nat.lt_succ_self _) hg, h.rf.keep hg h.ap, hr, h.rf.apart_new h.ap (Nat.le_refl _) hv, h.be.grown hg (Nat.le_of_lt h.big) (fun a ha => by have := (h.rl.lt ha).1; omega)⟩
/-- 'pos[id] = len(last)'. -/
theorem St1.putPos (h : St1 w ids F L vF vL wr) {D : DataW Unit} {x : Int} (hx : okId x) (hn : x ∉ ids) (ho : wr.ownsMap Try.prog 2 (plainElem Try.prog 3) w.heap.size ids.length D)
    (h2 : ∀ id, Maps.has D (.int .i64 id) = decide (id ∈ ids)) (h3 : ∀ k, k < ids.length → ∀ zd, D.atKey (.int .i64 (ids.getD k 0)) zd = .lit (.int .i64 k)) {m : Nat} (hm : m = ids.length)
    (ho' : w'.ownsMap Try.prog 2 (plainElem Try.prog 3) w.heap.size (m + 1) (D.put (.int .i64 x) (.lit (.int .i64 m)))) (hg : wr.grownBy w' (some w.heap.size)) : St1 w (ids ++ [x]) F L vF vL w' := by
  subst hm
  refine ⟨⟨_, ?_, pos_put ho.isMap h2 h3 hx hn⟩, h.rf.keepMap hg (Nat.lt_succ_self _), h.rl.keepMap hg (Nat.lt_succ_self _), h.ap, h.be.grown hg (Nat.le_of_lt h.big) (fun a ha => by cases ha; exact Nat.le_refl _)⟩
  rw [List.length_append]
  exact ho'
end


/-- 'p serves asked', as the model has it. -/
def Srv7 (p asked : ByteArray) (r : Bool) : Prop := ∀ w, Calls Try.prog 7 #[.string p, .string asked] w fun e w' => e = .returned (.bool r) ∧ w' = w
theorem srv7 (p asked : ByteArray) {r : Bool} (h : servesB p asked = r) : Srv7 p asked r := fun w => by subst h; exact serves7 p asked w

theorem RowV.cap {w : World} {B : Nat} {e : TypeId} {g n cap : Nat} {xs : List Value} (h : RowV w B e (.slice (some ⟨g, 0, none⟩) n cap) xs) : n ≤ cap ∧ cap ≤ maxLen := by
  have hl := h.len
  rcases h.2 with ⟨h1, _⟩ | ⟨g', cap', cur, h1, _, _, h2, h3, _⟩
  · cases h1
  · cases h1; exact ⟨h2, h3⟩
theorem RowV.later {w w' : World} {B : Nat} {e : TypeId} {v : Value} {xs : List Value} (h : RowV w B e v xs) (hb : Below w.heap.size w w') : RowV w' B e v xs := by
  refine World.ownsRow.kept (row := none) h ⟨hb.os, hb.tape, hb.output, hb.size, fun k hk _ => hb.block k hk⟩ ?_
  cases hu : v.ownBlock <;> simp
theorem RowV.pop {w : World} {B g n cap : Nat} {T : List Int} {t : Int} (h : RowV w B 3 (.slice (some ⟨g, 0, none⟩) (n + 1) cap) (ints (T ++ [t]))) : RowV w B 3 (.slice (some ⟨g, 0, none⟩) n cap) (ints T) := by
  have hl := h.len
  rw [ints_len, List.length_append] at hl
  have hn : n = T.length := by simpa using hl
  subst hn
  unfold RowV at h ⊢
  rw [ints_len, List.length_append, ← ints_snoc] at h
  rw [ints_len]
  exact ownsRow_pop (last := [.int .i64 t]) (by rw [ints_len, Nat.mul_one]) h

/-- The second loop. -/
structure St2 (w : World) (ids F L R : List Int) (vF vL vR : Value) (wr : World) : Prop where
  pos : PosIn wr w.heap.size ids.length ids
  rf : RowV wr (w.heap.size + 1) 3 vF (ints F)
  rl : RowV wr (w.heap.size + 1) 3 vL (ints L)
  rr : RowV wr (w.heap.size + 1) 3 vR (ints R)
  a1 : Apart vF vR
  a2 : Apart vL vR
  be : Below w.heap.size w wr

/-- The third and the fourth. -/
structure St3 (w : World) (ids R : List Int) (bs : List Bool) (T : List Int) (vR vM vT : Value) (wr : World) : Prop where
  pos : PosIn wr w.heap.size ids.length ids
  rr : RowV wr (w.heap.size + 1) 3 vR (ints R)
  rm : RowV wr (w.heap.size + 1) 4 vM (bools bs)
  rt : RowV wr (w.heap.size + 1) 3 vT (ints T)
  a1 : Apart vR vM
  a2 : Apart vR vT
  a3 : Apart vM vT
  be : Below w.heap.size w wr

/-- The fifth. -/
structure St5 (w5 : World) (out : List ByteArray) (vO : Value) (wr : World) : Prop where
  seen : SeenIn wr w5.heap.size out.length out
  ro : RowV wr (w5.heap.size + 1) 9 vO (strs out)
  be : Below w5.heap.size w5 wr

section
variable {w wr w' w5 : World} {ids F L R T : List Int} {bs : List Bool} {vF vL vR vM vT vO v' : Value} {g n cap : Nat} {out : List ByteArray}

theorem st2_start (h : St1 w ids F L vF vL wr) {m : Nat} (hr : RowV w' (w.heap.size + 1) 3 (.slice (some ⟨wr.heap.size, 0, none⟩) m m) (ints R)) (hg : wr.grownBy w' none) : St2 w ids F L R vF vL (.slice (some ⟨wr.heap.size, 0, none⟩) m m) w' :=
  ⟨h.pos.kept hg (by simp), h.rf.keepAll hg, h.rl.keepAll hg, hr, h.rf.apart_new (v := .slice none 0 0) (apart_nil _).symm (Nat.le_refl _) (Or.inr rfl), h.rl.apart_new (v := .slice none 0 0) (apart_nil _).symm (Nat.le_refl _) (Or.inr rfl), h.be.grown hg (Nat.le_of_lt h.big) (fun a ha => by cases ha)⟩

theorem St2.putR (h : St2 w ids F L R vF vL (.slice (some ⟨g, 0, none⟩) n cap) wr) (j : Nat) (z : Int) : St2 w ids F L (R.set j z) vF vL (.slice (some ⟨g, 0, none⟩) n cap) (wr.setCell ⟨g, j, none⟩ (.int .i64 z)) := by
  obtain ⟨r1, r2⟩ := h.rr.put j (.int .i64 z)
  rw [ints_set] at r1
  have hg := (h.rr.lt (a := g) rfl).1
  exact ⟨h.pos.kept r2 (some_ne (by omega)), h.rf.keep (v := .slice (some ⟨g, 0, none⟩) n cap) r2 h.a1, h.rl.keep (v := .slice (some ⟨g, 0, none⟩) n cap) r2 h.a2, r1, h.a1, h.a2, h.be.setCell (p := ⟨g, j, none⟩) (by simp; omega) _⟩
theorem St2.big (h : St2 w ids F L R vF vL vR wr) : w.heap.size < wr.heap.size := by
  obtain ⟨D, h1, _⟩ := h.pos
  exact h1.lt

theorem st3_start (h : St2 w ids F L R vF vL vR wr) {m : Nat} (hr : RowV w' (w.heap.size + 1) 4 (.slice (some ⟨wr.heap.size, 0, none⟩) m m) (bools bs)) (hg : wr.grownBy w' none) : St3 w ids R bs [] vR (.slice (some ⟨wr.heap.size, 0, none⟩) m m) (.slice none 0 0) w' :=
  ⟨h.pos.kept hg (by simp), h.rr.keepAll hg, hr, row_nil _ _ _, h.rr.apart_new (v := .slice none 0 0) (apart_nil _).symm (Nat.le_refl _) (Or.inr rfl), (apart_nil _).symm, (apart_nil _).symm, h.be.grown hg (Nat.le_of_lt h.big) (fun a ha => by cases ha)⟩
theorem St3.big (h : St3 w ids R bs T vR vM vT wr) : w.heap.size < wr.heap.size := by
  obtain ⟨D, h1, _⟩ := h.pos
  exact h1.lt
theorem St3.alloc (h : St3 w ids R bs T vR vM vT wr) (o : Obj) : St3 w ids R bs T vR vM vT (wr.alloc o) :=
  ⟨h.pos.alloc o, h.rr.alloc o, h.rm.alloc o, h.rt.alloc o, h.a1, h.a2, h.a3, h.be.alloc (Nat.le_of_lt h.big) o⟩
theorem St3.putM (h : St3 w ids R bs T vR (.slice (some ⟨g, 0, none⟩) n cap) vT wr) (j : Nat) (z : Bool) : St3 w ids R (bs.set j z) T vR (.slice (some ⟨g, 0, none⟩) n cap) vT (wr.setCell ⟨g, j, none⟩ (.bool z)) := by
  obtain ⟨r1, r2⟩ := h.rm.put j (.bool z)
  rw [bools_set] at r1
  have hg := (h.rm.lt (a := g) rfl).1
  exact ⟨h.pos.kept r2 (some_ne (by omega)), h.rr.keep (v := .slice (some ⟨g, 0, none⟩) n cap) r2 h.a1, r1, h.rt.keep (v := .slice (some ⟨g, 0, none⟩) n cap) r2 h.a3.symm, h.a1, h.a2, h.a3, h.be.setCell (p := ⟨g, j, none⟩) (by simp; omega) _⟩
theorem St3.appT (h : St3 w ids R bs T vR vM vT wr) {T' : List Int} {N : Nat} (hN : N = wr.heap.size) (hr : RowV w' (w.heap.size + 1) 3 (.slice (some ⟨g, 0, none⟩) n cap) (ints T')) (hg : wr.grownBy w' vT.ownBlock) (hv : some g = vT.ownBlock ∨ g = N) : St3 w ids R bs T' vR vM (.slice (some ⟨g, 0, none⟩) n cap) w' := by
  subst hN
  have hv' : (Value.slice (some ⟨g, 0, none⟩) n cap).ownBlock = vT.ownBlock ∨ (Value.slice (some ⟨g, 0, none⟩) n cap).ownBlock = some wr.heap.size := hv.imp id (fun h => by rw [h]; rfl)
  exact ⟨h.pos.keptRow h.rt (Nat.lt_succ_self _) hg, h.rr.keep hg h.a2, h.rm.keep hg h.a3, hr, h.a1, h.rr.apart_new h.a2 (Nat.le_refl _) hv', h.rm.apart_new h.a3 (Nat.le_refl _) hv', h.be.grown hg (Nat.le_of_lt h.big) (fun a ha => by have := (h.rt.lt ha).1; omega)⟩
theorem St3.popT {t : Int} (h : St3 w ids R bs (T ++ [t]) vR vM (.slice (some ⟨g, 0, none⟩) (n + 1) cap) wr) : St3 w ids R bs T vR vM (.slice (some ⟨g, 0, none⟩) n cap) wr :=
  ⟨h.pos, h.rr, h.rm, h.rt.pop, h.a1, h.a2, h.a3, h.be⟩

theorem st5_start (w5 : World) : St5 w5 [] (.slice none 0 0) (w5.alloc (.map #[] 0)) := ⟨seen_start w5, row_nil _ _ _, (Below.refl _ _).alloc (Nat.le_refl _) _⟩
theorem St5.big (h : St5 w5 out vO wr) : w5.heap.size < wr.heap.size := by
  obtain ⟨D, h1, _⟩ := h.seen
  exact h1.lt
theorem St5.alloc (h : St5 w5 out vO wr) (o : Obj) : St5 w5 out vO (wr.alloc o) := ⟨h.seen.alloc o, h.ro.alloc o, h.be.alloc (Nat.le_of_lt h.big) o⟩
/-- 'seen[code] = true', then the append: the two between which the state does not hold. -/
theorem St5.add (h : St5 w5 out vO wr) {D : DataW Unit} {c : ByteArray} (hc : c.size ≤ maxLen) (ho : wr.ownsMap Try.prog 9 (plainElem Try.prog 4) w5.heap.size out.length D) (hD : ∀ c : ByteArray, D.atKey (.string c.data.toList) (.lit (.bool false)) = .lit (.bool (seenB out c)))
    {w2 : World} {m : Nat} (hm : out.length = m) (ho2 : w2.ownsMap Try.prog 9 (plainElem Try.prog 4) w5.heap.size (m + 1) (D.put (.string c.data.toList) (.lit (.bool true)))) (hg2 : wr.grownBy w2 (some w5.heap.size))
    (hr : RowV w' (w5.heap.size + 1) 9 v' (strs (out ++ [c]))) {o : Obj} (hg : (w2.alloc o).grownBy w' vO.ownBlock) : St5 w5 (out ++ [c]) v' w' := by
  subst hm
  have hb2 : Below w5.heap.size w5 w2 := h.be.grown hg2 (Nat.le_of_lt h.big) (fun a ha => by cases ha; exact Nat.le_refl _)
  have hr2 : RowV (w2.alloc o) (w5.heap.size + 1) 9 vO (strs out) := (h.ro.keepMap hg2 (Nat.lt_succ_self _)).alloc o
  have hs2 : w5.heap.size < w2.heap.size := ho2.lt
  refine ⟨⟨_, ?_, seen_put ho.isMap hD hc⟩, hr, (hb2.alloc (Nat.le_of_lt hs2) o).grown hg (by simp; omega) (fun a ha => by have := (hr2.lt ha).1; omega)⟩
  rw [List.length_append]
  exact (ho2.alloc o).kept hg (fun e => by have := (hr2.lt e.symm).1; omega)
end
end Go.Proofs.Qxb6618458a
