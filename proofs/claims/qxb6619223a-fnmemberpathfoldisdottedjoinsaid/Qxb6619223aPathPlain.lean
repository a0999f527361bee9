/-
  The plain half of the two laws over 'memberPath': one step, the fold, what a cut at a name that is not empty does to it. No Go in sight.
-/
namespace Go.Proofs.Qxb6619223a

/-- 'memberPath'. -/
def mpB (p n : ByteArray) : ByteArray := if p.size = 0 then n else p ++ ⟨#[46]⟩ ++ n

theorem mpB_nil {p : ByteArray} (h : p.size = 0) (n : ByteArray) : mpB p n = n := by simp [mpB, h]
theorem mpB_cons {p : ByteArray} (h : p.size ≠ 0) (n : ByteArray) : mpB p n = p ++ ⟨#[46]⟩ ++ n := by simp [mpB, h]

/-- 'zzFold'. -/
def foldB (p : ByteArray) (ns : List ByteArray) : ByteArray := ns.foldl mpB p

theorem foldB_snoc (p : ByteArray) (ns : List ByteArray) (n : ByteArray) : foldB p (ns ++ [n]) = mpB (foldB p ns) n := by simp [foldB]

/-- How long a fold can get. -/
def tot (ns : List ByteArray) : Nat := (ns.map fun s => s.size + 1).sum

theorem tot_append (a b : List ByteArray) : tot (a ++ b) = tot a + tot b := by simp [tot]
theorem tot_one (n : ByteArray) : tot [n] = n.size + 1 := by simp [tot]
theorem tot_take (ns : List ByteArray) (k : Nat) : tot (ns.take k) ≤ tot ns := by
  have h := tot_append (ns.take k) (ns.drop k)
  rw [List.take_append_drop] at h
  omega
theorem tot_drop (ns : List ByteArray) (k : Nat) : tot (ns.drop k) ≤ tot ns := by
  have h := tot_append (ns.take k) (ns.drop k)
  rw [List.take_append_drop] at h
  omega

theorem size_dot : (ByteArray.mk #[46]).size = 1 := rfl

theorem size_mpB (p n : ByteArray) : (mpB p n).size ≤ p.size + (n.size + 1) := by
  unfold mpB
  split
  · omega
  · rw [ByteArray.size_append, ByteArray.size_append, size_dot]
    omega

theorem size_foldB (p : ByteArray) (ns : List ByteArray) : (foldB p ns).size ≤ p.size + tot ns := by
  induction ns generalizing p with
  | nil => simp [foldB, tot]
  | cons n ns ih =>
    have h1 := ih (mpB p n)
    have h2 := size_mpB p n
    have h3 : tot (n :: ns) = n.size + 1 + tot ns := by simp [tot]
    show (foldB (mpB p n) ns).size ≤ _
    omega

theorem take_snoc {ns : List ByteArray} {k : Nat} (h : k < ns.length) : ns.take (k + 1) = ns.take k ++ [ns.getD k ByteArray.empty] := by
  rw [List.take_add_one, List.getElem?_eq_getElem h, List.getD_eq_getElem?_getD, List.getElem?_eq_getElem h]
  rfl

theorem foldB_step (p : ByteArray) {ns : List ByteArray} {k : Nat} (h : k < ns.length) : foldB p (ns.take (k + 1)) = mpB (foldB p (ns.take k)) (ns.getD k ByteArray.empty) := by
  rw [take_snoc h, foldB_snoc]

theorem size_step (p : ByteArray) {ns : List ByteArray} {k : Nat} (h : k < ns.length) : (foldB p (ns.take k)).size + (ns.getD k ByteArray.empty).size + 1 ≤ p.size + tot ns := by
  have h1 := size_foldB p (ns.take k)
  have h2 := tot_take ns (k + 1)
  rw [take_snoc h, tot_append, tot_one] at h2
  omega

theorem mp_ne {p n : ByteArray} (h : p.size ≠ 0) : (mpB p n).size ≠ 0 := by
  rw [mpB_cons h, ByteArray.size_append, ByteArray.size_append]
  omega

theorem fold_ne {p : ByteArray} (ns : List ByteArray) (h : p.size ≠ 0) : (foldB p ns).size ≠ 0 := by
  induction ns generalizing p with
  | nil => exact h
  | cons n ns ih => exact ih (mp_ne h)

theorem empty_size : ByteArray.empty.size = 0 := rfl

theorem ba_append_assoc (a b c : ByteArray) : a ++ b ++ c = a ++ (b ++ c) := ByteArray.append_assoc

/-- THE CUT: going down a list that begins with a name that is not empty from q: 'memberPath' of q and of going down it from the empty path. -/
theorem fold_join (q n : ByteArray) (ns : List ByteArray) (h : n.size ≠ 0) : foldB q (n :: ns) = mpB q (foldB n ns) := by
  show foldB (mpB q n) ns = _
  by_cases hq : q.size = 0
  · rw [mpB_nil hq, mpB_nil hq]
  · rw [mpB_cons hq, mpB_cons hq]
    clear hq
    induction ns generalizing n with
    | nil => rfl
    | cons m ns ih =>
      show foldB (mpB (q ++ ⟨#[46]⟩ ++ n) m) ns = q ++ ⟨#[46]⟩ ++ foldB (mpB n m) ns
      have h1 : (q ++ ⟨#[46]⟩ ++ n).size ≠ 0 := by
        rw [ByteArray.size_append]; omega
      rw [mpB_cons h1, ← ih (mpB n m) (mp_ne h), mpB_cons h]
      congr 1
      simp only [ba_append_assoc]

theorem fold_empty (n : ByteArray) (ns : List ByteArray) : foldB ByteArray.empty (n :: ns) = foldB n ns := by
  show foldB (mpB ByteArray.empty n) ns = _
  rw [mpB_nil empty_size]

theorem fold_cut (p : ByteArray) (ns : List ByteArray) (k : Nat) (hk : k < ns.length) (h : (ns.getD k ByteArray.empty).size ≠ 0) :
    foldB p ns = mpB (foldB p (ns.take k)) (foldB ByteArray.empty (ns.drop k)) := by
  have e1 : ns.drop k = ns.getD k ByteArray.empty :: ns.drop (k + 1) := by
    rw [List.getD_eq_getElem?_getD, List.getElem?_eq_getElem hk]
    exact List.drop_eq_getElem_cons hk
  have e2 : foldB p ns = foldB (foldB p (ns.take k)) (ns.drop k) := by
    unfold foldB
    rw [← List.foldl_append, List.take_append_drop]
  rw [e2, e1, fold_join _ _ _ h, fold_empty]
end Go.Proofs.Qxb6619223a
