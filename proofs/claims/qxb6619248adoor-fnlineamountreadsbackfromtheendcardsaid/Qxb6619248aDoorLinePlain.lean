/-
  The plain half of 'FnLineAmountReadsBackFromTheEnd': a decimal numeral, its digits, its value; the text of a line. No Go in sight.
-/
import Derived.Lib.ItoaNum
namespace Go.Proofs.Qxb6619248aDoor

/-- The value of a list of digits. -/
def valN (l : List UInt8) : Nat := l.foldl (fun v c => v * 10 + (c.toNat - 48)) 0

theorem valN_snoc (l : List UInt8) (c : UInt8) : valN (l ++ [c]) = valN l * 10 + (c.toNat - 48) := by simp [valN]

theorem toNat_digit (d : Nat) (h : d < 10) : (UInt8.ofNat (48 + d)).toNat = 48 + d := by
  rw [UInt8.toNat_ofNat']
  exact Nat.mod_eq_of_lt (by omega)

theorem dec_big {u : Nat} (h : ¬ u < 10) : Lib.decDigits u = Lib.decDigits (u / 10) ++ [UInt8.ofNat (48 + u % 10)] := by
  rw [Lib.decDigits, dif_neg h]

theorem dec_val (u : Nat) : valN (Lib.decDigits u) = u := by
  induction u using Nat.strongRecOn with
  | _ u ih =>
    by_cases h : u < 10
    · rw [Lib.decDigits_one h]
      simp only [valN, List.foldl_cons, List.foldl_nil, toNat_digit u h]
      omega
    · rw [dec_big h, valN_snoc, ih (u / 10) (by omega), toNat_digit _ (Nat.mod_lt _ (by decide))]
      omega

theorem dec_digit (u : Nat) : ∀ c ∈ Lib.decDigits u, 48 ≤ c.toNat ∧ c.toNat ≤ 57 := by
  induction u using Nat.strongRecOn with
  | _ u ih =>
    intro c hc
    by_cases h : u < 10
    · rw [Lib.decDigits_one h] at hc
      simp only [List.mem_singleton] at hc
      rw [hc, toNat_digit u h]
      omega
    · rw [dec_big h, List.mem_append] at hc
      rcases hc with hc | hc
      · exact ih (u / 10) (by omega) c hc
      · simp only [List.mem_singleton] at hc
        have := Nat.mod_lt u (show 10 > 0 by decide)
        rw [hc, toNat_digit _ this]
        omega

theorem dec_len (u : Nat) : 1 ≤ (Lib.decDigits u).length := by
  rw [Lib.decDigits_length]; exact Lib.nDigits_pos u

theorem nDigits_le {u : Nat} : ∀ k, u < 10 ^ (k + 1) → Lib.nDigits u ≤ k + 1 := by
  intro k
  induction k generalizing u with
  | zero => intro h; rw [Lib.nDigits_small (by simpa using h)]; exact Nat.le_refl _
  | succ k ih =>
    intro h
    by_cases h0 : u < 10
    · rw [Lib.nDigits_small h0]; omega
    · rw [Lib.nDigits_big h0]
      have := ih (u := u / 10) (by rw [Nat.pow_succ] at h; omega)
      omega

theorem dec_len_le {u : Nat} (h : u ≤ 9223372036854775808) : (Lib.decDigits u).length ≤ 19 := by
  rw [Lib.decDigits_length]
  exact nDigits_le 18 (Nat.lt_of_le_of_lt h (by decide))

/-- A first digit 0: the numeral is "0". -/
theorem dec_head (u : Nat) : (Lib.decDigits u).getD 0 0 = 48 → (Lib.decDigits u).length = 1 ∧ u = 0 := by
  induction u using Nat.strongRecOn with
  | _ u ih =>
    intro hh
    by_cases h : u < 10
    · rw [Lib.decDigits_one h] at hh ⊢
      refine ⟨rfl, ?_⟩
      have := congrArg UInt8.toNat (show UInt8.ofNat (48 + u) = 48 from hh)
      rw [toNat_digit u h] at this
      have e : (48 : UInt8).toNat = 48 := rfl
      omega
    · have hl := dec_len (u / 10)
      rw [dec_big h, List.getD_eq_getElem?_getD, List.getElem?_append_left hl, ← List.getD_eq_getElem?_getD] at hh
      have := (ih (u / 10) (by omega) hh).2
      omega

theorem val_lt (l : List UInt8) (h : ∀ c ∈ l, 48 ≤ c.toNat ∧ c.toNat ≤ 57) : valN l < 10 ^ l.length := by
  have key : ∀ (r : List UInt8), (∀ c ∈ r, 48 ≤ c.toNat ∧ c.toNat ≤ 57) → valN r.reverse < 10 ^ r.length := by
    intro r
    induction r with
    | nil => intro _; simp [valN]
    | cons c r ih =>
      intro hr
      rw [List.reverse_cons, valN_snoc, List.length_cons, Nat.pow_succ]
      have h1 := ih (fun x hx => hr x (List.mem_cons_of_mem _ hx))
      have h2 := hr c (List.mem_cons_self ..)
      omega
  have := key l.reverse (fun c hc => h c (List.mem_reverse.1 hc))
  simpa using this

theorem bt_snoc {l : List UInt8} {k : Nat} (h : k < l.length) : l.take (k + 1) = l.take k ++ [l.getD k 0] := by
  rw [List.take_add_one, List.getElem?_eq_getElem h, List.getD_eq_getElem?_getD, List.getElem?_eq_getElem h]
  rfl

theorem getD_mem {l : List UInt8} {k : Nat} (h : k < l.length) : l.getD k 0 ∈ l := by
  rw [List.getD_eq_getElem?_getD, List.getElem?_eq_getElem h]
  exact List.getElem_mem h

theorem pow_le_18 {m : Nat} (h : m ≤ 18) : 10 ^ m ≤ 1000000000000000000 := by
  have : (10 : Nat) ^ m ≤ 10 ^ 18 := Nat.pow_le_pow_right (by decide) h
  exact Nat.le_trans this (by decide)

/-- One round of the reading. -/
theorem val_step {l : List UInt8} (hd : ∀ c ∈ l, 48 ≤ c.toNat ∧ c.toNat ≤ 57) (hl : l.length ≤ 19) {k : Nat} (h : k < l.length) :
    valN (l.take (k + 1)) = valN (l.take k) * 10 + ((l.getD k 0).toNat - 48) ∧ valN (l.take k) < 1000000000000000000 ∧ 48 ≤ (l.getD k 0).toNat ∧ (l.getD k 0).toNat ≤ 57 := by
  have h1 := val_lt (l.take k) (fun c hc => hd c (List.mem_of_mem_take hc))
  rw [List.length_take, Nat.min_eq_left (by omega)] at h1
  have h2 := hd _ (getD_mem h)
  exact ⟨by rw [bt_snoc h, valN_snoc], Nat.lt_of_lt_of_le h1 (pow_le_18 (by omega)), h2.1, h2.2⟩

/-! ### the line -/
/-- What stands ahead of To. -/
def headL (kind : Int) (fr : List UInt8) : List UInt8 :=
  if kind = 1 then [68, 69, 80, 79, 83, 73, 84, 32] else [84, 82, 65, 78, 83, 70, 69, 82, 32] ++ fr ++ [32, 45, 62, 32]

/-- The line: the head, To, a blank, the numeral, a newline. -/
def lineL (kind : Int) (fr to : List UInt8) (a : Int) : List UInt8 := headL kind fr ++ to ++ [32] ++ Lib.itoa a ++ [10]

theorem itoa_neg_eq {a : Int} (h : a < 0) : Lib.itoa a = 45 :: Lib.decDigits a.natAbs := by unfold Lib.itoa; rw [if_pos h]
theorem itoa_pos_eq {a : Int} (h : ¬ a < 0) : Lib.itoa a = Lib.decDigits a.toNat := by unfold Lib.itoa; rw [if_neg h]

theorem head_len (kind : Int) (fr : List UInt8) : (headL kind fr).length ≤ fr.length + 13 := by
  unfold headL
  split
  · simp
  · simp
end Go.Proofs.Qxb6619248aDoor
