/-
  What is read back: zzParseTail at any line's tail, zzEndsWith (13), the bound on lengths (10).
-/
import Derived.Test.Qxb6619248aDoorParse
import Derived.Laws.IdiomStrings
namespace Go.Proofs.Qxb6619248aDoor
open Go.RowKit

theorem bz_right (P r : List UInt8) (j : Nat) : bz (P ++ r) (P.length + j) = bz r j := by
  unfold bz
  rw [List.getD_eq_getElem?_getD, List.getElem?_append_right (by omega), show P.length + j - P.length = j by omega, ← List.getD_eq_getElem?_getD]
theorem bz_left {P r : List UInt8} {j : Nat} (h : j < P.length) : bz (P ++ r) j = bz P j := by
  unfold bz
  rw [List.getD_eq_getElem?_getD, List.getElem?_append_left h, ← List.getD_eq_getElem?_getD]
theorem bz_cons (c : UInt8) (r : List UInt8) (j : Nat) : bz (c :: r) (j + 1) = bz r j := by simp [bz]
theorem bz_zero (c : UInt8) (r : List UInt8) : bz (c :: r) 0 = (c.toNat : Int) := by simp [bz]

/-- The text ahead, a blank, the numeral, a newline. -/
def tailL (P : List UInt8) (a : Int) : List UInt8 := P ++ 32 :: (Lib.itoa a ++ [10])

theorem dec_facts {u : Nat} (hu : u ≤ 9223372036854775808) :
    (∀ j, j < (Lib.decDigits u).length → 48 ≤ bz (Lib.decDigits u ++ [10]) j ∧ bz (Lib.decDigits u ++ [10]) j ≤ 57) ∧ bz (Lib.decDigits u ++ [10]) (Lib.decDigits u).length = 10 ∧
    (∀ m, m < (Lib.decDigits u).length → ((valN ((Lib.decDigits u).take (m + 1)) : Nat) : Int) = (valN ((Lib.decDigits u).take m) : Nat) * 10 + (bz (Lib.decDigits u ++ [10]) m - 48)) ∧
    (∀ m, m < (Lib.decDigits u).length → 0 ≤ ((valN ((Lib.decDigits u).take m) : Nat) : Int) ∧ ((valN ((Lib.decDigits u).take m) : Nat) : Int) < 1000000000000000000) := by
  have hd := dec_digit u
  have hl := dec_len_le hu
  refine ⟨fun j hj => ?_, ?_, fun m hm => ?_, fun m hm => ?_⟩
  · rw [bz_left hj]
    have := hd _ (getD_mem hj)
    unfold bz
    omega
  · have := bz_right (Lib.decDigits u) [10] 0
    rw [Nat.add_zero] at this
    rw [this]; rfl
  · obtain ⟨h1, _, h2, h3⟩ := val_step hd hl hm
    rw [h1, bz_left hm]
    unfold bz
    omega
  · obtain ⟨_, h2, _, _⟩ := val_step hd hl hm
    omega

theorem parse_any (b off cap : Nat) (P : List UInt8) (a : Int) (a0 : -9223372036854775808 ≤ a) (a1 : a ≤ 9223372036854775807) (w : World) (hP : P.length ≤ 8388608) (hcap : (tailL P a).length ≤ cap)
    (hc : ∀ j, j < (tailL P a).length → w.cell? ⟨b, off + j, none⟩ = some (.int .u8 (bz (tailL P a) j))) :
    Calls Tryd.prog 12 #[.slice (some ⟨b, off, none⟩) (tailL P a).length cap] w fun e w' => e = .returned (.tuple #[.int .i64 P.length, .int .i64 a, .bool true]) ∧ w' = w := by
  by_cases hneg : a < 0
  · have hI := itoa_neg_eq hneg
    have hu : a.natAbs ≤ 9223372036854775808 := by omega
    obtain ⟨f1, f2, f3, f4⟩ := dec_facts hu
    have hlen : (tailL P a).length = P.length + (Lib.decDigits a.natAbs).length + 3 := by
      unfold tailL; rw [hI]; simp; omega
    have hz : ∀ j, bz (tailL P a) (P.length + 2 + j) = bz (Lib.decDigits a.natAbs ++ [10]) j := fun j => by
      unfold tailL
      rw [show P.length + 2 + j = P.length + (j + 1 + 1) by omega, bz_right, bz_cons, hI, List.cons_append, bz_cons]
    have h := parse_neg b off cap P.length (Lib.decDigits a.natAbs).length (bz (tailL P a)) (fun m => ((valN ((Lib.decDigits a.natAbs).take m) : Nat) : Int)) w hP (dec_len _) (dec_len_le hu) (by omega) (fun j hj => hc j (by omega))
      (by have := bz_right P (32 :: (Lib.itoa a ++ [10])) 0; rw [Nat.add_zero] at this; unfold tailL; rw [this]; rfl)
      (by have := bz_right P (32 :: (Lib.itoa a ++ [10])) 1; unfold tailL; rw [this, hI]; rfl)
      (by rw [show P.length + (Lib.decDigits a.natAbs).length + 2 = P.length + 2 + (Lib.decDigits a.natAbs).length by omega, hz]; exact f2)
      (fun j hj => by rw [hz]; exact f1 j hj)
      (by
        have hz0 := hz 0
        rw [Nat.add_zero] at hz0
        rw [hz0, bz_left (dec_len _)]
        intro e
        have e' : (Lib.decDigits a.natAbs).getD 0 0 = 48 := by
          unfold bz at e
          apply UInt8.toNat_inj.1
          have e48 : (48 : UInt8).toNat = 48 := rfl
          omega
        have := (dec_head _ e').2
        omega)
      rfl (fun m hm => by rw [hz]; exact f3 m hm) f4 (by
        show 1 ≤ ((valN ((Lib.decDigits a.natAbs).take (Lib.decDigits a.natAbs).length) : Nat) : Int) ∧ ((valN ((Lib.decDigits a.natAbs).take (Lib.decDigits a.natAbs).length) : Nat) : Int) ≤ _
        rw [List.take_length, dec_val]; omega)
    simp only [List.take_length, dec_val] at h
    rw [hlen]
    have e : -((a.natAbs : Nat) : Int) = a := by omega
    rw [e] at h
    exact h
  · have hI := itoa_pos_eq hneg
    have hu : a.toNat ≤ 9223372036854775808 := by omega
    obtain ⟨f1, f2, f3, f4⟩ := dec_facts hu
    have hlen : (tailL P a).length = P.length + (Lib.decDigits a.toNat).length + 2 := by
      unfold tailL; rw [hI]; simp; omega
    have hz : ∀ j, bz (tailL P a) (P.length + 1 + j) = bz (Lib.decDigits a.toNat ++ [10]) j := fun j => by
      unfold tailL
      rw [show P.length + 1 + j = P.length + (j + 1) by omega, bz_right, bz_cons, hI]
    have h := parse_pos b off cap P.length (Lib.decDigits a.toNat).length (bz (tailL P a)) (fun m => ((valN ((Lib.decDigits a.toNat).take m) : Nat) : Int)) w hP (dec_len _) (dec_len_le hu) (by omega) (fun j hj => hc j (by omega))
      (by have := bz_right P (32 :: (Lib.itoa a ++ [10])) 0; rw [Nat.add_zero] at this; unfold tailL; rw [this]; rfl)
      (by rw [show P.length + (Lib.decDigits a.toNat).length + 1 = P.length + 1 + (Lib.decDigits a.toNat).length by omega, hz]; exact f2)
      (fun j hj => by rw [hz]; exact f1 j hj)
      (by
        have hz0 := hz 0
        rw [Nat.add_zero] at hz0
        rw [hz0, bz_left (dec_len _)]
        intro e
        have e' : (Lib.decDigits a.toNat).getD 0 0 = 48 := by
          unfold bz at e
          apply UInt8.toNat_inj.1
          have e48 : (48 : UInt8).toNat = 48 := rfl
          omega
        exact (dec_head _ e').1)
      rfl (fun m hm => by rw [hz]; exact f3 m hm) f4 (by
        show 0 ≤ ((valN ((Lib.decDigits a.toNat).take (Lib.decDigits a.toNat).length) : Nat) : Int) ∧ ((valN ((Lib.decDigits a.toNat).take (Lib.decDigits a.toNat).length) : Nat) : Int) ≤ _
        rw [List.take_length, dec_val]; omega)
    simp only [List.take_length, dec_val] at h
    rw [hlen]
    have e : ((a.toNat : Nat) : Int) = a := by omega
    rw [e] at h
    exact h

/-- 'string(b)' of a slice whose bytes are known. -/
theorem run_str (w : World) (b off cap : Nat) (l : List UInt8) (hc : ∀ j, j < l.length → w.cell? ⟨b, off + j, none⟩ = some (.int .u8 (bz l j))) :
    (convert 22 9 (.slice (some ⟨b, off, none⟩) l.length cap)).run Tryd.prog w = .ok (.string ⟨l.toArray⟩) w :=
  run_convert_bytes_back (P := Tryd.prog) w 22 9 5 ⟨b, off, none⟩ cap l Tryd.underlying22 Tryd.underlying5 Tryd.underlying9 (fun j hj => by
    rw [Addr.add_lit, hc j hj]
    simp [bz, List.getD_eq_getElem?_getD, List.getElem?_eq_getElem hj])

theorem toList_mk' (s : ByteArray) : (ByteArray.mk s.data.toList.toArray) = s := by
  apply ByteArray.ext
  simp

set_option maxRecDepth 100000 in
set_option maxHeartbeats 400000 in
theorem ends_any (b off cap n : Nat) (h t : List UInt8) (s : ByteArray) (w : World) (ht : t = s.data.toList) (hn : n = h.length + t.length) (hb : n ≤ 8388608) (hcap : n < cap)
    (hc : ∀ j, j < n → w.cell? ⟨b, off + j, none⟩ = some (.int .u8 (bz (h ++ t) j))) :
    Calls Tryd.prog 13 #[.slice (some ⟨b, off, none⟩) n cap, .string s] w fun e w' => e = .returned (.bool true) ∧ w' = w := by
  have hst : s.size = t.length := by rw [ht, size_eq]
  have hcv := run_str w b (off + h.length) (cap - h.length) t (fun j hj => by rw [Nat.add_assoc, hc _ (by omega), bz_right])
  have e1 : (ByteArray.mk t.toArray) = s := by rw [ht]
  rw [e1, ← hst] at hcv
  have hhl : n - s.size = h.length := by omega
  rw [← hhl] at hcv
  have e2 : n - (n - s.size) = s.size := by omega
  have hcv' : (convert 22 9 (.slice (some ⟨b, off + (n - s.size), none⟩) (n - (n - s.size)) (cap - (n - s.size)))).run Tryd.prog w = .ok (.string s) w := by rw [e2]; exact hcv
  have hle : s.size ≤ n := by omega
  clear hcv hst e1 hhl e2 hc hn ht
  go_enter Tryd.func13, Tryd.ntmps13
  go_wp2
  go_ret
  exact ⟨rfl, rfl⟩

/-- It returns a bool. -/
def BoolRet (e : Ending) : Prop := ∃ r, e = .returned (.bool r)

set_option maxRecDepth 100000 in
set_option maxHeartbeats 400000 in
theorem bytes10_any (x : Option Addr) (len cap : Nat) (k a b : Int) (fr tt : ByteArray) (w : World) (hl : len ≤ maxLen) (hf : fr.size ≤ maxLen) (ht : tt.size ≤ maxLen) :
    Calls Tryd.prog 10 #[.slice x len cap, .int .u8 k, .string fr, .string tt, .int .i64 a, .int .i64 b] w fun e w' => BoolRet e ∧ w' = w := by
  unfold maxLen at *
  go_enter Tryd.func10, Tryd.ntmps10
  go_wp2
  all_goals go_ret
  all_goals exact ⟨⟨_, rfl⟩, rfl⟩
end Go.Proofs.Qxb6619248aDoor
