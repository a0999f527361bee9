/-
  The walks of the callees of the two laws over memberPath: memberPath (15), ZZmemberPath (12), zzFold (9).
-/
import Derived.Test.Qxb6619223aRows
import Derived.Test.Qxb6619223aPathPlain
import Derived.WalkKit
import Derived.WalkSpells
import Derived.WalkLawsBesides
import Derived.Lib.AppendStr
import Derived.Laws.BytesArg
namespace Go.Proofs.Qxb6619223a
open Go.RowKit

theorem isEmpty_of {p : ByteArray} : p.toList.isEmpty = decide (p.size = 0) := by
  rw [ByteArray.toList_eq]
  have e : p.size = p.data.toList.length := rfl
  rw [e]
  cases p.data.toList <;> simp

theorem ret_str {a b : ByteArray} (h : a = b) : Ending.returned (.string a) = .returned (.string b) := by rw [h]

set_option maxHeartbeats 400000 in
theorem member_any (p n : ByteArray) (w : World) (h : p.size + n.size ≤ 4194304) :
    Calls Try.prog 15 #[.string p, .string n] w fun e w' => e = .returned (.string (mpB p n)) ∧ w' = w := by
  by_cases h0 : p.size = 0
  · have e1 : p.toList.isEmpty = true := by rw [isEmpty_of]; simp [h0]
    rw [mpB_nil h0]
    go_enter Try.func15, Try.ntmps15
    go_wp2
    go_ret
    exact ⟨rfl, rfl⟩
  · have e1 : p.toList.isEmpty = false := by rw [isEmpty_of]; simp [h0]
    rw [mpB_cons h0]
    go_enter Try.func15, Try.ntmps15
    go_wp2
    go_ret
    exact ⟨rfl, rfl⟩

theorem zzmember_any (p n : ByteArray) (w : World) (h : p.size + n.size ≤ 4194304) :
    Calls Try.prog 12 #[.string p, .string n] w fun e w' => e = .returned (.string (mpB p n)) ∧ w' = w := by
  go_enter Try.func12, Try.ntmps12
  go_wp2_with (go_at_call 15; refine (member_any _ _ _ h).mono ?_; rintro e w' ⟨rfl, rfl⟩)
  go_ret
  exact ⟨rfl, rfl⟩

set_option maxHeartbeats 400000 in
theorem fold_any (p : ByteArray) (xa : Option Addr) (b o xl xc : Nat) (ns : List ByteArray) (w : World) (hxa : 0 < xl → xa = some ⟨b, o, none⟩) (hl : ns.length = xl) (hx : xl ≤ 1048576)
    (hc : ∀ j, j < xl → w.cell? ⟨b, o + j, none⟩ = some (.string (ns.getD j ByteArray.empty))) (hsz : p.size + tot ns ≤ 2097152) :
    Calls Try.prog 9 #[.string p, .slice xa xl xc] w fun e w' => e = .returned (.string (foldB p ns)) ∧ w' = w := by
  have HL : Hid (ns.length = xl) := hl
  have HZ : Hid (p.size + tot ns ≤ 2097152) := hsz
  clear hl hsz
  go_enter Try.func9, Try.ntmps9
  go_wp2
  go_loop [5, 6] (fun cur i => ∃ k : Nat, k ≤ xl ∧ i = .int .i64 k ∧ cur = .string (foldB p (ns.take k))) (fun _ i => xl - (intOf i).toNat)
  case atStart => exact ⟨0, Nat.zero_le _, rfl, rfl⟩
  case round =>
    obtain ⟨k, hk, rfl, rfl⟩ := hrel
    by_cases hlt : k < xl
    · obtain rfl := hxa (by omega)
      have hst := foldB_step p (ns := ns) (k := k) (by rw [HL.out]; exact hlt)
      have hss := size_step p (ns := ns) (k := k) (by rw [HL.out]; exact hlt)
      have hz := HZ.out
      have hcell := hc k hlt
      generalize ns.getD k ByteArray.empty = nm at *
      have HS := show Hid _ from hst
      have hsum : (foldB p (ns.take k)).size + nm.size ≤ 4194304 := by omega
      have HM := show Hid _ from hsum
      clear hst hss hz hsum hxa hc
      go_wp2_with (go_at_call 12; refine (zzmember_any _ _ _ HM.out).mono ?_; rintro e w' ⟨rfl, rfl⟩)
      go_round
      case rel => exact ⟨k + 1, by omega, by go_num, by rw [HS.out]⟩
      case measure => simp [intOf]; omega
    · clear hxa hc
      go_wp2
      go_ret
      exact ⟨ret_str (by rw [List.take_of_length_le (by rw [HL.out]; omega)]), rfl⟩

/-! ### the buffer of bytes that the call itself grows -/
theorem info5 : (Try.prog.info? 5).map (fun i => (i.zero, i.size, i.bytes)) = some (some (.int .u8 0), 1, 1) := by kernel_rfl

theorem strOfNums_bytes (s : ByteArray) : strOfNums (s.data.toList.map fun b => (b.toNat : Int)) = s := by
  unfold strOfNums
  apply ByteArray.ext
  simp only [List.map_map]
  have e : ((fun n : Int => UInt8.ofNat n.toNat) ∘ fun b : UInt8 => (b.toNat : Int)) = id := by
    funext b
    simp
  rw [e]
  simp

/-- A row that the call owns, holding the bytes of s. -/
theorem run_convert_own {w : World} {base : Nat} {v : Value} {n : Nat} {s : ByteArray} (h : w.ownsRow base 5 1 v n (Lib.strCells s)) : (convert 32 9 v).run Try.prog w = .ok (.string s) w := by
  have hn : s.size = n := by
    have := h.1
    rw [Lib.strCells_length] at this
    omega
  rcases h.2 with ⟨rfl, h0⟩ | ⟨g, cap, cur, rfl, hb, hg, h1, h2, h3, h4⟩
  · rw [run_convert_bytes_nil w 32 5 Try.underlying32 Try.underlying5 0 0 9 Try.underlying9]
    have : s = ByteArray.empty := by
      apply ByteArray.ext
      apply Array.eq_empty_of_size_eq_zero
      exact hn.trans h0
    rw [this]
  · have hcell : ∀ i, i < n → w.cell? ⟨g, 0 + i, none⟩ = some (.int .u8 ((s.data.toList.map fun b => (b.toNat : Int)).getD i 0)) := fun i hi => by
      have hc := h.cells (g := g) rfl i (.int .u8 ((s.data.toList.map fun b => (b.toNat : Int)).getD i 0)) (by
        have hi' : i < s.data.toList.length := by
          have : s.data.toList.length = s.size := rfl
          omega
        simp [Lib.strCells, List.getD_eq_getElem?_getD, List.getElem?_eq_getElem hi'])
      rw [Addr.add_lit] at hc; exact hc
    have := run_convert_bytes_arg (P := Try.prog) w 32 5 Try.underlying32 Try.underlying5 g 0 n cap (s.data.toList.map fun b => (b.toNat : Int)) (by
      have : s.data.toList.length = s.size := rfl
      simp only [List.length_map]
      omega) hcell 9 Try.underlying9
    rw [this, strOfNums_bytes]

theorem strCells_append (a b : ByteArray) : Lib.strCells (a ++ b) = Lib.strCells a ++ Lib.strCells b := by
  simp [Lib.strCells, ByteArray.data_append]

theorem strCells_dot : Lib.strCells ⟨#[46]⟩ = [.int .u8 46] := by simp [Lib.strCells]
end Go.Proofs.Qxb6619223a
