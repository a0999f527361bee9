/-
  Nodes in memory; zzServes (7), Serves (8), the bound on lengths (4).
-/
import Derived.Test.Qxb6618458aRows
import Derived.Test.Qxb6618458aPlain2
import Derived.WalkKit
import Derived.WalkSpells
import Derived.WalkLawsBesides
namespace Go.Proofs.Qxb6618458a
open Go.RowKit

theorem rb {a b : Bool} (h : a = b) : Ending.returned (.bool a) = .returned (.bool b) := by rw [h]

theorem toList_inj {a b : ByteArray} : (a.toList == b.toList) = decide (a = b) := by
  rw [ByteArray.toList_eq, ByteArray.toList_eq, Bool.eq_iff_iff]
  simp only [beq_iff_eq, decide_eq_true_eq]
  constructor
  · intro h; apply ByteArray.ext; exact Array.toList_inj.1 h
  · rintro rfl; rfl

theorem isEmpty_of {p : ByteArray} : p.toList.isEmpty = decide (p.size = 0) := by
  rw [ByteArray.toList_eq]
  have e : p.size = p.data.toList.length := rfl
  rw [e]
  cases p.data.toList <;> simp

theorem serves_eq (p asked : ByteArray) : (p.toList == [97, 108, 108] || p.toList == asked.toList || asked.toList.isEmpty) = servesB p asked := by
  have h1 := toList_inj (a := p) (b := ⟨#[97, 108, 108]⟩)
  have e : (ByteArray.mk #[97, 108, 108]).toList = [97, 108, 108] := by rw [ByteArray.toList_eq]
  rw [e] at h1
  unfold servesB
  rw [h1, toList_inj, isEmpty_of]

theorem serves_1 {p asked : ByteArray} (h : p.toList = [97, 108, 108]) : true = servesB p asked := by
  rw [← serves_eq, h]; simp
theorem serves_2 {p asked : ByteArray} (h : p.toList = asked.toList) : true = servesB p asked := by
  rw [← serves_eq, h]; simp

set_option maxHeartbeats 400000 in
theorem serves7 (p asked : ByteArray) (w : World) : Calls Try.prog 7 #[.string p, .string asked] w fun e w' => e = .returned (.bool (servesB p asked)) ∧ w' = w := by
  go_enter Try.func7, Try.ntmps7
  go_wp2
  · go_ret; exact ⟨rb (serves_1 ‹_›), rfl⟩
  · go_ret; exact ⟨rb (serves_2 ‹_›), rfl⟩
  · go_ret; exact ⟨rb (serves_eq _ _), rfl⟩

set_option maxHeartbeats 400000 in
theorem serves8 (p asked : ByteArray) (w : World) : Calls Try.prog 8 #[.string p, .string asked] w fun e w' => e = .returned (.bool (servesB p asked)) ∧ w' = w := by
  go_enter Try.func8, Try.ntmps8
  go_wp2
  · go_ret; exact ⟨rb (serves_1 ‹_›), rfl⟩
  · go_ret; exact ⟨rb (serves_2 ‹_›), rfl⟩
  · go_ret; exact ⟨rb (serves_eq _ _), rfl⟩

/-- The cells of one node at o. -/
def ndCells (w : World) (b o : Nat) (x : Nd) : Prop :=
  w.cell? ⟨b, o, none⟩ = some (.int .i64 x.id) ∧ w.cell? ⟨b, o + 1, none⟩ = some (.int .i64 x.par) ∧ w.cell? ⟨b, o + 2, none⟩ = some (.string x.code) ∧
  w.cell? ⟨b, o + 3, none⟩ = some (.string x.plat) ∧ w.cell? ⟨b, o + 4, none⟩ = some (.bool x.held)

/-- A slice of nodes in memory. -/
def nodesAt (w : World) (b o : Nat) (l : List Nd) : Prop := ∀ j x, l[j]? = some x → ndCells w b (o + j * 5) x

theorem nodes_lt {w : World} {b o : Nat} {l : List Nd} (h : nodesAt w b o l) {j : Nat} {x : Nd} (hx : l[j]? = some x) : b < w.heap.size := World.block_lt_of_cell? _ _ (h j x hx).1

theorem nodes_later {w w' : World} {b o B : Nat} {l : List Nd} (h : nodesAt w b o l) (hb : Below B w w') (hB : b < B) : nodesAt w' b o l := fun j x hx => by
  obtain ⟨h1, h2, h3, h4, h5⟩ := h j x hx
  exact ⟨(hb.cell hB).trans h1, (hb.cell hB).trans h2, (hb.cell hB).trans h3, (hb.cell hB).trans h4, (hb.cell hB).trans h5⟩

theorem nd_get {l : List Nd} {k : Nat} (h : k < l.length) : ∃ x, l[k]? = some x := ⟨l[k], List.getElem?_eq_getElem h⟩

/-- It returns a bool; where that is true, all is short. -/
def BoolRet (l : List Nd) (e : Ending) : Prop := ∃ r, e = .returned (.bool r) ∧ (r = true → l.length ≤ 1048576 ∧ ∀ (j : Nat) (x : Nd), l[j]? = some x → x.code.size ≤ 1048576 ∧ x.plat.size ≤ 1048576)

theorem boolRet_no (l : List Nd) : BoolRet l (.returned (.bool false)) := ⟨false, rfl, fun h => by cases h⟩

set_option maxRecDepth 100000 in
set_option maxHeartbeats 1000000 in
theorem bytes4 (xa : Option Addr) (b o cap : Nat) (l : List Nd) (asked : ByteArray) (w : World) (hxa : 0 < l.length → xa = some ⟨b, o, none⟩) (hn : l.length ≤ maxLen) (has : asked.size ≤ maxLen) (hc : nodesAt w b o l)
    (hsz : ∀ (j : Nat) (x : Nd), l[j]? = some x → x.code.size ≤ maxLen ∧ x.plat.size ≤ maxLen) :
    Calls Try.prog 4 #[.slice xa l.length cap, .string asked] w fun e w' => BoolRet l e ∧ w' = w := by
  obtain ⟨n, hn'⟩ : ∃ n, n = l.length := ⟨_, rfl⟩
  rw [← hn'] at hn hxa ⊢
  have HN : Hid (n = l.length) := hn'
  have HC : Hid (nodesAt w b o l) := hc
  have HX : Hid (0 < n → xa = some ⟨b, o, none⟩) := hxa
  have HS : Hid (∀ (j : Nat) (x : Nd), l[j]? = some x → x.code.size ≤ maxLen ∧ x.plat.size ≤ maxLen) := hsz
  clear hn' hc hxa hsz
  unfold maxLen at hn has
  go_enter Try.func4, Try.ntmps4
  go_wp2
  all_goals try (go_ret; exact ⟨boolRet_no _, rfl⟩)
  go_loop [5, 6] (fun z i => ∃ (k : Nat) (y : Int), k ≤ n ∧ i = .int .i64 k ∧ z = .int .i64 y ∧ 0 ≤ y ∧ y ≤ 1048576 ∧ Hid (∀ (j : Nat) (x : Nd), j < k → l[j]? = some x → x.code.size ≤ 1048576 ∧ x.plat.size ≤ 1048576)) (fun _ i => n - (intOf i).toNat)
  case atStart => exact ⟨0, _, Nat.zero_le _, rfl, rfl, by omega, by omega, fun j x h => absurd h (Nat.not_lt_zero j)⟩
  case round =>
    obtain ⟨k, y, hk, rfl, rfl, hy0, hy1, HA⟩ := hrel
    by_cases hlt : k < n
    · obtain rfl := HX.out (by omega)
      obtain ⟨x, hx⟩ := nd_get (l := l) (k := k) (by rw [← HN.out]; exact hlt)
      have HXX : Hid (l[k]? = some x) := hx
      obtain ⟨_, _, hc2, hc3, _⟩ := HC.out k x hx
      obtain ⟨hs1, hs2⟩ := HS.out k x hx
      unfold maxLen at hs1 hs2
      clear hx
      go_wp2
      all_goals try (go_ret; exact ⟨boolRet_no _, rfl⟩)
      go_round
      case rel => exact ⟨k + 1, _, by omega, by go_num, rfl, by omega, by omega, fun j z hj hz => by
        by_cases e : j = k
        · subst e
          have := Option.some.inj (hz.symm.trans HXX.out)
          subst this
          omega
        · exact HA.out j z (by omega) hz⟩
      case measure => simp [intOf]; omega
    · have HR : Hid (n ≤ 1048576 → BoolRet l (.returned (.bool true))) := fun h1 => ⟨true, rfl, fun _ => ⟨by rw [← HN.out]; exact h1, fun j x hx => HA.out j x (by
          have := (List.getElem?_eq_some_iff.1 hx).1
          have := HN.out
          omega) hx⟩⟩
      go_wp2
      all_goals try (go_ret; exact ⟨boolRet_no _, rfl⟩)
      go_ret
      exact ⟨HR.out (by omega), rfl⟩
end Go.Proofs.Qxb6618458a
