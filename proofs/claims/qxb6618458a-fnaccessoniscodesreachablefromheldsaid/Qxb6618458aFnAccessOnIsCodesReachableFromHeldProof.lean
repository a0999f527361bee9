/-
  The proof of 'Rows.FnAccessOnIsCodesReachableFromHeldSaid': the frame is the guide's template, turned for a slice of structs; the walk is ours.
-/
import Derived.Test.Qxb6618458aRows
import Derived.Test.Qxb6618458aLaw
import Derived.Deep.Slices
import Derived.WalkKit
import Derived.ProofKit
import Derived.OpenShut
import Derived.ShutString
import Derived.ChangeOld
import Derived.Below
namespace Go.Proofs.Qxb6618458a.fnAccessOnIsCodesReachableFromHeld
open Go.ChangeShapes Go.WideShapes Go.ChangeAt Go.RowKit
open Go.ChangeMaps (open_string shut_string)
set_option linter.unusedVariables false

theorem own : ownKnob Try.prog.godebug = none := by kernel_rfl
theorem laidOut : laidOutB Try.prog = true := by kernel_rfl

/-- What the walk is told of a slice of nodes that came in. -/
def IsNodes (w : World) (a : Option Addr) (len : Nat) (l : List Nd) : Prop :=
  ∃ b o, (0 < l.length → a = some ⟨b, o, none⟩) ∧ l.length = len ∧ len ≤ maxLen ∧ nodesAt w b o l ∧ (∀ (j : Nat) (x : Nd), l[j]? = some x → okId x.id ∧ okId x.par) ∧ ∀ (j : Nat) (x : Nd), l[j]? = some x → x.code.size ≤ maxLen ∧ x.plat.size ≤ maxLen

section
variable {H : Type} {enc : TypeId × Value → H} {w : World} {spare : Nat → Bool} {held : Bool}

theorem cells25 : Try.prog.cellsOf 25 = 5 := by kernel_rfl
theorem cells2 : Try.prog.cellsOf 2 = 1 := by kernel_rfl
theorem cells9 : Try.prog.cellsOf 9 = 1 := by kernel_rfl
theorem cells4 : Try.prog.cellsOf 4 = 1 := by kernel_rfl

/-- One node. -/
theorem node_of {n : Nat} {cs : List Value} {y : DataW H × List MemPlace} (hl : cs.length = 5) (h : DataW.trod enc Try.prog w 0 spare held n 25 cs = some y) :
    ∃ x : Nd, cs = [.int .i64 x.id, .int .i64 x.par, .string x.code, .string x.plat, .bool x.held] ∧ okId x.id ∧ okId x.par ∧ x.code.size ≤ maxLen ∧ x.plat.size ≤ maxLen := by
  obtain ⟨xs, k, _, _, _, hxl, hf⟩ := DataW.trod_struct Try.underlying25 h
  match cs, hl with
  | [v0, v1, v2, v3, v4], _ =>
    match xs, hxl with
    | [y0, y1, y2, y3, y4], _ =>
      have g0 := hf 0 _ rfl
      have g1 := hf 1 _ rfl
      have g2 := hf 2 _ rfl
      have g3 := hf 3 _ rfl
      have g4 := hf 4 _ rfl
      simp [cells2, cells9, cells4] at g0 g1 g2 g3 g4
      obtain ⟨a, e0, _, w0⟩ := DataW.trod_int Try.underlying2 g0
      obtain ⟨b, e1, _, w1⟩ := DataW.trod_int Try.underlying2 g1
      obtain ⟨c, e2, _, w2⟩ := DataW.trod_string Try.underlying9 g2
      obtain ⟨d, e3, _, w3⟩ := DataW.trod_string Try.underlying9 g3
      obtain ⟨f, e4, _⟩ := DataW.trod_bool Try.underlying4 g4
      cases e0; cases e1; cases e2; cases e3; cases e4
      exact ⟨⟨a, b, c, d, f⟩, rfl, id_wf w0, id_wf w1, w2, w3⟩

theorem open_nodes {fuel : Nat} {a : Option Addr} {len cap : Nat} {y : DataW H × List MemPlace} (h : DataW.trod enc Try.prog w 0 spare held fuel 22 [.slice a len cap] = some y) : ∃ l, IsNodes w a len l := by
  rcases Deep.open_slice Try.underlying22 h with ⟨hcs, _⟩ | ⟨x, len', cap', m, n, D, Pl, hcs, _, hlc, hcm, hmm, _, hx⟩
  · cases hcs
    exact ⟨[], 0, 0, fun h => by simp at h, rfl, Nat.zero_le _, fun j x hx => by simp at hx, fun j x hx => by simp at hx, fun j x hx => by simp at hx⟩
  · cases hcs
    have hlm : len ≤ m := by rw [hmm]; split <;> omega
    have each : ∀ i, i < len → ∃ q : Nd, (w.cell? (x.add (i * 5)) = some (.int .i64 q.id) ∧ w.cell? (x.add (i * 5 + 1)) = some (.int .i64 q.par) ∧ w.cell? (x.add (i * 5 + 2)) = some (.string q.code) ∧
        w.cell? (x.add (i * 5 + 3)) = some (.string q.plat) ∧ w.cell? (x.add (i * 5 + 4)) = some (.bool q.held)) ∧ (okId q.id ∧ okId q.par) ∧ q.code.size ≤ maxLen ∧ q.plat.size ≤ maxLen := by
      intro i hi
      obtain ⟨cs', h1, h2⟩ := hx i (by omega)
      rw [cells25] at h1
      obtain ⟨_, hlen, hcell⟩ := World.cells?_some h1
      obtain ⟨q, rfl, k1, k2, k3, k4⟩ := node_of hlen h2
      have e0 := hcell 0 (by omega)
      have e1 := hcell 1 (by omega)
      have e2 := hcell 2 (by omega)
      have e3 := hcell 3 (by omega)
      have e4 := hcell 4 (by omega)
      rw [Deep.add_add] at e0 e1 e2 e3 e4
      exact ⟨q, ⟨e0, e1, e2, e3, e4⟩, ⟨k1, k2⟩, k3, k4⟩
    haveI : Inhabited Nd := ⟨nd0⟩
    obtain ⟨q, hq⟩ := Deep.choose_lt each
    have get : ∀ (j : Nat) (z : Nd), ((List.range len).map q)[j]? = some z → j < len ∧ z = q j := fun j z hz => by
      have hj : j < len := by simpa using (List.getElem?_eq_some_iff.1 hz).1
      rw [List.getElem?_map, List.getElem?_range hj] at hz
      exact ⟨hj, by simpa using hz.symm⟩
    obtain ⟨b, o, spot⟩ := x
    by_cases h0 : 0 < len
    · have hspot : spot = none := by simpa [Addr.add] using World.cell?_spot (hq 0 h0).1.1
      subst hspot
      have plain : ∀ k, (⟨b, o, none⟩ : Addr).add k = ⟨b, o + k, none⟩ := fun k => by unfold Addr.add; split <;> simp_all
      refine ⟨(List.range len).map q, b, o, fun _ => rfl, by simp, by omega, fun j z hz => ?_, fun j z hz => ?_, fun j z hz => ?_⟩
      · obtain ⟨hj, rfl⟩ := get j z hz
        obtain ⟨⟨c0, c1, c2, c3, c4⟩, _⟩ := hq j hj
        rw [plain] at c0 c1 c2 c3 c4
        exact ⟨c0, c1, c2, c3, c4⟩
      · obtain ⟨hj, rfl⟩ := get j z hz
        exact (hq j hj).2.1
      · obtain ⟨hj, rfl⟩ := get j z hz
        exact (hq j hj).2.2
    · refine ⟨(List.range len).map q, 0, 0, fun h => absurd (by simpa using h) h0, by simp, by omega, fun j z hz => absurd (get j z hz).1 (by omega), fun j z hz => absurd (get j z hz).1 (by omega), fun j z hz => absurd (get j z hz).1 (by omega)⟩
end

theorem walk (a0 : Option Addr) (len0 cap0 : Nat) (l : List Nd) (a1 : ByteArray) (w : World) (w0 : IsNodes w a0 len0 l) (w1 : a1.size ≤ maxLen) :
    Calls Try.prog 3 #[.slice a0 len0 cap0, .string a1] w fun e w' => e = .returned (.bool true) ∧ Below w.heap.size w w' := by
  obtain ⟨b, o, h1, rfl, h3, h4, h5, h6⟩ := w0
  exact law_any a0 b o cap0 l a1 w h1 h3 w1 h4 h5 h6

/-! ### THE ROW's STEP: WRITTEN OUT: LEAVE IT -/
set_option maxRecDepth 100000 in
theorem lifted (os : Os) (started : os.Started) (H : Type) (enc : TypeId × Value → H) :
    ReturnsInHanded {} Try.checked os 3 .any (Rows.fnAccessOnIsCodesReachableFromHeldSpec.pre6 enc Try.prog Try.f3 Rows.fnAccessOnIsCodesReachableFromHeldRow.domain false) (Rows.fnAccessOnIsCodesReachableFromHeldSpec.post enc Try.prog Try.f3 false true false false) := by
  refine returnsInHanded_of_change (C := Try.checked) own started (by kernel_rfl) Try.func3
    (ChangeSpec.witness6 (enc := enc) (C := Try.checked) false ⟨#[], #[.slice none 0 0, .string ByteArray.empty], []⟩ 8 (by kernel_rfl) (by kernel_rfl) (by kernel_rfl) (by kernel_rfl)) ?_
  intro W base args ds gs before hval0 hW hcnd _
  have hval : ∀ (j : Nat) t v, Try.f3.params[j]? = some t → args[j]? = some v → Value.okWide Try.prog W .any base t v := hval0
  have hW' := hW
  obtain ⟨p, q, hA0, hV, rfl, hfz, hnd⟩ := hW
  have hA : DataW.TrodAll enc Try.prog W 0 (fun _ => true) true Try.f3.params.toList args.toList ds p := hA0
  rw [Try.params3] at hA hval
  obtain ⟨v0, vs0, d0, ds0, p0, q0, hargs, rfl, rfl, h0, r0⟩ := trodAll_cons hA
  obtain ⟨v1, vs1, d1, ds1, p1, q1, rfl, rfl, rfl, h1, r1⟩ := trodAll_cons r0
  obtain ⟨rfl, rfl, rfl⟩ := trodAll_nil r1
  obtain rfl : args = #[v0, v1] := by cases args; simp_all
  obtain ⟨rfl, rfl⟩ := trodVars_none hV
  obtain ⟨a0, len0, cap0, rfl⟩ := okWide_slice Try.underlying22 (hval 0 22 v0 rfl rfl)
  obtain ⟨a1, rfl, rfl, rfl, w1⟩ := open_string Try.underlying9 (hval 1 9 v1 rfl rfl) h1
  have k0 := h0
  have lt0 : ∀ x ∈ p0, x.block < W.heap.size := by obtain ⟨m, hm⟩ := k0; exact DataW.trod_lt m _ _ _ hm
  obtain ⟨l, w0⟩ : ∃ l, IsNodes W a0 len0 l := by
    obtain ⟨fuel, hf⟩ := h0
    exact open_nodes hf
  clear hA0 hval0
  refine (walk a0 len0 cap0 l a1 W w0 w1).mono fun e W' ⟨he, bel⟩ => ?_
  subst he
  exact ⟨_, rfl, _, _, _, [], _, [], hW', trodAll_mk1 (shut_bool Try.underlying4 _), (trodAll_cons_mk (Below.trod laidOut (by kernel_rfl) (of_decide_eq_true (by kernel_rfl)) k0 bel lt0) (trodAll_cons_mk (shut_string Try.underlying9 w1) trodAll_mk0)), rfl, bel.frame _, fun h => by cases h⟩

theorem over : Rows.fnAccessOnIsCodesReachableFromHeldRow.holds Try.pinned (OpenSpec.ofChange Rows.fnAccessOnIsCodesReachableFromHeldSpec) :=
  OpenClaim.holds_of_wide 3 Try.f3 rfl rfl rfl rfl rfl rfl rfl ⟨rfl, rfl, rfl, rfl, rfl⟩ rfl rfl rfl rfl rfl (by kernel_rfl) Try.func3 (by kernel_rfl)
    (of_decide_eq_true (by kernel_rfl)) (by unfold Func.isWrapper; first | (rw [if_pos (by decide +kernel)]; kernel_rfl) | (rw [if_neg (by decide +kernel)]; exact ⟨rfl, rfl⟩))
    (fun os started H enc _ => lifted os started H enc)

/-- ████ THE STATEMENT ████ -/
theorem proved : Rows.FnAccessOnIsCodesReachableFromHeldSaid := over
#print axioms proved
end Go.Proofs.Qxb6618458a.fnAccessOnIsCodesReachableFromHeld
