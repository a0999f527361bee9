/-
  zzJoinFromFirstNonEmpty (10) computes the fold too.
-/
import Derived.Test.Qxb6619223aPath
import Derived.Deep.DeepCutAuto
import Derived.Deep.CutBlock
namespace Go.Proofs.Qxb6619223a
open Go.RowKit

/-- The buffer: it holds the bytes of t, in memory of the call's own. -/
def buf (w wr : World) (v : Value) (t : ByteArray) : Prop := wr.ownsRow w.heap.size 5 1 v t.size (Lib.strCells t) ∧ Below w.heap.size w wr

theorem buf_nil (w : World) : buf w w (.slice none 0 0) ByteArray.empty := ⟨World.ownsRow_nil _ _ _ _, Below.refl _ _⟩

theorem buf_alloc {w wr : World} {v : Value} {t : ByteArray} (h : buf w wr v t) (ob : Obj) : buf w (wr.alloc ob) v t := ⟨h.1.alloc ob, h.2.alloc h.2.size ob⟩

theorem buf_grown {w wr w' : World} {v v' : Value} {t s : ByteArray} (h : buf w wr v t) (ho : w'.ownsRow w.heap.size 5 1 v' (t.size + s.size) (Lib.strCells t ++ Lib.strCells s)) (hg : wr.grownBy w' v.ownBlock) : buf w w' v' (t ++ s) := by
  refine ⟨by rw [strCells_append, ByteArray.size_append]; exact ho, h.2.grown hg h.2.size (fun k hk => (h.1.lt k hk).1)⟩

theorem empty_append (p : ByteArray) : ByteArray.empty ++ p = p := by
  apply ByteArray.ext
  simp
theorem eq_empty {p : ByteArray} (h : p.size = 0) : p = ByteArray.empty := by
  apply ByteArray.ext
  exact Array.eq_empty_of_size_eq_zero h
set_option maxRecDepth 100000 in
set_option maxHeartbeats 1000000 in
theorem join_any (p : ByteArray) (xa : Option Addr) (b o xl xc : Nat) (ns : List ByteArray) (w : World) (hxa : 0 < xl → xa = some ⟨b, o, none⟩) (hl : ns.length = xl) (hx : xl ≤ 1048576)
    (hc : ∀ j, j < xl → w.cell? ⟨b, o + j, none⟩ = some (.string (ns.getD j ByteArray.empty))) (hsz : p.size + tot ns ≤ 2097152) :
    Calls Try.prog 10 #[.string p, .slice xa xl xc] w fun e w' => e = .returned (.string (foldB p ns)) ∧ Below w.heap.size w w' := by
  obtain ⟨i0, hi, hz0, hz1, hz2⟩ := info_parts info5
  have HL : Hid (ns.length = xl) := hl
  have HZ : Hid (p.size + tot ns ≤ 2097152) := hsz
  have hp : p.size ≤ 2097152 := by omega
  clear hl hsz
  go_enter Try.func10, Try.ntmps10
  go_upto_if 11 with fail
  go_cut [5, 6] (fun v b wc => b = .bool (decide (0 < p.size)) ∧ buf w wc v p)
  case first =>
    by_cases hp0 : 0 < p.size
    · go_wp2_with (at_builtin; refine Lib.wpList_append_own_string _ rfl _ _ 32 9 rfl w.heap.size 5 i0 Try.underlying32 Try.underlying9 hi hz0 hz1 hz2 _ 0 [] rfl (World.ownsRow_nil _ _ _ _) p rfl (by unfold maxLen; omega) (by omega) (Nat.le_refl _) ?_; intro v1 w1 hown1 hg1 _)
      go_meet
      case rel => exact ⟨by simp [hp0], by rw [← empty_append p]; exact buf_grown (buf_nil w) (by rw [empty_size]; exact hown1) hg1⟩
    · go_wp2_with fail
      go_meet
      case rel => exact ⟨by simp [hp0], by rw [eq_empty (p := p) (by omega)]; exact buf_nil w⟩
  case rest =>
    obtain ⟨rfl, hbuf⟩ := hcut
    generalize u5 = v0 at *
    go_wp2_with fail
    go_loopw [5, 6, 7] (fun v bb i wr => ∃ k : Nat, k ≤ xl ∧ i = .int .i64 k ∧ bb = .bool (decide (0 < (foldB p (ns.take k)).size)) ∧ buf w wr v (foldB p (ns.take k))) (fun _ _ i _ => xl - (intOf i).toNat)
    case atStart => exact ⟨0, Nat.zero_le _, rfl, rfl, hbuf⟩
    case round =>
      obtain ⟨k, hk, rfl, rfl, hb⟩ := hrel
      clear hbuf
      by_cases hlt : k < xl
      · obtain rfl := hxa (by omega)
        have hst := foldB_step p (ns := ns) (k := k) (by rw [HL.out]; exact hlt)
        have hss := size_step p (ns := ns) (k := k) (by rw [HL.out]; exact hlt)
        have hz := HZ.out
        have hcell := hc k hlt
        have hbw : b < w.heap.size := World.block_lt_of_cell? _ _ hcell
        generalize ns.getD k ByteArray.empty = nm at *
        generalize foldB p (ns.take k) = t at *
        have hsum : t.size + nm.size + 1 ≤ 2097152 := by omega
        have HS := show Hid _ from hst
        have HC := show Hid _ from hcell
        have hcr : wr.cell? ⟨b, o + k, none⟩ = some (.string nm) := (hb.2.cell (by exact hbw)).trans HC.out
        have hwz : w.heap.size ≤ wr.heap.size := hb.2.size
        clear hst hss hz hxa hc hcell
        by_cases ht : t.size = 0
        · have ht' : decide (0 < t.size) = false := by simp [ht]
          by_cases hn : nm.size = 0
          · go_wp2_with fail
            go_roundw
            case rel => exact ⟨k + 1, by omega, by go_num, by rw [HS.out, mpB_nil ht]; simp [hn, eq_empty ht], by rw [HS.out, mpB_nil ht, (eq_empty hn).trans (eq_empty ht).symm]; exact hb⟩
            case measure => simp [intOf]; omega
          · go_wp2_with (at_builtin; refine Lib.wpList_append_own_string _ rfl _ _ 32 9 rfl w.heap.size 5 i0 Try.underlying32 Try.underlying9 hi hz0 hz1 hz2 _ _ _ rfl hb.1 nm rfl (by unfold maxLen; omega) (by omega) hwz ?_; intro v1 w1 hown1 hg1 _)
            go_roundw
            case rel => exact ⟨k + 1, by omega, by go_num, by rw [HS.out, mpB_nil ht]; simp; omega, by
              have h1 := buf_grown hb hown1 hg1
              rw [eq_empty ht, empty_append] at h1
              rw [HS.out, mpB_nil ht]; exact h1⟩
            case measure => simp [intOf]; omega
        · have ht' : decide (0 < t.size) = true := by simp; omega
          go_wp2_with (at_builtin; refine wpList_append_own _ rfl _ _ 32 rfl w.heap.size 5 i0 (.int .u8 0) 1 1 Try.underlying32 hi hz0 hz1 hz2 rfl (by decide) _ _ _ rfl (hb.1.alloc _) ⟨wr.heap.size, 0, none⟩ 1 1 [.int .u8 46] rfl rfl (cell_one_new _ _ _) (ints_oneCell .u8 [46]) (by unfold maxLen; omega) (by omega) (by simp; omega) ?_)
          intro v1 w1 hown1 hg1 _
          have hb1 : buf w w1 v1 (t ++ ⟨#[46]⟩) := buf_grown (buf_alloc hb _) (by rw [strCells_dot]; exact hown1) hg1
          have hs1 : (t ++ ⟨#[46]⟩).size = t.size + 1 := by rw [ByteArray.size_append]; rfl
          have hcr1 : w1.cell? ⟨b, o + k, none⟩ = some (.string nm) := (hb1.2.cell (by exact hbw)).trans HC.out
          have hwz1 : w.heap.size ≤ w1.heap.size := hb1.2.size
          have HB1 := show Hid _ from hb1
          clear hg1 hown1 hb hcr hb1
          go_wp2_with (at_builtin; refine Lib.wpList_append_own_string _ rfl _ _ 32 9 rfl w.heap.size 5 i0 Try.underlying32 Try.underlying9 hi hz0 hz1 hz2 _ _ _ rfl HB1.out.1 nm rfl (by unfold maxLen; omega) (by omega) hwz1 ?_; intro v2 w2 hown2 hg2 _)
          go_roundw
          case rel => exact ⟨k + 1, by omega, by go_num, by
              rw [HS.out]; have := mp_ne (n := nm) ht; simp; omega, by
              rw [HS.out, mpB_cons ht]; exact buf_grown HB1.out hown2 hg2⟩
          case measure => simp [intOf]; omega
      · have hcv := run_convert_own hb.1
        have HR : Hid (foldB p (ns.take k) = foldB p ns) := by
          show foldB p (ns.take k) = foldB p ns
          rw [List.take_of_length_le (by rw [HL.out]; omega)]
        clear hxa hc
        go_wp2_with fail
        go_ret
        exact ⟨ret_str HR.out, hb.2⟩
end Go.Proofs.Qxb6619223a
