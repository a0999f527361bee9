/-
  (Transaction).AppendLine (11): what comes back holds dst's bytes and, behind them, the line.
-/
import Derived.Test.Qxb6619248aDoorClone
import Derived.Lib.ItoaLen
import Derived.Deep.DeepCutAuto
import Derived.Deep.CutBlock
namespace Go.Proofs.Qxb6619248aDoor
open Go.RowKit

/-- A buffer of the call's own on its way: what it holds; below B nothing has turned, and no block that is no row of bytes has. -/
def grows (B : Nat) (w wr : World) (v : Value) (l : List UInt8) : Prop := owns wr B v l ∧ Below B w wr ∧ Lib.OthersKept 5 none w wr ∧ B ≤ wr.heap.size

theorem grows_alloc {B : Nat} {w wr : World} {v : Value} {l : List UInt8} (h : grows B w wr v l) (ob : Obj) : grows B w (wr.alloc ob) v l :=
  ⟨World.ownsRow.alloc h.1 ob, h.2.1.alloc h.2.2.2 ob, h.2.2.1.alloc ob, Nat.le_trans h.2.2.2 (by simp)⟩

theorem own_row {B : Nat} {wr : World} {v : Value} {l : List UInt8} (h : owns wr B v l) : ∀ g, v.ownBlock = some g → ∃ c fz, wr.heap[g]? = some (.cells c 5 fz) := by
  intro g hg
  rcases h.2 with ⟨rfl, _⟩ | ⟨g', cap, cur, rfl, _, hh, _⟩
  · simp [Value.ownBlock] at hg
  · simp [Value.ownBlock] at hg
    subst hg
    exact ⟨_, _, hh⟩

theorem grows_step {B : Nat} {w wr w' : World} {v v' : Value} {l : List UInt8} (h : grows B w wr v l) {n : Nat} {xs : List Value} {r : List UInt8} (ho : w'.ownsRow B 5 1 v' n (Lib.byteCells l ++ xs)) (hx : xs = Lib.byteCells r) (hn : n = l.length + r.length)
    (hg : wr.grownBy w' v.ownBlock) : grows B w w' v' (l ++ r) := by
  subst hx; subst hn
  refine ⟨?_, h.2.1.grown hg h.2.2.2 (fun k hk => (World.ownsRow.lt h.1 k hk).1), h.2.2.1.grown hg (own_row h.1), Nat.le_trans h.2.2.2 hg.size⟩
  unfold owns
  rw [Lib.byteCells_append, List.length_append]
  exact ho

theorem strCells_eq (s : ByteArray) : Lib.strCells s = Lib.byteCells s.data.toList := rfl
theorem size_eq (s : ByteArray) : s.size = s.data.toList.length := rfl

/-- The box of a struct parameter stays while the buffer grows. -/
theorem box_cell {B : Nat} {w wr : World} {v : Value} {l : List UInt8} {cs : Array Value} (h : grows B (w.alloc (.cells cs 33)) wr v l) {i : Nat} {u : Value} (hi : cs[i]? = some u) : wr.cell? ⟨w.heap.size, i, none⟩ = some u := by
  have h1 : (w.alloc (.cells cs 33)).heap[w.heap.size]? = some (.cells cs 33) := heap_alloc_new w _
  have h2 := h.2.2.1 w.heap.size _ h1 (by simp) (fun c fz e => by cases e)
  simp [World.cell?, h2, hi]

theorem app_max {n m : Nat} {s : ByteArray} (hs : s.size = m) (h : n + m ≤ 8388608) : n + s.size ≤ maxLen := by
  unfold maxLen; omega
theorem app_bytes {n m : Nat} {s : ByteArray} (hs : s.size = m) (h : n + m ≤ 8388608) : n + s.size ≤ 140737488355328 := by omega

set_option maxRecDepth 100000 in
set_option maxHeartbeats 1000000 in
theorem line_any (B : Nat) (kind : Int) (hk : kind = 1 ∨ kind = 2) (fr tt : ByteArray) (a : Int) (a0 : -9223372036854775808 ≤ a) (a1 : a ≤ 9223372036854775807) (sv : Value) (l : List UInt8) (w : World)
    (hown : owns w B sv l) (hB : B ≤ w.heap.size) (hsz : l.length + fr.size + tt.size ≤ 4194304) (htab : Lib.TabBelow Tryd.prog B w "internal/strconv.uint64pow10" .u64 Lib.pow10Tab) :
    Calls Tryd.prog 11 #[.agg #[.int .u8 kind, .string fr, .string tt, .int .i64 a], sv] w fun e w' => (∃ v', e = .returned v' ∧ grows B w w' v' (l ++ lineL kind fr.data.toList tt.data.toList a)) := by
  obtain ⟨i0, hi, hz0, hz1, hz2⟩ := info_parts info5
  have hia := Lib.itoa_length_le a a0 a1
  have hg0 : grows B (w.alloc (.cells #[.int .u8 kind, .string fr, .string tt, .int .i64 a] 33)) (w.alloc (.cells #[.int .u8 kind, .string fr, .string tt, .int .i64 a] 33)) sv l :=
    ⟨World.ownsRow.alloc hown _, Below.refl _ _, Lib.OthersKept.refl _ _ _, Nat.le_trans hB (by simp)⟩
  have HG0 : Hid (grows B (w.alloc (.cells #[.int .u8 kind, .string fr, .string tt, .int .i64 a] 33)) (w.alloc (.cells #[.int .u8 kind, .string fr, .string tt, .int .i64 a] 33)) sv l) := hg0
  have HTAB : Hid (Lib.TabBelow Tryd.prog B w "internal/strconv.uint64pow10" .u64 Lib.pow10Tab) := htab
  clear hg0 htab hown
  go_enter Tryd.func11, Tryd.ntmps11
  go_upto_block 0 with fail
  go_cut [1] (fun v wc => grows B (w.alloc (.cells #[.int .u8 kind, .string fr, .string tt, .int .i64 a] 33)) wc v (l ++ headL kind fr.data.toList))
  case first =>
    rcases hk with rfl | rfl
    · go_wp2_with (at_builtin; go_must (refine Lib.wpList_append_own_string _ rfl _ _ 22 9 rfl B 5 i0 Tryd.underlying22 Tryd.underlying9 hi hz0 hz1 hz2 _ _ _ rfl HG0.out.1 ⟨#[68, 69, 80, 79, 83, 73, 84, 32]⟩ rfl (app_max (m := 8) rfl (by omega)) (app_bytes (m := 8) rfl (by omega)) HG0.out.2.2.2 ?_); intro v1 w1 hown1 hg1 _)
      go_meet
      case rel => exact grows_step HG0.out hown1 (strCells_eq _) rfl hg1
    · go_wp2_with (at_builtin; go_must (refine Lib.wpList_append_own_string _ rfl _ _ 22 9 rfl B 5 i0 Tryd.underlying22 Tryd.underlying9 hi hz0 hz1 hz2 _ _ _ rfl HG0.out.1 ⟨#[84, 82, 65, 78, 83, 70, 69, 82, 32]⟩ rfl (app_max (m := 9) rfl (by omega)) (app_bytes (m := 9) rfl (by omega)) HG0.out.2.2.2 ?_))
      intro v1 w1 hown1 hg1 _
      have hg1' : grows B (w.alloc (.cells #[.int .u8 2, .string fr, .string tt, .int .i64 a] 33)) w1 v1 (l ++ [84, 82, 65, 78, 83, 70, 69, 82, 32]) := grows_step HG0.out hown1 (strCells_eq _) rfl hg1
      obtain ⟨l1, hl1⟩ : ∃ l1, l1 = l ++ [84, 82, 65, 78, 83, 70, 69, 82, 32] := ⟨_, rfl⟩
      have hn1 : l1.length ≤ l.length + 9 := by rw [hl1, List.length_append]; first | (simp; done) | (simp; omega)
      rw [← hl1] at hg1'
      have HL1 : Hid (l1 = l ++ [84, 82, 65, 78, 83, 70, 69, 82, 32]) := hl1
      have HG1 : Hid (grows B (w.alloc (.cells #[.int .u8 2, .string fr, .string tt, .int .i64 a] 33)) w1 v1 l1) := hg1'
      clear hl1 hg1 hg1' hown1
      have hfr : w1.cell? ⟨w.heap.size, 1, none⟩ = some (.string fr) := box_cell HG1.out rfl
      go_wp2_with (at_builtin; go_must (refine Lib.wpList_append_own_string _ rfl _ _ 22 9 rfl B 5 i0 Tryd.underlying22 Tryd.underlying9 hi hz0 hz1 hz2 _ _ _ rfl HG1.out.1 fr rfl (app_max (m := fr.size) rfl (by omega)) (app_bytes (m := fr.size) rfl (by omega)) HG1.out.2.2.2 ?_))
      intro v2 w2 hown2 hg2 _
      clear hfr
      have hg2' : grows B (w.alloc (.cells #[.int .u8 2, .string fr, .string tt, .int .i64 a] 33)) w2 v2 (l1 ++ fr.data.toList) := grows_step HG1.out hown2 (strCells_eq _) rfl hg2
      obtain ⟨l2, hl2⟩ : ∃ l2, l2 = l1 ++ fr.data.toList := ⟨_, rfl⟩
      have hn2 : l2.length ≤ l.length + 9 + fr.size := by rw [hl2, List.length_append]; first | (simp; done) | (simp; omega)
      rw [← hl2] at hg2'
      have HL2 : Hid (l2 = l1 ++ fr.data.toList) := hl2
      have HG2 : Hid (grows B (w.alloc (.cells #[.int .u8 2, .string fr, .string tt, .int .i64 a] 33)) w2 v2 l2) := hg2'
      clear hl2 hg2 hg2' hown2
      go_wp2_with (at_builtin; go_must (refine Lib.wpList_append_own_string _ rfl _ _ 22 9 rfl B 5 i0 Tryd.underlying22 Tryd.underlying9 hi hz0 hz1 hz2 _ _ _ rfl HG2.out.1 ⟨#[32, 45, 62, 32]⟩ rfl (app_max (m := 4) rfl (by omega)) (app_bytes (m := 4) rfl (by omega)) HG2.out.2.2.2 ?_))
      intro v3 w3 hown3 hg3 _
      have hg3' : grows B (w.alloc (.cells #[.int .u8 2, .string fr, .string tt, .int .i64 a] 33)) w3 v3 (l2 ++ [32, 45, 62, 32]) := grows_step HG2.out hown3 (strCells_eq _) rfl hg3
      obtain ⟨l3, hl3⟩ : ∃ l3, l3 = l2 ++ [32, 45, 62, 32] := ⟨_, rfl⟩
      have hn3 : l3.length ≤ l.length + 13 + fr.size := by rw [hl3, List.length_append]; first | (simp; done) | (simp; omega)
      rw [← hl3] at hg3'
      have HL3 : Hid (l3 = l2 ++ [32, 45, 62, 32]) := hl3
      have HG3 : Hid (grows B (w.alloc (.cells #[.int .u8 2, .string fr, .string tt, .int .i64 a] 33)) w3 v3 l3) := hg3'
      clear hl3 hg3 hg3' hown3
      go_wp2_with fail
      go_meet
      case rel =>
        have e : l ++ headL 2 fr.data.toList = l3 := by
          rw [HL3.out, HL2.out, HL1.out]; simp [headL]
        rw [e]; exact HG3.out
  case rest =>
    have hh := head_len kind fr.data.toList
    have hfs : fr.data.toList.length = fr.size := rfl
    have hts : tt.data.toList.length = tt.size := rfl
    obtain ⟨l4, hl4⟩ : ∃ l4, l4 = l ++ headL kind fr.data.toList := ⟨_, rfl⟩
    have hn4 : l4.length ≤ l.length + fr.size + 13 := by rw [hl4, List.length_append]; omega
    rw [← hl4] at hcut
    have HL4 : Hid (l4 = l ++ headL kind fr.data.toList) := hl4
    have HG4 : Hid (grows B (w.alloc (.cells #[.int .u8 kind, .string fr, .string tt, .int .i64 a] 33)) wc u1 l4) := hcut
    clear hl4 hcut hh hfs hts
    have hc2 : wc.cell? ⟨w.heap.size, 2, none⟩ = some (.string tt) := box_cell HG4.out rfl
    go_wp2_with (at_builtin; go_must (refine Lib.wpList_append_own_string _ rfl _ _ 22 9 rfl B 5 i0 Tryd.underlying22 Tryd.underlying9 hi hz0 hz1 hz2 _ _ _ rfl HG4.out.1 tt rfl (app_max (m := tt.size) rfl (by omega)) (app_bytes (m := tt.size) rfl (by omega)) HG4.out.2.2.2 ?_))
    intro v5 w5 hown5 hg5 _
    clear hc2
    have hg5' : grows B (w.alloc (.cells #[.int .u8 kind, .string fr, .string tt, .int .i64 a] 33)) w5 v5 (l4 ++ tt.data.toList) := grows_step HG4.out hown5 (strCells_eq _) rfl hg5
    obtain ⟨l5, hl5⟩ : ∃ l5, l5 = l4 ++ tt.data.toList := ⟨_, rfl⟩
    have hn5 : l5.length ≤ l.length + fr.size + tt.size + 13 := by rw [hl5, List.length_append]; simp; omega
    rw [← hl5] at hg5'
    have HL5 : Hid (l5 = l4 ++ tt.data.toList) := hl5
    have HG5 : Hid (grows B (w.alloc (.cells #[.int .u8 kind, .string fr, .string tt, .int .i64 a] 33)) w5 v5 l5) := hg5'
    clear hl5 hg5 hg5' hown5
    go_wp2_with (at_builtin; go_must (refine wpList_append_own _ rfl _ _ 22 rfl B 5 i0 (.int .u8 0) 1 1 Tryd.underlying22 hi hz0 hz1 hz2 rfl (by decide) _ _ _ rfl (World.ownsRow.alloc HG5.out.1 _) ⟨w5.heap.size, 0, none⟩ 1 1 [.int .u8 32] rfl rfl (cell_one_new _ _ _) (ints_oneCell .u8 [32]) (by unfold maxLen; omega) (by omega) (by have := HG5.out.2.2.2; simp; omega) ?_))
    intro v6 w6 hown6 hg6 _
    have hg6' : grows B (w.alloc (.cells #[.int .u8 kind, .string fr, .string tt, .int .i64 a] 33)) w6 v6 (l5 ++ [32]) := grows_step (grows_alloc HG5.out _) hown6 rfl rfl hg6
    obtain ⟨l6, hl6⟩ : ∃ l6, l6 = l5 ++ [32] := ⟨_, rfl⟩
    have hn6 : l6.length ≤ l.length + fr.size + tt.size + 14 := by rw [hl6, List.length_append]; simp; omega
    rw [← hl6] at hg6'
    have HL6 : Hid (l6 = l5 ++ [32]) := hl6
    have HG6 : Hid (grows B (w.alloc (.cells #[.int .u8 kind, .string fr, .string tt, .int .i64 a] 33)) w6 v6 l6) := hg6'
    clear hl6 hg6 hg6' hown6
    have hc3 : w6.cell? ⟨w.heap.size, 3, none⟩ = some (.int .i64 a) := box_cell HG6.out rfl
    have hT6 : Lib.TabBelow Tryd.prog B w6 "internal/strconv.uint64pow10" .u64 Lib.pow10Tab := HTAB.out.on (((Below.refl _ _).alloc hB _).trans HG6.out.2.1)
    have HT6 : Hid (Lib.TabBelow Tryd.prog B w6 "internal/strconv.uint64pow10" .u64 Lib.pow10Tab) := hT6
    clear hT6
    go_wp2_with (go_at_call 18; go_must (refine (Tryd.strconv_AppendInt_10 B _ a a0 a1 v6 _ w6 HG6.out.1 HG6.out.2.2.2 (by omega) HT6.out).mono ?_; rintro e w7 ⟨v7, rfl, hown7, hb7, hk7⟩; refine Hid.out ?_))
    refine Lib.hid ?_
    obtain ⟨l7, hl7⟩ : ∃ l7, l7 = l6 ++ Lib.itoa a := ⟨_, rfl⟩
    have hn7 : l7.length ≤ l.length + fr.size + tt.size + 35 := by rw [hl7, List.length_append]; omega
    have hg7 : grows B (w.alloc (.cells #[.int .u8 kind, .string fr, .string tt, .int .i64 a] 33)) w7 v7 l7 := by
      rw [hl7]
      exact ⟨by unfold owns; rw [Lib.byteCells_append, List.length_append]; exact hown7, HG6.out.2.1.trans hb7, HG6.out.2.2.1.trans hk7, Nat.le_trans HG6.out.2.2.2 hb7.size⟩
    have HL7 : Hid (l7 = l6 ++ Lib.itoa a) := hl7
    have HG7 : Hid (grows B (w.alloc (.cells #[.int .u8 kind, .string fr, .string tt, .int .i64 a] 33)) w7 v7 l7) := hg7
    clear hl7 hg7 hown7 hb7 hk7 hc3
    go_wp2_with (at_builtin; go_must (refine wpList_append_own _ rfl _ _ 22 rfl B 5 i0 (.int .u8 0) 1 1 Tryd.underlying22 hi hz0 hz1 hz2 rfl (by decide) _ _ _ rfl (World.ownsRow.alloc HG7.out.1 _) ⟨w7.heap.size, 0, none⟩ 1 1 [.int .u8 10] rfl rfl (cell_one_new _ _ _) (ints_oneCell .u8 [10]) (by unfold maxLen; omega) (by omega) (by have := HG7.out.2.2.2; simp; omega) ?_))
    intro v8 w8 hown8 hg8 _
    have hg8' : grows B (w.alloc (.cells #[.int .u8 kind, .string fr, .string tt, .int .i64 a] 33)) w8 v8 (l7 ++ [10]) := grows_step (grows_alloc HG7.out _) hown8 rfl rfl hg8
    obtain ⟨l8, hl8⟩ : ∃ l8, l8 = l7 ++ [10] := ⟨_, rfl⟩
    have hn8 : l8.length ≤ l.length + fr.size + tt.size + 36 := by rw [hl8, List.length_append]; simp; omega
    rw [← hl8] at hg8'
    have HL8 : Hid (l8 = l7 ++ [10]) := hl8
    have HG8 : Hid (grows B (w.alloc (.cells #[.int .u8 kind, .string fr, .string tt, .int .i64 a] 33)) w8 v8 l8) := hg8'
    clear hl8 hg8 hg8' hown8
    go_wp2_with fail
    go_ret
    refine ⟨v8, rfl, ?_⟩
    have e : l ++ lineL kind fr.data.toList tt.data.toList a = l8 := by
      rw [HL8.out, HL7.out, HL6.out, HL5.out, HL4.out]; simp [lineL]
    rw [e]
    exact ⟨HG8.out.1, ((Below.refl _ _).alloc hB _).trans HG8.out.2.1, ((Lib.OthersKept.refl _ _ _).alloc _).trans HG8.out.2.2.1, HG8.out.2.2.2⟩
end Go.Proofs.Qxb6619248aDoor
