/-
  The law's own walk (4).
-/
import Derived.Test.Qxb6619248aDoorBack
import Derived.BigQuiet
namespace Go.Proofs.Qxb6619248aDoor
open Go.RowKit

/-- Both copies, and the two structs: what the law holds when it comes to the first line. -/
theorem clone_any (x : Option Addr) (cap : Nat) (l : List UInt8) (w : World) (hl : l.length ≤ 1048576) (hx : x = none → l = [] ∧ cap = 0) (hc : ∀ y, x = some y → ∀ j, j < l.length → w.cell? (y.add j) = some (.int .u8 (bz l j))) :
    Calls Tryd.prog 6 #[.slice x l.length cap] w fun e w' => (∃ v, e = .returned v ∧ owns w' w.heap.size v l) ∧ Below w.heap.size w w' := by
  cases x with
  | none =>
    obtain ⟨rfl, rfl⟩ := hx rfl
    refine (clone_none w).mono ?_
    rintro e w' ⟨rfl, rfl⟩
    exact ⟨⟨_, rfl, World.ownsRow_nil _ _ _ _⟩, Below.refl _ _⟩
  | some y => exact clone_some y cap l w hl (hc y rfl)

theorem run_len_own {w w' : World} {B : Nat} {v : Value} {l : List UInt8} (h : owns w B v l) (ty : TypeId) : (Builtin.len_ #[22] ty #[v]).run Tryd.prog w' = .ok (.int .i64 l.length) w' := by
  rcases h.2 with ⟨rfl, h0⟩ | ⟨g, cap, cur, rfl, _⟩
  · rw [h0]; simp [Builtin.len_, run_underlying Tryd.underlying22, Result.andThen, goInt]
  · simp [Builtin.len_, run_underlying Tryd.underlying22, Result.andThen, goInt]

theorem own_cells {w : World} {B g N c : Nat} {l : List UInt8} (h : owns w B (.slice (some ⟨g, 0, none⟩) N c) l) : ∀ j, j < l.length → w.cell? ⟨g, 0 + j, none⟩ = some (.int .u8 (bz l j)) := fun j hj => by
  have := World.ownsRow.cells h (g := g) rfl j _ (byteCells_at hj)
  rwa [Addr.add_lit] at this

theorem run_str_own {w : World} {B : Nat} {v : Value} {l : List UInt8} (h : owns w B v l) (n : Nat) : (convert 22 9 v).run Tryd.prog (w.drewN n) = .ok (.string ⟨l.toArray⟩) (w.drewN n) := by
  rcases h.2 with ⟨rfl, h0⟩ | ⟨g, cap, cur, rfl, _⟩
  · have : l = [] := List.eq_nil_of_length_eq_zero h0
    subst this
    exact run_convert_bytes_nil (w.drewN n) 22 5 Tryd.underlying22 Tryd.underlying5 0 0 9 Tryd.underlying9
  · exact run_str (w.drewN n) g 0 cap l (own_cells h)

/-- The head of what is owned. -/
theorem run_str_head {w : World} {B g N c : Nat} {l r : List UInt8} (h : owns w B (.slice (some ⟨g, 0, none⟩) N c) (l ++ r)) (n : Nat) : (convert 22 9 (.slice (some ⟨g, 0, none⟩) l.length c)).run Tryd.prog (w.drewN n) = .ok (.string ⟨l.toArray⟩) (w.drewN n) :=
  run_str (w.drewN n) g 0 c l (fun j hj => by
    have := own_cells h j (by rw [List.length_append]; omega)
    rw [bz_left hj] at this
    exact this)

theorem tail_cells {w : World} {B g N c : Nat} {l r : List UInt8} (h : owns w B (.slice (some ⟨g, 0, none⟩) N c) (l ++ r)) : ∀ j, j < r.length → w.cell? ⟨g, l.length + j, none⟩ = some (.int .u8 (bz r j)) := fun j hj => by
  have := own_cells h (l.length + j) (by rw [List.length_append]; omega)
  rwa [bz_right, Nat.zero_add] at this

theorem parse_n (b off cap N : Nat) (P : List UInt8) (a : Int) (a0 : -9223372036854775808 ≤ a) (a1 : a ≤ 9223372036854775807) (w : World) (hP : P.length ≤ 8388608) (hN : N = (tailL P a).length) (hcap : N ≤ cap)
    (hc : ∀ j, j < (tailL P a).length → w.cell? ⟨b, off + j, none⟩ = some (.int .u8 (bz (tailL P a) j))) :
    Calls Tryd.prog 12 #[.slice (some ⟨b, off, none⟩) N cap] w fun e w' => e = .returned (.tuple #[.int .i64 P.length, .int .i64 a, .bool true]) ∧ w' = w := by
  subst hN
  exact parse_any b off cap P a a0 a1 w hP hcap hc

theorem ends_pt (b off cap : Nat) (PT h : List UInt8) (s : ByteArray) (w : World) (hP : PT = h ++ s.data.toList) (hb : PT.length ≤ 8388608) (hcap : PT.length < cap)
    (hc : ∀ j, j < PT.length → w.cell? ⟨b, off + j, none⟩ = some (.int .u8 (bz PT j))) :
    Calls Tryd.prog 13 #[.slice (some ⟨b, off, none⟩) PT.length cap, .string s] w fun e w' => e = .returned (.bool true) ∧ w' = w := by
  subst hP
  exact ends_any b off cap _ h s.data.toList s w rfl (by rw [List.length_append]) hb hcap hc

theorem tab_later {w w1 w2 : World} {nm : String} {k : IntKind} {zs : List Int} (h : Lib.TabBelow Tryd.prog w.heap.size w nm k zs) (h1 : Below w.heap.size w w1) (h2 : Below w1.heap.size w1 w2) : Lib.TabBelow Tryd.prog w1.heap.size w2 nm k zs :=
  fun w' hb => h w' (h1.trans ((h2.trans hb).mono h1.size))
theorem tab_now {w w3 : World} {nm : String} {k : IntKind} {zs : List Int} (h : Lib.TabBelow Tryd.prog w.heap.size w nm k zs) (h1 : Below w.heap.size w w3) : Lib.TabBelow Tryd.prog w3.heap.size w3 nm k zs :=
  fun w' hb => h w' (h1.trans (hb.mono h1.size))

/-- What is owned below B' stays while nothing below B' turns. -/
theorem owns_later {w w' : World} {B : Nat} {v : Value} {l : List UInt8} (h : owns w B v l) (hb : Below w.heap.size w w') : owns w' B v l := by
  refine ⟨h.1, ?_⟩
  rcases h.2 with h0 | ⟨g, cap, cur, rfl, h1, hg, r⟩
  · exact .inl h0
  · exact .inr ⟨g, cap, cur, rfl, h1, (hb.block g (Array.getElem?_eq_some_iff.1 hg).1).trans hg, r⟩

theorem struct_cell {w w' : World} {o1 : Obj} {cs : Array Value} (h : Lib.OthersKept 5 none ((w.alloc o1).alloc (.cells cs 33)) w') {i : Nat} {u : Value} (hi : cs[i]? = some u) : w'.cell? ⟨w.heap.size + 1, i, none⟩ = some u := by
  have h1 : ((w.alloc o1).alloc (.cells cs 33)).heap[w.heap.size + 1]? = some (.cells cs 33) := by
    have := heap_alloc_new (w.alloc o1) (.cells cs 33)
    simpa using this
  have h2 := h (w.heap.size + 1) _ h1 (by simp) (fun c fz e => by cases e)
  simp [World.cell?, h2, hi]

theorem pt_len {kind : Int} {fr tt : ByteArray} {PT : List UInt8} (h : PT = headL kind fr.data.toList ++ tt.data.toList) : PT.length ≤ fr.size + tt.size + 13 := by
  have h1 := head_len kind fr.data.toList
  have hfs : fr.data.toList.length = fr.size := rfl
  have hts : tt.data.toList.length = tt.size := rfl
  rw [h, List.length_append]
  omega

theorem line_pt (B : Nat) (kind : Int) (hk : kind = 1 ∨ kind = 2) (fr tt : ByteArray) (PT : List UInt8) (hPT : Hid (PT = headL kind fr.data.toList ++ tt.data.toList)) (a : Int) (a0 : -9223372036854775808 ≤ a) (a1 : a ≤ 9223372036854775807) (sv : Value) (l : List UInt8) (w : World)
    (hown : owns w B sv l) (hB : B ≤ w.heap.size) (hsz : l.length + fr.size + tt.size ≤ 4194304) (htab : Lib.TabBelow Tryd.prog B w "internal/strconv.uint64pow10" .u64 Lib.pow10Tab) :
    Calls Tryd.prog 11 #[.agg #[.int .u8 kind, .string fr, .string tt, .int .i64 a], sv] w fun e w' =>
      (∃ g N c, e = .returned (.slice (some ⟨g, 0, none⟩) N c) ∧ grows B w w' (.slice (some ⟨g, 0, none⟩) N c) (l ++ tailL PT a) ∧ Hid (N = l.length + (tailL PT a).length) ∧ N ≤ c ∧ l.length + PT.length + 3 ≤ N ∧ N ≤ l.length + PT.length + 23) := by
  have e : tailL PT a = lineL kind fr.data.toList tt.data.toList a := by
    rw [hPT.out]; simp [tailL, lineL]
  refine (line_any B kind hk fr tt a a0 a1 sv l w hown hB hsz htab).mono ?_
  rintro e' w' ⟨v', rfl, hg⟩
  rw [← e] at hg
  have h1 : 1 ≤ (Lib.itoa a).length := by
    by_cases h : a < 0
    · rw [itoa_neg_eq h]; simp
    · rw [itoa_pos_eq h]; exact dec_len _
  have h2 := Lib.itoa_length_le a a0 a1
  have h3 : (tailL PT a).length = PT.length + (Lib.itoa a).length + 2 := by simp [tailL]; omega
  rcases hg.1.2 with ⟨_, h0⟩ | ⟨g, c, cur, rfl, _, _, hc, _⟩
  · rw [List.length_append] at h0; omega
  · refine ⟨g, _, c, rfl, hg, by rw [List.length_append]; rfl, hc, ?_, ?_⟩ <;> (rw [List.length_append]; omega)

set_option maxRecDepth 100000 in
set_option maxHeartbeats 1000000 in
theorem law_any (x : Option Addr) (cap : Nat) (l : List UInt8) (kind : Int) (fr tt : ByteArray) (a b : Int) (w : World) (hl : l.length ≤ maxLen) (hx : x = none → l = [] ∧ cap = 0)
    (hc : ∀ y, x = some y → ∀ j, j < l.length → w.cell? (y.add j) = some (.int .u8 (bz l j))) (hf : fr.size ≤ maxLen) (ht : tt.size ≤ maxLen)
    (a0 : -9223372036854775808 ≤ a) (a1 : a ≤ 9223372036854775807) (b0 : -9223372036854775808 ≤ b) (b1 : b ≤ 9223372036854775807) (htab : Lib.TabIs Tryd.prog w "internal/strconv.uint64pow10" .u64 Lib.pow10Tab) :
    Calls Tryd.prog 4 #[.slice x l.length cap, .int .u8 kind, .string fr, .string tt, .int .i64 a, .int .i64 b] w fun e w' => e = .returned (.bool true) ∧ Below w.heap.size w w' := by
  have HT0 : Hid (Lib.TabBelow Tryd.prog w.heap.size w "internal/strconv.uint64pow10" .u64 Lib.pow10Tab) := Lib.tabBelow_of_tabIs htab
  have HX : Hid (x = none → l = [] ∧ cap = 0) := hx
  have HC : Hid (∀ y, x = some y → ∀ j, j < l.length → w.cell? (y.add j) = some (.int .u8 (bz l j))) := hc
  have HL : Hid (l.length ≤ maxLen) := hl
  have HF : Hid (fr.size ≤ maxLen) := hf
  have HTT : Hid (tt.size ≤ maxLen) := ht
  clear htab hx hc
  unfold maxLen at hl hf ht
  by_cases hk : kind = 1 ∨ kind = 2
  · obtain ⟨PT, hPT⟩ : ∃ PT, PT = headL kind fr.data.toList ++ tt.data.toList := ⟨_, rfl⟩
    have hPl := pt_len hPT
    have HPT : Hid (PT = headL kind fr.data.toList ++ tt.data.toList) := hPT
    obtain ⟨hd, hhd⟩ : ∃ hd, PT = hd ++ tt.data.toList := ⟨_, hPT⟩
    have HHD : Hid (PT = hd ++ tt.data.toList) := hhd
    clear hPT hhd
    have h1 : (kind != 1 && kind != 2) = false := by rcases hk with rfl | rfl <;> rfl
    rcases hk with rfl | rfl
    all_goals
      clear h1
      go_enter Tryd.func4, Tryd.ntmps4
      go_wp2_with (go_at_call 10; refine (bytes10_any _ _ _ _ _ _ _ _ _ HL.out HF.out HTT.out).mono ?_; rintro e w' ⟨⟨r, rfl⟩, rfl⟩)
      all_goals try (go_ret; exact ⟨rfl, Below.refl _ _⟩)
      have hsum : l.length + fr.size + tt.size ≤ 1048576 := by omega
      refine (clone_any x cap l _ (by omega) HX.out HC.out).mono ?_
      rintro e w1 ⟨⟨pre, rfl, hpre⟩, hb1⟩
      have HPRE : Hid (owns w1 w'.heap.size pre l) := hpre
      have HB1 : Hid (Below w'.heap.size w' w1) := hb1
      have HC1 : Hid (∀ y, x = some y → ∀ j, j < l.length → w1.cell? (y.add j) = some (.int .u8 (bz l j))) := fun y hy j hj => by
        have h1 := HC.out y hy j hj
        exact (hb1.cell (World.block_lt_of_cell? _ _ h1)).trans h1
      clear hpre hb1
      go_wp2_with fail
      refine (clone_any x cap l _ (by omega) HX.out HC1.out).mono ?_
      rintro e w2 ⟨⟨d2, rfl, hd2⟩, hb2⟩
      have HD2 : Hid (owns w2 w1.heap.size d2 l) := hd2
      have HB2 : Hid (Below w1.heap.size w1 w2) := hb2
      clear hd2 hb2
      go_wp2_with fail
      refine (line_pt w1.heap.size _ (by omega) fr tt PT HPT a a0 a1 d2 l _ (World.ownsRow.alloc (World.ownsRow.alloc HD2.out _) _) (by have := HB2.out.size; simp; omega) (by omega) (tab_later HT0.out HB1.out (((HB2.out.alloc HB2.out.size _)).alloc (by have := HB2.out.size; simp; omega) _))).mono ?_
      rintro e w3 ⟨ga, Na, ca, rfl, hg3, HNA, hca1, hNa1, hNa2⟩
      have k3 : ∀ i u, (#[Value.int .u8 _, .string fr, .string tt, .int .i64 b] : Array Value)[i]? = some u → w3.cell? ⟨w2.heap.size + 1, i, none⟩ = some u := fun i u hi => struct_cell hg3.2.2.1 hi
      have c0 := k3 0 _ rfl
      have c1 := k3 1 _ rfl
      have c2 := k3 2 _ rfl
      have c3 := k3 3 _ rfl
      have HLA : Hid (owns w3 w1.heap.size (.slice (some ⟨ga, 0, none⟩) Na ca) (l ++ tailL PT a)) := hg3.1
      have HB3 : Hid (Below w1.heap.size w1 w3) := (((HB2.out.alloc HB2.out.size _)).alloc (by have := HB2.out.size; simp; omega) _).trans hg3.2.1
      have HT3 : Hid (Lib.TabBelow Tryd.prog w3.heap.size w3 "internal/strconv.uint64pow10" .u64 Lib.pow10Tab) := tab_now HT0.out (HB1.out.trans (HB3.out.mono HB1.out.size))
      clear k3 hg3
      go_wp2_with fail
      refine (line_pt w3.heap.size _ (by omega) fr tt PT HPT b b0 b1 (.slice none 0 0) [] _ (World.ownsRow_nil _ _ _ _) (Nat.le_refl _) (by simp; omega) HT3.out).mono ?_
      rintro e w4 ⟨gb, Nb, cb, rfl, hg4, HNB, hcb1, hNb1, hNb2⟩
      rw [List.length_nil, Nat.zero_add] at hNb1 hNb2
      have HLB : Hid (owns w4 w3.heap.size (.slice (some ⟨gb, 0, none⟩) Nb cb) (tailL PT b)) := hg4.1
      have HB4 : Hid (Below w3.heap.size w3 w4) := hg4.2.1
      have HLA4 : Hid (owns w4 w1.heap.size (.slice (some ⟨ga, 0, none⟩) Na ca) (l ++ tailL PT a)) := owns_later HLA.out HB4.out
      have HPRE4 : Hid (owns w4 w'.heap.size pre l) := owns_later (owns_later HPRE.out HB3.out) HB4.out
      clear hg4 c0 c1 c2 c3 HLA HPRE HT3
      go_wp2_with fail
      have hlp : ∀ ty n, (Builtin.len_ #[22] ty #[pre]).run Tryd.prog (w4.drewN n) = .ok (.int .i64 l.length) (w4.drewN n) := fun ty n => run_len_own HPRE4.out ty
      have hcp : ∀ n, (convert 22 9 pre).run Tryd.prog (w4.drewN n) = .ok (.string ⟨l.toArray⟩) (w4.drewN n) := fun n => run_str_own HPRE4.out n
      have hca : ∀ n, (convert 22 9 (.slice (some ⟨ga, 0, none⟩) l.length ca)).run Tryd.prog (w4.drewN n) = .ok (.string ⟨l.toArray⟩) (w4.drewN n) := fun n => run_str_head HLA4.out n
      have hgd : decide ((Na : Int) < (l.length : Int)) = false := by simp; omega
      have hla1 : l.length ≤ Na := by omega
      have hla2 : l.length ≤ ca := by omega
      have hla3 : 0 < ca := by omega
      go_quiet (fail)
      go_wp2_with fail
      have HCA : Hid (∀ j, j < (tailL PT a).length → w4.cell? ⟨ga, l.length + j, none⟩ = some (.int .u8 (bz (tailL PT a) j))) := tail_cells HLA4.out
      have HCB : Hid (∀ j, j < (tailL PT b).length → w4.cell? ⟨gb, 0 + j, none⟩ = some (.int .u8 (bz (tailL PT b) j))) := own_cells HLB.out
      refine (parse_n ga l.length (ca - l.length) (Na - l.length) PT a a0 a1 (w4.drewN nq) (by omega) (by have := HNA.out; omega) (by omega) HCA.out).mono ?_
      rintro e w5 ⟨rfl, rfl⟩
      go_wp2_with fail
      refine (parse_n gb 0 cb Nb PT b b0 b1 (w4.drewN nq) (by omega) (by have := HNB.out; simpa using this) (by omega) HCB.out).mono ?_
      rintro e w5 ⟨rfl, rfl⟩
      clear hlp hcp hca hgd
      have hsa : ∀ n, (convert 22 9 (.slice (some ⟨ga, l.length, none⟩) PT.length (ca - l.length))).run Tryd.prog (w4.drewN n) = .ok (.string ⟨PT.toArray⟩) (w4.drewN n) := fun n => run_str (w4.drewN n) ga l.length _ PT (fun j hj => by
        have := HCA.out j (by simp [tailL]; omega)
        unfold tailL at this
        rwa [bz_left hj] at this)
      have hsb : ∀ n, (convert 22 9 (.slice (some ⟨gb, 0, none⟩) PT.length cb)).run Tryd.prog (w4.drewN n) = .ok (.string ⟨PT.toArray⟩) (w4.drewN n) := fun n => run_str (w4.drewN n) gb 0 _ PT (fun j hj => by
        have := HCB.out j (by simp [tailL]; omega)
        unfold tailL at this
        rwa [bz_left hj] at this)
      have hpa : PT.length ≤ ca - l.length := by omega
      have hpb : PT.length ≤ cb := by omega
      have hpc : 0 < ca - l.length := by omega
      have hpd : 0 < cb := by omega
      go_wp2_with fail
      have hsa' : ∀ n, (convert 22 9 (.slice (some ⟨ga, l.length, none⟩) PT.length (ca - l.length))).run Tryd.prog ((w4.drewN nq).drewN n) = .ok (.string ⟨PT.toArray⟩) ((w4.drewN nq).drewN n) := fun n => by rw [World.drewN_drewN]; exact hsa _
      have hsb' : ∀ n, (convert 22 9 (.slice (some ⟨gb, 0, none⟩) PT.length cb)).run Tryd.prog ((w4.drewN nq).drewN n) = .ok (.string ⟨PT.toArray⟩) ((w4.drewN nq).drewN n) := fun n => by rw [World.drewN_drewN]; exact hsb _

      go_quiet (fail)
      go_wp2_with fail
      refine (ends_pt ga l.length (ca - l.length) PT hd tt _ HHD.out (by omega) (by omega) (fun j hj => by
        have := HCA.out j (by simp [tailL]; omega)
        unfold tailL at this
        rwa [bz_left hj] at this)).mono ?_
      rintro e w6 ⟨rfl, rfl⟩
      go_wp2_with fail
      go_ret
      exact ⟨rfl, below_drewN (HB1.out.trans ((HB3.out.trans (HB4.out.mono HB3.out.size)).mono HB1.out.size)) _⟩
  · go_enter Tryd.func4, Tryd.ntmps4
    go_wp2_with (go_at_call 10; refine (bytes10_any _ _ _ _ _ _ _ _ _ HL.out HF.out HTT.out).mono ?_; rintro e w' ⟨⟨r, rfl⟩, rfl⟩)
    all_goals try (go_ret; exact ⟨rfl, Below.refl _ _⟩)
    all_goals
      exfalso
      simp only [bne_eq_false_iff_eq] at *
      omega
end Go.Proofs.Qxb6619248aDoor
