/-
  'zzReachableCodes' (5): the codes, found another way.
-/
import Derived.Test.Qxb6618458aState
import Derived.Deep.DeepCutAuto
import Derived.Deep.CutBlock
import Derived.Deep.LoopGhost
namespace Go.Proofs.Qxb6618458a
open Go.RowKit Go.Maps

theorem snoc_cases (T : List Int) : T = [] ∨ ∃ T' t, T = T' ++ [t] := by
  rcases List.eq_nil_or_concat T with h | ⟨T', t, h⟩
  · exact Or.inl h
  · exact Or.inr ⟨T', t, by simpa using h⟩

set_option maxRecDepth 100000 in
set_option maxHeartbeats 2000000 in
theorem reach_any (xa : Option Addr) (b o cap : Nat) (l : List Nd) (asked : ByteArray) (w : World) (hxa : 0 < l.length → xa = some ⟨b, o, none⟩) (hn : l.length ≤ 1048576) (hc : nodesAt w b o l)
    (hid : ∀ (j : Nat) (x : Nd), l[j]? = some x → okId x.id ∧ okId x.par) (hsz : ∀ (j : Nat) (x : Nd), l[j]? = some x → x.code.size ≤ 1048576 ∧ x.plat.size ≤ 1048576) :
    Calls Try.prog 5 #[.slice xa l.length cap, .string asked] w fun e w' => ReachRet w w' l asked e := by
  have hmm := @run_makeMap Try.prog
  obtain ⟨n, hn'⟩ : ∃ n, n = l.length := ⟨_, rfl⟩
  rw [← hn'] at hn hxa ⊢
  have HN : Hid (n = l.length) := hn'
  have HC : Hid (nodesAt w b o l) := hc
  have HX : Hid (0 < n → xa = some ⟨b, o, none⟩) := hxa
  have HID : Hid (∀ (j : Nat) (x : Nd), l[j]? = some x → okId x.id ∧ okId x.par) := hid
  have HS : Hid (∀ (j : Nat) (x : Nd), l[j]? = some x → x.code.size ≤ 1048576 ∧ x.plat.size ≤ 1048576) := hsz
  clear hn' hc hxa hsz hid
  go_enter Try.func5, Try.ntmps5
  go_wp2_with fail
  go_loopw [6, 7, 8] (fun vF vL i wr => ∃ (k : Nat) (ids F L : List Int), k ≤ n ∧ i = .int .i64 k ∧ P1 l k ids F L ∧ St1 w ids F L vF vL wr) (fun _ _ i _ => n - (intOf i).toNat)
  case atStart => exact ⟨0, [], [], [], Nat.zero_le _, rfl, p1_start l, st1_start w⟩
  case round =>
    obtain ⟨k, ids, F, L, hk, rfl, hP, hst⟩ := hrel
    have HP : Hid (P1 l k ids F L) := hP
    have HST : Hid (St1 w ids F L u6 u7 wr) := hst
    have hil := p1_len hP
    have hFl := hP.lf
    have hLl := hP.ll
    clear hP hst
    by_cases hlt : k < n
    · obtain rfl := HX.out (by omega)
      obtain ⟨x, hx⟩ := nd_get (l := l) (k := k) (by rw [← HN.out]; exact hlt)
      have HXX : Hid (l[k]? = some x) := hx
      obtain ⟨hi1, hi2⟩ := HID.out k x hx
      have hbw := nodes_lt HC.out hx
      obtain ⟨hc0, hc1, hc2, hc3, hc4⟩ := nodes_later HC.out HST.out.be hbw k x hx
      clear hx hc1 hc2 hc3
      obtain ⟨m, hm⟩ : ∃ m, m = ids.length := ⟨_, rfl⟩
      rw [← hm] at hil hFl hLl
      have HM : Hid (m = ids.length) := hm
      have HFL : Hid (F.length = m ∧ L.length = m) := ⟨hFl, hLl⟩
      clear hm hFl hLl
      by_cases hmem : x.id ∈ ids
      · obtain ⟨j, hj, hje⟩ := mem_at hmem
        have hlk := look_pos HST.out.pos hj (by rw [hje]; exact hi1)
        rw [hje] at hlk
        rw [← HM.out] at hj
        have HJ : Hid (ids.getD j 0 = x.id) := hje
        clear hmem hje
        obtain ⟨gF, capF, rfl⟩ := HST.out.rf.shape (n := m) (by rw [ints_len]; exact HFL.out.1) (by omega)
        obtain ⟨gL, capL, rfl⟩ := HST.out.rl.shape (n := m) (by rw [ints_len]; exact HFL.out.2) (by omega)
        have hL0 := HST.out.rl.cell (ints_get (zs := L) (k := j) (by rw [HFL.out.2]; exact hj))
        have hL1 := HST.out.rl.frozen' j
        go_upto_region 14 with fail
        have H2 : Hid (St1 w ids F (L.set j k) (.slice (some ⟨gF, 0, none⟩) m capF) (.slice (some ⟨gL, 0, none⟩) m capL) (wr.setCell ⟨gL, j, none⟩ (.int .i64 k))) := HST.out.putL j k
        have HQ : Hid (Q1 l k x ids F L j) := ⟨ids, F, L, HP.out, Or.inl ⟨rfl, rfl, rfl, by rw [← HM.out]; exact hj, HJ.out⟩⟩
        have HFLn : Hid (F.length = m) := HFL.out.1
        have hjn := hj
        clear hlk hL0 hL1 hc0 hc4
        obtain ⟨w2, hw2⟩ : ∃ w2, w2 = wr.setCell ⟨gL, j, none⟩ (.int .i64 k) := ⟨_, rfl⟩
        rw [← hw2] at H2 ⊢
        clear hw2 HST
        have HC4 : Hid (w2.cell? ⟨b, o + k * 5 + 4, none⟩ = some (.bool x.held)) := (nodes_later HC.out H2.out.be hbw k x HXX.out).2.2.2.2
        have hF0 := H2.out.rf.cell (ints_get (zs := F) (k := j) (by rw [HFLn.out]; exact hjn))
        have hF1 := H2.out.rf.frozen' j
        obtain ⟨f, hf⟩ : ∃ f, f = (F).getD j 0 := ⟨_, rfl⟩
        rw [← hf] at hF0
        have HF : Hid (f = (F).getD j 0) := hf
        have hc4 := HC4.out
        clear hf
        have HSTEP : Hid (P1 l (k + 1) (ids) (if x.held = true ∧ f < 0 then (F).set j k else (F)) ((L).set j k)) := by
          have := p1_step HXX.out HQ.out
          rw [← HF.out] at this
          exact this
        cases hh : x.held with
        | false =>
          rw [hh] at hc4
          have HR : Hid (P1 l (k + 1) (ids) (F) ((L).set j k)) := by
            have := HSTEP.out
            rw [if_neg (by rw [hh]; simp)] at this
            exact this
          clear hh
          go_wp2_with fail
          go_roundw
          case rel => exact ⟨k + 1, _, _, _, by omega, by go_num, HR.out, H2.out⟩
          case measure => simp [intOf]; omega
        | true =>
          rw [hh] at hc4
          by_cases hf0 : f < 0
          · have HR : Hid (P1 l (k + 1) (ids) ((F).set j k) ((L).set j k)) := by
              have := HSTEP.out
              rw [if_pos ⟨hh, hf0⟩] at this
              exact this
            clear hh
            go_wp2_with fail
            go_roundw
            case rel => exact ⟨k + 1, _, _, _, by omega, by go_num, HR.out, H2.out.putF j k⟩
            case measure => simp [intOf]; omega
          · have HR : Hid (P1 l (k + 1) (ids) (F) ((L).set j k)) := by
              have := HSTEP.out
              rw [if_neg (fun h => hf0 h.2)] at this
              exact this
            clear hh
            go_wp2_with fail
            go_roundw
            case rel => exact ⟨k + 1, _, _, _, by omega, by go_num, HR.out, H2.out⟩
            case measure => simp [intOf]; omega
      · have hlk := look_pos_no HST.out.pos hmem hi1
        have HNM : Hid (x.id ∉ ids) := hmem
        clear hmem
        obtain ⟨aL, capL, rfl⟩ := HST.out.rl.shapes (n := m) (by rw [ints_len]; exact HFL.out.2)
        obtain ⟨D, hd1, hd2, hd3⟩ := HST.out.pos
        have HD1 : Hid (wr.ownsMap Try.prog 2 (plainElem Try.prog 3) w.heap.size ids.length D) := hd1
        have HD2 : Hid (∀ id, Maps.has D (.int .i64 id) = decide (id ∈ ids)) := hd2
        have HD3 : Hid (∀ k, k < ids.length → ∀ zd, D.atKey (.int .i64 (ids.getD k 0)) zd = .lit (.int .i64 k)) := hd3
        have HD4 : Hid (wr.ownsMap Try.prog 2 (plainElem Try.prog 3) w.heap.size m D) := by
          show wr.ownsMap Try.prog 2 (plainElem Try.prog 3) w.heap.size m D
          rw [HM.out]; exact hd1
        clear hd1 hd2 hd3
        go_wp2_with (at_mapUpdate; go_must (refine wpList_mapUpdate_own _ rfl _ _ _ 38 rfl 2 3 law2 Try.underlying38 (plainElem Try.prog 3) w.heap.size m D rfl HD4.out (by unfold maxLen; omega) _ _ _ rfl rfl (key2 hi1) (.lit (.int .i64 m)) [] (plainElem_int Try.underlying3 (wf_id (by unfold okId; omega))) ?_))
        intro w3 hown3 hg3
        have H3 : Hid (St1 w (ids ++ [x.id]) F L u6 (.slice aL m capL) w3) := HST.out.putPos hi1 HNM.out HD1.out HD2.out HD3.out HM.out hown3 hg3
        clear hown3 hg3 hc0 hc4 hlk HD1 HD2 HD3 HD4 HST
        go_wp2_with (at_builtin; go_must (refine app_int _ rfl _ _ rfl (w.heap.size + 1) _ F m HFL.out.1 (-1) rfl (H3.out.alloc _).rf w3.heap.size rfl (by simp) (by omega) (by have := H3.out.big; simp; omega) ?_))
        intro gF capF w4 hr4 hg4 hv4
        have H4 : Hid (St1 w (ids ++ [x.id]) (F ++ [-1]) L (.slice (some ⟨gF, 0, none⟩) (m + 1) capF) (.slice aL m capL) w4) := (H3.out.alloc _).appF hr4 hg4 (hv4.imp id fun h => by show some gF = some _; rw [h]; simp)
        clear hr4 hg4 hv4 H3
        go_wp2_with (at_builtin; go_must (refine app_int _ rfl _ _ rfl (w.heap.size + 1) _ L m HFL.out.2 k rfl (H4.out.alloc _).rl w4.heap.size rfl (by simp) (by omega) (by have := H4.out.big; simp; omega) ?_))
        intro gL capL' w5 hr5 hg5 hv5
        have H5 : Hid (St1 w (ids ++ [x.id]) (F ++ [-1]) (L ++ [(k : Int)]) (.slice (some ⟨gF, 0, none⟩) (m + 1) capF) (.slice (some ⟨gL, 0, none⟩) (m + 1) capL') w5) := (H4.out.alloc _).appL hr5 hg5 (hv5.imp id fun h => by show some gL = some _; rw [h]; simp)
        clear hr5 hg5 hv5 H4
        have hL0 := H5.out.rl.cell (ints_get (zs := L ++ [(k : Int)]) (k := m) (by rw [List.length_append, HFL.out.2]; exact Nat.lt_succ_self _))
        have hL1 := H5.out.rl.frozen' m
        go_upto_region 14 with fail
        have H2 : Hid (St1 w (ids ++ [x.id]) (F ++ [-1]) ((L ++ [(k : Int)]).set m k) (.slice (some ⟨gF, 0, none⟩) (m + 1) capF) (.slice (some ⟨gL, 0, none⟩) (m + 1) capL') (w5.setCell ⟨gL, m, none⟩ (.int .i64 k))) := H5.out.putL m k
        have HQ : Hid (Q1 l k x (ids ++ [x.id]) (F ++ [-1]) (L ++ [(k : Int)]) m) := ⟨ids, F, L, HP.out, Or.inr ⟨HNM.out, rfl, rfl, rfl, HM.out⟩⟩
        have HFLn : Hid ((F ++ [-1]).length = m + 1) := by
          show (F ++ [-1]).length = m + 1
          rw [List.length_append, HFL.out.1]; rfl
        have hjn : m < m + 1 := Nat.lt_succ_self _
        clear hL0 hL1
        obtain ⟨w2, hw2⟩ : ∃ w2, w2 = w5.setCell ⟨gL, m, none⟩ (.int .i64 k) := ⟨_, rfl⟩
        rw [← hw2] at H2 ⊢
        clear hw2 H5
        have HC4 : Hid (w2.cell? ⟨b, o + k * 5 + 4, none⟩ = some (.bool x.held)) := (nodes_later HC.out H2.out.be hbw k x HXX.out).2.2.2.2
        have hF0 := H2.out.rf.cell (ints_get (zs := F ++ [-1]) (k := m) (by rw [HFLn.out]; exact hjn))
        have hF1 := H2.out.rf.frozen' m
        obtain ⟨f, hf⟩ : ∃ f, f = (F ++ [-1]).getD m 0 := ⟨_, rfl⟩
        rw [← hf] at hF0
        have HF : Hid (f = (F ++ [-1]).getD m 0) := hf
        have hc4 := HC4.out
        clear hf
        have HSTEP : Hid (P1 l (k + 1) (ids ++ [x.id]) (if x.held = true ∧ f < 0 then (F ++ [-1]).set m k else (F ++ [-1])) ((L ++ [(k : Int)]).set m k)) := by
          have := p1_step HXX.out HQ.out
          rw [← HF.out] at this
          exact this
        cases hh : x.held with
        | false =>
          rw [hh] at hc4
          have HR : Hid (P1 l (k + 1) (ids ++ [x.id]) (F ++ [-1]) ((L ++ [(k : Int)]).set m k)) := by
            have := HSTEP.out
            rw [if_neg (by rw [hh]; simp)] at this
            exact this
          clear hh
          go_wp2_with fail
          go_roundw
          case rel => exact ⟨k + 1, _, _, _, by omega, by go_num, HR.out, H2.out⟩
          case measure => simp [intOf]; omega
        | true =>
          rw [hh] at hc4
          by_cases hf0 : f < 0
          · have HR : Hid (P1 l (k + 1) (ids ++ [x.id]) ((F ++ [-1]).set m k) ((L ++ [(k : Int)]).set m k)) := by
              have := HSTEP.out
              rw [if_pos ⟨hh, hf0⟩] at this
              exact this
            clear hh
            go_wp2_with fail
            go_roundw
            case rel => exact ⟨k + 1, _, _, _, by omega, by go_num, HR.out, H2.out.putF m k⟩
            case measure => simp [intOf]; omega
          · have HR : Hid (P1 l (k + 1) (ids ++ [x.id]) (F ++ [-1]) ((L ++ [(k : Int)]).set m k)) := by
              have := HSTEP.out
              rw [if_neg (fun h => hf0 h.2)] at this
              exact this
            clear hh
            go_wp2_with fail
            go_roundw
            case rel => exact ⟨k + 1, _, _, _, by omega, by go_num, HR.out, H2.out⟩
            case measure => simp [intOf]; omega
    · have hkn : k = n := by omega
      subst hkn
      obtain ⟨m, hm⟩ : ∃ m, m = ids.length := ⟨_, rfl⟩
      have HP1 : Hid (P1 l l.length ids F L) := by
        have := HP.out
        rw [HN.out] at this
        exact this
      have HM : Hid (m = ids.length) := hm
      have HFL : Hid (F.length = m ∧ L.length = m) := ⟨by rw [hm]; exact hFl, by rw [hm]; exact hLl⟩
      rw [← hm] at hil
      clear hm hFl hLl HP
      obtain ⟨aL, capL, rfl⟩ := HST.out.rl.shapes (n := m) (by rw [ints_len]; exact HFL.out.2)
      go_wp2_with (at_make; go_must (refine make_int _ rfl _ _ rfl (w.heap.size + 1) m rfl rfl (by omega) (by have := HST.out.big; omega) ?_))
      intro zs w1 hzl hr1 hg1
      have H2 : Hid (St2 w ids F L zs u6 (.slice aL m capL) (.slice (some ⟨wr.heap.size, 0, none⟩) m m) w1) := st2_start HST.out hr1 hg1
      have HZL : Hid (zs.length = m) := hzl
      obtain ⟨gR, hgR⟩ : ∃ gR, gR = wr.heap.size := ⟨_, rfl⟩
      rw [← hgR] at H2 ⊢
      clear hr1 hg1 hzl hgR HST
      go_wp2_with fail
      go_loopw [13] (fun i w2 => ∃ (q : Nat) (R : List Int), q ≤ m ∧ i = .int .i64 q ∧ R.length = m ∧ (∀ j, j < q → R.getD j 0 = if 0 ≤ F.getD j 0 then F.getD j 0 else L.getD j 0) ∧ St2 w ids F L R u6 (.slice aL m capL) (.slice (some ⟨gR, 0, none⟩) m m) w2) (fun i _ => m - (intOf i).toNat)
      case atStart => exact ⟨0, zs, Nat.zero_le _, rfl, HZL.out, fun j hj => absurd hj (Nat.not_lt_zero j), H2.out⟩
      case round =>
        rename World => w2
        obtain ⟨q, R, hq, rfl, hRl, hR, hst⟩ := hrel
        have HR : Hid (∀ j, j < q → R.getD j 0 = if 0 ≤ F.getD j 0 then F.getD j 0 else L.getD j 0) := hR
        have HRL : Hid (R.length = m) := hRl
        have HST : Hid (St2 w ids F L R u6 (.slice aL m capL) (.slice (some ⟨gR, 0, none⟩) m m) w2) := hst
        clear hR hRl hst H2 HZL
        by_cases hlt : q < m
        · obtain ⟨gF, capF, rfl⟩ := HST.out.rf.shape (n := m) (by rw [ints_len]; exact HFL.out.1) (by omega)
          obtain ⟨gL, capL', hsl⟩ := HST.out.rl.shape (n := m) (by rw [ints_len]; exact HFL.out.2) (by omega)
          cases hsl
          have hF0 := HST.out.rf.cell (ints_get (zs := F) (k := q) (by rw [HFL.out.1]; exact hlt))
          have hL0 := HST.out.rl.cell (ints_get (zs := L) (k := q) (by rw [HFL.out.2]; exact hlt))
          have hR0 := HST.out.rr.cell (ints_get (zs := R) (k := q) (by rw [HRL.out]; exact hlt))
          have hR1 := HST.out.rr.frozen' q
          obtain ⟨f, hf⟩ : ∃ f, f = F.getD q 0 := ⟨_, rfl⟩
          obtain ⟨lv, hlv⟩ : ∃ lv, lv = L.getD q 0 := ⟨_, rfl⟩
          rw [← hf] at hF0
          rw [← hlv] at hL0
          have HF : Hid (f = F.getD q 0) := hf
          have HLV : Hid (lv = L.getD q 0) := hlv
          clear hf hlv
          have FIN : Hid (∀ v : Int, v = (if 0 ≤ f then f else lv) → (R.set q v).length = m ∧ ∀ j, j < q + 1 → (R.set q v).getD j 0 = if 0 ≤ F.getD j 0 then F.getD j 0 else L.getD j 0) := fun v hv => by
            refine ⟨by rw [List.length_set]; exact HRL.out, fun j hj => ?_⟩
            by_cases e : j = q
            · subst e
              rw [getD_set_eq (by rw [HRL.out]; exact hlt), hv, HF.out, HLV.out]
            · rw [getD_set_ne (fun e' => e e'.symm)]
              exact HR.out j (by omega)
          by_cases hf0 : 0 ≤ f
          · have HFIN : Hid ((R.set q f).length = m ∧ ∀ j, j < q + 1 → (R.set q f).getD j 0 = if 0 ≤ F.getD j 0 then F.getD j 0 else L.getD j 0) := FIN.out f (by rw [if_pos hf0])
            go_wp2_with fail
            go_roundw
            case rel => exact ⟨q + 1, _, by omega, by go_num, HFIN.out.1, HFIN.out.2, HST.out.putR q f⟩
            case measure => simp [intOf]; omega
          · have HFIN : Hid ((R.set q lv).length = m ∧ ∀ j, j < q + 1 → (R.set q lv).getD j 0 = if 0 ≤ F.getD j 0 then F.getD j 0 else L.getD j 0) := FIN.out lv (by rw [if_neg hf0])
            go_wp2_with fail
            go_roundw
            case rel => exact ⟨q + 1, _, by omega, by go_num, HFIN.out.1, HFIN.out.2, HST.out.putR q lv⟩
            case measure => simp [intOf]; omega
        · have hqm : q = m := by omega
          have HSTD : Hid (Std l ids R) := std_of HP1.out (by rw [HRL.out, HM.out]) (fun j hj => HR.out j (by rw [hqm, HM.out]; exact hj))
          clear hqm HR
          go_wp2_with (at_make; go_must (refine make_bool _ rfl _ _ rfl (w.heap.size + 1) m rfl rfl (by omega) (by have := HST.out.big; omega) ?_))
          intro w3 hr3 hg3
          have H3 : Hid (St3 w ids R (List.replicate m false) [] (.slice (some ⟨gR, 0, none⟩) m m) (.slice (some ⟨w2.heap.size, 0, none⟩) m m) (.slice none 0 0) w3) := st3_start HST.out hr3 hg3
          obtain ⟨gM, hgM⟩ : ∃ gM, gM = w2.heap.size := ⟨_, rfl⟩
          rw [← hgM] at H3 ⊢
          clear hr3 hg3 hgM HST
          go_wp2_with fail
          go_loopw [15, 16] (fun vT i w3 => ∃ (q : Nat) (bs : List Bool) (T : List Int), q ≤ m ∧ i = .int .i64 q ∧ W3 l R asked m q bs T ∧ St3 w ids R bs T (.slice (some ⟨gR, 0, none⟩) m m) (.slice (some ⟨gM, 0, none⟩) m m) vT w3) (fun _ i _ => m - (intOf i).toNat)
          case atStart => exact ⟨0, _, _, Nat.zero_le _, rfl, w3_start l R asked m, H3.out⟩
          case round =>
            rename World => w3
            obtain ⟨q, bs, T, hq, rfl, hW, hst⟩ := hrel
            have HW : Hid (W3 l R asked m q bs T) := hW
            have HST : Hid (St3 w ids R bs T (.slice (some ⟨gR, 0, none⟩) m m) (.slice (some ⟨gM, 0, none⟩) m m) u15 w3) := hst
            clear hW hst H3
            by_cases hlt : q < m
            · obtain rfl := HX.out (by omega)
              obtain ⟨hr0, hr1, _⟩ := HSTD.out.each q (by rw [← HM.out]; exact hlt)
              obtain ⟨hstd, hnd⟩ := std_at HSTD.out (k := q) (by rw [← HM.out]; exact hlt)
              obtain ⟨r, hr⟩ : ∃ r : Nat, R.getD q 0 = (r : Int) := ⟨(R.getD q 0).toNat, by omega⟩
              rw [hr] at hr1 hnd
              rw [Int.toNat_natCast] at hnd
              have hrk : r < k := by have := HN.out; omega
              have HND : Hid (l[r]? = some (ndAt l R q)) := hnd
              have hbw := nodes_lt HC.out hnd
              obtain ⟨hc0, hc1, hc2, hc3, hc4⟩ := nodes_later HC.out HST.out.be hbw r _ hnd
              have hR0 := HST.out.rr.cell (ints_get (zs := R) (k := q) (by rw [HSTD.out.lr, ← HM.out]; exact hlt))
              rw [hr] at hR0
              have HR9 : Hid (R.getD q 0 = (r : Int)) := hr
              clear hr hr0 hr1 hnd hstd
              cases hheld : (ndAt l R q).held with
              | false =>
                have HNO : Hid (W3 l R asked m (q + 1) bs T) := w3_no HW.out (by unfold startB; rw [hheld]; rfl)
                rw [hheld] at hc4
                clear hheld
                go_wp2_with fail
                go_roundw
                case rel => exact ⟨q + 1, _, _, by omega, by go_num, HNO.out, HST.out.alloc _⟩
                case measure => simp [intOf]; omega
              | true =>
                cases hsv : servesB (ndAt l R q).plat asked with
                | false =>
                  have HNO : Hid (W3 l R asked m (q + 1) bs T) := w3_no HW.out (by unfold startB; rw [hheld, hsv]; rfl)
                  have hser := srv7 (ndAt l R q).plat asked hsv
                  rw [hheld] at hc4
                  clear hheld hsv
                  go_wp2_with (go_at_call 7; refine (hser _).mono ?_; rintro e w' ⟨rfl, rfl⟩)
                  go_roundw
                  case rel => exact ⟨q + 1, _, _, by omega, by go_num, HNO.out, HST.out.alloc _⟩
                  case measure => simp [intOf]; omega
                | true =>
                  have HYES : Hid (W3 l R asked m (q + 1) (bs.set q true) (T ++ [(q : Int)])) := w3_yes HW.out hlt (by unfold startB; rw [hheld, hsv]; rfl)
                  have hser := srv7 (ndAt l R q).plat asked hsv
                  rw [hheld] at hc4
                  clear hheld hsv
                  have hM0 := fun o1 => (HST.out.alloc o1).rm.cell (bools_get (zs := bs) (k := q) (by rw [HW.out.len]; exact hlt))
                  have hM1 := fun o1 => (HST.out.alloc o1).rm.frozen' q
                  have HTL : Hid (T.length ≤ q) := HW.out.tl
                  obtain ⟨tn, htn⟩ : ∃ tn, tn = T.length := ⟨_, rfl⟩
                  have HTN : Hid (T.length = tn) := htn.symm
                  clear htn
                  have hT4 : tn ≤ 4194304 := by have := HTL.out; have := HTN.out; omega
                  go_wp2_with (first | (go_at_call 7; refine (hser _).mono ?_; rintro e w' ⟨rfl, rfl⟩) | at_builtin; go_must (refine app_int _ rfl _ _ rfl (w.heap.size + 1) _ T tn HTN.out q rfl (((HST.out.alloc _).putM q true).alloc _).rt (w3.heap.size + 1) rfl (by rw [World.cell?_alloc_at (hn := by simp)]; rfl) hT4 (by have := HST.out.big; simp; omega) ?_))
                  intro gT capT w4 hr4 hg4 hv4
                  have H4 : Hid (St3 w ids R (bs.set q true) (T ++ [(q : Int)]) (.slice (some ⟨gR, 0, none⟩) m m) (.slice (some ⟨gM, 0, none⟩) m m) (.slice (some ⟨gT, 0, none⟩) (tn + 1) capT) w4) := (((HST.out.alloc _).putM q true).alloc _).appT (by simp) hr4 hg4 hv4
                  clear hr4 hg4 hv4 hM0 hM1
                  go_wp2_with fail
                  go_roundw
                  case rel => exact ⟨q + 1, _, _, by omega, by go_num, HYES.out, H4.out⟩
                  case measure => simp [intOf]; omega
            · have hqm : q = m := by omega
              have HW4 : Hid (W4 l ids R asked bs T) := w4_start HSTD.out (by
                have := HW.out
                rw [hqm, HM.out] at this
                exact this)
              clear hqm HW
              go_wp2_with fail
              go_loopg [15] (T.length + 2 * bs.count false) (fun gk vT w4 => ∃ (bs : List Bool) (T : List Int), gk = T.length + 2 * bs.count false ∧ W4 l ids R asked bs T ∧ St3 w ids R bs T (.slice (some ⟨gR, 0, none⟩) m m) (.slice (some ⟨gM, 0, none⟩) m m) vT w4)
              case atStart => exact ⟨_, _, rfl, HW4.out, HST.out⟩
              case round =>
                rename World => w4
                clear HW4 HST
                obtain ⟨bs, T, hgk, hW, hst⟩ := hrel
                have HW4 : Hid (W4 l ids R asked bs T) := hW
                have HST : Hid (St3 w ids R bs T (.slice (some ⟨gR, 0, none⟩) m m) (.slice (some ⟨gM, 0, none⟩) m m) u15 w4) := hst
                have HGK : Hid (gk = T.length + 2 * bs.count false) := hgk
                clear hgk hW hst
                rcases snoc_cases T with rfl | ⟨T', t, rfl⟩
                · obtain ⟨aT, capT, rfl⟩ := HST.out.rt.shapes (n := 0) rfl
                  go_wp2_with fail
                  go_loopw [23, 24] (fun vO i w5 => ∃ (q : Nat) (out : List ByteArray), q ≤ m ∧ i = .int .i64 q ∧ W5 l R asked bs q out ∧ St5 w4 out vO w5) (fun _ i _ => m - (intOf i).toNat)
                  case atStart => exact ⟨0, [], Nat.zero_le _, rfl, w5_start l R asked bs, st5_start w4⟩
                  case round =>
                    rename World => w5
                    obtain ⟨q, out, hq, rfl, hW, hst⟩ := hrel
                    have HW5 : Hid (W5 l R asked bs q out) := hW
                    have H5 : Hid (St5 w4 out u23 w5) := hst
                    clear hW hst
                    by_cases hlt : q < m
                    · obtain rfl := HX.out (by omega)
                      obtain ⟨hr0, hr1, _⟩ := HSTD.out.each q (by rw [← HM.out]; exact hlt)
                      obtain ⟨hstd, hnd⟩ := std_at HSTD.out (k := q) (by rw [← HM.out]; exact hlt)
                      obtain ⟨r, hr⟩ : ∃ r : Nat, R.getD q 0 = (r : Int) := ⟨(R.getD q 0).toNat, by omega⟩
                      rw [hr] at hr1 hnd
                      rw [Int.toNat_natCast] at hnd
                      have hrk : r < k := by have := HN.out; omega
                      have HND : Hid (l[r]? = some (ndAt l R q)) := hnd
                      have hbw := nodes_lt HC.out hnd
                      obtain ⟨hc0, hc1, hc2, hc3, hc4⟩ := nodes_later (nodes_later HC.out HST.out.be hbw) H5.out.be (Nat.lt_of_lt_of_le hbw HST.out.be.size) r _ hnd
                      have hR0 := (HST.out.rr.later H5.out.be).cell (ints_get (zs := R) (k := q) (by rw [HSTD.out.lr, ← HM.out]; exact hlt))
                      rw [hr] at hR0
                      have HR9 : Hid (R.getD q 0 = (r : Int)) := hr
                      clear hr hr0 hr1 hnd hstd
                      have hM0 : ∀ o1, (w5.alloc o1).cell? ⟨gM, q, none⟩ = some (.bool (bs.getD q false)) := fun o1 => ((HST.out.rm.later H5.out.be).alloc o1).cell (bools_get (zs := bs) (k := q) (by rw [HW4.out.len, ← HM.out]; exact hlt))
                      have hsz2 := HS.out r _ HND.out
                      cases hb : bs.getD q false with
                      | false =>
                        have HNO : Hid (W5 l R asked bs (q + 1) out) := w5_skip HW5.out (fun h => by rw [hb] at h; cases h)
                        rw [hb] at hM0
                        clear hb
                        go_wp2_with fail
                        go_roundw
                        case rel => exact ⟨q + 1, out, by omega, by go_num, HNO.out, H5.out.alloc _⟩
                        case measure => simp [intOf]; omega
                      | true =>
                        have HB1 : Hid (bs.getD q false = true) := hb
                        rw [hb] at hM0
                        clear hb
                        cases hsv : servesB (ndAt l R q).plat asked with
                        | false =>
                          have HNO : Hid (W5 l R asked bs (q + 1) out) := w5_skip HW5.out (fun _ h => by rw [hsv] at h; cases h)
                          have hser := srv7 (ndAt l R q).plat asked hsv
                          clear hsv
                          go_wp2_with (go_at_call 7; refine (hser _).mono ?_; rintro e w' ⟨rfl, rfl⟩)
                          go_roundw
                          case rel => exact ⟨q + 1, out, by omega, by go_num, HNO.out, H5.out.alloc _⟩
                          case measure => simp [intOf]; omega
                        | true =>
                          have hser := srv7 (ndAt l R q).plat asked hsv
                          have HSV : Hid (servesB (ndAt l R q).plat asked = true) := hsv
                          clear hsv
                          have hls : ∀ o1, (Instr.lookup 43 (.map (some w4.heap.size)) (.string (ndAt l R q).code) false).run Try.prog (w5.alloc o1) = .ok (.bool (seenB out (ndAt l R q).code)) (w5.alloc o1) := fun o1 => look_seen (H5.out.seen.alloc o1) (by unfold maxLen; omega)
                          cases hse : seenB out (ndAt l R q).code with
                          | true =>
                            have HNO : Hid (W5 l R asked bs (q + 1) out) := w5_skip HW5.out (fun _ _ => (seenB_iff _ _).1 hse)
                            rw [hse] at hls
                            clear hse
                            go_wp2_with (go_at_call 7; refine (hser _).mono ?_; rintro e w' ⟨rfl, rfl⟩)
                            go_roundw
                            case rel => exact ⟨q + 1, out, by omega, by go_num, HNO.out, H5.out.alloc _⟩
                            case measure => simp [intOf]; omega
                          | false =>
                            have HYES : Hid (W5 l R asked bs (q + 1) (out ++ [(ndAt l R q).code])) := w5_add HW5.out HB1.out HSV.out (fun h => by rw [(seenB_iff _ _).2 h] at hse; cases hse)
                            rw [hse] at hls
                            clear hse
                            obtain ⟨D, hd1, hd2⟩ := H5.out.seen
                            obtain ⟨on, hon⟩ : ∃ on, on = out.length := ⟨_, rfl⟩
                            have HON : Hid (out.length = on) := hon.symm
                            have HD1 : Hid (w5.ownsMap Try.prog 9 (plainElem Try.prog 4) w4.heap.size out.length D) := hd1
                            rw [← hon] at hd1
                            have HD3 : Hid (w5.ownsMap Try.prog 9 (plainElem Try.prog 4) w4.heap.size on D) := hd1
                            have HD2 : Hid (∀ c : ByteArray, D.atKey (.string c.data.toList) (.lit (.bool false)) = .lit (.bool (seenB out c))) := hd2
                            clear hd1 hd2 hon
                            have hon1 : on ≤ 1048576 := by have := HW5.out.len; have := HON.out; omega
                            obtain ⟨code, hcode⟩ : ∃ code, code = (ndAt l R q).code := ⟨_, rfl⟩
                            have HCODE : Hid (code = (ndAt l R q).code) := hcode
                            rw [← hcode] at hc2 hls HYES hsz2
                            clear hcode
                            go_wp2_with (first | (go_at_call 7; refine (hser _).mono ?_; rintro e w' ⟨rfl, rfl⟩) | at_mapUpdate; go_must (refine wpList_mapUpdate_own _ rfl _ _ _ 43 rfl 9 4 law9 Try.underlying43 (plainElem Try.prog 4) w4.heap.size on D rfl (HD3.out.alloc _) (by unfold maxLen; omega) _ _ _ rfl rfl (key9 (by unfold maxLen; omega)) (.lit (.bool true)) [] (plainElem_bool Try.underlying4 true) ?_))
                            intro w6 hown6 hg6
                            have hk2 : w6.cell? ⟨w5.heap.size, 2, none⟩ = some (.string code) := by
                              have := H5.out.big
                              rw [World.cell?_of_block (w := w5.alloc (.cells #[.int .i64 (ndAt l R q).id, .int .i64 (ndAt l R q).par, .string code, .string (ndAt l R q).plat, .bool (ndAt l R q).held] 25)) (hg6.block _ (by simp) (some_ne (by simp; omega)))]
                              simp
                            have HO6 : Hid (w6.ownsMap Try.prog 9 (plainElem Try.prog 4) w4.heap.size (on + 1) (D.put (.string code.data.toList) (.lit (.bool true)))) := hown6
                            have HG6 : Hid ((w5.alloc (.cells #[.int .i64 (ndAt l R q).id, .int .i64 (ndAt l R q).par, .string code, .string (ndAt l R q).plat, .bool (ndAt l R q).held] 25)).grownBy w6 (some w4.heap.size)) := hg6
                            clear hown6 hg6 hls hc0 hc1 hc2 hc3 hc4 hM0
                            go_wp2_with (at_builtin; go_must (refine app_str _ rfl _ _ rfl (w4.heap.size + 1) _ out on HON.out code rfl (((H5.out.alloc _).ro.keepMap HG6.out (Nat.lt_succ_self _)).alloc _) w6.heap.size rfl (by simp) hon1 (by have := HO6.out.lt; simp; omega) ?_))
                            intro gO capO w7 hr7 hg7 hv7
                            have H7 : Hid (St5 w4 (out ++ [code]) (.slice (some ⟨gO, 0, none⟩) (on + 1) capO) w7) := (H5.out.alloc _).add (by unfold maxLen; omega) (HD1.out.alloc _) HD2.out HON.out HO6.out HG6.out hr7 hg7
                            clear hr7 hg7 hv7
                            go_wp2_with fail
                            go_roundw
                            case rel => exact ⟨q + 1, _, by omega, by go_num, HYES.out, H7.out⟩
                            case measure => simp [intOf]; omega
                    · have hqm : q = m := by omega
                      have HRET : Hid (ReachRet w w5 l asked (.returned u23)) := by
                        have hW := HW5.out
                        rw [hqm, HM.out] at hW
                        have hs4 := HST.out.big
                        refine ⟨u23, out, rfl, Joins.ownsRow_le H5.out.ro (by omega), hW.nodup, fun c => w5_end HSTD.out HW4.out hW c, ?_, HST.out.be.trans (H5.out.be.mono (by omega))⟩
                        have h1 := hW.len
                        have h2 := HN.out
                        have h3 := HM.out
                        omega
                      go_wp2_with fail
                      go_ret
                      exact HRET.out
                · obtain ⟨j, hj, rfl, hbj⟩ := HW4.out.st t (by simp)
                  rw [← HM.out] at hj
                  obtain ⟨tn, htn⟩ : ∃ tn, tn = T'.length := ⟨_, rfl⟩
                  have HTN : Hid (T'.length = tn) := htn.symm
                  have HBJ : Hid (bs.getD j false = true) := hbj
                  clear htn hbj
                  have hTL : tn + 1 ≤ 2097152 := by
                    have h1 := HW4.out.tl
                    have h2 := (count_le bs).1
                    have h3 := HW4.out.len
                    have h4 := HTN.out
                    have h5 := HM.out
                    simp only [List.length_append, List.length_cons, List.length_nil] at h1
                    omega
                  obtain ⟨gT, capT, rfl⟩ := HST.out.rt.shape (n := tn + 1) (by rw [ints_len, List.length_append, HTN.out]; rfl) (by omega)
                  obtain ⟨hcap1, hcap2⟩ := HST.out.rt.cap
                  unfold maxLen at hcap2
                  have hT0 : w4.cell? ⟨gT, tn, none⟩ = some (.int .i64 j) := HST.out.rt.cell (by
                    rw [← HTN.out, ← ints_len T', ← ints_snoc]; simp)
                  have HPOP : Hid (St3 w ids R bs T' (.slice (some ⟨gR, 0, none⟩) m m) (.slice (some ⟨gM, 0, none⟩) m m) (.slice (some ⟨gT, 0, none⟩) tn capT) w4) := HST.out.popT
                  have hwr : IntKind.i64.wrap (tn : Int) = (tn : Int) := by rw [IntKind.wrap_i64]; omega
                  have hix0 : (0 : Int) ≤ (tn : Int) := by omega
                  have hix1 : (tn : Int) < (tn : Int) + 1 := by omega
                  have hix2 : (tn : Int) < ((tn + 1 : Nat) : Int) := by omega
                  have hix3 : tn < tn + 1 := by omega
                  have hix4 : ((tn : Int) + 1 == 0) = false := by simp; omega
                  obtain rfl := HX.out (by omega)
                  obtain ⟨hr0, hr1, _⟩ := HSTD.out.each j (by rw [← HM.out]; exact hj)
                  obtain ⟨hstd, hnd⟩ := std_at HSTD.out (k := j) (by rw [← HM.out]; exact hj)
                  obtain ⟨r, hr⟩ : ∃ r : Nat, R.getD j 0 = (r : Int) := ⟨(R.getD j 0).toNat, by omega⟩
                  rw [hr] at hr1 hnd
                  rw [Int.toNat_natCast] at hnd
                  have hrk : r < k := by have := HN.out; omega
                  have HND : Hid (l[r]? = some (ndAt l R j)) := hnd
                  have hbw := nodes_lt HC.out hnd
                  obtain ⟨hc0, hc1, hc2, hc3, hc4⟩ := nodes_later HC.out HST.out.be hbw r _ hnd
                  have hR0 := HST.out.rr.cell (ints_get (zs := R) (k := j) (by rw [HSTD.out.lr, ← HM.out]; exact hj))
                  rw [hr] at hR0
                  have HR9 : Hid (R.getD j 0 = (r : Int)) := hr
                  clear hr hr0 hr1 hnd hstd
                  clear hc0 hc2 hc3 hc4
                  obtain ⟨hi1, hi2⟩ := HID.out r _ HND.out
                  obtain ⟨pp, hpp⟩ : ∃ pp, pp = (ndAt l R j).par := ⟨_, rfl⟩
                  have HPP : Hid (pp = (ndAt l R j).par) := hpp
                  rw [← hpp] at hc1 hi2
                  clear hpp hi1
                  by_cases h0 : pp = 0
                  · have HR : Hid (W4 l ids R asked bs T') := w4_pop HW4.out (fun i hi h => absurd (HPP.out.symm.trans h0) h)
                    subst h0
                    go_wp2_with fail
                    go_roundg (T'.length + 2 * bs.count false)
                    case measure => rw [HGK.out, List.length_append]; simp only [List.length_cons, List.length_nil]; omega
                    case rel => exact ⟨bs, T', rfl, HR.out, HPOP.out⟩
                  · by_cases hmem : pp ∈ ids
                    · obtain ⟨i, hi, hie⟩ := mem_at hmem
                      have hlk := look_pos HST.out.pos hi (by rw [hie]; exact hi2)
                      rw [hie] at hlk
                      have HI : Hid (i < ids.length) := hi
                      have HIE : Hid (ids.getD i 0 = (ndAt l R j).par) := hie.trans HPP.out
                      rw [← HM.out] at hi
                      have hM0 : w4.cell? ⟨gM, i, none⟩ = some (.bool (bs.getD i false)) := HST.out.rm.cell (bools_get (zs := bs) (k := i) (by rw [HW4.out.len]; exact HI.out))
                      have hM1 := HST.out.rm.frozen' i
                      clear hmem hie
                      cases hb : bs.getD i false with
                      | true =>
                        have HR : Hid (W4 l ids R asked bs T') := w4_pop HW4.out (fun i' hi' _ he => by
                          have : i' = i := nodup_inj HSTD.out.nodup hi' HI.out (he.trans HIE.out.symm)
                          rw [this]; exact hb)
                        rw [hb] at hM0
                        clear hb
                        go_wp2_with fail
                        go_roundg (T'.length + 2 * bs.count false)
                        case measure => rw [HGK.out, List.length_append]; simp only [List.length_cons, List.length_nil]; omega
                        case rel => exact ⟨bs, T', rfl, HR.out, HPOP.out⟩
                      | false =>
                        have HR : Hid (W4 l ids R asked (bs.set i true) (T' ++ [(i : Int)])) := w4_push HSTD.out HW4.out HI.out (by rw [← HPP.out]; exact h0) HIE.out hb
                        have HCT : Hid ((bs.set i true).count false + 1 = bs.count false) := (count_set (by rw [HW4.out.len]; exact HI.out) hb).1
                        rw [hb] at hM0
                        clear hb
                        go_wp2_with (at_builtin; go_must (refine app_int _ rfl _ _ rfl (w.heap.size + 1) _ T' tn HTN.out i rfl ((HPOP.out.putM i true).alloc _).rt w4.heap.size rfl (by rw [World.cell?_alloc_at (hn := by simp)]; rfl) (by omega) (by have := HPOP.out.big; simp; omega) ?_))
                        intro gT' capT' w5 hr5 hg5 hv5
                        have H5 : Hid (St3 w ids R (bs.set i true) (T' ++ [(i : Int)]) (.slice (some ⟨gR, 0, none⟩) m m) (.slice (some ⟨gM, 0, none⟩) m m) (.slice (some ⟨gT', 0, none⟩) (tn + 1) capT') w5) := ((HPOP.out.putM i true).alloc _).appT (by simp) hr5 hg5 hv5
                        clear hr5 hg5 hv5 hM0 hM1
                        go_wp2_with fail
                        go_roundg ((T' ++ [(i : Int)]).length + 2 * (bs.set i true).count false)
                        case measure =>
                          have := HCT.out
                          rw [HGK.out, List.length_append, List.length_append]
                          simp only [List.length_cons, List.length_nil]
                          omega
                        case rel => exact ⟨_, _, rfl, HR.out, H5.out⟩
                    · have hlk := look_pos_no HST.out.pos hmem hi2
                      have HR : Hid (W4 l ids R asked bs T') := w4_pop HW4.out (fun i' hi' _ he => absurd (by rw [HPP.out, ← he]; exact getD_mem' hi') hmem)
                      clear hmem
                      go_wp2_with fail
                      go_roundg (T'.length + 2 * bs.count false)
                      case measure => rw [HGK.out, List.length_append]; simp only [List.length_cons, List.length_nil]; omega
                      case rel => exact ⟨bs, T', rfl, HR.out, HPOP.out⟩
end Go.Proofs.Qxb6618458a
