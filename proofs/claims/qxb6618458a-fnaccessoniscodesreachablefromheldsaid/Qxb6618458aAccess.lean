/-
  'AccessOn' (6): the set of codes that a held node reaches.
-/
import Derived.Test.Qxb6618458aMap
import Derived.Deep.DeepCutAuto
import Derived.Deep.CutBlock
import Derived.Deep.LoopGhost
namespace Go.Proofs.Qxb6618458a
open Go.RowKit Go.Maps

theorem left_le (l : List Nd) (Wk : List Int) (cur : Int) : leftIds l (cur :: Wk) ≤ leftIds l Wk := by
  unfold leftIds
  have e : (l.filter fun y => decide (y.id ∉ cur :: Wk)) = (l.filter fun y => decide (y.id ∉ Wk)).filter fun y => decide (y.id ≠ cur) := by
    rw [List.filter_filter]
    apply List.filter_congr
    intro y _
    simp [List.mem_cons, not_or]
  rw [e]
  exact List.length_filter_le _ _

/-- What it gives back. -/
def AccRet (w w' : World) (l : List Nd) (asked : ByteArray) (e : Ending) : Prop := ∃ b n, e = .returned (.agg #[.bool false, .map (some b)]) ∧ CodesIn w' b n (Good (byId l) asked) ∧ w.heap.size ≤ b ∧ Below w.heap.size w w'

/-- 'p.Serves(asked)' gives r. -/
def Srv (p asked : ByteArray) (r : Bool) : Prop := ∀ w, Calls Try.prog 8 #[.string p, .string asked] w fun e w' => e = .returned (.bool r) ∧ w' = w
theorem srv (p asked : ByteArray) {r : Bool} (h : servesB p asked = r) : Srv p asked r := fun w => by subst h; exact serves8 p asked w

/-- Between two starts. -/
def Outer (w : World) (l : List Nd) (asked : ByteArray) (bm bc bw r k : Nat) (D : DataW Unit) (left : Lit → Bool) (cnt : Nat) (wr : World) : Prop := ∃ nc nw Wk, Own4 (w.alloc (.cells #[.bool false, .map none] 34)) (w.heap.size + 1) bm bc bw r k D left cnt nc (CS (byId l) asked (Come (byId l) left) Wk) nw Wk wr ∧
  (∀ kl, left kl = true → Maps.has D kl = true) ∧ A2 (byId l) asked (Come (byId l) left) Wk ∧ Wk.length + leftIds l Wk + cnt ≤ 2 * l.length ∧ nc + cnt ≤ Wk.length + l.length ∧ nw ≤ Wk.length

/-- In a climb. -/
def Inner (w : World) (l : List Nd) (asked : ByteArray) (bm bc bw r k : Nat) (D : DataW Unit) (left : Lit → Bool) (cnt : Nat) (gk : Nat) (cur : Int) (wr : World) : Prop := ∃ nc nw Wk, Own4 (w.alloc (.cells #[.bool false, .map none] 34)) (w.heap.size + 1) bm bc bw r k D left cnt nc (CS (byId l) asked (Come (byId l) left) Wk) nw Wk wr ∧
  A3 (byId l) asked (Come (byId l) left) Wk cur ∧ Wk.length + leftIds l Wk + cnt + 1 ≤ 2 * l.length ∧ nc + cnt ≤ Wk.length + l.length ∧ nw ≤ Wk.length ∧ gk = leftIds l Wk

set_option maxRecDepth 100000 in
set_option maxHeartbeats 1000000 in
theorem access_any (xa : Option Addr) (b o cap : Nat) (l : List Nd) (asked : ByteArray) (w : World) (hxa : 0 < l.length → xa = some ⟨b, o, none⟩) (hn : l.length ≤ 1048576) (hc : nodesAt w b o l)
    (hid : ∀ (j : Nat) (x : Nd), l[j]? = some x → okId x.id ∧ okId x.par) (hsz : ∀ (j : Nat) (x : Nd), l[j]? = some x → x.code.size ≤ 1048576 ∧ x.plat.size ≤ 1048576) :
    Calls Try.prog 6 #[.slice xa l.length cap, .string asked] w fun e w' => AccRet w w' l asked e := by
  have hmm := @run_makeMap Try.prog
  have hmh := run_makeMap_hint
  obtain ⟨n, hn'⟩ : ∃ n, n = l.length := ⟨_, rfl⟩
  rw [← hn'] at hn hxa ⊢
  have HN : Hid (n = l.length) := hn'
  have HC : Hid (nodesAt w b o l) := hc
  have HX : Hid (0 < n → xa = some ⟨b, o, none⟩) := hxa
  have HID : Hid (∀ (j : Nat) (x : Nd), l[j]? = some x → okId x.id ∧ okId x.par) := hid
  have HS : Hid (∀ (j : Nat) (x : Nd), l[j]? = some x → x.code.size ≤ 1048576 ∧ x.plat.size ≤ 1048576) := hsz
  clear hn' hc hxa hsz hid
  go_enter Try.func6, Try.ntmps6
  go_wp2_with fail
  go_loopw [22] (fun i wr => ∃ (k : Nat) (D : DataW Unit), k ≤ n ∧ i = .int .i64 k ∧ wr.ownsMap Try.prog 2 ndElem (w.heap.size + 1) k D ∧ MapOf D (byId (l.take k)) ∧ Below (w.heap.size + 1) (w.alloc (.cells #[.bool false, .map none] 34)) wr) (fun i _ => n - (intOf i).toNat)
  case atStart => exact ⟨0, .map [], Nat.zero_le _, rfl, by simpa using World.ownsMap_made (w.alloc (.cells #[.bool false, .map none] 34)) Try.prog 2 ndElem, mapOf_start, (Below.refl _ _).alloc (by simp) _⟩
  case round =>
    obtain ⟨k, D, hk, rfl, hown, hM, hb⟩ := hrel
    have HO : Hid (wr.ownsMap Try.prog 2 ndElem (w.heap.size + 1) k D) := hown
    have HM : Hid (MapOf D (byId (l.take k))) := hM
    have HB : Hid (Below (w.heap.size + 1) (w.alloc (.cells #[.bool false, .map none] 34)) wr) := hb
    clear hown hM hb
    by_cases hlt : k < n
    · obtain rfl := HX.out (by omega)
      obtain ⟨x, hx⟩ := nd_get (l := l) (k := k) (by rw [← HN.out]; exact hlt)
      have HXX : Hid (l[k]? = some x) := hx
      obtain ⟨hi1, hi2⟩ := HID.out k x hx
      have hbw := nodes_lt HC.out hx
      obtain ⟨hc0, hc1, hc2, hc3, hc4⟩ := nodes_later (nodes_later HC.out ((Below.refl w.heap.size w).alloc (Nat.le_refl _) _) hbw) (HB.out.mono (Nat.le_succ _)) hbw k x hx
      have hbm : byId (l.take (k + 1)) = putN (byId (l.take k)) x := by rw [take_nd hx, byId_snoc]
      have HBM : Hid (byId (l.take (k + 1)) = putN (byId (l.take k)) x) := hbm
      clear hx hbm
      cases hp : byId (l.take k) x.id with
      | none =>
        have hlk : ∀ o1, (Instr.lookup 44 (.map (some (w.heap.size + 1))) (.int .i64 x.id) true).run Try.prog (wr.alloc o1) = .ok (.tuple #[.agg #[.int .i64 0, .int .i64 0, .string ⟨#[]⟩, .string ⟨#[]⟩, .bool false], .bool false]) (wr.alloc o1) := fun o1 => look_none (HO.out.alloc o1) HM.out hi1 hp
        have HP : Hid (byId (l.take k) x.id = none) := hp
        clear hp
        go_wp2_with (at_mapUpdate; go_must (refine wpList_mapUpdate_own _ rfl _ _ _ 44 rfl 2 29 law2 Try.underlying44 ndElem (w.heap.size + 1) k D rfl ((HO.out.alloc _).alloc _) (by unfold maxLen; omega) _ _ _ rfl rfl (key2 hi1) (ndData x) [] (ndElem_mk x) ?_))
        intro w2 hown2 hg2
        have R1 : MapOf (D.put (.int .i64 x.id) (ndData x)) (byId (l.take (k + 1))) := by
          rw [HBM.out]; exact mapOf_put HM.out HO.out.isMap hi1 (putN_new HP.out) (fun j hj => putN_other hj)
        have R2 : Below (w.heap.size + 1) (w.alloc (.cells #[.bool false, .map none] 34)) w2 := below_map HB.out (Nat.le_refl _) (by have := HB.out.size; simpa using this) hg2
        have HR1 : Hid (MapOf (D.put (.int .i64 x.id) (ndData x)) (byId (l.take (k + 1)))) := R1
        have HR2 : Hid (Below (w.heap.size + 1) (w.alloc (.cells #[.bool false, .map none] 34)) w2) := R2
        have HR0 : Hid (w2.ownsMap Try.prog 2 ndElem (w.heap.size + 1) (k + 1) (D.put (.int .i64 x.id) (ndData x))) := hown2
        clear R1 R2 hown2 hg2 hlk hc0 hc1 hc2 hc3 hc4
        go_wp2_with fail
        go_roundw
        case rel => exact ⟨k + 1, _, by omega, by go_num, HR0.out, HR1.out, HR2.out⟩
        case measure => simp [intOf]; omega
      | some p =>
        have hlk : ∀ o1, (Instr.lookup 44 (.map (some (w.heap.size + 1))) (.int .i64 x.id) true).run Try.prog (wr.alloc o1) = .ok (.tuple #[.agg #[.int .i64 p.id, .int .i64 p.par, .string p.code, .string p.plat, .bool p.held], .bool true]) (wr.alloc o1) := fun o1 => look_some (HO.out.alloc o1) HM.out hi1 hp
        have HP : Hid (byId (l.take k) x.id = some p) := hp
        clear hp
        cases hh : p.held with
        | false =>
          rw [hh] at hlk
          have HH : Hid (p.held = false) := hh
          clear hh
          go_wp2_with (at_mapUpdate; go_must (refine wpList_mapUpdate_own _ rfl _ _ _ 44 rfl 2 29 law2 Try.underlying44 ndElem (w.heap.size + 1) k D rfl ((HO.out.alloc _).alloc _) (by unfold maxLen; omega) _ _ _ rfl rfl (key2 hi1) (ndData x) [] (ndElem_mk x) ?_))
          intro w2 hown2 hg2
          have R1 : MapOf (D.put (.int .i64 x.id) (ndData x)) (byId (l.take (k + 1))) := by
            rw [HBM.out]; exact mapOf_put HM.out HO.out.isMap hi1 (putN_not HP.out HH.out) (fun j hj => putN_other hj)
          have R2 : Below (w.heap.size + 1) (w.alloc (.cells #[.bool false, .map none] 34)) w2 := below_map HB.out (Nat.le_refl _) (by have := HB.out.size; simpa using this) hg2
          have HR1 : Hid (MapOf (D.put (.int .i64 x.id) (ndData x)) (byId (l.take (k + 1)))) := R1
          have HR2 : Hid (Below (w.heap.size + 1) (w.alloc (.cells #[.bool false, .map none] 34)) w2) := R2
          have HR0 : Hid (w2.ownsMap Try.prog 2 ndElem (w.heap.size + 1) (k + 1) (D.put (.int .i64 x.id) (ndData x))) := hown2
          clear R1 R2 hown2 hg2 hlk hc0 hc1 hc2 hc3 hc4
          go_wp2_with fail
          go_roundw
          case rel => exact ⟨k + 1, _, by omega, by go_num, HR0.out, HR1.out, HR2.out⟩
          case measure => simp [intOf]; omega
        | true =>
          rw [hh] at hlk
          have HH : Hid (p.held = true) := hh
          have HR1 : Hid (MapOf D (byId (l.take (k + 1)))) := by
            have : byId (l.take (k + 1)) = byId (l.take k) := by
              rw [HBM.out]; funext j
              by_cases e : j = x.id
              · rw [e, putN_held HP.out HH.out, HP.out]
              · exact putN_other e
            show MapOf D (byId (l.take (k + 1)))
            rw [this]; exact HM.out
          clear hh
          go_wp2_with fail
          go_roundw
          case rel => exact ⟨k + 1, D, by omega, by go_num, ((HO.out.alloc _).alloc _).mono (Nat.le_succ _), HR1.out, below_two HB.out (by have := HB.out.size; simpa using this) _ _⟩
          case measure => simp [intOf]; omega
    · have hkn : k = n := by omega
      have HM' : Hid (MapOf D (byId l)) := by
        have := HM.out
        rw [List.take_of_length_le (by rw [← HN.out]; omega)] at this
        exact this
      clear hkn
      have hs0 : w.heap.size + 2 ≤ wr.heap.size := by have := HO.out.lt; omega
      go_wp2_with (at_range; go_must (refine wpList_range_own _ rfl _ 44 rfl 2 29 law2 Try.underlying44 ndElem (w.heap.size + 1) k D rfl ((HO.out.alloc _).alloc _) ?_))
      intro w0 hrg0 hg0 hsz0
      have e2 : ((wr.alloc (.map #[] 0)).alloc (.map #[] 0)).heap.size = wr.heap.size + 2 := by simp
      have HS0 : Hid (Outer w l asked (w.heap.size + 1) wr.heap.size (wr.heap.size + 1) (wr.heap.size + 1 + 1) k D (Maps.has D) (Maps.size D) w0) := by
        have hsd := HO.out.size_le
        have hnn := HN.out
        have e1 : (wr.alloc (.map #[] 0)).heap.size = wr.heap.size + 1 := by simp
        refine ⟨0, 0, [], ⟨hrg0, ?_, ?_, ?_, by omega, by omega, by omega, by omega⟩, fun kl h => h, ?_, ?_, by simp; omega, Nat.le_refl _⟩
        · exact ((codes_start wr).kept (World.grownBy_alloc _ (.map #[] 0) none) (by simp)).kept hg0 (by simp) |>.as (Nat.le_refl _) (fun c => by
            simp only [CS, iff_false]
            rintro (⟨id, p, hc, _⟩ | ⟨id, p, hc, _⟩)
            · exact come_start HM'.out id hc
            · simp at hc)
        · have := (walked_start (wr.alloc (.map #[] 0))).kept hg0 (by simp)
          rw [e1] at this
          exact this
        · exact (below_two HB.out (by omega) (.map #[] 0) (.map #[] 0)).grown hg0 (by rw [e2]; omega) (by simp)
        · exact ⟨fun id h => by simp at h, fun id p h => absurd h (come_start HM'.out id), fun id h => by simp at h⟩
        · have : leftIds l [] ≤ l.length := List.length_filter_le _ _
          simp only [List.length_nil]
          omega
      obtain ⟨bc, hbc⟩ : ∃ bc, bc = wr.heap.size := ⟨_, rfl⟩
      rw [← hbc] at HS0 hs0 ⊢
      clear hrg0 hg0 hsz0 HB HM HO e2 hbc
      go_wp2_with fail
      go_loopw [47] (fun _ w1 => ∃ left cnt, Outer w l asked (w.heap.size + 1) bc (bc + 1) (bc + 1 + 1) k D left cnt w1) (fun _ w1 => w1.rangeLeft (w.heap.size + 1) (bc + 1 + 1))
      case atStart => exact ⟨_, _, HS0.out⟩
      case round =>
        rename World => w1
        obtain ⟨left, cnt, nc, nw, Wk, h4, hlh, hA, hb1, hb2, hb3⟩ := hrel
        have HH : Hid (∀ kl, left kl = true → Maps.has D kl = true) := hlh
        have HA : Hid (A2 (byId l) asked (Come (byId l) left) Wk) := hA
        have HW : Hid (Own4 (w.alloc (.cells #[.bool false, .map none] 34)) (w.heap.size + 1) (w.heap.size + 1) bc (bc + 1) (bc + 1 + 1) k D left cnt nc (CS (byId l) asked (Come (byId l) left) Wk) nw Wk w1) := h4
        have HBD : Hid (Wk.length + leftIds l Wk + cnt ≤ 2 * l.length ∧ nc + cnt ≤ Wk.length + l.length ∧ nw ≤ Wk.length) := ⟨hb1, hb2, hb3⟩
        clear h4 hlh hA hb1 hb2 hb3 HS0
        go_wp2_with (at_next; go_must (refine wpList_next_ranges _ rfl _ rfl 2 law2 ndElem (Value.int .i64) (fun c : Nd => Value.agg #[.int .i64 c.id, .int .i64 c.par, .string c.code, .string c.plat, .bool c.held]) (fun key kl hkey => by obtain ⟨x, rfl, _⟩ := Maps.keyOf_int_inv Try.underlying2 hkey; exact ⟨x, rfl⟩) (fun v y hv => by obtain ⟨c, rfl, _⟩ := ndElem_inv hv; exact ⟨c, rfl⟩) (w.heap.size + 1) (bc + 1 + 1) k D left cnt rfl HW.out.rg ?_ ?_))
        · intro hc0 hl0
          have hbe := HW.out.be
          have hk0 : w1.cell? ⟨w.heap.size, 0, none⟩ = some (.bool false) := by rw [hbe.cell (Nat.lt_succ_self _)]; simp
          have hk1 : w1.cell? ⟨w.heap.size, 1, none⟩ = some (.map none) := by rw [hbe.cell (Nat.lt_succ_self _)]; simp
          have HL : Hid (∀ kl, left kl = false) := hl0
          have hf0 : w1.frozen? ⟨w.heap.size, 0, none⟩ = false := by rw [hbe.frozen (Nat.lt_succ_self _)]; simp
          have hf1 : w1.frozen? ⟨w.heap.size, 1, none⟩ = false := by rw [hbe.frozen (Nat.lt_succ_self _)]; simp
          clear hc0 hl0 hbe
          go_wp2_with fail
          refine bodyPost_ret (v := .agg #[.bool false, .map (some bc)]) ?_ rfl ?_
          · have hres : Try.f6.results = #[.cell 4 34] := by kernel_rfl
            simp only [results, hres]
            go_simp
          · have h4 := HW.out
            refine ⟨bc, nc, rfl, ?_, by omega, ?_⟩
            · obtain ⟨Dc, g1, g2⟩ := h4.co.as (Nat.le_refl _) (fun c => (a2_end HA.out (fun id p hp => ⟨by rw [hp]; rfl, HL.out _⟩) c).symm)
              exact ⟨Dc, (g1.setCell (a := ⟨w.heap.size, 0, none⟩) (by simp; omega) _).setCell (a := ⟨w.heap.size, 1, none⟩) (by simp; omega) _, g2⟩
            · exact ((((Below.refl w.heap.size w).alloc (Nat.le_refl _) _).trans (h4.be.mono (Nat.le_succ _))).setCell (p := ⟨w.heap.size, 0, none⟩) (Nat.le_refl _) _).setCell (p := ⟨w.heap.size, 1, none⟩) (Nat.le_refl _) _
        · intro x c kl yd yps w2 cnt2 hkl hlk hy hat hrg2 hlt hg2 hs2 hen
          obtain ⟨rfl, hMx⟩ := came HM'.out HH.out (y := (yd, yps)) hkl hlk hy hat
          have hcs : Hid (∀ id, Come (byId l) (fun z => left z && !z.sameKey (.int .i64 x)) id ↔ Come (byId l) left id ∨ id = x) := come_step (by rw [hMx]; rfl)
          have H4 : Hid (Own4 (w.alloc (.cells #[.bool false, .map none] 34)) (w.heap.size + 1) (w.heap.size + 1) bc (bc + 1) (bc + 1 + 1) k D (fun z => left z && !z.sameKey (.int .i64 x)) cnt2 nc (CS (byId l) asked (Come (byId l) left) Wk) nw Wk w2) := HW.out.next hrg2 hg2
          have HH2 : Hid (∀ kl, (fun z => left z && !z.sameKey (.int .i64 x)) kl = true → Maps.has D kl = true) := fun kl h => HH.out kl (by
            simp only [Bool.and_eq_true] at h
            exact h.1)
          have HLE : Hid (w1.rangeLeft (w.heap.size + 1) (bc + 1 + 1) = cnt) := HW.out.rg.left_eq
          obtain ⟨left2, hl2⟩ : ∃ f, f = (fun z : Lit => left z && !z.sameKey (.int .i64 x)) := ⟨_, rfl⟩
          rw [← hl2] at hcs H4 HH2
          obtain ⟨hpm, hpid⟩ := byId_mem hMx
          obtain ⟨j0, hj0⟩ := List.getElem?_of_mem hpm
          obtain ⟨hi1, hi2⟩ := HID.out j0 c hj0
          have hcz := HS.out j0 c hj0
          have HMX : Hid (byId l x = some c) := hMx
          clear hl2 hkl hlk hy hat hrg2 hg2 hs2 HW HH hMx hpm hpid hj0
          have FIN : Hid (startB asked c = false → Outer w l asked (w.heap.size + 1) bc (bc + 1) (bc + 1 + 1) k D left2 cnt2 (w2.alloc (.cells #[.int .i64 c.id, .int .i64 c.par, .string c.code, .string c.plat, .bool c.held] 29))) := fun hst =>
            ⟨nc, nw, Wk, (H4.out.alloc _).as (fun cc => cs_skip hcs.out HMX.out hst cc), HH2.out, a2_skip HA.out hcs.out HMX.out hst, by have := HBD.out; omega, by have := HBD.out; omega, HBD.out.2.2⟩
          have HLT : Hid (cnt2 < cnt) := hlt
          clear hlt
          cases hheld : c.held with
          | false =>
            rw [hheld] at hen
            have hst : startB asked c = false := by simp [startB, hheld]
            have F2 : Hid (Outer w l asked (w.heap.size + 1) bc (bc + 1) (bc + 1 + 1) k D left2 cnt2 (w2.alloc (.cells #[.int .i64 c.id, .int .i64 c.par, .string c.code, .string c.plat, .bool false] 29))) := by
              have := FIN.out hst
              rw [hheld] at this
              exact this
            clear hheld hst FIN
            go_wp2_with fail
            go_roundw
            case rel => exact ⟨left2, cnt2, F2.out⟩
            case measure =>
              obtain ⟨_, _, _, q, _⟩ := F2.out
              rw [q.rg.left_eq, HLE.out]
              exact HLT.out
          | true =>
            rw [hheld] at hen
            cases hsv : servesB c.plat asked with
            | false =>
              have hser := srv c.plat asked hsv
              have hst : startB asked c = false := by simp [startB, hsv]
              have F2 : Hid (Outer w l asked (w.heap.size + 1) bc (bc + 1) (bc + 1 + 1) k D left2 cnt2 (w2.alloc (.cells #[.int .i64 c.id, .int .i64 c.par, .string c.code, .string c.plat, .bool true] 29))) := by
                have := FIN.out hst
                rw [hheld] at this
                exact this
              clear hheld hst FIN hsv
              go_wp2_with (go_at_call 8; refine (hser _).mono ?_; rintro e w' ⟨rfl, rfl⟩)
              go_roundw
              case rel => exact ⟨left2, cnt2, F2.out⟩
              case measure =>
                obtain ⟨_, _, _, q, _⟩ := F2.out
                rw [q.rg.left_eq, HLE.out]
                exact HLT.out
            | true =>
              have hser := srv c.plat asked hsv
              have HST : Hid (startB asked c = true) := by
                show startB asked c = true
                simp [startB, hheld, hsv]
              clear hheld FIN hsv
              obtain ⟨Dc, hdc1, hdc2⟩ := H4.out.co
              have HDC : Hid (w2.ownsMap Try.prog 9 unitElem bc nc Dc) := hdc1
              have HDC2 : Hid (∀ kl, Maps.has Dc kl = true ↔ ∃ c : ByteArray, kl = .string c.data.toList ∧ CS (byId l) asked (Come (byId l) left) Wk c) := hdc2
              clear hdc1 hdc2
              go_wp2_with (first | (go_at_call 8; refine (hser _).mono ?_; rintro e w' ⟨rfl, rfl⟩) | at_mapUpdate; go_must (refine wpList_mapUpdate_own _ rfl _ _ _ 32 rfl 9 36 law9 Try.underlying32 unitElem bc nc Dc rfl (HDC.out.alloc _) (by unfold maxLen; have := HBD.out; have := HN.out; omega) _ _ _ rfl rfl (key9 (by unfold maxLen; omega)) (.agg []) [] unitElem_mk ?_))
              intro w3 hown3 hg3
              have F3 : Hid (Inner w l asked (w.heap.size + 1) bc (bc + 1) (bc + 1 + 1) k D left2 cnt2 (leftIds l Wk) c.par w3) :=
                ⟨nc + 1, nw, Wk, (H4.out.alloc _).code (HDC.out.alloc _) HDC2.out (by unfold maxLen; omega) (fun cc => cs_start hcs.out HMX.out HST.out cc) hown3 hg3, a3_start HA.out hcs.out HMX.out HST.out, by have := HBD.out; have := HLT.out; omega, by have := HBD.out; have := HLT.out; omega, HBD.out.2.2, rfl⟩
              have hc1 : w3.cell? ⟨w2.heap.size, 1, none⟩ = some (.int .i64 c.par) := by
                have h4 := H4.out
                have := h4.rg.lt
                have := h4.o2
                have := h4.o3
                have := h4.o4
                rw [World.cell?_of_block (w := w2.alloc (.cells #[.int .i64 c.id, .int .i64 c.par, .string c.code, .string c.plat, .bool true] 29)) (hg3.block _ (by simp) (some_ne (by simp; omega)))]
                simp
              have FL : Hid (Own4 (w.alloc (.cells #[.bool false, .map none] 34)) (w.heap.size + 1) (w.heap.size + 1) bc (bc + 1) (bc + 1 + 1) k D left2 cnt2 nc (CS (byId l) asked (Come (byId l) left) Wk) nw Wk w2) := H4.out
              clear hown3 hg3 H4 HDC HDC2 hen FL HBD hcs HA hser HST HMX
              go_wp2_with fail
              go_loopg [14] (leftIds l Wk) (fun gk v w4 => ∃ cur, v = .int .i64 cur ∧ okId cur ∧ Inner w l asked (w.heap.size + 1) bc (bc + 1) (bc + 1 + 1) k D left2 cnt2 gk cur w4)
              case atStart => exact ⟨_, rfl, hi2, F3.out⟩
              case round =>
                rename World => w4
                clear F3 hc1
                obtain ⟨cur, rfl, hcur, nc, nw, Wk, h4, hA, hb1, hb2, hb3, hgk⟩ := hrel
                have HW : Hid (Own4 (w.alloc (.cells #[.bool false, .map none] 34)) (w.heap.size + 1) (w.heap.size + 1) bc (bc + 1) (bc + 1 + 1) k D left2 cnt2 nc (CS (byId l) asked (Come (byId l) left2) Wk) nw Wk w4) := h4
                have HA : Hid (A3 (byId l) asked (Come (byId l) left2) Wk cur) := hA
                have HBD : Hid (Wk.length + leftIds l Wk + cnt2 + 1 ≤ 2 * l.length ∧ nc + cnt2 ≤ Wk.length + l.length ∧ nw ≤ Wk.length ∧ gk = leftIds l Wk) := ⟨hb1, hb2, hb3, hgk⟩
                have hlw := look_walked h4.wa hcur
                clear h4 hA hb1 hb2 hb3 hgk
                -- the end of a climb
                have FEND : Hid (cur = 0 ∨ cur ∈ Wk → Outer w l asked (w.heap.size + 1) bc (bc + 1) (bc + 1 + 1) k D left2 cnt2 w4) := fun he =>
                  ⟨nc, nw, Wk, HW.out, HH2.out, a3_end HA.out he, by have := HBD.out; omega, HBD.out.2.1, HBD.out.2.2.1⟩
                by_cases h0 : cur = 0
                · subst h0
                  have F2 : Hid (Outer w l asked (w.heap.size + 1) bc (bc + 1) (bc + 1 + 1) k D left2 cnt2 w4) := FEND.out (Or.inl rfl)
                  clear FEND
                  go_wp2_with fail
                  go_roundw
                  case rel => exact ⟨left2, cnt2, F2.out⟩
                  case measure =>
                    obtain ⟨_, _, _, q, _⟩ := F2.out
                    rw [q.rg.left_eq, HLE.out]
                    exact HLT.out
                · by_cases hm : cur ∈ Wk
                  · have F2 : Hid (Outer w l asked (w.heap.size + 1) bc (bc + 1) (bc + 1 + 1) k D left2 cnt2 w4) := FEND.out (Or.inr hm)
                    rw [decide_eq_true hm] at hlw
                    clear FEND hm
                    go_wp2_with fail
                    go_roundw
                    case rel => exact ⟨left2, cnt2, F2.out⟩
                    case measure =>
                      obtain ⟨_, _, _, q, _⟩ := F2.out
                      rw [q.rg.left_eq, HLE.out]
                      exact HLT.out
                  · rw [decide_eq_false hm] at hlw
                    have HNM : Hid (cur ∉ Wk) := hm
                    clear FEND hm
                    obtain ⟨Dw, hdw1, hdw2⟩ := HW.out.wa
                    have HDW : Hid (w4.ownsMap Try.prog 2 (plainElem Try.prog 4) (bc + 1) nw Dw) := hdw1
                    have HDW2 : Hid (∀ id, okId id → Dw.atKey (.int .i64 id) (.lit (.bool false)) = .lit (.bool (decide (id ∈ Wk)))) := hdw2
                    clear hdw1 hdw2
                    have hWl : nw < maxLen := by unfold maxLen; have := HBD.out; have := HN.out; omega
                    go_wp2_with (at_mapUpdate; go_must (refine wpList_mapUpdate_own _ rfl _ _ _ 46 rfl 2 4 law2 Try.underlying46 (plainElem Try.prog 4) (bc + 1) nw Dw rfl HDW.out hWl _ _ _ rfl rfl (key2 hcur) (.lit (.bool true)) [] (plainElem_bool Try.underlying4 true) ?_))
                    intro w5 hown5 hg5
                    have H5 : Hid (Own4 (w.alloc (.cells #[.bool false, .map none] 34)) (w.heap.size + 1) (w.heap.size + 1) bc (bc + 1) (bc + 1 + 1) k D left2 cnt2 nc (CS (byId l) asked (Come (byId l) left2) Wk) (nw + 1) (cur :: Wk) w5) := HW.out.walk HDW.out HDW2.out hcur hown5 hg5
                    clear hown5 hg5 HDW HDW2 hlw HW hWl
                    cases hp : byId l cur with
                    | none =>
                      have hlk := look_none H5.out.rg.owns HM'.out hcur hp
                      simp only [ndVal, nd0] at hlk
                      have F2 : ∀ o1, Hid (Outer w l asked (w.heap.size + 1) bc (bc + 1) (bc + 1 + 1) k D left2 cnt2 (w5.alloc o1)) := fun o1 =>
                        ⟨nc, nw + 1, cur :: Wk, (H5.out.alloc _).as (fun cc => cs_break hp cc), HH2.out, a3_break HA.out h0 hp, by
                          have := HBD.out
                          have h9 : leftIds l (cur :: Wk) ≤ leftIds l Wk := left_le l Wk cur
                          simp only [List.length_cons]
                          omega, by have := HBD.out; simp only [List.length_cons]; omega, by have := HBD.out; simp only [List.length_cons]; omega⟩
                      have HP : Hid (byId l cur = none) := hp
                      clear hp
                      go_wp2_with fail
                      go_roundw
                      case rel => exact ⟨left2, cnt2, (F2 _).out⟩
                      case measure =>
                        obtain ⟨_, _, _, q, _⟩ := (F2 (.cells #[.int .i64 0, .int .i64 0, .string ⟨#[]⟩, .string ⟨#[]⟩, .bool false] 29)).out
                        rw [q.rg.left_eq, HLE.out]
                        exact HLT.out
                    | some u =>
                      have hlk := look_some H5.out.rg.owns HM'.out hcur hp
                      simp only [ndVal] at hlk
                      have HP : Hid (byId l cur = some u) := hp
                      obtain ⟨hum, huid⟩ := byId_mem hp
                      obtain ⟨j1, hj1⟩ := List.getElem?_of_mem hum
                      obtain ⟨hu1, hu2⟩ := HID.out j1 u hj1
                      have huz := HS.out j1 u hj1
                      have HLS : Hid (leftIds l (cur :: Wk) < leftIds l Wk) := left_step HNM.out ⟨u, hum, huid⟩
                      clear hp hum huid hj1
                      cases hsv : servesB u.plat asked with
                      | false =>
                        have hser := srv u.plat asked hsv
                        have HSV : Hid (servesB u.plat asked = false) := hsv
                        clear hsv
                        go_wp2_with (go_at_call 8; refine (hser _).mono ?_; rintro e w' ⟨rfl, rfl⟩)
                        go_roundg (leftIds l (cur :: Wk))
                        case measure => rw [HBD.out.2.2.2]; exact HLS.out
                        case rel => exact ⟨u.par, rfl, hu2, nc, nw + 1, cur :: Wk, (H5.out.alloc _).as (fun cc => cs_step_no HP.out HSV.out cc), a3_step HA.out h0 HP.out, by have := HBD.out; have := HLS.out; simp only [List.length_cons]; omega, by have := HBD.out; simp only [List.length_cons]; omega, by have := HBD.out; simp only [List.length_cons]; omega, rfl⟩
                      | true =>
                        have hser := srv u.plat asked hsv
                        have HSV : Hid (servesB u.plat asked = true) := hsv
                        clear hsv
                        obtain ⟨Dc, hdc1, hdc2⟩ := H5.out.co
                        have HDC : Hid (w5.ownsMap Try.prog 9 unitElem bc nc Dc) := hdc1
                        have HDC2 : Hid (∀ kl, Maps.has Dc kl = true ↔ ∃ c : ByteArray, kl = .string c.data.toList ∧ CS (byId l) asked (Come (byId l) left2) Wk c) := hdc2
                        have hWl : nc < maxLen := by unfold maxLen; have := HBD.out; have := HN.out; omega
                        clear hdc1 hdc2
                        go_wp2_with (first | (go_at_call 8; refine (hser _).mono ?_; rintro e w' ⟨rfl, rfl⟩) | at_mapUpdate; go_must (refine wpList_mapUpdate_own _ rfl _ _ _ 32 rfl 9 36 law9 Try.underlying32 unitElem bc nc Dc rfl (HDC.out.alloc _) hWl _ _ _ rfl rfl (key9 (by unfold maxLen; omega)) (.agg []) [] unitElem_mk ?_))
                        intro w6 hown6 hg6
                        have hc1 : w6.cell? ⟨w5.heap.size, 1, none⟩ = some (.int .i64 u.par) := by
                          have h4 := H5.out
                          have := h4.rg.lt
                          rw [World.cell?_of_block (w := w5.alloc (.cells #[.int .i64 u.id, .int .i64 u.par, .string u.code, .string u.plat, .bool u.held] 29)) (hg6.block _ (by simp) (some_ne (by simp; omega)))]
                          simp
                        have H6 : Hid (Own4 (w.alloc (.cells #[.bool false, .map none] 34)) (w.heap.size + 1) (w.heap.size + 1) bc (bc + 1) (bc + 1 + 1) k D left2 cnt2 (nc + 1) (CS (byId l) asked (Come (byId l) left2) (cur :: Wk)) (nw + 1) (cur :: Wk) w6) :=
                          (H5.out.alloc _).code (HDC.out.alloc _) HDC2.out (by unfold maxLen; omega) (fun cc => cs_step_yes HP.out HSV.out cc) hown6 hg6
                        clear hown6 hg6 HDC HDC2 H5 hlk
                        go_wp2_with fail
                        go_roundg (leftIds l (cur :: Wk))
                        case measure => rw [HBD.out.2.2.2]; exact HLS.out
                        case rel => exact ⟨u.par, rfl, hu2, nc + 1, nw + 1, cur :: Wk, H6.out, a3_step HA.out h0 HP.out, by have := HBD.out; have := HLS.out; simp only [List.length_cons]; omega, by have := HBD.out; simp only [List.length_cons]; omega, by have := HBD.out; simp only [List.length_cons]; omega, rfl⟩
end Go.Proofs.Qxb6618458a
