/-
  The law (3).
-/
import Derived.Test.Qxb6618458aAccess
import Derived.Test.Qxb6618458aReach
import Derived.Lib.SliceRun
import Derived.BigQuiet
namespace Go.Proofs.Qxb6618458a
open Go.RowKit Go.Maps

theorem drew_nodes {w : World} {b o : Nat} {l : List Nd} (h : nodesAt w b o l) (n : Nat) : nodesAt (w.drewN n) b o l := h

def Drawn (w wr : World) : Prop := ∃ nn, wr = w.drewN nn
theorem info29' : (Try.prog.info? 29).map (fun i => (i.zero, i.size, i.bytes)) = some (some (.agg #[.int .i64 0, .int .i64 0, .string ⟨#[]⟩, .string ⟨#[]⟩, .bool false]), 5, 56) := by kernel_rfl

/-- The j-th node among the cells. -/
def NdIn (xs : List Value) (j : Nat) (x : Nd) : Prop := xs[j * 5]? = some (.int .i64 x.id) ∧ xs[j * 5 + 1]? = some (.int .i64 x.par) ∧ xs[j * 5 + 2]? = some (.string x.code) ∧ xs[j * 5 + 3]? = some (.string x.plat) ∧ xs[j * 5 + 4]? = some (.bool x.held)

/-- k nodes have been copied. -/
structure Cp (w1 : World) (l : List Nd) (n k : Nat) (xs : List Value) (wr : World) : Prop where
  own : wr.ownsRow w1.heap.size 29 5 (.slice (some ⟨w1.heap.size, 0, none⟩) n n) n xs
  nds : ∀ (j : Nat) (x : Nd), j < k → l[j]? = some x → NdIn xs j x
  be : Below w1.heap.size w1 wr

theorem set5 {xs : List Value} {k : Nat} (hk : k * 5 + 4 < xs.length) (x : Nd) (xs' : List Value)
    (he : xs' = ((((xs.set (k * 5) (.int .i64 x.id)).set (k * 5 + 1) (.int .i64 x.par)).set (k * 5 + 2) (.string x.code)).set (k * 5 + 3) (.string x.plat)).set (k * 5 + 4) (.bool x.held)) :
    NdIn xs' k x ∧ ∀ j y, j < k → NdIn xs j y → NdIn xs' j y := by
  subst he
  constructor
  · refine ⟨?_, ?_, ?_, ?_, ?_⟩
    · rw [List.getElem?_set_ne (by omega), List.getElem?_set_ne (by omega), List.getElem?_set_ne (by omega), List.getElem?_set_ne (by omega), List.getElem?_set_self (by omega)]
    · rw [List.getElem?_set_ne (by omega), List.getElem?_set_ne (by omega), List.getElem?_set_ne (by omega), List.getElem?_set_self (by simp; omega)]
    · rw [List.getElem?_set_ne (by omega), List.getElem?_set_ne (by omega), List.getElem?_set_self (by simp; omega)]
    · rw [List.getElem?_set_ne (by omega), List.getElem?_set_self (by simp; omega)]
    · rw [List.getElem?_set_self (by simp; omega)]
  · intro j y hj h
    have far : ∀ i, i ≤ 4 → (((((xs.set (k * 5) (.int .i64 x.id)).set (k * 5 + 1) (.int .i64 x.par)).set (k * 5 + 2) (.string x.code)).set (k * 5 + 3) (.string x.plat)).set (k * 5 + 4) (.bool x.held))[j * 5 + i]? = xs[j * 5 + i]? := fun i hi => by
      rw [List.getElem?_set_ne (by omega), List.getElem?_set_ne (by omega), List.getElem?_set_ne (by omega), List.getElem?_set_ne (by omega), List.getElem?_set_ne (by omega)]
    obtain ⟨h0, h1, h2, h3, h4⟩ := h
    exact ⟨(far 0 (by omega)).trans h0, (far 1 (by omega)).trans h1, (far 2 (by omega)).trans h2, (far 3 (by omega)).trans h3, (far 4 (by omega)).trans h4⟩

/-- One node more. -/
theorem Cp.step {w1 wr : World} {l : List Nd} {n k : Nat} {xs : List Value} (h : Cp w1 l n k xs wr) (hk : k < n) {x : Nd} (hx : l[k]? = some x) :
    ∃ xs', Cp w1 l n (k + 1) xs' (((((wr.setCell ⟨w1.heap.size, k * 5, none⟩ (.int .i64 x.id)).setCell ⟨w1.heap.size, k * 5 + 1, none⟩ (.int .i64 x.par)).setCell ⟨w1.heap.size, k * 5 + 2, none⟩ (.string x.code)).setCell ⟨w1.heap.size, k * 5 + 3, none⟩ (.string x.plat)).setCell ⟨w1.heap.size, k * 5 + 4, none⟩ (.bool x.held)) := by
  have hl : xs.length = n * 5 := h.own.1
  obtain ⟨s1, s2⟩ := set5 (xs := xs) (k := k) (by omega) x _ rfl
  have q0 := (h.own.stored (k * 5) (.int .i64 x.id)).1
  have q1 := (q0.stored (k * 5 + 1) (.int .i64 x.par)).1
  have q2 := (q1.stored (k * 5 + 2) (.string x.code)).1
  have q3 := (q2.stored (k * 5 + 3) (.string x.plat)).1
  have q4 := (q3.stored (k * 5 + 4) (.bool x.held)).1
  refine ⟨_, q4, fun j y hj hy => ?_, ((((h.be.setCell (p := ⟨_, _, none⟩) (Nat.le_refl _) _).setCell (p := ⟨_, _, none⟩) (Nat.le_refl _) _).setCell (p := ⟨_, _, none⟩) (Nat.le_refl _) _).setCell (p := ⟨_, _, none⟩) (Nat.le_refl _) _).setCell (p := ⟨_, _, none⟩) (Nat.le_refl _) _⟩
  by_cases e : j = k
  · subst e
    rw [hx] at hy
    rw [← Option.some.inj hy]
    exact s1
  · exact s2 j y (by omega) (h.nds j y (by omega) hy)

theorem Cp.at {w1 wr : World} {l : List Nd} {n k : Nat} {xs : List Value} (h : Cp w1 l n k xs wr) (hk : k < n) (i : Nat) (hi : i < 5) : ∃ v, wr.cell? ⟨w1.heap.size, k * 5 + i, none⟩ = some v := by
  have hl : xs.length = n * 5 := h.own.1
  have hj : k * 5 + i < xs.length := by omega
  exact ⟨xs[k * 5 + i], (h.own.cellAt (k * 5 + i) (by omega)).trans (List.getElem?_eq_getElem hj)⟩

theorem Cp.nodes {w1 wr : World} {l : List Nd} {n : Nat} {xs : List Value} (hn : n = l.length) (h : Cp w1 l n n xs wr) : nodesAt wr w1.heap.size 0 l := fun j x hx => by
  have hj : j < n := by rw [hn]; exact (List.getElem?_eq_some_iff.1 hx).1
  obtain ⟨h0, h1, h2, h3, h4⟩ := h.nds j x hj hx
  unfold ndCells
  rw [Nat.zero_add]
  exact ⟨(h.own.cellAt _ (by omega)).trans h0, (h.own.cellAt _ (by omega)).trans h1, (h.own.cellAt _ (by omega)).trans h2, (h.own.cellAt _ (by omega)).trans h3, (h.own.cellAt _ (by omega)).trans h4⟩

theorem has_mem_keys {es : List (Lit × DataW Unit)} (hk : ∀ p ∈ es, WideAt.IsKeyLit p.1) {kl : Lit} : Maps.has (.map es : DataW Unit) kl = true ↔ kl ∈ es.map Prod.fst := by
  rw [has_eq, List.any_eq_true, List.mem_map]
  constructor
  · rintro ⟨p, hp, hs⟩; exact ⟨p, hp, WideAt.sameKey_eq hs⟩
  · rintro ⟨p, hp, rfl⟩; exact ⟨p, hp, WideAt.sameKey_self (hk p hp)⟩
theorem Cp.drew {w1 wr : World} {l : List Nd} {n k : Nat} {xs : List Value} (h : Cp w1 l n k xs wr) : Cp w1 l n k xs wr.drew := ⟨h.own.drew, h.nds, h.be.drew⟩

theorem reach_n (xa : Option Addr) (b o cap : Nat) (l : List Nd) (asked : ByteArray) (w : World) {n : Nat} (hn' : n = l.length) (hxa : 0 < n → xa = some ⟨b, o, none⟩) (hn : n ≤ 1048576) (hc : nodesAt w b o l)
    (hid : ∀ (j : Nat) (x : Nd), l[j]? = some x → okId x.id ∧ okId x.par) (hsz : ∀ (j : Nat) (x : Nd), l[j]? = some x → x.code.size ≤ 1048576 ∧ x.plat.size ≤ 1048576) :
    Calls Try.prog 5 #[.slice xa n cap, .string asked] w fun e w' => ReachRet w w' l asked e := by subst hn'; exact reach_any xa b o cap l asked w hxa hn hc hid hsz
theorem access_n (xa : Option Addr) (b o cap : Nat) (l : List Nd) (asked : ByteArray) (w : World) {n : Nat} (hn' : n = l.length) (hxa : 0 < n → xa = some ⟨b, o, none⟩) (hn : n ≤ 1048576) (hc : nodesAt w b o l)
    (hid : ∀ (j : Nat) (x : Nd), l[j]? = some x → okId x.id ∧ okId x.par) (hsz : ∀ (j : Nat) (x : Nd), l[j]? = some x → x.code.size ≤ 1048576 ∧ x.plat.size ≤ 1048576) :
    Calls Try.prog 6 #[.slice xa n cap, .string asked] w fun e w' => AccRet w w' l asked e := by subst hn'; exact access_any xa b o cap l asked w hxa hn hc hid hsz

/-- As many keys as codes. -/
theorem size_codes {D : DataW Unit} {es : List (Lit × DataW Unit)} (he : D = .map es) (hp : es.Pairwise (fun p q => p.1 ≠ q.1)) {P : ByteArray → Prop} (h : ∀ kl, Maps.has D kl = true ↔ ∃ c : ByteArray, kl = .string c.data.toList ∧ P c)
    (hk : ∀ p ∈ es, WideAt.IsKeyLit p.1) {out : List ByteArray} (hn : out.Nodup) (ho : ∀ c, c ∈ out ↔ P c) : Maps.size D = out.length := by
  subst he
  have e1 : Maps.size (.map es : DataW Unit) = (es.map Prod.fst).length := by simp [Maps.size]
  have e2 : out.length = (out.map fun c => Lit.string c.data.toList).length := by simp
  rw [e1, e2]
  refine nodup_len (List.pairwise_map.2 hp) (List.pairwise_map.2 (hn.imp (fun h e => h (ba_inj (by simpa only [Lit.string.injEq] using e))))) (fun kl => ?_)
  rw [← has_mem_keys hk, h]
  simp only [List.mem_map]
  constructor
  · rintro ⟨c, rfl, hc⟩; exact ⟨c, (ho c).2 hc, rfl⟩
  · rintro ⟨c, hc, rfl⟩; exact ⟨c, rfl, (ho c).1 hc⟩

theorem look_code {w : World} {b n : Nat} {D : DataW Unit} (ho : w.ownsMap Try.prog 9 unitElem b n D) {c : ByteArray} (hc : c.size ≤ maxLen) (hh : Maps.has D (.string c.data.toList) = true) :
    (Instr.lookup 32 (.map (some b)) (.string c) true).run Try.prog w = .ok (.tuple #[.agg #[], .bool true]) w := by
  obtain ⟨v, ps, hrun, hv⟩ := ho.look_ok law9 Try.underlying32 (zero36 w) unitElem_mk (key9 hc)
  obtain ⟨rfl, _⟩ := unitElem_inv hv
  rw [hh] at hrun
  exact hrun

theorem strs_get {zs : List ByteArray} {k : Nat} {c : ByteArray} (h : zs[k]? = some c) : (strs zs)[k]? = some (.string c) := by simp [strs, h]

theorem run_neq_nil (w : World) (a : Option Addr) (n c : Nat) : (binOp .neq 22 (.slice a n c) (.slice none 0 0)).run Try.prog w = .ok (.bool (!a.isNone)) w := by
  simp only [binOp]
  simp [Op.equal, Op.maxDepth, Lib.run_equalIn_slice_nil w 9999 22 25 a n c 0 0 Try.underlying22]

set_option maxRecDepth 100000 in
set_option maxHeartbeats 2000000 in
theorem law_any (xa : Option Addr) (b o cap : Nat) (l : List Nd) (asked : ByteArray) (w : World) (hxa : 0 < l.length → xa = some ⟨b, o, none⟩) (hn : l.length ≤ maxLen) (has : asked.size ≤ maxLen) (hc : nodesAt w b o l)
    (hid : ∀ (j : Nat) (x : Nd), l[j]? = some x → okId x.id ∧ okId x.par) (hsz : ∀ (j : Nat) (x : Nd), l[j]? = some x → x.code.size ≤ maxLen ∧ x.plat.size ≤ maxLen) :
    Calls Try.prog 3 #[.slice xa l.length cap, .string asked] w fun e w' => e = .returned (.bool true) ∧ Below w.heap.size w w' := by
  have HB4 := bytes4 xa b o cap l asked w hxa hn has hc hsz
  obtain ⟨n, hn'⟩ : ∃ n, n = l.length := ⟨_, rfl⟩
  have hq : ∀ (w : World), (binOp .neq 22 (.slice xa n cap) (.slice none 0 0)).run Try.prog w = .ok (.bool (!xa.isNone)) w := fun w => run_neq_nil w xa n cap
  rw [← hn'] at hn hxa HB4 ⊢
  have HN : Hid (n = l.length) := hn'
  have HC : Hid (nodesAt w b o l) := hc
  have HX : Hid (0 < n → xa = some ⟨b, o, none⟩) := hxa
  have HID : Hid (∀ (j : Nat) (x : Nd), l[j]? = some x → okId x.id ∧ okId x.par) := hid
  have HB : Hid (Calls Try.prog 4 #[.slice xa n cap, .string asked] w fun e w' => BoolRet l e ∧ w' = w) := HB4
  clear hn' hc hxa hsz hid HB4
  unfold maxLen at hn has
  go_enter Try.func3, Try.ntmps3
  go_wp2_with (go_at_call 4; refine (HB.out).mono ?_; rintro e w' ⟨⟨r, rfl, hr⟩, hw9⟩; have hw8 := hw9.symm; clear hw9; subst hw8; have HR : Hid (r = true → l.length ≤ 1048576 ∧ ∀ (j : Nat) (x : Nd), l[j]? = some x → x.code.size ≤ 1048576 ∧ x.plat.size ≤ 1048576) := hr; clear hr)
  all_goals try (go_ret; exact ⟨rfl, Below.refl _ _⟩)
  have hr : r = true := by
    have h : (!r) = false := by assumption
    simpa using h
  obtain ⟨hn2, hsz⟩ := HR.out hr
  subst hr
  have HS : Hid (∀ (j : Nat) (x : Nd), l[j]? = some x → x.code.size ≤ 1048576 ∧ x.plat.size ≤ 1048576) := hsz
  rw [← HN.out] at hn2
  clear HR hsz HB
  go_loopw [5, 6] (fun z i wr => ∃ (k : Nat) (y : Int), k ≤ n ∧ i = .int .i64 k ∧ z = .int .i64 y ∧ 0 ≤ y ∧ y ≤ 1048576 ∧ Drawn w wr) (fun _ i _ => n - (intOf i).toNat)
  case atStart => exact ⟨0, _, Nat.zero_le _, rfl, rfl, by omega, by omega, ⟨0, rfl⟩⟩
  case round =>
    obtain ⟨k, y, hk, rfl, rfl, hy0, hy1, nn, rfl⟩ := hrel
    by_cases hlt : k < n
    · obtain rfl := HX.out (by omega)
      obtain ⟨x, hx⟩ := nd_get (l := l) (k := k) (by rw [← HN.out]; exact hlt)
      obtain ⟨_, _, hc2, hc3, _⟩ := HC.out k x hx
      obtain ⟨hs1, hs2⟩ := HS.out k x hx
      clear hx
      go_wp2_with fail
      go_quiet (fail)
      go_wp2_with fail
      · go_ret
        exact ⟨rfl, ⟨rfl, rfl, rfl, Nat.le_refl _, fun _ _ => rfl⟩⟩
      go_roundw
      case rel =>
        (repeat apply Exists.intro)
        refine ⟨?_, rfl⟩
        exact ⟨k + 1, _, by omega, by go_num, rfl, by omega, by omega, _, rfl⟩
      case measure => simp [intOf]; omega
    · have hkn : k = n := by omega
      obtain ⟨w1, hw1⟩ : ∃ w1, w1 = w.drewN nn := ⟨_, rfl⟩
      have HC1 : Hid (nodesAt w1 b o l) := by
        rw [hw1]; exact drew_nodes HC.out nn
      have HB1 : Hid (Below w.heap.size w w1) := by
        rw [hw1]; exact below_drewN (Below.refl _ _) nn
      have hs1 : w1.heap.size = w.heap.size := by rw [hw1]; rfl
      have HS1 : Hid (w1.heap.size = w.heap.size) := hs1
      rw [← hw1]
      clear hw1 hs1 hkn HC
      cases hxc : xa with
      | none =>
        subst hxc
        have hn0 : n = 0 := Nat.eq_zero_of_not_pos (fun h => by have := HX.out h; cases this)
        have HN0 : Hid (0 = l.length) := hn0.symm.trans HN.out
        clear hn0
        obtain ⟨g, hg⟩ : ∃ g : Nat, g = 0 := ⟨_, rfl⟩
        obtain ⟨w3, hw3⟩ : ∃ w3, w3 = w1 := ⟨_, rfl⟩
        have HIN : Hid (nodesAt w3 g 0 l) := fun j x hx => by
          have := (List.getElem?_eq_some_iff.1 hx).1
          have := HN0.out
          omega
        have HB3 : Hid (Below w1.heap.size w1 w3) := by rw [hw3]; exact Below.refl _ _
        have HC3 : Hid (nodesAt w3 b o l) := by rw [hw3]; exact HC1.out
        rw [← hw3]
        clear hw3 hg
        go_wp2_with fail
        refine (reach_n none b o cap l asked w3 HN.out HX.out hn2 HC3.out HID.out HS.out).mono ?_
        rintro e w4 ⟨v9, out, rfl, hrow, hnd, hgood, hol, hb4⟩
        have HROW : Hid (RowV w4 w3.heap.size 9 v9 (strs out)) := hrow
        have HOUT : Hid (out.Nodup ∧ (∀ c, c ∈ out ↔ Good (byId l) asked c)) := ⟨hnd, hgood⟩
        have HB4 : Hid (Below w3.heap.size w3 w4) := hb4
        have HIN4 : Hid (nodesAt w4 g 0 l) := fun j x hx => nodes_later HIN.out hb4 (nodes_lt HIN.out hx) j x hx
        obtain ⟨on, hon⟩ : ∃ on, on = out.length := ⟨_, rfl⟩
        have HON : Hid (on = out.length) := hon
        rw [← hon, ← HN.out] at hol
        obtain ⟨a9, cap9, rfl⟩ := HROW.out.shapes (n := on) (by rw [strs_len, HON.out])
        clear hrow hnd hgood hb4 hon
        go_wp2_with fail
        refine (access_n none g 0 0 l asked w4 HN0.out (fun h => absurd h (Nat.lt_irrefl 0)) (by omega) HIN4.out HID.out HS.out).mono ?_
        rintro e w5 ⟨bm, nb, rfl, ⟨D, hd1, hd2⟩, hbm, hb5⟩
        have HD1 : Hid (w5.ownsMap Try.prog 9 unitElem bm nb D) := hd1
        have HD2 : Hid (∀ kl, Maps.has D kl = true ↔ ∃ c : ByteArray, kl = .string c.data.toList ∧ Good (byId l) asked c) := hd2
        have HB5 : Hid (Below w4.heap.size w4 w5) := hb5
        have hlen : ∀ (ty : TypeId) (o1 : Obj), (Builtin.len_ #[32] ty #[.map (some bm)]).run Try.prog (w5.alloc o1) = .ok (.int .i64 (on : Int)) (w5.alloc o1) := fun ty o1 => by
          obtain ⟨es, he, hp, hk⟩ := hd1.entries law9
          have := (hd1.alloc o1).len Try.underlying32 ty
          rw [size_codes he hp hd2 hk HOUT.out.1 HOUT.out.2, ← HON.out] at this
          exact this
        have hbl := hd1.lt
        clear hd1 hd2 hb5
        go_wp2_with fail
        obtain ⟨w6, hw6⟩ : ∃ w6, w6 = w5.alloc (.cells #[.bool false, .map (some bm)] 34) := ⟨_, rfl⟩
        have HK1 : Hid (w6.cell? ⟨w5.heap.size, 1, none⟩ = some (.map (some bm))) := by
          show w6.cell? ⟨w5.heap.size, 1, none⟩ = some (.map (some bm))
          rw [hw6]; simp
        have HL6 : Hid (w5.heap.size < w6.heap.size) := by
          show w5.heap.size < w6.heap.size
          rw [hw6]; simp
        have HD6 : Hid (w6.ownsMap Try.prog 9 unitElem bm nb D) := by
          rw [hw6]; exact HD1.out.alloc _
        have HR6 : Hid (RowV w6 w3.heap.size 9 (.slice a9 on cap9) (strs out)) := by
          rw [hw6]; exact (HROW.out.later HB5.out).alloc _
        have HB6 : Hid (Below w.heap.size w w6) := by
          have h3 : Below w.heap.size w w3 := HB1.out.trans (HB3.out.mono (by rw [HS1.out]; exact Nat.le_refl _))
          have h4 : Below w.heap.size w w4 := h3.trans (HB4.out.mono h3.size)
          have h5 : Below w.heap.size w w5 := h4.trans (HB5.out.mono h4.size)
          rw [hw6]; exact h5.alloc h5.size _
        rw [← hw6]
        clear hw6 hlen HROW HD1 HB5 HB4 HB3
        go_loopw [11] (fun i wr => ∃ k : Nat, k ≤ on ∧ i = .int .i64 k ∧ Below w6.heap.size w6 wr) (fun i _ => on - (intOf i).toNat)
        case atStart => exact ⟨0, Nat.zero_le _, rfl, Below.refl _ _⟩
        case round =>
          rename World => w7
          obtain ⟨k, hk, rfl, hb7⟩ := hrel
          have HB7 : Hid (Below w6.heap.size w6 w7) := hb7
          clear hb7
          by_cases hlt : k < on
          · obtain ⟨c, hcx⟩ : ∃ c, out[k]? = some c := ⟨out[k]'(by rw [← HON.out]; exact hlt), List.getElem?_eq_getElem _⟩
            obtain ⟨g9, cap9', e9⟩ := HR6.out.shape (n := on) (by rw [strs_len, HON.out]) (by omega)
            cases e9
            have hg := (HOUT.out.2 c).1 (List.mem_of_getElem? hcx)
            have hcz : c.size ≤ maxLen := by
              obtain ⟨id, p, _, hp, _, rfl⟩ := hg
              obtain ⟨j, hj⟩ := List.getElem?_of_mem (byId_mem hp).1
              have := (HS.out j p hj).1
              unfold maxLen; omega
            have hh : Maps.has D (.string c.data.toList) = true := (HD2.out _).2 ⟨c, rfl, hg⟩
            have hk9 : w7.cell? ⟨g9, k, none⟩ = some (.string c) := (HR6.out.later HB7.out).cell (strs_get hcx)
            have hk1 : w7.cell? ⟨w5.heap.size, 1, none⟩ = some (.map (some bm)) := (HB7.out.cell HL6.out).trans HK1.out
            have ho7 : w7.ownsMap Try.prog 9 unitElem bm nb D := HD6.out.kept (row := none) ⟨HB7.out.os, HB7.out.tape, HB7.out.output, HB7.out.size, fun a ha _ => HB7.out.block a ha⟩ (by simp)
            have hk0 := look_code ho7 hcz hh
            have hk2 := look_code ho7.drew hcz hh
            have hk3 := fun o1 => look_code (ho7.alloc o1) hcz hh
            have hk4 := fun o1 => look_code (ho7.alloc o1).drew hcz hh
            have hg9 := (HR6.out.lt (a := g9) rfl).2
            have h6 := HL6.out
            have h7 := HB7.out.size
            have hl9 : g9 < w7.heap.size := by omega
            have hl5 : w5.heap.size < w7.heap.size := by omega
            have HO7 : Hid (w6.heap.size ≤ w7.heap.size) := h7
            clear hcx hg hcz hh ho7 h6 h7 hg9
            go_wp2_with fail
            go_big_region
            go_wp2_with fail
            go_roundw
            case rel => exact ⟨k + 1, by omega, by go_num, (HB7.out.alloc HO7.out _).drew⟩
            case measure => simp [intOf]; omega
          · go_wp2_with fail
            go_ret
            exact ⟨rfl, HB6.out.trans (HB7.out.mono HB6.out.size)⟩
      | some xad =>
        subst hxc
        obtain ⟨i0, hi, hz0, hz1, hz2⟩ := info_parts info29'
        go_wp2_with (at_make; go_must (refine wpList_make_full _ rfl _ _ 26 rfl w1.heap.size 29 i0 (.agg #[.int .i64 0, .int .i64 0, .string ⟨#[]⟩, .string ⟨#[]⟩, .bool false]) 5 Try.underlying26 hi hz0 hz1 _ _ _ _ n rfl rfl rfl rfl (by rw [hz2]; omega) (by unfold maxLen; omega) (Nat.le_refl _) ?_))
        intro w2 hown2 hg2
        have H2 : Hid (∃ xs, Cp w1 l n 0 xs w2) := ⟨_, hown2, fun j x hj => absurd hj (Nat.not_lt_zero j), (Below.refl _ _).grown hg2 (Nat.le_refl _) (fun a ha => by cases ha)⟩
        clear hown2 hg2 hi hz0 hz1 hz2
        obtain ⟨g, hg⟩ : ∃ g, g = w1.heap.size := ⟨_, rfl⟩
        have HG : Hid (g = w1.heap.size) := hg
        rw [← hg]
        clear hg
        go_wp2_with fail
        go_loopw [8] (fun i wr => ∃ (k : Nat) (xs : List Value), k ≤ n ∧ i = .int .i64 k ∧ Cp w1 l n k xs wr) (fun i _ => n - (intOf i).toNat)
        case atStart =>
          obtain ⟨xs, h⟩ := H2.out
          exact ⟨0, xs, Nat.zero_le _, rfl, h⟩
        case round =>
          rename World => w3
          obtain ⟨k, xs, hk, rfl, hcp⟩ := hrel
          have HCP : Hid (Cp w1 l n k xs w3) := hcp
          clear hcp H2
          by_cases hlt : k < n
          · have hxa := HX.out (by omega)
            cases hxa
            obtain ⟨x, hx⟩ := nd_get (l := l) (k := k) (by rw [← HN.out]; exact hlt)
            have HXX : Hid (l[k]? = some x) := hx
            have hbw := nodes_lt HC1.out hx
            obtain ⟨hc0, hc1, hc2, hc3, hc4⟩ := nodes_later HC1.out HCP.out.be hbw k x hx
            have hat : ∀ i, i < 5 → ∃ v, w3.cell? ⟨g, k * 5 + i, none⟩ = some v := fun i hi => by rw [HG.out]; exact HCP.out.at hlt i hi
            obtain ⟨v0, hv0⟩ := hat 0 (by omega)
            obtain ⟨v1, hv1⟩ := hat 1 (by omega)
            obtain ⟨v2, hv2⟩ := hat 2 (by omega)
            obtain ⟨v3, hv3⟩ := hat 3 (by omega)
            obtain ⟨v4, hv4⟩ := hat 4 (by omega)
            rw [Nat.add_zero] at hv0
            have hfz : ∀ i, w3.frozen? ⟨g, i, none⟩ = false := fun i => by rw [HG.out]; exact HCP.out.own.frozenAt i
            have HST := HCP.out.step hlt hx
            rw [← HG.out] at HST
            have HS2 : Hid (∃ xs', Cp w1 l n (k + 1) xs' (((((w3.setCell ⟨g, k * 5, none⟩ (.int .i64 x.id)).setCell ⟨g, k * 5 + 1, none⟩ (.int .i64 x.par)).setCell ⟨g, k * 5 + 2, none⟩ (.string x.code)).setCell ⟨g, k * 5 + 3, none⟩ (.string x.plat)).setCell ⟨g, k * 5 + 4, none⟩ (.bool x.held))) := HST
            clear hx hat HST
            go_wp2_with fail
            go_big_region
            go_wp2_with fail
            go_roundw
            case rel =>
              obtain ⟨xs', h⟩ := HS2.out
              exact ⟨k + 1, xs', by omega, by go_num, h.drew⟩
            case measure => simp [intOf]; omega
          · have hkn : k = n := by omega
            have HIN : Hid (nodesAt w3 g 0 l) := by
              have h := HCP.out
              rw [hkn] at h
              have := h.nodes HN.out
              rw [← HG.out] at this
              exact this
            have HB3 : Hid (Below w1.heap.size w1 w3) := HCP.out.be
            have HC3 : Hid (nodesAt w3 b o l) := fun j x hx => nodes_later HC1.out HCP.out.be (nodes_lt HC1.out hx) j x hx
            clear hkn HCP
            go_wp2_with fail
            refine (reach_n (some xad) b o cap l asked w3 HN.out HX.out hn2 HC3.out HID.out HS.out).mono ?_
            rintro e w4 ⟨v9, out, rfl, hrow, hnd, hgood, hol, hb4⟩
            have HROW : Hid (RowV w4 w3.heap.size 9 v9 (strs out)) := hrow
            have HOUT : Hid (out.Nodup ∧ (∀ c, c ∈ out ↔ Good (byId l) asked c)) := ⟨hnd, hgood⟩
            have HB4 : Hid (Below w3.heap.size w3 w4) := hb4
            have HIN4 : Hid (nodesAt w4 g 0 l) := fun j x hx => nodes_later HIN.out hb4 (nodes_lt HIN.out hx) j x hx
            obtain ⟨on, hon⟩ : ∃ on, on = out.length := ⟨_, rfl⟩
            have HON : Hid (on = out.length) := hon
            rw [← hon, ← HN.out] at hol
            obtain ⟨a9, cap9, rfl⟩ := HROW.out.shapes (n := on) (by rw [strs_len, HON.out])
            clear hrow hnd hgood hb4 hon
            go_wp2_with fail
            refine (access_n (some ⟨g, 0, none⟩) g 0 n l asked w4 HN.out (fun _ => rfl) hn2 HIN4.out HID.out HS.out).mono ?_
            rintro e w5 ⟨bm, nb, rfl, ⟨D, hd1, hd2⟩, hbm, hb5⟩
            have HD1 : Hid (w5.ownsMap Try.prog 9 unitElem bm nb D) := hd1
            have HD2 : Hid (∀ kl, Maps.has D kl = true ↔ ∃ c : ByteArray, kl = .string c.data.toList ∧ Good (byId l) asked c) := hd2
            have HB5 : Hid (Below w4.heap.size w4 w5) := hb5
            have hlen : ∀ (ty : TypeId) (o1 : Obj), (Builtin.len_ #[32] ty #[.map (some bm)]).run Try.prog (w5.alloc o1) = .ok (.int .i64 (on : Int)) (w5.alloc o1) := fun ty o1 => by
              obtain ⟨es, he, hp, hk⟩ := hd1.entries law9
              have := (hd1.alloc o1).len Try.underlying32 ty
              rw [size_codes he hp hd2 hk HOUT.out.1 HOUT.out.2, ← HON.out] at this
              exact this
            have hbl := hd1.lt
            clear hd1 hd2 hb5
            go_wp2_with fail
            obtain ⟨w6, hw6⟩ : ∃ w6, w6 = w5.alloc (.cells #[.bool false, .map (some bm)] 34) := ⟨_, rfl⟩
            have HK1 : Hid (w6.cell? ⟨w5.heap.size, 1, none⟩ = some (.map (some bm))) := by
              show w6.cell? ⟨w5.heap.size, 1, none⟩ = some (.map (some bm))
              rw [hw6]; simp
            have HL6 : Hid (w5.heap.size < w6.heap.size) := by
              show w5.heap.size < w6.heap.size
              rw [hw6]; simp
            have HD6 : Hid (w6.ownsMap Try.prog 9 unitElem bm nb D) := by
              rw [hw6]; exact HD1.out.alloc _
            have HR6 : Hid (RowV w6 w3.heap.size 9 (.slice a9 on cap9) (strs out)) := by
              rw [hw6]; exact (HROW.out.later HB5.out).alloc _
            have HB6 : Hid (Below w.heap.size w w6) := by
              have h3 : Below w.heap.size w w3 := HB1.out.trans (HB3.out.mono (by rw [HS1.out]; exact Nat.le_refl _))
              have h4 : Below w.heap.size w w4 := h3.trans (HB4.out.mono h3.size)
              have h5 : Below w.heap.size w w5 := h4.trans (HB5.out.mono h4.size)
              rw [hw6]; exact h5.alloc h5.size _
            rw [← hw6]
            clear hw6 hlen HROW HD1 HB5 HB4 HB3
            go_loopw [11] (fun i wr => ∃ k : Nat, k ≤ on ∧ i = .int .i64 k ∧ Below w6.heap.size w6 wr) (fun i _ => on - (intOf i).toNat)
            case atStart => exact ⟨0, Nat.zero_le _, rfl, Below.refl _ _⟩
            case round =>
              rename World => w7
              obtain ⟨k, hk, rfl, hb7⟩ := hrel
              have HB7 : Hid (Below w6.heap.size w6 w7) := hb7
              clear hb7
              by_cases hlt : k < on
              · obtain ⟨c, hcx⟩ : ∃ c, out[k]? = some c := ⟨out[k]'(by rw [← HON.out]; exact hlt), List.getElem?_eq_getElem _⟩
                obtain ⟨g9, cap9', e9⟩ := HR6.out.shape (n := on) (by rw [strs_len, HON.out]) (by omega)
                cases e9
                have hg := (HOUT.out.2 c).1 (List.mem_of_getElem? hcx)
                have hcz : c.size ≤ maxLen := by
                  obtain ⟨id, p, _, hp, _, rfl⟩ := hg
                  obtain ⟨j, hj⟩ := List.getElem?_of_mem (byId_mem hp).1
                  have := (HS.out j p hj).1
                  unfold maxLen; omega
                have hh : Maps.has D (.string c.data.toList) = true := (HD2.out _).2 ⟨c, rfl, hg⟩
                have hk9 : w7.cell? ⟨g9, k, none⟩ = some (.string c) := (HR6.out.later HB7.out).cell (strs_get hcx)
                have hk1 : w7.cell? ⟨w5.heap.size, 1, none⟩ = some (.map (some bm)) := (HB7.out.cell HL6.out).trans HK1.out
                have ho7 : w7.ownsMap Try.prog 9 unitElem bm nb D := HD6.out.kept (row := none) ⟨HB7.out.os, HB7.out.tape, HB7.out.output, HB7.out.size, fun a ha _ => HB7.out.block a ha⟩ (by simp)
                have hk0 := look_code ho7 hcz hh
                have hk2 := look_code ho7.drew hcz hh
                have hk3 := fun o1 => look_code (ho7.alloc o1) hcz hh
                have hk4 := fun o1 => look_code (ho7.alloc o1).drew hcz hh
                have hg9 := (HR6.out.lt (a := g9) rfl).2
                have h6 := HL6.out
                have h7 := HB7.out.size
                have hl9 : g9 < w7.heap.size := by omega
                have hl5 : w5.heap.size < w7.heap.size := by omega
                have HO7 : Hid (w6.heap.size ≤ w7.heap.size) := h7
                clear hcx hg hcz hh ho7 h6 h7 hg9
                go_wp2_with fail
                go_big_region
                go_wp2_with fail
                go_roundw
                case rel => exact ⟨k + 1, by omega, by go_num, (HB7.out.alloc HO7.out _).drew⟩
                case measure => simp [intOf]; omega
              · go_wp2_with fail
                go_ret
                exact ⟨rfl, HB6.out.trans (HB7.out.mono HB6.out.size)⟩
end Go.Proofs.Qxb6618458a
