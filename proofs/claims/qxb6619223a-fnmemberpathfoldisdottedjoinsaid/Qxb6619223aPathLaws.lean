/-
  The walks of the two laws over memberPath (5, 6).
-/
import Derived.Test.Qxb6619223aPathDot
namespace Go.Proofs.Qxb6619223a
open Go.RowKit

theorem getD_take {ns : List ByteArray} {q j : Nat} (h : j < q) : (ns.take q).getD j ByteArray.empty = ns.getD j ByteArray.empty := by
  simp only [List.getD_eq_getElem?_getD, List.getElem?_take_of_lt h]
theorem getD_drop {ns : List ByteArray} {q j : Nat} : (ns.drop q).getD j ByteArray.empty = ns.getD (q + j) ByteArray.empty := by
  simp only [List.getD_eq_getElem?_getD, List.getElem?_drop]
theorem tot_step {ns : List ByteArray} {k : Nat} (h : k < ns.length) : tot (ns.take (k + 1)) = tot (ns.take k) + ((ns.getD k ByteArray.empty).size + 1) := by
  rw [take_snoc h, tot_append, tot_one]

set_option maxRecDepth 100000 in
set_option maxHeartbeats 1000000 in
theorem law6_any (kk : Int) (p : ByteArray) (xa : Option Addr) (b o xl xc : Nat) (ns : List ByteArray) (w : World) (hp : p.size ≤ maxLen) (hxa : 0 < xl → xa = some ⟨b, o, none⟩) (hx : xl ≤ maxLen) (hxc : xl ≤ xc) (hl : ns.length = xl)
    (hws : ∀ j, (ns.getD j ByteArray.empty).size ≤ maxLen) (hc : ∀ j, j < xl → w.cell? ⟨b, o + j, none⟩ = some (.string (ns.getD j ByteArray.empty))) :
    Calls Try.prog 6 #[.string p, .slice xa xl xc, .int .i64 kk] w fun e w' => e = .returned (.bool true) ∧ Below w.heap.size w w' := by
  have HP : Hid (p.size ≤ maxLen) := hp
  have HXM : Hid (xl ≤ maxLen) := hx
  have HX : Hid (0 < xl → xa = some ⟨b, o, none⟩) := hxa
  have HC : Hid (∀ j, j < xl → w.cell? ⟨b, o + j, none⟩ = some (.string (ns.getD j ByteArray.empty))) := hc
  have HWS : Hid (∀ j, (ns.getD j ByteArray.empty).size ≤ maxLen) := hws
  have HL : Hid (ns.length = xl) := hl
  clear hl hxa hc hws
  unfold maxLen at hp hx
  go_enter Try.func6, Try.ntmps6
  go_wp2_with (go_at_call 11; refine (bytes11_any kk p xa b o xl xc ns _ HP.out HX.out HXM.out HWS.out HC.out).mono ?_; rintro e w' ⟨⟨r, rfl, hr⟩, rfl⟩; have HR : Hid (r = true → ∀ j, j < xl → (ns.getD j ByteArray.empty).size ≤ 1048576) := hr; clear hr)
  all_goals try (go_ret; exact ⟨rfl, Below.refl _ _⟩)
  go_loop [7, 8] (fun z i => ∃ (k : Nat) (y : Int), k ≤ xl ∧ i = .int .i64 k ∧ z = .int .i64 y ∧ y ≤ 1048576 ∧ ((p.size + tot (ns.take k) : Nat) : Int) ≤ y) (fun _ i => xl - (intOf i).toNat)
  case atStart => exact ⟨0, _, Nat.zero_le _, rfl, rfl, by omega, by simp [tot]⟩
  case round =>
    obtain ⟨k, y, hk, rfl, rfl, hy1, hy2⟩ := hrel
    by_cases hlt : k < xl
    · obtain rfl := HX.out (by omega)
      have hcell := HC.out k hlt
      have hsz := HR.out (by cases r <;> simp_all) k hlt
      have hts := tot_step (ns := ns) (k := k) (by rw [HL.out]; exact hlt)
      generalize ns.getD k ByteArray.empty = nm at hcell hsz hts
      have HT : Hid (tot (List.take (k + 1) ns) = tot (List.take k ns) + (nm.size + 1)) := hts
      have hy0 : 0 ≤ y := by omega
      clear hts
      go_wp2
      all_goals try (go_ret; exact ⟨rfl, Below.refl _ _⟩)
      go_round
      case rel => exact ⟨k + 1, _, by omega, by go_num, rfl, by omega, by rw [HT.out]; omega⟩
      case measure => simp [intOf]; omega
    · have hb : p.size + tot ns ≤ 2097152 := by
        rw [List.take_of_length_le (by rw [HL.out]; omega)] at hy2
        omega
      have HB : Hid (p.size + tot ns ≤ 2097152) := hb
      have hx1 : xl ≤ 1048576 := by omega
      clear hb
      by_cases hk0 : 0 ≤ kk
      · obtain ⟨q, rfl⟩ := Int.eq_ofNat_of_zero_le hk0
        by_cases hq : q < xl
        · obtain rfl := HX.out (by omega)
          have hcell := HC.out q hq
          by_cases hn : (ns.getD q ByteArray.empty).size = 0
          · generalize ns.getD q ByteArray.empty = nm at hcell hn
            go_wp2
            go_ret
            exact ⟨rfl, Below.refl _ _⟩
          · generalize hnm : ns.getD q ByteArray.empty = nm at hcell hn
            have HN : Hid (ns.getD q ByteArray.empty = nm) := hnm
            clear hnm
            go_wp2_with fail
            refine (fold_any p _ b o xl xc ns _ (fun _ => rfl) HL.out hx1 HC.out HB.out).mono ?_
            rintro e w1 ⟨rfl, rfl⟩
            go_wp2_with fail
            refine (fold_any p _ b o q xc (ns.take q) _ (fun _ => rfl) (by rw [List.length_take, HL.out]; omega) (by omega) (fun j hj => by rw [getD_take hj]; exact HC.out j (by omega)) (by have := tot_take ns q; have := HB.out; omega)).mono ?_
            rintro e w2 ⟨rfl, rfl⟩
            go_wp2_with fail
            have htd := tot_drop ns q
            have hb2 := HB.out
            refine (fold_any ⟨#[]⟩ _ b (o + q) (xl - q) (xc - q) (ns.drop q) _ (fun _ => rfl) (by rw [List.length_drop, HL.out]) (by omega) (fun j hj => by rw [getD_drop, Nat.add_assoc]; exact HC.out (q + j) (by omega)) (by show 0 + tot _ ≤ _; omega)).mono ?_
            rintro e w3 ⟨rfl, rfl⟩
            have hcut : foldB p ns = mpB (foldB p (ns.take q)) (foldB ⟨#[]⟩ (ns.drop q)) := fold_cut p ns q (by rw [HL.out]; exact hq) (by rw [HN.out]; exact hn)
            have hs1 := size_foldB p (ns.take q)
            have hs2 : (foldB ⟨#[]⟩ (ns.drop q)).size ≤ 0 + tot (ns.drop q) := size_foldB ⟨#[]⟩ (ns.drop q)
            have hs3 := tot_take ns q
            have hdr : (ns.drop q).getD 0 ByteArray.empty = nm := by rw [getD_drop]; exact HN.out
            have hdot := fun w' hw => dot_any (some ⟨b, o + q, none⟩) b (o + q) (xl - q) (xc - q) (ns.drop q) w' (fun _ => rfl) (by rw [List.length_drop, HL.out]) (by omega) hw (by omega) (by rw [hdr]; exact hn)
            have hcd : ∀ j, j < xl - q → w3.cell? ⟨b, o + q + j, none⟩ = some (.string ((ns.drop q).getD j ByteArray.empty)) := fun j hj => by rw [getD_drop, Nat.add_assoc]; exact HC.out (q + j) (by omega)
            have HCD := show Hid _ from hcd
            have HDOT : Hid (∀ w' hw, Calls Try.prog 13 #[.slice (some ⟨b, o + q, none⟩) (xl - q) (xc - q)] w' fun e w'_1 => e = .returned (.string (foldB ByteArray.empty (ns.drop q))) ∧ Below w'.heap.size w' w'_1) := hdot
            have e0 : foldB ByteArray.empty (ns.drop q) = foldB ⟨#[]⟩ (ns.drop q) := rfl
            rw [e0] at HDOT
            have hsum : (foldB p (ns.take q)).size + (foldB ⟨#[]⟩ (ns.drop q)).size ≤ 4194304 := by omega
            generalize foldB p (ns.take q) = H at *
            generalize foldB ⟨#[]⟩ (ns.drop q) = T at *
            rw [hcut]
            have HSUM : Hid (H.size + T.size ≤ 4194304) := hsum
            clear hcut hs1 hs2 hs3 hdr hdot hcd hsum htd hb2 e0 HC
            go_wp2_with (first
              | (go_at_call 12; refine (zzmember_any _ _ _ HSUM.out).mono ?_; rintro e w' ⟨rfl, rfl⟩)
              | (go_at_call 13; refine (HDOT.out _ HCD.out).mono ?_; rintro e w' ⟨rfl, hbel⟩))
            go_ret
            exact ⟨rfl, hbel⟩
        · go_wp2
          go_ret
          exact ⟨rfl, Below.refl _ _⟩
      · go_wp2
        go_ret
        exact ⟨rfl, Below.refl _ _⟩
set_option maxRecDepth 100000 in
set_option maxHeartbeats 1000000 in
theorem law5_any (p : ByteArray) (xa : Option Addr) (b o xl xc : Nat) (ns : List ByteArray) (w : World) (hp : p.size ≤ maxLen) (hxa : 0 < xl → xa = some ⟨b, o, none⟩) (hx : xl ≤ maxLen) (hl : ns.length = xl)
    (hws : ∀ j, (ns.getD j ByteArray.empty).size ≤ maxLen) (hc : ∀ j, j < xl → w.cell? ⟨b, o + j, none⟩ = some (.string (ns.getD j ByteArray.empty))) :
    Calls Try.prog 5 #[.string p, .slice xa xl xc] w fun e w' => e = .returned (.bool true) ∧ Below w.heap.size w w' := by
  have HP : Hid (p.size ≤ maxLen) := hp
  have HXM : Hid (xl ≤ maxLen) := hx
  have HX : Hid (0 < xl → xa = some ⟨b, o, none⟩) := hxa
  have HC : Hid (∀ j, j < xl → w.cell? ⟨b, o + j, none⟩ = some (.string (ns.getD j ByteArray.empty))) := hc
  have HWS : Hid (∀ j, (ns.getD j ByteArray.empty).size ≤ maxLen) := hws
  have HL : Hid (ns.length = xl) := hl
  clear hl hxa hc hws
  unfold maxLen at hp hx
  go_enter Try.func5, Try.ntmps5
  go_wp2_with (go_at_call 8; refine (bytes8_any p xa b o xl xc ns _ HP.out HX.out HXM.out HWS.out HC.out).mono ?_; rintro e w' ⟨⟨r, rfl, hr⟩, rfl⟩; have HR : Hid (r = true → ∀ j, j < xl → (ns.getD j ByteArray.empty).size ≤ 1048576) := hr; clear hr)
  all_goals try (go_ret; exact ⟨rfl, Below.refl _ _⟩)
  go_loop [5, 6] (fun z i => ∃ (k : Nat) (y : Int), k ≤ xl ∧ i = .int .i64 k ∧ z = .int .i64 y ∧ y ≤ 1048576 ∧ ((p.size + tot (ns.take k) : Nat) : Int) ≤ y) (fun _ i => xl - (intOf i).toNat)
  case atStart => exact ⟨0, _, Nat.zero_le _, rfl, rfl, by omega, by simp [tot]⟩
  case round =>
    obtain ⟨k, y, hk, rfl, rfl, hy1, hy2⟩ := hrel
    by_cases hlt : k < xl
    · obtain rfl := HX.out (by omega)
      have hcell := HC.out k hlt
      have hsz := HR.out (by cases r <;> simp_all) k hlt
      have hts := tot_step (ns := ns) (k := k) (by rw [HL.out]; exact hlt)
      generalize ns.getD k ByteArray.empty = nm at hcell hsz hts
      have HT : Hid (tot (List.take (k + 1) ns) = tot (List.take k ns) + (nm.size + 1)) := hts
      have hy0 : 0 ≤ y := by omega
      clear hts
      go_wp2
      all_goals try (go_ret; exact ⟨rfl, Below.refl _ _⟩)
      go_round
      case rel => exact ⟨k + 1, _, by omega, by go_num, rfl, by omega, by rw [HT.out]; omega⟩
      case measure => simp [intOf]; omega
    · have hb : p.size + tot ns ≤ 2097152 := by
        rw [List.take_of_length_le (by rw [HL.out]; omega)] at hy2
        omega
      have HB : Hid (p.size + tot ns ≤ 2097152) := hb
      have hx1 : xl ≤ 1048576 := by omega
      clear hb
      go_wp2_with (first
        | (go_at_call 9; refine (fold_any p xa b o xl xc ns _ HX.out HL.out hx1 HC.out HB.out).mono ?_; rintro e w' ⟨rfl, rfl⟩)
        | (go_at_call 10; refine (join_any p xa b o xl xc ns _ HX.out HL.out hx1 HC.out HB.out).mono ?_; rintro e w' ⟨rfl, hbel⟩))
      go_ret
      exact ⟨rfl, hbel⟩
end Go.Proofs.Qxb6619223a

