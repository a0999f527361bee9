/-
  The plain half of 'FnNumberLiteralMatchesAutomaton': the automaton over the bytes of a string, and what each stretch of bytes does to its state. No Go in sight.
-/
namespace Go.Proofs.Qxb6623271a

/-- Byte k of s as a number; 0 behind the end. -/
def bt (s : ByteArray) (k : Nat) : Int := ((s.data.toList.getD k 0).toNat : Int)

theorem bt_at (s : ByteArray) (k : Nat) (h : k < s.size) : bt s k = (s[k].toNat : Int) := by
  unfold bt
  rw [List.getD_eq_getElem?_getD, List.getElem?_eq_getElem (by simpa using h)]
  rfl

/-- A digit. -/
def dgB (c : Int) : Bool := decide (48 ≤ c) && decide (c ≤ 57)

/-- One step of the automaton: 'numberStep'. -/
def stepZ (st c : Int) : Int :=
  if st = 0 then (if c = 45 then 1 else if c = 48 then 2 else if dgB c then 3 else -1)
  else if st = 1 then (if c = 48 then 2 else if dgB c then 3 else -1)
  else if st = 2 then (if c = 46 then 4 else if c = 101 ∨ c = 69 then 6 else -1)
  else if st = 3 then (if dgB c then 3 else if c = 46 then 4 else if c = 101 ∨ c = 69 then 6 else -1)
  else if st = 4 then (if dgB c then 5 else -1)
  else if st = 5 then (if dgB c then 5 else if c = 101 ∨ c = 69 then 6 else -1)
  else if st = 6 then (if c = 43 ∨ c = 45 then 7 else if dgB c then 8 else -1)
  else if st = 7 then (if dgB c then 8 else -1)
  else if st = 8 then (if dgB c then 8 else -1)
  else -1

theorem step_dead (c : Int) : stepZ (-1) c = -1 := by simp [stepZ]

/-- The state behind the first k bytes. -/
def stt (s : ByteArray) : Nat → Int
  | 0 => 0
  | k + 1 => stepZ (stt s k) (bt s k)

theorem stt_zero (s : ByteArray) : stt s 0 = 0 := rfl
theorem stt_succ (s : ByteArray) (k : Nat) : stt s (k + 1) = stepZ (stt s k) (bt s k) := rfl

theorem step_neg {st c : Int} (h : stepZ st c < 0) : stepZ st c = -1 := by
  unfold stepZ at *
  repeat' split at h
  all_goals first | omega | simp_all

theorem stt_neg {s : ByteArray} : ∀ {k : Nat}, stt s k < 0 → stt s k = -1
  | 0, h => by simp [stt] at h
  | k + 1, h => step_neg h

/-- Once dead, dead to the end. -/
theorem stt_dead {s : ByteArray} {k : Nat} (h : stt s k = -1) : ∀ m, stt s (k + m) = -1
  | 0 => h
  | m + 1 => by
    show stepZ (stt s (k + m)) _ = -1
    rw [stt_dead h m, step_dead]

theorem stt_dead' {s : ByteArray} {k n : Nat} (h : stt s k = -1) (hk : k ≤ n) : stt s n = -1 := by
  have := stt_dead h (n - k)
  rwa [show k + (n - k) = n by omega] at this

/-- Accepted without, with a fraction or an exponent. -/
def accI (st : Int) : Bool := decide (st = 2) || decide (st = 3)
def accF (st : Int) : Bool := decide (st = 5) || decide (st = 8)

theorem dg_eq (c : Int) : dgB c = true ↔ 48 ≤ c ∧ c ≤ 57 := by simp [dgB]

/-- A state that digits keep: 3, 5, 8. -/
theorem stt_run {s : ByteArray} {q : Int} (hq : ∀ c, dgB c = true → stepZ q c = q) {i : Nat} (h : stt s i = q) {j : Nat} (hij : i ≤ j) (hd : ∀ m, i ≤ m → m < j → dgB (bt s m) = true) : stt s j = q := by
  induction j with
  | zero =>
    have : i = 0 := by omega
    rw [← this]; exact h
  | succ j ih =>
    by_cases e : i = j + 1
    · rw [← e]; exact h
    · rw [stt_succ, ih (by omega) (fun m h1 h2 => hd m h1 (by omega))]
      exact hq _ (hd j (by omega) (by omega))

theorem keep3 (c : Int) (h : dgB c = true) : stepZ 3 c = 3 := by simp [stepZ, h]
theorem keep5 (c : Int) (h : dgB c = true) : stepZ 5 c = 5 := by simp [stepZ, h]
theorem keep8 (c : Int) (h : dgB c = true) : stepZ 8 c = 8 := by simp [stepZ, h]

/-- What 'numberLength' must say for the two readings to agree at the string's end. -/
def good (s : ByteArray) (r : Int) (f : Bool) : Prop :=
  (if r = s.size ∧ r ≠ 0 then accI (stt s s.size) = !f ∧ accF (stt s s.size) = f else accI (stt s s.size) = false ∧ accF (stt s s.size) = false)

/-- Dead ahead of the end. -/
theorem good_dead {s : ByteArray} {r : Int} {f : Bool} {k : Nat} (hr : r ≠ s.size ∨ r = 0) (hk : k ≤ s.size) (h : stt s k = -1) : good s r f := by
  unfold good
  rw [if_neg (by omega), stt_dead' h hk]
  decide

/-- At the end in a state that is not accepted. -/
theorem good_end {s : ByteArray} {r : Int} {f : Bool} {q : Int} (hr : r ≠ s.size ∨ r = 0) (h : stt s s.size = q) (hq : accI q = false ∧ accF q = false) : good s r f := by
  unfold good
  rw [if_neg (by omega), h]
  exact hq

/-- At the end in an accepting state. -/
theorem good_acc {s : ByteArray} {f : Bool} {q : Int} {r : Int} (hr : r = s.size) (h0 : r ≠ 0) (h : stt s s.size = q) (hq : accI q = !f ∧ accF q = f) : good s r f := by
  unfold good
  rw [if_pos ⟨hr, h0⟩, h]
  exact hq

/-- The default arm: neither 0 nor a digit at i. -/
theorem good_none {s : ByteArray} {i : Nat} (hi : i ≤ s.size) (h : stt s i = 0 ∧ (i < s.size → bt s i ≠ 45) ∨ stt s i = 1) (hd : i < s.size → dgB (bt s i) = false) : good s 0 false := by
  by_cases e : i < s.size
  · have h1 := hd e
    have h2 : bt s i ≠ 48 := by intro e1; rw [e1] at h1; simp [dgB] at h1
    refine good_dead (k := i + 1) (Or.inr rfl) (by omega) ?_
    rw [stt_succ]
    rcases h with ⟨h, h3⟩ | h
    · have h4 := h3 e
      simp [stepZ, h, h1, h2, h4]
    · simp [stepZ, h, h1, h2]
  · have e1 : i = s.size := by omega
    subst e1
    rcases h with ⟨h, _⟩ | h
    · exact good_end (Or.inr rfl) h (by decide)
    · exact good_end (Or.inr rfl) h (by decide)

/-- The integer part has been read up to i: state 2, or 3 and no digit follows. -/
def intAt (s : ByteArray) (i : Nat) : Prop := 0 < i ∧ i ≤ s.size ∧ (stt s i = 2 ∨ stt s i = 3 ∧ (i < s.size → dgB (bt s i) = false))

theorem intAt_zero {s : ByteArray} {i : Nat} (hi : i < s.size) (h : stt s i = 0 ∨ stt s i = 1) (hc : bt s i = 48) : intAt s (i + 1) := by
  refine ⟨by omega, by omega, Or.inl ?_⟩
  rw [stt_succ]
  rcases h with h | h <;> simp [stepZ, h, hc]

theorem intAt_digits {s : ByteArray} {i j : Nat} (hi : i < s.size) (h : stt s i = 0 ∨ stt s i = 1) (h1 : 49 ≤ bt s i) (h2 : bt s i ≤ 57) (hij : i ≤ j) (hj : j ≤ s.size) (hd : ∀ m, i ≤ m → m < j → dgB (bt s m) = true) (he : j < s.size → dgB (bt s j) = false) : intAt s j := by
  have hdi : dgB (bt s i) = true := (dg_eq _).2 (by omega)
  have hlt : i < j := by
    rcases Nat.lt_or_ge i j with h' | h'
    · exact h'
    · have : j = i := by omega
      subst this
      rw [he hi] at hdi
      cases hdi
  refine ⟨by omega, hj, Or.inr ⟨?_, he⟩⟩
  refine stt_run keep3 (i := i + 1) ?_ hlt (fun m a b => hd m (by omega) b)
  rw [stt_succ]
  have e1 : bt s i ≠ 48 := by omega
  have e2 : bt s i ≠ 45 := by omega
  rcases h with h | h <;> simp [stepZ, h, hdi, e1, e2]

/-- A '.' at i with no digit behind it. -/
theorem good_dot_none {s : ByteArray} {i : Nat} (h : intAt s i) (hi : i < s.size) (hc : bt s i = 46) (he : i + 1 < s.size → dgB (bt s (i + 1)) = false) : good s i false := by
  have h4 : stt s (i + 1) = 4 := by
    rw [stt_succ]
    rcases h.2.2 with h | ⟨h, _⟩ <;> simp [stepZ, h, hc, dgB]
  by_cases e : i + 1 < s.size
  · refine good_dead (k := i + 2) (Or.inl (by omega)) (by omega) ?_
    rw [stt_succ, h4]
    simp [stepZ, he e]
  · have e1 : s.size = i + 1 := by omega
    exact good_end (Or.inl (by omega)) (q := 4) (by rw [e1]; exact h4) (by decide)

/-- All but the exponent has been read up to i, f says whether there is a fraction. -/
def mantAt (s : ByteArray) (i : Nat) (f : Bool) : Prop :=
  0 < i ∧ i ≤ s.size ∧ (f = false ∧ intAt s i ∧ (i < s.size → bt s i ≠ 46) ∨ f = true ∧ stt s i = 5 ∧ (i < s.size → dgB (bt s i) = false))

theorem mantAt_int {s : ByteArray} {i : Nat} (h : intAt s i) (hc : i < s.size → bt s i ≠ 46) : mantAt s i false := ⟨h.1, h.2.1, Or.inl ⟨rfl, h, hc⟩⟩

theorem mantAt_frac {s : ByteArray} {i j : Nat} (h : intAt s i) (hc : bt s i = 46) (hij : i + 1 ≤ j) (hne : j ≠ i + 1) (hj : j ≤ s.size) (hd : ∀ m, i + 1 ≤ m → m < j → dgB (bt s m) = true) (he : j < s.size → dgB (bt s j) = false) : mantAt s j true := by
  have h4 : stt s (i + 1) = 4 := by
    rw [stt_succ]
    rcases h.2.2 with h | ⟨h, _⟩ <;> simp [stepZ, h, hc, dgB]
  have hd1 := hd (i + 1) (by omega) (by omega)
  refine ⟨by omega, hj, Or.inr ⟨rfl, ?_, he⟩⟩
  refine stt_run keep5 (i := i + 2) ?_ (by omega) (fun m a b => hd m (by omega) b)
  rw [stt_succ, h4]
  simp [stepZ, hd1]

theorem mantAt_acc {s : ByteArray} {i : Nat} {f : Bool} (h : mantAt s i f) : accI (stt s i) = !f ∧ accF (stt s i) = f := by
  obtain ⟨_, _, ⟨rfl, ⟨_, _, h⟩, _⟩ | ⟨rfl, h, _⟩⟩ := h
  · rcases h with h | ⟨h, _⟩ <;> rw [h] <;> decide
  · rw [h]; decide

/-- No exponent follows. -/
theorem good_mant {s : ByteArray} {i : Nat} {f : Bool} (h : mantAt s i f) (hc : i < s.size → bt s i ≠ 101 ∧ bt s i ≠ 69) : good s i f := by
  by_cases e : i < s.size
  · obtain ⟨h1, h2⟩ := hc e
    refine good_dead (k := i + 1) (Or.inl (by omega)) (by omega) ?_
    rw [stt_succ]
    obtain ⟨_, _, ⟨rfl, ⟨_, _, h⟩, h3⟩ | ⟨rfl, h, h3⟩⟩ := h
    · have h3 := h3 e
      rcases h with h | ⟨h, h4⟩
      · simp [stepZ, h, h1, h2, h3]
      · simp [stepZ, h, h1, h2, h3, h4 e]
    · simp [stepZ, h, h1, h2, h3 e]
  · have e1 : s.size = i := by have := h.2.1; omega
    have := mantAt_acc h
    refine good_acc (by rw [e1]) (by have := h.1; omega) (q := stt s i) (by rw [e1]) this

theorem mant_exp {s : ByteArray} {i : Nat} {f : Bool} (h : mantAt s i f) (hc : bt s i = 101 ∨ bt s i = 69) : stt s (i + 1) = 6 := by
  rw [stt_succ]
  have hd : dgB (bt s i) = false := by rcases hc with hc | hc <;> rw [hc] <;> decide
  have h46 : bt s i ≠ 46 := by omega
  obtain ⟨_, _, ⟨rfl, ⟨_, _, h⟩, h3⟩ | ⟨rfl, h, h3⟩⟩ := h
  · rcases h with h | ⟨h, h4⟩ <;> simp [stepZ, h, hd, h46, hc]
  · simp [stepZ, h, hd, hc]

theorem exp_sign {s : ByteArray} {i : Nat} (h : stt s i = 6) (hc : bt s i = 43 ∨ bt s i = 45) : stt s (i + 1) = 7 := by
  rw [stt_succ, h]
  simp [stepZ, hc]

/-- An exponent's mark (and sign) with no digit behind it. -/
theorem good_exp_none {s : ByteArray} {i k : Nat} {f : Bool} (hi : i < s.size) (hk : k ≤ s.size) (h : stt s k = 6 ∧ (k < s.size → bt s k ≠ 43 ∧ bt s k ≠ 45) ∨ stt s k = 7) (he : k < s.size → dgB (bt s k) = false) : good s i f := by
  by_cases e : k < s.size
  · refine good_dead (k := k + 1) (Or.inl (by omega)) (by omega) ?_
    rw [stt_succ]
    rcases h with ⟨h, h1⟩ | h
    · obtain ⟨h2, h3⟩ := h1 e
      simp [stepZ, h, he e, h2, h3]
    · simp [stepZ, h, he e]
  · have e1 : s.size = k := by omega
    rcases h with ⟨h, _⟩ | h
    · exact good_end (Or.inl (by omega)) (q := 6) (by rw [e1]; exact h) (by decide)
    · exact good_end (Or.inl (by omega)) (q := 7) (by rw [e1]; exact h) (by decide)

/-- An exponent. -/
theorem good_exp {s : ByteArray} {k j : Nat} (h : stt s k = 6 ∨ stt s k = 7) (hkj : k ≤ j) (hne : j ≠ k) (hj : j ≤ s.size) (hd : ∀ m, k ≤ m → m < j → dgB (bt s m) = true) (he : j < s.size → dgB (bt s j) = false) : good s j true := by
  have hd0 := hd k (Nat.le_refl _) (by omega)
  have hd1 := (dg_eq _).1 hd0
  have h8 : stt s j = 8 := by
    refine stt_run keep8 (i := k + 1) ?_ (by omega) (fun m a b => hd m (by omega) b)
    rw [stt_succ]
    have e1 : bt s k ≠ 43 := by omega
    have e2 : bt s k ≠ 45 := by omega
    rcases h with h | h <;> simp [stepZ, h, hd0, e1, e2]
  by_cases e : j < s.size
  · refine good_dead (k := j + 1) (Or.inl (by omega)) (by omega) ?_
    rw [stt_succ, h8]
    simp [stepZ, he e]
  · have e1 : s.size = j := by omega
    exact good_acc (by omega) (by omega) (q := 8) (by rw [e1]; exact h8) (by decide)
end Go.Proofs.Qxb6623271a
