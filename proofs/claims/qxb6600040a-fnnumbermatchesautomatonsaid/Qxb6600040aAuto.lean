/-
  Seat b6600040a. The plain law behind FnNumberMatchesAutomaton: the automaton of the JSON number grammar, and what a scanner that reads part by part makes of the same bytes. No Go in this text.
-/
namespace Go.Proofs.Qxb6600040a

/-- Is c a digit's byte? -/
def digC (c : Int) : Bool := decide (48 ≤ c) && decide (c ≤ 57)
/-- Is c the exponent's mark? -/
def expC (c : Int) : Bool := c == 101 || c == 69

/-- The transition table; -1: no move. -/
def stepF (s c : Int) : Int :=
  if s = 0 then (if c = 45 then 1 else if c = 48 then 2 else if digC c then 3 else -1)
  else if s = 1 then (if c = 48 then 2 else if digC c then 3 else -1)
  else if s = 2 then (if c = 46 then 4 else if expC c then 6 else -1)
  else if s = 3 then (if digC c then 3 else if c = 46 then 4 else if expC c then 6 else -1)
  else if s = 4 then (if digC c then 5 else -1)
  else if s = 5 then (if digC c then 5 else if expC c then 6 else -1)
  else if s = 6 then (if c = 43 ∨ c = 45 then 7 else if digC c then 8 else -1)
  else if s = 7 then (if digC c then 8 else -1)
  else if s = 8 then (if digC c then 8 else -1)
  else -1

def acc (s : Int) : Bool := s == 2 || s == 3 || s == 5 || s == 8

theorem stepF_bd (s c : Int) : -1 ≤ stepF s c ∧ stepF s c ≤ 8 := by
  unfold stepF
  repeat' split
  all_goals omega

section
variable (g : Nat → Int) (n : Nat)

/-- At most f moves from state s at place p. -/
def auto : Nat → Int → Nat → Int × Nat
  | 0, s, p => (s, p)
  | f + 1, s, p => if p < n ∧ 0 ≤ stepF s (g p) then auto f (stepF s (g p)) (p + 1) else (s, p)

/-- Where the automaton halts from state s at place p. -/
def halt (s : Int) (p : Nat) : Int × Nat := auto g n (n - p) s p

theorem halt_move {s : Int} {p : Nat} (h : p < n) (h2 : 0 ≤ stepF s (g p)) : halt g n s p = halt g n (stepF s (g p)) (p + 1) := by
  unfold halt
  rw [show n - p = (n - (p + 1)) + 1 by omega]
  simp [auto, h, h2]

theorem halt_stop {s : Int} {p : Nat} (h : ¬ (p < n ∧ 0 ≤ stepF s (g p))) : halt g n s p = (s, p) := by
  unfold halt
  cases n - p with
  | zero => rfl
  | succ f => simp only [auto]; rw [if_neg h]

/-- The byte c stands at p. -/
def At (p : Nat) (c : Int) : Prop := p < n ∧ g p = c
/-- A digit stands at p. -/
def Dig (p : Nat) : Prop := p < n ∧ digC (g p) = true
/-- From p to q stand digits, at q none. -/
def DRun (p q : Nat) : Prop := p ≤ q ∧ (∀ j, p ≤ j → j < q → Dig g n j) ∧ ¬ Dig g n q

theorem DRun.le {p q : Nat} (h : DRun g n p q) : p ≤ q := h.1

theorem DRun.bound {p q : Nat} (h : DRun g n p q) : q = p ∨ q ≤ n := by
  by_cases e : q = p
  · exact .inl e
  · have h1 := h.1
    have := (h.2.1 (q - 1) (by omega) (by omega)).1
    exact .inr (by omega)

theorem DRun.first {p q : Nat} (h : DRun g n p q) (hpq : p < q) : Dig g n p := h.2.1 p (Nat.le_refl _) hpq

/-- A state that digits do not leave runs over them. -/
theorem halt_run {s : Int} (hs : ∀ c, digC c = true → stepF s c = s) (h0 : 0 ≤ s) : ∀ (k p q : Nat), q = p + k → (∀ j, p ≤ j → j < q → Dig g n j) → halt g n s p = halt g n s q
  | 0, p, q, e, _ => by rw [e]; rfl
  | k + 1, p, q, e, hd => by
    have h1 := hd p (Nat.le_refl _) (by omega)
    have h2 := hs _ h1.2
    rw [halt_move g n h1.1 (by rw [h2]; exact h0), h2]
    exact halt_run hs h0 k (p + 1) q (by omega) (fun j h3 h4 => hd j (by omega) h4)

/-- A state that a digit leads into such a state, at the head of a run of digits. -/
theorem halt_into {s t : Int} (ht : ∀ c, digC c = true → stepF t c = t) (h0 : 0 ≤ t) {p q : Nat} (hr : DRun g n p q) (hpq : p < q) (hst : stepF s (g p) = t) : halt g n s p = halt g n t q := by
  have h1 := hr.first g n hpq
  rw [halt_move g n h1.1 (by rw [hst]; exact h0), hst]
  exact halt_run g n ht h0 (q - (p + 1)) (p + 1) q (by omega) (fun j h3 h4 => hr.2.1 j (by omega) h4)

theorem run3 (c : Int) (h : digC c = true) : stepF 3 c = 3 := by simp [stepF, h]
theorem run5 (c : Int) (h : digC c = true) : stepF 5 c = 5 := by simp [stepF, h]
theorem run8 (c : Int) (h : digC c = true) : stepF 8 c = 8 := by simp [stepF, h]

/-- What the law asks of a scanner's answer. -/
def Law (i : Nat) (ok : Bool) (q : Nat) : Prop := ok = acc (halt g n 0 i).1 ∧ (ok = true → q = (halt g n 0 i).2) ∧ i ≤ q ∧ (q ≤ n ∨ q = i)

/-- Behind the sign: state 0 (no sign) or 1, at p1. -/
def Sign (i p1 : Nat) : Prop := ∃ s, halt g n 0 i = halt g n s p1 ∧ (s = 0 ∧ p1 = i ∧ ¬ At g n p1 45 ∨ s = 1) ∧ i ≤ p1 ∧ (p1 ≤ n ∨ p1 = i)

theorem sign_yes {i : Nat} (h : At g n i 45) : Sign g n i (i + 1) := by
  have e : stepF 0 (g i) = 1 := by rw [h.2]; rfl
  exact ⟨1, by rw [halt_move g n h.1 (by rw [e]; decide), e], .inr rfl, by omega, .inl h.1⟩
theorem sign_no {i : Nat} (h : ¬ At g n i 45) : Sign g n i i := ⟨0, rfl, .inl ⟨rfl, rfl, h⟩, Nat.le_refl _, .inr rfl⟩

/-- Behind the whole part: state 2 (a leading 0) or 3 (no digit follows), at p2. -/
def Whole (i p2 : Nat) : Prop := ∃ s, halt g n 0 i = halt g n s p2 ∧ (s = 2 ∨ s = 3 ∧ ¬ Dig g n p2) ∧ i ≤ p2 ∧ p2 ≤ n

theorem whole_zero {i p1 : Nat} (hs : Sign g n i p1) (h : At g n p1 48) : Whole g n i (p1 + 1) := by
  obtain ⟨s, e, hc, hi, _⟩ := hs
  have e2 : stepF s (g p1) = 2 := by
    rw [h.2]
    rcases hc with ⟨rfl, _⟩ | rfl <;> rfl
  exact ⟨2, by rw [e, halt_move g n h.1 (by rw [e2]; decide), e2], .inl rfl, by omega, h.1⟩

theorem whole_digits {i p1 q : Nat} (hs : Sign g n i p1) (h : ¬ At g n p1 48) (hr : DRun g n p1 q) (hpq : p1 < q) : Whole g n i q := by
  obtain ⟨s, e, hc, hi, _⟩ := hs
  have hd := hr.first g n hpq
  have h48 : g p1 ≠ 48 := fun e => h ⟨hd.1, e⟩
  have h45 : g p1 ≠ 45 := fun e => by have := hd.2; rw [e] at this; exact absurd this (by decide)
  have e2 : stepF s (g p1) = 3 := by
    rcases hc with ⟨rfl, _⟩ | rfl <;> simp [stepF, h48, h45, hd.2]
  have hb := hr.bound g n
  exact ⟨3, by rw [e, halt_into g n run3 (by decide) hr hpq e2], .inr ⟨rfl, hr.2.2⟩, by omega, by omega⟩

theorem whole_none {i p1 : Nat} (hs : Sign g n i p1) (h : ¬ At g n p1 48) (hr : DRun g n p1 p1) : Law g n i false p1 := by
  obtain ⟨s, e, hc, hi, hb⟩ := hs
  have hst : ¬ (p1 < n ∧ 0 ≤ stepF s (g p1)) := by
    rintro ⟨hlt, hm⟩
    have h48 : g p1 ≠ 48 := fun e => h ⟨hlt, e⟩
    have hdg : digC (g p1) = false := by
      cases hh : digC (g p1) with
      | false => rfl
      | true => exact absurd ⟨hlt, hh⟩ hr.2.2
    rcases hc with ⟨rfl, _, hn⟩ | rfl
    · have h45 : g p1 ≠ 45 := fun e => hn ⟨hlt, e⟩
      simp [stepF, h48, h45, hdg] at hm
    · simp [stepF, h48, hdg] at hm
  have e2 : halt g n 0 i = (s, p1) := by rw [e, halt_stop g n hst]
  refine ⟨?_, (fun h => by cases h), hi, hb⟩
  rw [e2]
  rcases hc with ⟨rfl, _⟩ | rfl <;> rfl

/-- Behind the fraction: state 2, 3 or 5, at p3, where the automaton moves on an exponent's mark alone. -/
def Frac (i p3 : Nat) : Prop := ∃ s, halt g n 0 i = halt g n s p3 ∧ (s = 2 ∨ s = 3 ∨ s = 5) ∧ (p3 < n → stepF s (g p3) = if expC (g p3) then 6 else -1) ∧ i ≤ p3 ∧ p3 ≤ n

theorem not_dig {p : Nat} (h : ¬ Dig g n p) (hlt : p < n) : digC (g p) = false := by
  cases hh : digC (g p) with
  | false => rfl
  | true => exact absurd ⟨hlt, hh⟩ h

theorem frac_none {i p2 : Nat} (hw : Whole g n i p2) (h : ¬ At g n p2 46) : Frac g n i p2 := by
  obtain ⟨s, e, hc, hi, hb⟩ := hw
  refine ⟨s, e, by rcases hc with h | h <;> omega, fun hlt => ?_, hi, hb⟩
  have h46 : g p2 ≠ 46 := fun e => h ⟨hlt, e⟩
  rcases hc with rfl | ⟨rfl, hn⟩
  · simp [stepF, h46]
  · simp [stepF, h46, not_dig g n hn hlt]

theorem frac_dot {i p2 : Nat} (hw : Whole g n i p2) (h : At g n p2 46) : halt g n 0 i = halt g n 4 (p2 + 1) ∧ i ≤ p2 + 1 ∧ p2 + 1 ≤ n := by
  obtain ⟨s, e, hc, hi, hb⟩ := hw
  have e2 : stepF s (g p2) = 4 := by
    rw [h.2]
    rcases hc with rfl | ⟨rfl, _⟩ <;> rfl
  exact ⟨by rw [e, halt_move g n h.1 (by rw [e2]; decide), e2], by omega, h.1⟩

theorem frac_digits {i p2 q : Nat} (hw : Whole g n i p2) (h : At g n p2 46) (hr : DRun g n (p2 + 1) q) (hpq : p2 + 1 < q) : Frac g n i q := by
  obtain ⟨e, hi, hb⟩ := frac_dot g n hw h
  have hd := hr.first g n hpq
  have e2 : stepF 4 (g (p2 + 1)) = 5 := by simp [stepF, hd.2]
  have hbb := hr.bound g n
  refine ⟨5, by rw [e, halt_into g n run5 (by decide) hr hpq e2], by omega, fun hlt => ?_, by omega, by omega⟩
  simp [stepF, not_dig g n hr.2.2 hlt]

theorem frac_bad {i p2 : Nat} (hw : Whole g n i p2) (h : At g n p2 46) (hr : DRun g n (p2 + 1) (p2 + 1)) : Law g n i false (p2 + 1) := by
  obtain ⟨e, hi, hb⟩ := frac_dot g n hw h
  have hst : ¬ (p2 + 1 < n ∧ 0 ≤ stepF 4 (g (p2 + 1))) := by
    rintro ⟨hlt, hm⟩
    simp [stepF, not_dig g n hr.2.2 hlt] at hm
  have e2 : halt g n 0 i = (4, p2 + 1) := by rw [e, halt_stop g n hst]
  exact ⟨by rw [e2]; rfl, (fun h => by cases h), hi, .inl hb⟩

theorem end_plain {i p3 : Nat} (hf : Frac g n i p3) (h1 : ¬ At g n p3 101) (h2 : ¬ At g n p3 69) : Law g n i true p3 := by
  obtain ⟨s, e, hc, hm, hi, hb⟩ := hf
  have hst : ¬ (p3 < n ∧ 0 ≤ stepF s (g p3)) := by
    rintro ⟨hlt, hh⟩
    have a1 : g p3 ≠ 101 := fun e => h1 ⟨hlt, e⟩
    have a2 : g p3 ≠ 69 := fun e => h2 ⟨hlt, e⟩
    rw [hm hlt] at hh
    simp [expC, a1, a2] at hh
  have e2 : halt g n 0 i = (s, p3) := by rw [e, halt_stop g n hst]
  refine ⟨?_, fun _ => by rw [e2], hi, .inl hb⟩
  rw [e2]
  rcases hc with rfl | rfl | rfl <;> rfl

/-- Behind the exponent's mark: state 6, at p4. -/
def Expo (i p4 : Nat) : Prop := halt g n 0 i = halt g n 6 p4 ∧ i ≤ p4 ∧ p4 ≤ n

theorem expo_mark {i p3 : Nat} (hf : Frac g n i p3) (h : At g n p3 101 ∨ At g n p3 69) : Expo g n i (p3 + 1) := by
  obtain ⟨s, e, hc, hm, hi, hb⟩ := hf
  have hlt : p3 < n := by rcases h with h | h <;> exact h.1
  have hx : expC (g p3) = true := by
    rcases h with h | h <;> rw [h.2] <;> rfl
  have e2 : stepF s (g p3) = 6 := by rw [hm hlt, hx]; rfl
  exact ⟨by rw [e, halt_move g n hlt (by rw [e2]; decide), e2], by omega, by omega⟩

/-- Behind the exponent's sign: state 6 where none stands there, or 7, at p5. -/
def ExpS (i p5 : Nat) : Prop := ∃ s, halt g n 0 i = halt g n s p5 ∧ (s = 6 ∧ ¬ At g n p5 43 ∧ ¬ At g n p5 45 ∨ s = 7) ∧ i ≤ p5 ∧ p5 ≤ n

theorem exps_yes {i p4 : Nat} (hx : Expo g n i p4) (h : At g n p4 43 ∨ At g n p4 45) : ExpS g n i (p4 + 1) := by
  obtain ⟨e, hi, hb⟩ := hx
  have hlt : p4 < n := by rcases h with h | h <;> exact h.1
  have e2 : stepF 6 (g p4) = 7 := by
    rcases h with h | h <;> rw [h.2] <;> rfl
  exact ⟨7, by rw [e, halt_move g n hlt (by rw [e2]; decide), e2], .inr rfl, by omega, by omega⟩
theorem exps_no {i p4 : Nat} (hx : Expo g n i p4) (h1 : ¬ At g n p4 43) (h2 : ¬ At g n p4 45) : ExpS g n i p4 := by
  obtain ⟨e, hi, hb⟩ := hx
  exact ⟨6, e, .inl ⟨rfl, h1, h2⟩, hi, hb⟩

theorem end_exp {i p5 q : Nat} (hx : ExpS g n i p5) (hr : DRun g n p5 q) (hpq : p5 < q) : Law g n i true q := by
  obtain ⟨s, e, hc, hi, hb⟩ := hx
  have hd := hr.first g n hpq
  have h43 : g p5 ≠ 43 := fun e => by have := hd.2; rw [e] at this; exact absurd this (by decide)
  have h45 : g p5 ≠ 45 := fun e => by have := hd.2; rw [e] at this; exact absurd this (by decide)
  have e2 : stepF s (g p5) = 8 := by
    rcases hc with ⟨rfl, _⟩ | rfl <;> simp [stepF, h43, h45, hd.2]
  have hst : ¬ (q < n ∧ 0 ≤ stepF 8 (g q)) := by
    rintro ⟨hlt, hm⟩
    simp [stepF, not_dig g n hr.2.2 hlt] at hm
  have e3 : halt g n 0 i = (8, q) := by rw [e, halt_into g n run8 (by decide) hr hpq e2, halt_stop g n hst]
  have hbb := hr.bound g n
  exact ⟨by rw [e3]; rfl, fun _ => by rw [e3], by omega, .inl (by omega)⟩

theorem end_bad {i p5 : Nat} (hx : ExpS g n i p5) (hr : DRun g n p5 p5) : Law g n i false p5 := by
  obtain ⟨s, e, hc, hi, hb⟩ := hx
  have hst : ¬ (p5 < n ∧ 0 ≤ stepF s (g p5)) := by
    rintro ⟨hlt, hm⟩
    have hdg := not_dig g n hr.2.2 hlt
    rcases hc with ⟨rfl, hp, hq⟩ | rfl
    · have h43 : g p5 ≠ 43 := fun e => hp ⟨hlt, e⟩
      have h45 : g p5 ≠ 45 := fun e => hq ⟨hlt, e⟩
      simp [stepF, h43, h45, hdg] at hm
    · simp [stepF, hdg] at hm
  have e2 : halt g n 0 i = (s, p5) := by rw [e, halt_stop g n hst]
  refine ⟨?_, (fun h => by cases h), hi, .inl hb⟩
  rw [e2]
  rcases hc with ⟨rfl, _⟩ | rfl <;> rfl
end
end Go.Proofs.Qxb6600040a
