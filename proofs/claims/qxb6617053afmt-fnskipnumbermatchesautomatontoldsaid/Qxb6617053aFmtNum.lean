/- Seat b6617053aF. A JSON number, plainly: what skipNumber computes ('sn'), the automaton ('step', 'R'), and that they agree. No Go here. -/
namespace Go.Proofs.Qxb6617053aFmt

def isDig (c : UInt8) : Bool := decide (48 ≤ c.toNat ∧ c.toNat ≤ 57)
/-- Where the digits that begin at k end. -/
def digs (xs : List UInt8) (k : Nat) : Nat := k + ((xs.drop k).takeWhile isDig).length
/-- Does the byte c stand at k? -/
def isAt (xs : List UInt8) (k : Nat) (c : UInt8) : Bool := decide (xs[k]? = some c)
def digAt (xs : List UInt8) (k : Nat) : Bool := (xs[k]?.map isDig).getD false

theorem drop_at {xs : List UInt8} {k : Nat} (h : k < xs.length) : xs.drop k = xs[k] :: xs.drop (k + 1) := List.drop_eq_getElem_cons h

theorem digs_yes {xs : List UInt8} {k : Nat} (h : digAt xs k = true) : digs xs k = digs xs (k + 1) := by
  unfold digAt at h
  rcases Nat.lt_or_ge k xs.length with hk | hk
  · rw [List.getElem?_eq_getElem hk] at h
    have h' : isDig xs[k] = true := by simpa using h
    unfold digs
    rw [drop_at hk, List.takeWhile_cons, if_pos h']
    simp
    omega
  · rw [List.getElem?_eq_none hk] at h
    cases h

theorem digs_no {xs : List UInt8} {k : Nat} (h : digAt xs k = false) : digs xs k = k := by
  unfold digAt at h
  rcases Nat.lt_or_ge k xs.length with hk | hk
  · rw [List.getElem?_eq_getElem hk] at h
    have h' : isDig xs[k] = false := by simpa using h
    unfold digs
    rw [drop_at hk, List.takeWhile_cons, if_neg (by simp [h'])]
    rfl
  · unfold digs
    rw [List.drop_eq_nil_of_le hk]
    rfl

theorem digs_ge (xs : List UInt8) (k : Nat) : k ≤ digs xs k := by unfold digs; omega
theorem digs_le (xs : List UInt8) (k : Nat) (h : k ≤ xs.length) : digs xs k ≤ xs.length := by
  unfold digs
  have := (List.takeWhile_sublist (p := isDig) (l := xs.drop k)).length_le
  simp at this
  omega
theorem digAt_lt {xs : List UInt8} {k : Nat} (h : digAt xs k = true) : k < xs.length := by
  unfold digAt at h
  rcases Nat.lt_or_ge k xs.length with hk | hk
  · exact hk
  · rw [List.getElem?_eq_none hk] at h; cases h

/-- At the digits' end stands no digit. -/
theorem digs_stop (xs : List UInt8) : ∀ (n k : Nat), xs.length ≤ k + n → digAt xs (digs xs k) = false
  | 0, k, h => by
    have : digAt xs k = false := by unfold digAt; rw [List.getElem?_eq_none (by omega)]; rfl
    rw [digs_no this]; exact this
  | n + 1, k, h => by
    cases hd : digAt xs k with
    | false => rw [digs_no hd]; exact hd
    | true => rw [digs_yes hd]; exact digs_stop xs n (k + 1) (by omega)
theorem digs_end (xs : List UInt8) (k : Nat) : digAt xs (digs xs k) = false := digs_stop xs xs.length k (by omega)
theorem digs_eq_iff (xs : List UInt8) (k : Nat) : digs xs k = k ↔ digAt xs k = false := by
  constructor
  · intro h
    cases hd : digAt xs k with
    | false => rfl
    | true => have := digs_yes hd; have := digs_ge xs (k + 1); omega
  · exact digs_no

/-- skipNumber: where it stops, and whether it accepts. -/
def sn5 (xs : List UInt8) (k : Nat) : Nat × Bool := if digs xs k = k then (k, false) else (digs xs k, true)
def sn4 (xs : List UInt8) (k : Nat) : Nat × Bool := sn5 xs (if isAt xs k 43 || isAt xs k 45 then k + 1 else k)
def sn3 (xs : List UInt8) (k : Nat) : Nat × Bool := if isAt xs k 101 || isAt xs k 69 then sn4 xs (k + 1) else (k, true)
def sn2 (xs : List UInt8) (k : Nat) : Nat × Bool := if isAt xs k 46 then (if digs xs (k + 1) = k + 1 then (k + 1, false) else sn3 xs (digs xs (k + 1))) else sn3 xs k
def sn1 (xs : List UInt8) (k : Nat) : Nat × Bool := if digs xs k = k then (k, false) else sn2 xs (if isAt xs k 48 then k + 1 else digs xs k)
def sn (xs : List UInt8) (i : Nat) : Nat × Bool := sn1 xs (if isAt xs i 45 then i + 1 else i)

/-- The automaton. -/
def step (s : Nat) (c : UInt8) : Option Nat :=
  if s = 0 then (if c = 45 then some 1 else if c = 48 then some 2 else if isDig c then some 3 else none)
  else if s = 1 then (if c = 48 then some 2 else if isDig c then some 3 else none)
  else if s = 2 then (if c = 46 then some 4 else if c = 101 ∨ c = 69 then some 6 else none)
  else if s = 3 then (if isDig c then some 3 else if c = 46 then some 4 else if c = 101 ∨ c = 69 then some 6 else none)
  else if s = 4 then (if isDig c then some 5 else none)
  else if s = 5 then (if isDig c then some 5 else if c = 101 ∨ c = 69 then some 6 else none)
  else if s = 6 then (if c = 43 ∨ c = 45 then some 7 else if isDig c then some 8 else none)
  else if s = 7 ∨ s = 8 then (if isDig c then some 8 else none)
  else none
def acc (s : Nat) : Bool := decide (s = 2 ∨ s = 3 ∨ s = 5 ∨ s = 8)

def run : Nat → List UInt8 → Nat × Nat
  | s, [] => (0, s)
  | s, c :: r => match step s c with
    | none => (0, s)
    | some t => ((run t r).1 + 1, (run t r).2)
/-- From state s at place k: where the automaton stops, and in which state. -/
def R (xs : List UInt8) (s k : Nat) : Nat × Nat := (k + (run s (xs.drop k)).1, (run s (xs.drop k)).2)

theorem R_end {xs : List UInt8} {s k : Nat} (h : xs.length ≤ k) : R xs s k = (k, s) := by
  unfold R
  rw [List.drop_eq_nil_of_le h]
  rfl
theorem R_no {xs : List UInt8} {s k : Nat} {c : UInt8} (h : xs[k]? = some c) (hs : step s c = none) : R xs s k = (k, s) := by
  obtain ⟨hk, rfl⟩ := List.getElem?_eq_some_iff.1 h
  unfold R
  rw [drop_at hk, run, hs]
  rfl
theorem R_yes {xs : List UInt8} {s t k : Nat} {c : UInt8} (h : xs[k]? = some c) (hs : step s c = some t) : R xs s k = R xs t (k + 1) := by
  obtain ⟨hk, rfl⟩ := List.getElem?_eq_some_iff.1 h
  unfold R
  rw [drop_at hk, run, hs]
  simp
  omega

theorem isAt_iff {xs : List UInt8} {k : Nat} {c : UInt8} : isAt xs k c = true ↔ xs[k]? = some c := by simp [isAt]
theorem digAt_some {xs : List UInt8} {k : Nat} (h : digAt xs k = true) : ∃ c, xs[k]? = some c ∧ isDig c = true := by
  have hk := digAt_lt h
  refine ⟨xs[k], List.getElem?_eq_getElem hk, ?_⟩
  unfold digAt at h
  rw [List.getElem?_eq_getElem hk] at h
  simpa using h

/-- A state that stays at digits runs over them. -/
theorem R_digs (xs : List UInt8) (s : Nat) (hs : ∀ c, isDig c = true → step s c = some s) : ∀ (n k : Nat), xs.length ≤ k + n → R xs s k = R xs s (digs xs k)
  | 0, k, h => by
    have : digAt xs k = false := by unfold digAt; rw [List.getElem?_eq_none (by omega)]; rfl
    rw [digs_no this]
  | n + 1, k, h => by
    cases hd : digAt xs k with
    | false => rw [digs_no hd]
    | true =>
      obtain ⟨c, hc, hdc⟩ := digAt_some hd
      rw [digs_yes hd, R_yes hc (hs c hdc)]
      exact R_digs xs s hs n (k + 1) (by omega)

/-- A state that no byte at k leads on from stops there. -/
theorem R_stop {xs : List UInt8} {s k : Nat} (h : ∀ c, xs[k]? = some c → step s c = none) : R xs s k = (k, s) := by
  cases hx : xs[k]? with
  | none => exact R_end (List.getElem?_eq_none_iff.1 hx)
  | some c => exact R_no hx (h c hx)

theorem dig_ne {c : UInt8} (h : isDig c = true) : c ≠ 45 ∧ c ≠ 46 ∧ c ≠ 101 ∧ c ≠ 69 ∧ c ≠ 43 := by
  refine ⟨?_, ?_, ?_, ?_, ?_⟩ <;> (rintro rfl; exact absurd h (by decide))
theorem nodig_of {xs : List UInt8} {k : Nat} {c : UInt8} (h : digAt xs k = false) (hc : xs[k]? = some c) : isDig c = false := by
  unfold digAt at h
  rw [hc] at h
  simpa using h

theorem R_sn5 (xs : List UInt8) (s k : Nat) (hs : s = 6 ∧ isAt xs k 43 = false ∧ isAt xs k 45 = false ∨ s = 7) : sn5 xs k = ((R xs s k).1, acc (R xs s k).2) := by
  unfold sn5
  cases hd : digAt xs k with
  | false =>
    rw [if_pos (digs_no hd)]
    have hr : R xs s k = (k, s) := by
      apply R_stop
      intro c hc
      have hn := nodig_of hd hc
      rcases hs with ⟨rfl, h43, h45⟩ | rfl
      · have e1 : c ≠ 43 := by rintro rfl; rw [isAt_iff.2 hc] at h43; cases h43
        have e2 : c ≠ 45 := by rintro rfl; rw [isAt_iff.2 hc] at h45; cases h45
        simp [step, e1, e2, hn]
      · simp [step, hn]
    rw [hr]
    rcases hs with ⟨rfl, _, _⟩ | rfl <;> rfl
  | true =>
    have hne : ¬ digs xs k = k := by rw [digs_eq_iff, hd]; simp
    rw [if_neg hne]
    obtain ⟨c, hc, hdc⟩ := digAt_some hd
    have h8 : step s c = some 8 := by
      obtain ⟨n1, n2, n3, n4, n5⟩ := dig_ne hdc
      rcases hs with ⟨rfl, _, _⟩ | rfl
      · simp [step, n1, n5, hdc]
      · simp [step, hdc]
    have hr : R xs s k = (digs xs k, 8) := by
      rw [R_yes hc h8, R_digs xs 8 (fun c h => by simp [step, h]) xs.length (k + 1) (by omega), ← digs_yes hd]
      apply R_stop
      intro c hc
      simp [step, nodig_of (digs_end xs k) hc]
    rw [hr]
    rfl

theorem R_sn4 (xs : List UInt8) (k : Nat) : sn4 xs k = ((R xs 6 k).1, acc (R xs 6 k).2) := by
  unfold sn4
  cases h43 : isAt xs k 43 with
  | true =>
    rw [Bool.true_or, if_pos rfl, R_yes (isAt_iff.1 h43) (show step 6 43 = some 7 by decide)]
    exact R_sn5 xs 7 (k + 1) (.inr rfl)
  | false =>
    cases h45 : isAt xs k 45 with
    | true =>
      rw [Bool.false_or, if_pos rfl, R_yes (isAt_iff.1 h45) (show step 6 45 = some 7 by decide)]
      exact R_sn5 xs 7 (k + 1) (.inr rfl)
    | false =>
      rw [Bool.false_or, if_neg (by simp)]
      exact R_sn5 xs 6 k (.inl ⟨rfl, h43, h45⟩)

theorem R_sn3 (xs : List UInt8) (s k : Nat) (hs : s = 2 ∨ s = 3 ∨ s = 5) (hd : s = 3 ∨ s = 5 → digAt xs k = false) (hp : s = 2 ∨ s = 3 → isAt xs k 46 = false) : sn3 xs k = ((R xs s k).1, acc (R xs s k).2) := by
  unfold sn3
  have h6 : ∀ c, c = 101 ∨ c = 69 → step s c = some 6 := by
    intro c hc
    rcases hs with rfl | rfl | rfl <;> rcases hc with rfl | rfl <;> decide
  cases h1 : isAt xs k 101 with
  | true => rw [Bool.true_or, if_pos rfl, R_yes (isAt_iff.1 h1) (h6 _ (.inl rfl))]; exact R_sn4 xs (k + 1)
  | false =>
    cases h2 : isAt xs k 69 with
    | true => rw [Bool.false_or, if_pos rfl, R_yes (isAt_iff.1 h2) (h6 _ (.inr rfl))]; exact R_sn4 xs (k + 1)
    | false =>
      rw [Bool.false_or, if_neg (by simp)]
      have hr : R xs s k = (k, s) := by
        apply R_stop
        intro c hc
        have e1 : c ≠ 101 := by rintro rfl; rw [isAt_iff.2 hc] at h1; cases h1
        have e2 : c ≠ 69 := by rintro rfl; rw [isAt_iff.2 hc] at h2; cases h2
        have e3 : s = 2 ∨ s = 3 → c ≠ 46 := by intro hs; rintro rfl; have := hp hs; rw [isAt_iff.2 hc] at this; cases this
        have e4 : s = 3 ∨ s = 5 → isDig c = false := fun hs => nodig_of (hd hs) hc
        rcases hs with rfl | rfl | rfl
        · simp [step, e1, e2, e3 (.inl rfl)]
        · simp [step, e1, e2, e3 (.inr rfl), e4 (.inl rfl)]
        · simp [step, e1, e2, e4 (.inr rfl)]
      rw [hr]
      rcases hs with rfl | rfl | rfl <;> rfl

theorem R_sn2 (xs : List UInt8) (s k : Nat) (hs : s = 2 ∨ s = 3) (hd : s = 3 → digAt xs k = false) : sn2 xs k = ((R xs s k).1, acc (R xs s k).2) := by
  unfold sn2
  cases h46 : isAt xs k 46 with
  | false =>
    rw [if_neg (by simp)]
    exact R_sn3 xs s k (by omega) (fun h => h.elim hd (fun h => by omega)) (fun _ => h46)
  | true =>
    have h4 : step s 46 = some 4 := by rcases hs with rfl | rfl <;> decide
    rw [if_pos rfl, R_yes (isAt_iff.1 h46) h4]
    cases hd4 : digAt xs (k + 1) with
    | false =>
      rw [if_pos (digs_no hd4)]
      have hr : R xs 4 (k + 1) = (k + 1, 4) := R_stop (fun c hc => by simp [step, nodig_of hd4 hc])
      rw [hr]
      rfl
    | true =>
      have hne : ¬ digs xs (k + 1) = k + 1 := by rw [digs_eq_iff, hd4]; simp
      rw [if_neg hne]
      obtain ⟨c, hc, hdc⟩ := digAt_some hd4
      rw [R_yes hc (show step 4 c = some 5 by simp [step, hdc]), R_digs xs 5 (fun c h => by simp [step, h]) xs.length (k + 1 + 1) (by omega), ← digs_yes hd4]
      exact R_sn3 xs 5 _ (by omega) (fun _ => digs_end xs _) (by omega)

theorem R_sn1 (xs : List UInt8) (s k : Nat) (hs : s = 0 ∧ isAt xs k 45 = false ∨ s = 1) : sn1 xs k = ((R xs s k).1, acc (R xs s k).2) := by
  unfold sn1
  cases hd : digAt xs k with
  | false =>
    rw [if_pos (digs_no hd)]
    have hr : R xs s k = (k, s) := by
      apply R_stop
      intro c hc
      have hn := nodig_of hd hc
      have e48 : c ≠ 48 := by rintro rfl; exact absurd hn (by decide)
      rcases hs with ⟨rfl, h45⟩ | rfl
      · have e2 : c ≠ 45 := by rintro rfl; rw [isAt_iff.2 hc] at h45; cases h45
        simp [step, e48, e2, hn]
      · simp [step, e48, hn]
    rw [hr]
    rcases hs with ⟨rfl, _⟩ | rfl <;> rfl
  | true =>
    have hne : ¬ digs xs k = k := by rw [digs_eq_iff, hd]; simp
    rw [if_neg hne]
    obtain ⟨c, hc, hdc⟩ := digAt_some hd
    obtain ⟨n1, n2, n3, n4, n5⟩ := dig_ne hdc
    cases h48 : isAt xs k 48 with
    | true =>
      have h2 : step s 48 = some 2 := by rcases hs with ⟨rfl, _⟩ | rfl <;> decide
      rw [if_pos rfl, R_yes (isAt_iff.1 h48) h2]
      exact R_sn2 xs 2 (k + 1) (.inl rfl) (by omega)
    | false =>
      have e48 : c ≠ 48 := by rintro rfl; rw [isAt_iff.2 hc] at h48; cases h48
      have h3 : step s c = some 3 := by
        rcases hs with ⟨rfl, _⟩ | rfl
        · simp [step, n1, e48, hdc]
        · simp [step, e48, hdc]
      rw [if_neg (by simp), R_yes hc h3, R_digs xs 3 (fun c h => by simp [step, h]) xs.length (k + 1) (by omega), ← digs_yes hd]
      exact R_sn2 xs 3 _ (.inr rfl) (fun _ => digs_end xs k)

/-- skipNumber stops where the automaton stops, and accepts exactly when its state is accepting. -/
theorem sn_R (xs : List UInt8) (i : Nat) : sn xs i = ((R xs 0 i).1, acc (R xs 0 i).2) := by
  unfold sn
  cases h45 : isAt xs i 45 with
  | true => rw [if_pos rfl, R_yes (isAt_iff.1 h45) (show step 0 45 = some 1 by decide)]; exact R_sn1 xs 1 (i + 1) (.inr rfl)
  | false => rw [if_neg (by simp)]; exact R_sn1 xs 0 i (.inl ⟨rfl, h45⟩)

end Go.Proofs.Qxb6617053aFmt
