/- Seat b6617053aF. What cutting the input does to the number automaton; what an accepted number begins and ends with. No Go here. -/
import Derived.Test.Qxb6617053aFmtNum
namespace Go.Proofs.Qxb6617053aFmt

theorem run_le : ∀ (l : List UInt8) (s : Nat), (run s l).1 ≤ l.length
  | [], s => Nat.le_refl _
  | c :: r, s => by
    rw [run]
    cases h : step s c with
    | none => simp
    | some t => have := run_le r t; simp; omega

theorem run_take : ∀ (l : List UInt8) (s m : Nat), (run s (l.take m)).1 = min m (run s l).1 ∧ ((run s l).1 ≤ m → (run s (l.take m)).2 = (run s l).2)
  | [], s, m => by simp [run]
  | c :: r, s, 0 => by
    rw [List.take_zero]
    refine ⟨by simp [run], ?_⟩
    intro h
    rw [run] at h ⊢
    rw [run]
    cases hs : step s c with
    | none => rfl
    | some t => rw [hs] at h; simp at h
  | c :: r, s, m + 1 => by
    rw [List.take_succ_cons, run, run]
    cases hs : step s c with
    | none => simp
    | some t =>
      have ih := run_take r t m
      simp only
      refine ⟨by rw [ih.1]; omega, fun h => ih.2 (by omega)⟩

theorem step_acc {s t : Nat} {c : UInt8} (h : step s c = some t) (ha : acc t = true) : isDig c = true := by
  cases hd : isDig c with
  | true => rfl
  | false =>
    exfalso
    have e48 : c ≠ 48 := by rintro rfl; exact absurd hd (by decide)
    unfold step at h
    simp only [hd, e48] at h
    have : t = 1 ∨ t = 4 ∨ t = 6 ∨ t = 7 := by
      repeat' split at h
      all_goals first | (cases h; done) | (simp at h; omega) | (simp_all; done)
    rcases this with rfl | rfl | rfl | rfl <;> exact absurd ha (by decide)

theorem step_first {t : Nat} {c : UInt8} (h : step 0 c = some t) : c = 45 ∨ isDig c = true := by
  unfold step at h
  rw [if_pos rfl] at h
  split at h
  · exact .inl (by assumption)
  · split at h
    · subst_vars; exact .inr (by decide)
    · split at h
      · exact .inr (by assumption)
      · cases h

theorem run_last : ∀ (l : List UInt8) (s : Nat), acc (run s l).2 = true → 0 < (run s l).1 → ∃ c, l[(run s l).1 - 1]? = some c ∧ isDig c = true
  | [], s, _, h => by simp [run] at h
  | c :: r, s, ha, h => by
    rw [run] at ha h ⊢
    cases hs : step s c with
    | none => rw [hs] at h; simp at h
    | some t =>
      rw [hs] at ha
      simp only at ha ⊢
      rcases Nat.eq_zero_or_pos (run t r).1 with h0 | h0
      · have ht : (run t r).2 = t := by
          cases r with
          | nil => rfl
          | cons c' r' =>
            rw [run] at h0 ⊢
            cases hs' : step t c' with
            | none => rfl
            | some t' => rw [hs'] at h0; simp at h0
        rw [ht] at ha
        exact ⟨c, by rw [h0]; rfl, step_acc hs ha⟩
      · obtain ⟨d, hd, hdd⟩ := run_last r t ha h0
        refine ⟨d, ?_, hdd⟩
        rw [show (run t r).1 + 1 - 1 = ((run t r).1 - 1) + 1 by omega, List.getElem?_cons_succ]
        exact hd

theorem run_first (l : List UInt8) (h : 0 < (run 0 l).1) : ∃ c, l[0]? = some c ∧ (c = 45 ∨ isDig c = true) := by
  cases l with
  | nil => simp [run] at h
  | cons c r =>
    refine ⟨c, rfl, ?_⟩
    rw [run] at h
    cases hs : step 0 c with
    | none => rw [hs] at h; simp at h
    | some t => exact step_first hs

theorem run_acc_pos (l : List UInt8) (h : acc (run 0 l).2 = true) : 0 < (run 0 l).1 := by
  rcases Nat.eq_zero_or_pos (run 0 l).1 with h0 | h0
  · exfalso
    cases l with
    | nil => exact absurd h (by decide)
    | cons c r =>
      rw [run] at h h0
      cases hs : step 0 c with
      | none => rw [hs] at h; have h' : acc 0 = true := h; exact absurd h' (by decide)
      | some t => rw [hs] at h0; simp at h0
  · exact h0

/-- WHAT THE LAW SAYS OF THE CUT. -/
theorem sn_cut (xs : List UInt8) (i c : Nat) (hi : i ≤ c) (hc : c ≤ xs.length) :
    i ≤ (sn xs i).1 ∧ (sn xs i).1 ≤ xs.length ∧ (sn (xs.take c) i).1 = min c (sn xs i).1 ∧ ((sn xs i).1 ≤ c → (sn (xs.take c) i).2 = (sn xs i).2) := by
  have hr := run_le (xs.drop i) 0
  have ht := run_take (xs.drop i) 0 (c - i)
  rw [List.length_drop] at hr
  rw [sn_R, sn_R]
  unfold R
  rw [List.drop_take]
  simp only
  refine ⟨by omega, by omega, by rw [ht.1]; omega, fun h => ?_⟩
  rw [ht.2 (by omega)]

theorem sn_ends (xs : List UInt8) (i : Nat) (h : (sn xs i).2 = true) : i < (sn xs i).1 ∧ (isAt xs i 45 = true ∨ digAt xs i = true) ∧ digAt xs ((sn xs i).1 - 1) = true := by
  rw [sn_R] at h ⊢
  unfold R at h ⊢
  simp only at h ⊢
  have hp := run_acc_pos _ h
  refine ⟨by omega, ?_, ?_⟩
  · obtain ⟨c, hc, hcc⟩ := run_first _ hp
    rw [List.getElem?_drop, Nat.add_zero] at hc
    rcases hcc with rfl | hd
    · exact .inl (isAt_iff.2 hc)
    · exact .inr (by unfold digAt; rw [hc]; simpa using hd)
  · obtain ⟨c, hc, hd⟩ := run_last _ _ h hp
    rw [List.getElem?_drop] at hc
    unfold digAt
    rw [show i + (run 0 (xs.drop i)).1 - 1 = i + ((run 0 (xs.drop i)).1 - 1) by omega, hc]
    simpa using hd

end Go.Proofs.Qxb6617053aFmt
