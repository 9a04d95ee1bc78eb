/- Seat b6617077a. What 'pointed' computes, plainly, and the two laws on it. No Go here. -/
namespace Go.Proofs.Qxb6617077a

/-- Is x among hs? (as Go's == on strings says it) -/
def has (hs : List ByteArray) (x : ByteArray) : Bool := hs.any fun y => y.toList == x.toList
/-- After k rounds: the last place below k whose member is a holder; 0 where there is none. -/
def farTo (ns hs : List ByteArray) : Nat → Nat
  | 0 => 0
  | k + 1 => if has hs (ns.getD k ByteArray.empty) then k else farTo ns hs k
def far (ns hs : List ByteArray) : Nat := farTo ns hs ns.length
def non (hs : List ByteArray) (l : List ByteArray) : List ByteArray := l.filter fun x => !has hs x
/-- What pointed returns. -/
def ptd (ns hs : List ByteArray) : List ByteArray := non hs (ns.take (min (far ns hs) 3))
/-- Is there a holder behind place i? -/
def after (ns hs : List ByteArray) (i : Nat) : Bool := (ns.drop (i + 1)).any (has hs)
/-- What the first law gathers in k rounds. -/
def wantTo (ns hs : List ByteArray) : Nat → List ByteArray
  | 0 => []
  | k + 1 => if !has hs (ns.getD k ByteArray.empty) && after ns hs k then wantTo ns hs k ++ [ns.getD k ByteArray.empty] else wantTo ns hs k

theorem farTo_le (ns hs : List ByteArray) : ∀ k, farTo ns hs k ≤ k
  | 0 => Nat.le_refl _
  | k + 1 => by
    unfold farTo
    have := farTo_le ns hs k
    split <;> omega
theorem farTo_lt (ns hs : List ByteArray) : ∀ k, 0 < k → farTo ns hs k < k
  | 0, h => by omega
  | k + 1, _ => by
    unfold farTo
    have := farTo_le ns hs k
    split <;> omega
theorem far_le (ns hs : List ByteArray) : far ns hs ≤ ns.length := farTo_le ns hs _

/-- A place beyond the far one holds no holder. -/
theorem farTo_none (ns hs : List ByteArray) : ∀ k j, farTo ns hs k < j → j < k → has hs (ns.getD j ByteArray.empty) = false
  | 0, j, _, h => by omega
  | k + 1, j, h1, h2 => by
    unfold farTo at h1
    cases hk : has hs (ns.getD k ByteArray.empty) with
    | true => rw [if_pos hk] at h1; omega
    | false =>
      rw [hk, if_neg (by simp)] at h1
      by_cases e : j = k
      · subst e; exact hk
      · exact farTo_none ns hs k j h1 (by omega)
/-- The far place, where it is not 0, holds a holder. -/
theorem farTo_some (ns hs : List ByteArray) : ∀ k, 0 < farTo ns hs k → has hs (ns.getD (farTo ns hs k) ByteArray.empty) = true
  | 0, h => by simp [farTo] at h
  | k + 1, h => by
    unfold farTo at h ⊢
    cases hk : has hs (ns.getD k ByteArray.empty) with
    | true => rw [if_pos rfl]; exact hk
    | false =>
      rw [hk, if_neg (by simp)] at h
      rw [if_neg (by simp)]
      exact farTo_some ns hs k h

theorem after_eq (ns hs : List ByteArray) (i : Nat) : after ns hs i = decide (i < far ns hs) := by
  unfold after far
  rw [Bool.eq_iff_iff, decide_eq_true_iff, List.any_eq_true]
  constructor
  · rintro ⟨x, hx, hh⟩
    obtain ⟨j, hj, rfl⟩ := List.mem_iff_getElem.1 hx
    rw [List.getElem_drop] at hh
    simp at hj
    rcases Nat.lt_or_ge i (farTo ns hs ns.length) with h | h
    · exact h
    · exfalso
      have := farTo_none ns hs ns.length (i + 1 + j) (by omega) (by omega)
      rw [List.getD_eq_getElem?_getD, List.getElem?_eq_getElem (by omega)] at this
      rw [Option.getD_some, hh] at this
      cases this
  · intro h
    have hs' := farTo_some ns hs ns.length (by omega)
    have hl : farTo ns hs ns.length < ns.length := farTo_lt ns hs _ (by have := farTo_le ns hs ns.length; omega)
    rw [List.getD_eq_getElem?_getD, List.getElem?_eq_getElem hl, Option.getD_some] at hs'
    refine ⟨_, ?_, hs'⟩
    rw [List.mem_iff_getElem]
    refine ⟨farTo ns hs ns.length - (i + 1), by simp; omega, ?_⟩
    rw [List.getElem_drop]
    congr 1
    omega

theorem non_snoc (hs l : List ByteArray) (x : ByteArray) : non hs (l ++ [x]) = if has hs x then non hs l else non hs l ++ [x] := by
  unfold non
  rw [List.filter_append]
  cases h : has hs x <;> simp [h]

theorem take_snoc (ns : List ByteArray) (k : Nat) (h : k < ns.length) : ns.take (k + 1) = ns.take k ++ [ns.getD k ByteArray.empty] := by
  rw [List.take_add_one, List.getD_eq_getElem?_getD, List.getElem?_eq_getElem h]
  rfl

theorem want_eq (ns hs : List ByteArray) : ∀ k, k ≤ ns.length → wantTo ns hs k = non hs (ns.take (min (far ns hs) k))
  | 0, _ => by simp [wantTo, non]
  | k + 1, h => by
    rw [wantTo, want_eq ns hs k (by omega), after_eq]
    by_cases hf : k < far ns hs
    · rw [show min (far ns hs) (k + 1) = k + 1 by omega, show min (far ns hs) k = k by omega, take_snoc ns k (by omega), non_snoc]
      cases hh : has hs (ns.getD k ByteArray.empty) <;> simp [hf]
    · rw [show min (far ns hs) (k + 1) = far ns hs by omega, show min (far ns hs) k = far ns hs by omega]
      simp [hf]

/-- THE FIRST LAW. -/
theorem want_ptd (ns hs : List ByteArray) : wantTo ns hs (min ns.length 3) = ptd ns hs := by
  rw [want_eq ns hs _ (by omega)]
  unfold ptd
  rw [show min (far ns hs) (min ns.length 3) = min (far ns hs) 3 by have := far_le ns hs; omega]

theorem farTo_append (ns tl hs : List ByteArray) : ∀ k, k ≤ ns.length → farTo (ns ++ tl) hs k = farTo ns hs k
  | 0, _ => rfl
  | k + 1, h => by
    rw [farTo, farTo, farTo_append ns tl hs k (by omega)]
    rw [List.getD_eq_getElem?_getD, List.getD_eq_getElem?_getD, List.getElem?_append_left (by omega)]

theorem farTo_tail (ns tl hs : List ByteArray) (ht : ∀ t ∈ tl, has hs t = false) : ∀ m, m ≤ tl.length → farTo (ns ++ tl) hs (ns.length + m) = farTo ns hs ns.length
  | 0, _ => farTo_append ns tl hs _ (Nat.le_refl _)
  | m + 1, h => by
    rw [show ns.length + (m + 1) = (ns.length + m) + 1 by omega, farTo, farTo_tail ns tl hs ht m (by omega)]
    rw [if_neg]
    rw [List.getD_eq_getElem?_getD, List.getElem?_append_right (by omega), show ns.length + m - ns.length = m by omega, List.getElem?_eq_getElem (by omega)]
    rw [Option.getD_some, ht _ (List.getElem_mem _)]
    simp

/-- Members that are no holders, put at the far end, change nothing. -/
theorem ptd_tail (ns tl hs : List ByteArray) (ht : ∀ t ∈ tl, has hs t = false) : ptd (ns ++ tl) hs = ptd ns hs := by
  have hf : far (ns ++ tl) hs = far ns hs := by
    unfold far
    rw [List.length_append, farTo_tail ns tl hs ht tl.length (Nat.le_refl _)]
  unfold ptd
  rw [hf]
  congr 1
  rw [List.take_append_of_le_length]
  have := far_le ns hs
  omega

/-- A holder put at the far end makes every member that is none, among the three nearest, a pointer. -/
theorem ptd_cap (ns hs : List ByteArray) (x : ByteArray) (hx : has hs x = true) : ptd (ns ++ [x]) hs = non hs (ns.take (min ns.length 3)) := by
  have hf : far (ns ++ [x]) hs = ns.length := by
    unfold far
    rw [List.length_append, List.length_singleton, farTo, if_pos]
    rw [List.getD_eq_getElem?_getD, List.getElem?_append_right (by omega)]
    simpa using hx
  unfold ptd
  rw [hf]
  congr 1
  rw [List.take_append_of_le_length]
  omega

theorem has_mem {hs : List ByteArray} {x : ByteArray} (h : x ∈ hs) : has hs x = true := by
  unfold has
  rw [List.any_eq_true]
  exact ⟨x, h, by simp⟩

end Go.Proofs.Qxb6617077a
