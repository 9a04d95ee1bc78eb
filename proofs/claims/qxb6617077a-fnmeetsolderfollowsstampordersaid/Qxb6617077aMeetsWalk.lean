/- Seat b6617077a. The walk of FnMeetsOlderFollowsStampOrder. -/
import Derived.Test.Qxb6617077aRows
import Derived.WalkKit
import Derived.WalkSpells
import Derived.WalkLawsBesides
namespace Go.Proofs.Qxb6617077a
open Go.RowKit

def bf (v e wv we : Int) : Bool := decide (v < wv ∨ v = wv ∧ e < we)

set_option maxHeartbeats 400000 in
theorem before40 (v e wv we : Int) (w : World) :
    Calls Try.prog 40 #[.agg #[.int .i64 v, .int .i64 e], .agg #[.int .i64 wv, .int .i64 we]] w fun r w' => r = .returned (.bool (bf v e wv we)) ∧ Below w.heap.size w w' := by
  by_cases h1 : v < wv
  · have hb : bf v e wv we = true := by simp [bf]; omega
    rw [hb]
    clear hb
    have hd : decide (v < wv) = true := by simpa using h1
    go_enter Try.func40, Try.ntmps40
    go_wp2
    go_ret
    exact ⟨rfl, ((Below.refl _ w).alloc (Nat.le_refl _) _).alloc (by simp) _⟩
  · by_cases h2 : v = wv
    · subst h2
      by_cases h3 : e < we
      · have hb : bf v e v we = true := by simp [bf]; omega
        rw [hb]
        clear hb
        go_enter Try.func40, Try.ntmps40
        go_wp2
        go_ret
        exact ⟨rfl, ((Below.refl _ w).alloc (Nat.le_refl _) _).alloc (by simp) _⟩
      · have hb : bf v e v we = false := by simp [bf]; omega
        rw [hb]
        clear hb
        go_enter Try.func40, Try.ntmps40
        go_wp2
        go_ret
        exact ⟨rfl, ((Below.refl _ w).alloc (Nat.le_refl _) _).alloc (by simp) _⟩
    · have hb : bf v e wv we = false := by simp [bf]; omega
      have hq : (v == wv) = false := by simpa using h2
      rw [hb]
      clear hb h2
      go_enter Try.func40, Try.ntmps40
      go_wp2
      go_ret
      exact ⟨rfl, ((Below.refl _ w).alloc (Nat.le_refl _) _).alloc (by simp) _⟩

theorem below3 (w : World) (a b c : Obj) : Below w.heap.size w (((w.alloc a).alloc b).alloc c) :=
  (((Below.refl _ w).alloc (Nat.le_refl _) _).alloc (by simp) _).alloc (by simp; omega) _

theorem chain {w w1 w2 : World} (h1 : Below w.heap.size w w1) (h2 : Below w1.heap.size w1 w2) : Below w.heap.size w w2 := h1.trans (h2.mono h1.size)

set_option maxHeartbeats 400000 in
theorem meets35_empty (nm kind : ByteArray) (ver ep wv we : Int) (w : World) (hk : kind.toList.isEmpty = true) :
    Calls Try.prog 35 #[.agg #[.string nm, .string kind, .int .i64 ver, .int .i64 ep], .string ⟨#[111, 108, 100, 101, 114]⟩, .agg #[.int .i64 wv, .int .i64 we]] w fun r w' => r = .returned (.bool true) ∧ Below w.heap.size w w' := by
  go_enter Try.func35, Try.ntmps35
  go_wp2
  go_ret
  exact ⟨rfl, below3 _ _ _ _⟩

set_option maxHeartbeats 400000 in
theorem meets35_some (nm kind : ByteArray) (ver ep wv we : Int) (t : Bool) (w : World) (hk : kind.toList.isEmpty = false) (ht : bf wv we ver ep = t) :
    Calls Try.prog 35 #[.agg #[.string nm, .string kind, .int .i64 ver, .int .i64 ep], .string ⟨#[111, 108, 100, 101, 114]⟩, .agg #[.int .i64 wv, .int .i64 we]] w fun r w' => r = .returned (.bool (!t)) ∧ Below w.heap.size w w' := by
  have HT : Hid (bf wv we ver ep = t) := ht
  clear ht
  go_enter Try.func35, Try.ntmps35
  go_wp2_with fail
  refine (before40 _ _ _ _ _).mono ?_
  rintro e w1 ⟨rfl, hb⟩
  rw [HT.out]
  have HB : Hid (Below w.heap.size w w1) := chain (below3 _ _ _ _) hb
  clear hb
  go_wp2
  go_ret
  exact ⟨rfl, HB.out⟩

/-- What ZZMeets answers to 'older'. -/
def mt (kind : ByteArray) (ver ep wv we : Int) : Bool := kind.toList.isEmpty || !(bf wv we ver ep)

theorem meets35 (nm kind : ByteArray) (ver ep wv we : Int) (w : World) :
    Calls Try.prog 35 #[.agg #[.string nm, .string kind, .int .i64 ver, .int .i64 ep], .string ⟨#[111, 108, 100, 101, 114]⟩, .agg #[.int .i64 wv, .int .i64 we]] w fun r w' => r = .returned (.bool (mt kind ver ep wv we)) ∧ Below w.heap.size w w' := by
  cases hk : kind.toList.isEmpty with
  | true =>
    have e : mt kind ver ep wv we = true := by unfold mt; rw [hk]; rfl
    rw [e]
    exact meets35_empty nm kind ver ep wv we w hk
  | false =>
    have e : mt kind ver ep wv we = !(bf wv we ver ep) := by unfold mt; rw [hk]; rfl
    rw [e]
    exact meets35_some nm kind ver ep wv we _ w hk rfl

set_option maxHeartbeats 400000 in
theorem zzmeets19 (nm kind : ByteArray) (ver ep wv we : Int) (w : World) :
    Calls Try.prog 19 #[.string nm, .string kind, .int .i64 ver, .int .i64 ep, .string ⟨#[111, 108, 100, 101, 114]⟩, .int .i64 wv, .int .i64 we] w fun r w' => r = .returned (.bool (mt kind ver ep wv we)) ∧ Below w.heap.size w w' := by
  go_enter Try.func19, Try.ntmps19
  go_wp2_with (go_at_call 35; refine (meets35 _ _ _ _ _ _ _).mono ?_; rintro e w1 ⟨rfl, hb⟩)
  go_ret
  exact ⟨rfl, hb⟩

def nn (v e wv we : Int) : Bool := decide (v < wv ∨ v = wv ∧ e ≤ we)

set_option maxHeartbeats 400000 in
theorem notNewer20 (v e wv we : Int) (w : World) :
    Calls Try.prog 20 #[.int .i64 v, .int .i64 e, .int .i64 wv, .int .i64 we] w fun r w' => r = .returned (.bool (nn v e wv we)) ∧ w' = w := by
  by_cases h1 : v < wv
  · have hb : nn v e wv we = true := by simp [nn]; omega
    rw [hb]
    clear hb
    have hd : decide (v < wv) = true := by simpa using h1
    go_enter Try.func20, Try.ntmps20
    go_wp2
    go_ret
    exact ⟨rfl, rfl⟩
  · by_cases h2 : v = wv
    · subst h2
      by_cases h3 : e ≤ we
      · have hb : nn v e v we = true := by simp [nn]; omega
        rw [hb]
        clear hb
        go_enter Try.func20, Try.ntmps20
        go_wp2
        go_ret
        exact ⟨rfl, rfl⟩
      · have hb : nn v e v we = false := by simp [nn]; omega
        rw [hb]
        clear hb
        go_enter Try.func20, Try.ntmps20
        go_wp2
        go_ret
        exact ⟨rfl, rfl⟩
    · have hb : nn v e wv we = false := by simp [nn]; omega
      have hq : (v == wv) = false := by simpa using h2
      rw [hb]
      clear hb h2
      go_enter Try.func20, Try.ntmps20
      go_wp2
      go_ret
      exact ⟨rfl, rfl⟩

set_option maxHeartbeats 400000 in
theorem addLen18 (t n : Int) (w : World) (ht : 0 ≤ t) (hn : 0 ≤ n) (h : t + n ≤ 1048576) :
    Calls Try.prog 18 #[.int .i64 t, .int .i64 n] w fun r w' => r = .returned (.int .i64 (t + n)) ∧ w' = w := by
  have h1 : t ≤ 1048576 := by omega
  have h2 : n ≤ 1048576 := by omega
  go_enter Try.func18, Try.ntmps18
  go_wp2
  go_ret
  exact ⟨rfl, rfl⟩

set_option maxHeartbeats 400000 in
theorem zz17_yes (nm kind : ByteArray) (a b c d : Value) (w : World) (h : nm.size + kind.size ≤ 1048576) :
    Calls Try.prog 17 #[.string nm, .string kind, a, b, c, d] w fun r w' => r = .returned (.bool true) ∧ w' = w := by
  have h1 : nm.size ≤ 1048576 := by omega
  have h2 : kind.size ≤ 1048576 := by omega
  go_enter Try.func17, Try.ntmps17
  go_wp2
  go_ret
  exact ⟨rfl, rfl⟩

set_option maxHeartbeats 400000 in
theorem zz17_no (nm kind : ByteArray) (a b c d : Value) (w : World) (hm : nm.size ≤ maxLen) (hk : kind.size ≤ maxLen) (h : 1048576 < nm.size + kind.size) :
    Calls Try.prog 17 #[.string nm, .string kind, a, b, c, d] w fun r w' => r = .returned (.bool false) ∧ w' = w := by
  unfold maxLen at hm hk
  by_cases h1 : 1048576 < nm.size
  · go_enter Try.func17, Try.ntmps17
    go_wp2
    go_ret
    exact ⟨rfl, rfl⟩
  · by_cases h2 : 1048576 < kind.size
    · go_enter Try.func17, Try.ntmps17
      go_wp2
      go_ret
      exact ⟨rfl, rfl⟩
    · go_enter Try.func17, Try.ntmps17
      go_wp2
      go_ret
      exact ⟨rfl, rfl⟩

set_option maxHeartbeats 1000000 in
theorem meets_out (nm kind : ByteArray) (v1 e1 v2 e2 : Int) (w : World) (hm : nm.size ≤ maxLen) (hk : kind.size ≤ maxLen) (h : 1048576 < nm.size + kind.size) :
    Calls Try.prog 5 #[.string nm, .string kind, .int .i64 v1, .int .i64 e1, .int .i64 v2, .int .i64 e2] w fun r w' => r = .returned (.bool true) ∧ Below w.heap.size w w' := by
  go_enter Try.func5, Try.ntmps5
  go_wp2_with (go_at_call 17; refine (zz17_no _ _ _ _ _ _ _ hm hk h).mono ?_; rintro e w' ⟨rfl, rfl⟩)
  go_ret
  exact ⟨rfl, Below.refl _ _⟩

set_option maxHeartbeats 4000000 in
theorem meets_ne (nm kind : ByteArray) (v1 e1 v2 e2 : Int) (a b s t n : Bool) (w : World) (h : nm.size + kind.size ≤ 1048576)
    (ha : mt kind v1 e1 v2 e2 = a) (hb : mt kind v2 e2 v1 e1 = b) (hn : nn v1 e1 v2 e2 = n) (hs : (v1 == v2) = s) (ht : (e1 == e2) = t)
    (hf : ((a || b) && ((a && b) == (s && t)) && (a == n)) = true) (hk : kind.toList.isEmpty = false) :
    Calls Try.prog 5 #[.string nm, .string kind, .int .i64 v1, .int .i64 e1, .int .i64 v2, .int .i64 e2] w fun r w' => r = .returned (.bool true) ∧ Below w.heap.size w w' := by
  have HA : Hid (mt kind v1 e1 v2 e2 = a) := ha
  have HB : Hid (mt kind v2 e2 v1 e1 = b) := hb
  have HN : Hid (nn v1 e1 v2 e2 = n) := hn
  clear ha hb hn
  have h1 : nm.size ≤ 1048576 := by omega
  have h2 : kind.size ≤ 1048576 := by omega
  cases a <;> cases b <;> cases s <;> cases t <;> cases n <;> first | (exact absurd hf (by decide)) | skip
  all_goals
    clear hf
    go_enter Try.func5, Try.ntmps5
    go_wp2_with (go_at_call 17; refine (zz17_yes _ _ _ _ _ _ _ h).mono ?_; rintro e w' ⟨rfl, rfl⟩)
    refine (addLen18 _ _ _ (by omega) (by omega) (by omega)).mono ?_
    rintro e w1 ⟨rfl, rfl⟩
    go_wp2_with fail
    refine (addLen18 _ _ _ (by omega) (by omega) (by omega)).mono ?_
    rintro e w1 ⟨rfl, rfl⟩
    go_wp2_with fail
    refine (zzmeets19 _ _ _ _ _ _ _).mono ?_
    rintro e w2 ⟨rfl, hb2⟩
    rw [HA.out]
    go_wp2_with fail
    refine (zzmeets19 _ _ _ _ _ _ _).mono ?_
    rintro e w3 ⟨rfl, hb3⟩
    rw [HB.out]
    go_wp2_with fail
    refine (notNewer20 _ _ _ _ _).mono ?_
    rintro e w4 ⟨rfl, rfl⟩
    rw [HN.out]
    go_wp2
    go_ret
    exact ⟨rfl, chain hb2 hb3⟩

set_option maxHeartbeats 1000000 in
theorem meets_empty (nm kind : ByteArray) (v1 e1 v2 e2 : Int) (w : World) (h : nm.size + kind.size ≤ 1048576) (hk : kind.toList.isEmpty = true) :
    Calls Try.prog 5 #[.string nm, .string kind, .int .i64 v1, .int .i64 e1, .int .i64 v2, .int .i64 e2] w fun r w' => r = .returned (.bool true) ∧ Below w.heap.size w w' := by
  have HA : Hid (∀ a b c d, mt kind a b c d = true) := fun a b c d => by unfold mt; rw [hk]; rfl
  have h1 : nm.size ≤ 1048576 := by omega
  have h2 : kind.size ≤ 1048576 := by omega
  go_enter Try.func5, Try.ntmps5
  go_wp2_with (go_at_call 17; refine (zz17_yes _ _ _ _ _ _ _ h).mono ?_; rintro e w' ⟨rfl, rfl⟩)
  refine (addLen18 _ _ _ (by omega) (by omega) (by omega)).mono ?_
  rintro e w1 ⟨rfl, rfl⟩
  go_wp2_with fail
  refine (addLen18 _ _ _ (by omega) (by omega) (by omega)).mono ?_
  rintro e w1 ⟨rfl, rfl⟩
  go_wp2_with fail
  refine (zzmeets19 _ _ _ _ _ _ _).mono ?_
  rintro e w2 ⟨rfl, hb2⟩
  rw [HA.out]
  go_wp2_with fail
  refine (zzmeets19 _ _ _ _ _ _ _).mono ?_
  rintro e w3 ⟨rfl, hb3⟩
  rw [HA.out]
  go_wp2
  go_ret
  exact ⟨rfl, chain hb2 hb3⟩

theorem plain_law (kind : ByteArray) (v1 e1 v2 e2 : Int) (hk : kind.toList.isEmpty = false) :
    ((mt kind v1 e1 v2 e2 || mt kind v2 e2 v1 e1) && ((mt kind v1 e1 v2 e2 && mt kind v2 e2 v1 e1) == ((v1 == v2) && (e1 == e2))) && (mt kind v1 e1 v2 e2 == nn v1 e1 v2 e2)) = true := by
  unfold mt bf nn
  rw [hk]
  simp only [Bool.false_or]
  by_cases h1 : v1 < v2
  · have : ¬ v2 < v1 := by omega
    have : ¬ v1 = v2 := by omega
    have : ¬ v2 = v1 := by omega
    simp [*]
  · by_cases h2 : v2 < v1
    · have : ¬ v1 = v2 := by omega
      simp [*]
    · obtain rfl : v1 = v2 := by omega
      by_cases h3 : e1 < e2
      · have a1 : ¬ e2 < e1 := by omega
        have a2 : ¬ e1 = e2 := by omega
        have a3 : e1 ≤ e2 := by omega
        simp [h3, a1, a2, a3]
      · by_cases h4 : e2 < e1
        · have a2 : ¬ e1 = e2 := by omega
          have a3 : ¬ e1 ≤ e2 := by omega
          simp [h4, h3, a2, a3]
        · obtain rfl : e1 = e2 := by omega
          simp

theorem meets_walk (nm kind : ByteArray) (v1 e1 v2 e2 : Int) (w : World) (hm : nm.size ≤ maxLen) (hk : kind.size ≤ maxLen) :
    Calls Try.prog 5 #[.string nm, .string kind, .int .i64 v1, .int .i64 e1, .int .i64 v2, .int .i64 e2] w fun r w' => r = .returned (.bool true) ∧ Below w.heap.size w w' := by
  by_cases h : nm.size + kind.size ≤ 1048576
  · cases he : kind.toList.isEmpty with
    | true => exact meets_empty nm kind v1 e1 v2 e2 w h he
    | false => exact meets_ne nm kind v1 e1 v2 e2 _ _ _ _ _ w h rfl rfl rfl rfl rfl (plain_law kind v1 e1 v2 e2 he) he
  · exact meets_out nm kind v1 e1 v2 e2 w hm hk (by omega)

end Go.Proofs.Qxb6617077a
