/- Seat b6617053aF. FnSkipNumberCutAnywhere: outside its bounds; numIsDigit. -/
import Derived.Test.Qxb6617053aFmtNumWalk
import Derived.Test.Qxb6617053aFmtNumCut
import Derived.Test.Qxb6617053aFmtCopy
import Derived.Deep.QuietTactic
import Derived.BigQuiet
namespace Go.Proofs.Qxb6617053aFmt
open Go.RowKit Go.Extern.Stop Go.Stop Go.Extern

set_option maxHeartbeats 400000 in
theorem zz11_any (a0 : Option Addr) (len cap : Nat) (i c : Value) (w : World) (hl : len ≤ maxLen)  :
    Calls Tryf.prog 11 #[.slice a0 len cap, i, c] w fun e w' => e = .returned (.bool (decide (len ≤ 1048576))) ∧ w' = w := by
  unfold maxLen at *
  by_cases h : len ≤ 1048576
  · go_enter Tryf.func11, Tryf.ntmps11
    go_wp2
    go_ret
    exact ⟨by simp [h], rfl⟩
  · have h' : 1048576 < len := by omega
    go_enter Tryf.func11, Tryf.ntmps11
    go_wp2
    go_ret
    exact ⟨by simp; omega, rfl⟩

theorem zz11_yes (a0 : Option Addr) (len cap : Nat) (i c : Value) (w : World) (hl : len ≤ 1048576)  :
    Calls Tryf.prog 11 #[.slice a0 len cap, i, c] w fun e w' => e = .returned (.bool true) ∧ w' = w := by
  have := zz11_any a0 len cap i c w (by unfold maxLen; omega)
  rwa [decide_eq_true hl] at this

def dgB (y : Int) : Bool := decide (48 ≤ y ∧ y ≤ 57)
set_option maxHeartbeats 400000 in
theorem isd12 (y : Int) (w : World) : Calls Tryf.prog 12 #[.int .u8 y] w fun e w' => e = .returned (.bool (dgB y)) ∧ w' = w := by
  by_cases h1 : 48 ≤ y
  · by_cases h2 : y ≤ 57
    · have e : dgB y = true := by simp [dgB]; omega
      rw [e]
      clear e
      go_enter Tryf.func12, Tryf.ntmps12
      go_wp2
      go_ret
      exact ⟨rfl, rfl⟩
    · have e : dgB y = false := by simp [dgB]; omega
      rw [e]
      clear e
      go_enter Tryf.func12, Tryf.ntmps12
      go_wp2
      go_ret
      exact ⟨rfl, rfl⟩
  · have e : dgB y = false := by simp [dgB]; omega
    have hd : decide (48 ≤ y) = false := by simpa using h1
    rw [e]
    clear e
    go_enter Tryf.func12, Tryf.ntmps12
    go_wp2
    go_ret
    exact ⟨rfl, rfl⟩

set_option maxRecDepth 100000 in
set_option maxHeartbeats 1000000 in
theorem cut_out (a0 : Option Addr) (len cap : Nat) (i c : Int) (w : World) (hl : len ≤ maxLen) 
    (hout : ¬ (len ≤ 1048576 ∧ 0 ≤ i ∧ i ≤ (len : Int) ∧ i ≤ c ∧ c ≤ (len : Int))) :
    Calls Tryf.prog 4 #[.slice a0 len cap, .int .i64 i, .int .i64 c] w fun e w' => e = .returned (.bool true) ∧ Below w.heap.size w w' := by
  by_cases c1 : len ≤ 1048576
  case neg =>
    have hd : decide (len ≤ 1048576) = false := by simpa using c1
    have HZ : Hid (∀ i c w, Calls Tryf.prog 11 #[.slice a0 len cap, i, c] w fun e w' => e = .returned (.bool false) ∧ w' = w) := by
      intro i c w
      have := zz11_any a0 len cap i c w hl
      rwa [hd] at this
    clear hout hd
    go_enter Tryf.func4, Tryf.ntmps4
    go_wp2_with (go_at_call 11; refine (HZ.out _ _ _).mono ?_; rintro e w' ⟨rfl, rfl⟩)
    go_ret
    exact ⟨rfl, Below.refl _ _⟩
  by_cases c2 : i < 0
  · clear hout
    have c2' : decide (i < 0) = true := by simpa using c2
    go_enter Tryf.func4, Tryf.ntmps4
    go_wp2_with (go_at_call 11; refine (zz11_yes a0 len cap _ _ _ c1).mono ?_; rintro e w' ⟨rfl, rfl⟩)
    go_ret
    exact ⟨rfl, Below.refl _ _⟩
  by_cases c3 : (len : Int) < i
  · clear hout
    go_enter Tryf.func4, Tryf.ntmps4
    go_wp2_with (go_at_call 11; refine (zz11_yes a0 len cap _ _ _ c1).mono ?_; rintro e w' ⟨rfl, rfl⟩)
    go_ret
    exact ⟨rfl, Below.refl _ _⟩
  by_cases c4 : c < i
  · clear hout
    have c4' : decide (c < i) = true := by simpa using c4
    go_enter Tryf.func4, Tryf.ntmps4
    go_wp2_with (go_at_call 11; refine (zz11_yes a0 len cap _ _ _ c1).mono ?_; rintro e w' ⟨rfl, rfl⟩)
    go_ret
    exact ⟨rfl, Below.refl _ _⟩
  have c5 : (len : Int) < c := by omega
  clear hout
  go_enter Tryf.func4, Tryf.ntmps4
  go_wp2_with (go_at_call 11; refine (zz11_yes a0 len cap _ _ _ c1).mono ?_; rintro e w' ⟨rfl, rfl⟩)
  go_ret
  exact ⟨rfl, Below.refl _ _⟩
end Go.Proofs.Qxb6617053aFmt
