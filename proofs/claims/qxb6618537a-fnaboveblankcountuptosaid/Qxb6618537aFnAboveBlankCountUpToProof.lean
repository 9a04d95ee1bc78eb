/- The proof of 'Rows.FnAboveBlankCountUpToSaid' (seat b6618537a). The frame is the seat's shell; the walk and the plain facts are typed here. -/
import Derived.Test.Qxb6618537aRows
import Derived.WalkKit
import Derived.WalkSpells
import Derived.WalkLawsBesides
import Derived.ProofKit
import Derived.OpenShut
import Derived.ShutString
namespace Go.Proofs.Qxb6618537a.fnAboveBlankCountUpTo
open Go.ChangeShapes Go.WideShapes Go.ChangeAt Go.RowKit
open Go.ChangeMaps (open_string shut_string)
set_option linter.unusedVariables false      -- a walk need not use every 'w<i>' (that an integer argument fits its kind)

theorem own : ownKnob Try.prog.godebug = none := by kernel_rfl

def abB (c : Int) : Bool := decide (32 < c ∧ c < 128)

set_option maxHeartbeats 400000 in
theorem above12 (c : Int) (w : World) : Calls Try.prog 12 #[.int .u8 c] w fun e w' => e = .returned (.bool (abB c)) ∧ w' = w := by
  by_cases h1 : 32 < c
  · by_cases h2 : c < 128
    · have e : abB c = true := by simp [abB]; omega
      rw [e]
      clear e
      go_enter Try.func12, Try.ntmps12
      go_wp2
      go_ret
      exact ⟨rfl, rfl⟩
    · have e : abB c = false := by simp [abB]; omega
      rw [e]
      clear e
      go_enter Try.func12, Try.ntmps12
      go_wp2
      go_ret
      exact ⟨rfl, rfl⟩
  · have e : abB c = false := by simp [abB]; omega
    rw [e]
    clear e
    go_enter Try.func12, Try.ntmps12
    go_wp2
    go_ret
    exact ⟨rfl, rfl⟩

set_option maxHeartbeats 400000 in
theorem above10 (c : Int) (w : World) : Calls Try.prog 10 #[.int .u8 c] w fun e w' => e = .returned (.bool (abB c)) ∧ w' = w := by
  go_enter Try.func10, Try.ntmps10
  go_wp2_with (go_at_call 12; refine (above12 _ _).mono ?_; rintro e w' ⟨rfl, rfl⟩)
  go_ret
  exact ⟨rfl, rfl⟩

def cnt (k : Nat) : Int := if (k : Int) ≤ 33 then 0 else if (k : Int) ≤ 128 then (k : Int) - 33 else 95
theorem cnt_bd (k : Nat) : 0 ≤ cnt k ∧ cnt k ≤ 95 := by unfold cnt; split <;> (try split) <;> omega
theorem cnt_yes (k : Nat) (h : abB (k : Int) = true) : cnt (k + 1) = cnt k + 1 := by
  simp [abB] at h
  unfold cnt; split <;> split <;> (try split) <;> (try split) <;> omega
theorem cnt_no (k : Nat) (h : abB (k : Int) = false) : cnt (k + 1) = cnt k := by
  simp [abB] at h
  unfold cnt; split <;> split <;> (try split) <;> (try split) <;> omega
theorem cnt_end (b : Int) (h0 : 0 ≤ b) (k : Nat) (hk : (k : Int) = b + 1) : (b < 32 → cnt k = 0) ∧ (32 ≤ b → b ≤ 127 → cnt k = b - 32) ∧ (127 < b → cnt k = 95) := by
  refine ⟨?_, ?_, ?_⟩ <;> intros <;> unfold cnt <;> (repeat' split) <;> omega

set_option maxHeartbeats 1000000 in
theorem walk0 (b : Int) (h0 : 0 ≤ b) (h1 : b ≤ 255) (w : World) :
    Calls Try.prog 5 #[.int .u8 b] w fun e w' => e = .returned (.bool true) ∧ w' = w := by
  go_enter Try.func5, Try.ntmps5
  go_wp2
  go_loop [3, 4] (fun n i => ∃ k : Nat, (k : Int) ≤ b + 1 ∧ i = .int .i64 k ∧ n = .int .i64 (cnt k)) (fun _ i => 256 - (intOf i).toNat)
  case atStart => exact ⟨0, by omega, rfl, rfl⟩
  case round =>
    obtain ⟨k, hk, rfl, rfl⟩ := hrel
    have hb := cnt_bd k
    by_cases hlt : (k : Int) ≤ b
    · have hk255 : (k : Int) ≤ 255 := by omega
      cases ha : abB (k : Int)
      · have HS : Hid (cnt (k + 1) = cnt k) := cnt_no k ha
        have HA : Hid (abB (k : Int) = false) := ha
        clear ha
        go_wp2_with (go_at_call 10; refine (above10 _ _).mono ?_; rintro e w' ⟨rfl, rfl⟩; rw [HA.out])
        go_round
        case rel => exact ⟨k + 1, by omega, by go_num, by rw [HS.out]⟩
        case measure => simp [intOf]; omega
      · have HS : Hid (cnt (k + 1) = cnt k + 1) := cnt_yes k ha
        have HA : Hid (abB (k : Int) = true) := ha
        clear ha
        go_wp2_with (go_at_call 10; refine (above10 _ _).mono ?_; rintro e w' ⟨rfl, rfl⟩; rw [HA.out])
        go_round
        case rel => exact ⟨k + 1, by omega, by go_num, by rw [HS.out]⟩
        case measure => simp [intOf]; omega
    · have he := cnt_end b h0 k (by omega)
      have HE : Hid ((b < 32 → cnt k = 0) ∧ (32 ≤ b → b ≤ 127 → cnt k = b - 32) ∧ (127 < b → cnt k = 95)) := he
      clear he
      by_cases h32 : b < 32
      · have hc : (cnt k == 0) = true := by rw [HE.out.1 h32]; rfl
        go_wp2
        go_ret
        exact ⟨rfl, rfl⟩
      · by_cases h127 : b ≤ 127
        · have hc : (cnt k == b - 32) = true := by rw [HE.out.2.1 (by omega) h127]; simp
          go_wp2
          go_ret
          exact ⟨rfl, rfl⟩
        · have hc : (cnt k == 95) = true := by rw [HE.out.2.2 (by omega)]; rfl
          go_wp2
          go_ret
          exact ⟨rfl, rfl⟩
/-! ### STEP 1: THE WALK: the Go text returns true. 'Grown w w'': the world has at most new blocks (Derived/RowKit3.lean). Part the cases AHEAD of 'go_enter' where a test parts the walk; take each callee by a contract of your own. -/
theorem walk (a0 : Int) (w0 : (Lit.int .u8 a0).wf = true) (w : World) :
    Calls Try.prog 5 #[.int .u8 a0] w fun e w' => e = .returned (.bool true) ∧ Grown w w' := by
  have hb := bounds_u8 w0
  exact (walk0 a0 hb.1 hb.2 w).mono fun e w' ⟨he, hw⟩ => ⟨he, by rw [hw]; exact Grown.refl _⟩

/-! ### THE ROW's STEP: WRITTEN OUT: LEAVE IT -/
set_option maxRecDepth 100000 in
theorem lifted (os : Os) (started : os.Started) (H : Type) (enc : TypeId × Value → H) :
    ReturnsInHanded {} Try.checked os 5 .any (Rows.fnAboveBlankCountUpToSpec.pre6 enc Try.prog Try.f5 Rows.fnAboveBlankCountUpToRow.domain false) (Rows.fnAboveBlankCountUpToSpec.post enc Try.prog Try.f5 false true false false) := by
  refine returnsInHanded_of_change (C := Try.checked) own started (by kernel_rfl) Try.func5
    (ChangeSpec.witness6 (enc := enc) (C := Try.checked) false ⟨#[], #[.int .u8 0], []⟩ 8 (by kernel_rfl) (by kernel_rfl) (by kernel_rfl) (by kernel_rfl)) ?_
  intro W base args ds gs before hval0 hW hcnd _
  have hval : ∀ (j : Nat) t v, Try.f5.params[j]? = some t → args[j]? = some v → Value.okWide Try.prog W .any base t v := hval0
  have hW' := hW
  obtain ⟨p, q, hA0, hV, rfl, hfz, hnd⟩ := hW
  have hA : DataW.TrodAll enc Try.prog W 0 (fun _ => true) true Try.f5.params.toList args.toList ds p := hA0
  rw [Try.params5] at hA hval
  obtain ⟨v0, vs0, d0, ds0, p0, q0, hargs, rfl, rfl, h0, r0⟩ := trodAll_cons hA
  obtain ⟨rfl, rfl, rfl⟩ := trodAll_nil r0
  obtain rfl : args = #[v0] := by cases args; simp_all
  obtain ⟨rfl, rfl⟩ := trodVars_none hV
  obtain ⟨a0, rfl, rfl, rfl, w0⟩ := open_int Try.underlying5 (hval 0 5 v0 rfl rfl) h0
  clear hA0 hval0
  simp only [List.append_nil] at hW'
  refine (walk a0 w0 W).mono fun e W' ⟨he, hg⟩ => ?_
  subst he
  exact ⟨_, rfl, post_of_same (pa := []) (pv := []) hW' (fun _ _ _ => (trodAll_cons_mk (shut_bool Try.underlying4 _) trodAll_mk0)) (fun sp _ => (trodAll_cons_mk (shut_int Try.underlying5 w0) trodAll_mk0)) (fun _ _ => rfl) rfl
    (hg.frame _) hg.2.1 (ok_one (by kernel_rfl) rfl (okWide_bool_mk Try.underlying4 _))⟩

theorem over : Rows.fnAboveBlankCountUpToRow.holds Try.pinned (OpenSpec.ofChange Rows.fnAboveBlankCountUpToSpec) :=
  OpenClaim.holds_of_wide 5 Try.f5 rfl rfl rfl rfl rfl rfl rfl ⟨rfl, rfl, rfl, rfl, rfl⟩ rfl rfl rfl rfl rfl (by kernel_rfl) Try.func5 (by kernel_rfl)
    (of_decide_eq_true (by kernel_rfl)) (by unfold Func.isWrapper; first | (rw [if_pos (by decide +kernel)]; kernel_rfl) | (rw [if_neg (by decide +kernel)]; exact ⟨rfl, rfl⟩))
    (fun os started H enc _ => lifted os started H enc)

/-- ████ THE STATEMENT ████ -/
theorem proved : Rows.FnAboveBlankCountUpToSaid :=
  over
#print axioms proved
end Go.Proofs.Qxb6618537a.fnAboveBlankCountUpTo
