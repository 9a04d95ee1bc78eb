/- Seat b6617053aF. numStep, numAccepting: their contracts. -/
import Derived.Test.Qxb6617053aFmtCutBase
namespace Go.Proofs.Qxb6617053aFmt
open Go.RowKit Go.Extern.Stop Go.Stop Go.Extern

/-- numStep, as the Go text tests it. -/
def stI (s : Nat) (y : Int) : Int :=
  if s = 0 then (if y == 45 then 1 else if y == 48 then 2 else if dgB y then 3 else -1)
  else if s = 1 then (if y == 48 then 2 else if dgB y then 3 else -1)
  else if s = 2 then (if y == 46 then 4 else if y == 101 then 6 else if y == 69 then 6 else -1)
  else if s = 3 then (if dgB y then 3 else if y == 46 then 4 else if y == 101 then 6 else if y == 69 then 6 else -1)
  else if s = 4 then (if dgB y then 5 else -1)
  else if s = 5 then (if dgB y then 5 else if y == 101 then 6 else if y == 69 then 6 else -1)
  else if s = 6 then (if y == 43 then 7 else if y == 45 then 7 else if dgB y then 8 else -1)
  else (if dgB y then 8 else -1)

theorem toNat_beq (c d : UInt8) : ((c.toNat : Int) == (d.toNat : Int)) = decide (c = d) := by
  rw [Bool.eq_iff_iff, beq_iff_eq, decide_eq_true_iff]
  constructor
  · intro h; exact UInt8.toNat_inj.1 (by omega)
  · rintro rfl; rfl

theorem stI_step (s : Nat) (c : UInt8) (hs : s ≤ 8) : stI s (c.toNat : Int) = match step s c with | none => -1 | some t => (t : Int) := by
  have hd : dgB (c.toNat : Int) = isDig c := by
    unfold dgB isDig
    congr 1
    simp only [eq_iff_iff]
    omega
  have e45 : ((c.toNat : Int) == 45) = decide (c = 45) := toNat_beq c 45
  have e48 : ((c.toNat : Int) == 48) = decide (c = 48) := toNat_beq c 48
  have e46 : ((c.toNat : Int) == 46) = decide (c = 46) := toNat_beq c 46
  have e101 : ((c.toNat : Int) == 101) = decide (c = 101) := toNat_beq c 101
  have e69 : ((c.toNat : Int) == 69) = decide (c = 69) := toNat_beq c 69
  have e43 : ((c.toNat : Int) == 43) = decide (c = 43) := toNat_beq c 43
  unfold stI step
  rw [hd, e45, e48, e46, e101, e69, e43]
  have hs9 : s = 0 ∨ s = 1 ∨ s = 2 ∨ s = 3 ∨ s = 4 ∨ s = 5 ∨ s = 6 ∨ s = 7 ∨ s = 8 := by omega
  by_cases h45 : c = 45
  · subst h45; rcases hs9 with rfl | rfl | rfl | rfl | rfl | rfl | rfl | rfl | rfl <;> decide
  by_cases h48 : c = 48
  · subst h48; rcases hs9 with rfl | rfl | rfl | rfl | rfl | rfl | rfl | rfl | rfl <;> decide
  by_cases h46 : c = 46
  · subst h46; rcases hs9 with rfl | rfl | rfl | rfl | rfl | rfl | rfl | rfl | rfl <;> decide
  by_cases h101 : c = 101
  · subst h101; rcases hs9 with rfl | rfl | rfl | rfl | rfl | rfl | rfl | rfl | rfl <;> decide
  by_cases h69 : c = 69
  · subst h69; rcases hs9 with rfl | rfl | rfl | rfl | rfl | rfl | rfl | rfl | rfl <;> decide
  by_cases h43 : c = 43
  · subst h43; rcases hs9 with rfl | rfl | rfl | rfl | rfl | rfl | rfl | rfl | rfl <;> decide
  cases isDig c <;> rcases hs9 with rfl | rfl | rfl | rfl | rfl | rfl | rfl | rfl | rfl <;> simp [h45, h48, h46, h101, h69, h43]

theorem step_le {s t : Nat} {c : UInt8} (h : step s c = some t) : t ≤ 8 := by
  unfold step at h
  repeat' split at h
  all_goals first | (cases h; done) | (cases h; omega)

set_option maxRecDepth 100000 in
set_option maxHeartbeats 2000000 in
theorem step16_0 (y : Int) (w : World) : Calls Tryf.prog 16 #[.int .i64 0, .int .u8 y] w fun e w' => e = .returned (.int .i64 (if y == 45 then 1 else if y == 48 then 2 else if dgB y then 3 else -1)) ∧ w' = w := by
  cases h45 : (y == 45)
  · cases h48 : (y == 48)
    · cases hd3 : dgB y
      · have HDG : Hid (dgB y = false) := hd3
        clear hd3
        go_enter Tryf.func16, Tryf.ntmps16
        go_wp2_with (go_at_call 12; refine (isd12 _ _).mono ?_; rintro e w' ⟨rfl, rfl⟩; rw [HDG.out])
        go_ret
        exact ⟨rfl, rfl⟩
      · have HDG : Hid (dgB y = true) := hd3
        clear hd3
        go_enter Tryf.func16, Tryf.ntmps16
        go_wp2_with (go_at_call 12; refine (isd12 _ _).mono ?_; rintro e w' ⟨rfl, rfl⟩; rw [HDG.out])
        go_ret
        exact ⟨rfl, rfl⟩
    · go_enter Tryf.func16, Tryf.ntmps16
      go_wp2
      go_ret
      exact ⟨rfl, rfl⟩
  · go_enter Tryf.func16, Tryf.ntmps16
    go_wp2
    go_ret
    exact ⟨rfl, rfl⟩

set_option maxRecDepth 100000 in
set_option maxHeartbeats 2000000 in
theorem step16_1 (y : Int) (w : World) : Calls Tryf.prog 16 #[.int .i64 1, .int .u8 y] w fun e w' => e = .returned (.int .i64 (if y == 48 then 2 else if dgB y then 3 else -1)) ∧ w' = w := by
  cases h48 : (y == 48)
  · cases hd2 : dgB y
    · have HDG : Hid (dgB y = false) := hd2
      clear hd2
      go_enter Tryf.func16, Tryf.ntmps16
      go_wp2_with (go_at_call 12; refine (isd12 _ _).mono ?_; rintro e w' ⟨rfl, rfl⟩; rw [HDG.out])
      go_ret
      exact ⟨rfl, rfl⟩
    · have HDG : Hid (dgB y = true) := hd2
      clear hd2
      go_enter Tryf.func16, Tryf.ntmps16
      go_wp2_with (go_at_call 12; refine (isd12 _ _).mono ?_; rintro e w' ⟨rfl, rfl⟩; rw [HDG.out])
      go_ret
      exact ⟨rfl, rfl⟩
  · go_enter Tryf.func16, Tryf.ntmps16
    go_wp2
    go_ret
    exact ⟨rfl, rfl⟩

set_option maxRecDepth 100000 in
set_option maxHeartbeats 2000000 in
theorem step16_2 (y : Int) (w : World) : Calls Tryf.prog 16 #[.int .i64 2, .int .u8 y] w fun e w' => e = .returned (.int .i64 (if y == 46 then 4 else if y == 101 then 6 else if y == 69 then 6 else -1)) ∧ w' = w := by
  cases h46 : (y == 46)
  · cases h101 : (y == 101)
    · cases h69 : (y == 69)
      · go_enter Tryf.func16, Tryf.ntmps16
        go_wp2
        go_ret
        exact ⟨rfl, rfl⟩
      · go_enter Tryf.func16, Tryf.ntmps16
        go_wp2
        go_ret
        exact ⟨rfl, rfl⟩
    · go_enter Tryf.func16, Tryf.ntmps16
      go_wp2
      go_ret
      exact ⟨rfl, rfl⟩
  · go_enter Tryf.func16, Tryf.ntmps16
    go_wp2
    go_ret
    exact ⟨rfl, rfl⟩

set_option maxRecDepth 100000 in
set_option maxHeartbeats 2000000 in
theorem step16_3 (y : Int) (w : World) : Calls Tryf.prog 16 #[.int .i64 3, .int .u8 y] w fun e w' => e = .returned (.int .i64 (if dgB y then 3 else if y == 46 then 4 else if y == 101 then 6 else if y == 69 then 6 else -1)) ∧ w' = w := by
  cases hd1 : dgB y
  · have HDG : Hid (dgB y = false) := hd1
    clear hd1
    cases h46 : (y == 46)
    · cases h101 : (y == 101)
      · cases h69 : (y == 69)
        · go_enter Tryf.func16, Tryf.ntmps16
          go_wp2_with (go_at_call 12; refine (isd12 _ _).mono ?_; rintro e w' ⟨rfl, rfl⟩; rw [HDG.out])
          go_ret
          exact ⟨rfl, rfl⟩
        · go_enter Tryf.func16, Tryf.ntmps16
          go_wp2_with (go_at_call 12; refine (isd12 _ _).mono ?_; rintro e w' ⟨rfl, rfl⟩; rw [HDG.out])
          go_ret
          exact ⟨rfl, rfl⟩
      · go_enter Tryf.func16, Tryf.ntmps16
        go_wp2_with (go_at_call 12; refine (isd12 _ _).mono ?_; rintro e w' ⟨rfl, rfl⟩; rw [HDG.out])
        go_ret
        exact ⟨rfl, rfl⟩
    · go_enter Tryf.func16, Tryf.ntmps16
      go_wp2_with (go_at_call 12; refine (isd12 _ _).mono ?_; rintro e w' ⟨rfl, rfl⟩; rw [HDG.out])
      go_ret
      exact ⟨rfl, rfl⟩
  · have HDG : Hid (dgB y = true) := hd1
    clear hd1
    go_enter Tryf.func16, Tryf.ntmps16
    go_wp2_with (go_at_call 12; refine (isd12 _ _).mono ?_; rintro e w' ⟨rfl, rfl⟩; rw [HDG.out])
    go_ret
    exact ⟨rfl, rfl⟩

set_option maxRecDepth 100000 in
set_option maxHeartbeats 2000000 in
theorem step16_4 (y : Int) (w : World) : Calls Tryf.prog 16 #[.int .i64 4, .int .u8 y] w fun e w' => e = .returned (.int .i64 (if dgB y then 5 else -1)) ∧ w' = w := by
  cases hd1 : dgB y
  · have HDG : Hid (dgB y = false) := hd1
    clear hd1
    go_enter Tryf.func16, Tryf.ntmps16
    go_wp2_with (go_at_call 12; refine (isd12 _ _).mono ?_; rintro e w' ⟨rfl, rfl⟩; rw [HDG.out])
    go_ret
    exact ⟨rfl, rfl⟩
  · have HDG : Hid (dgB y = true) := hd1
    clear hd1
    go_enter Tryf.func16, Tryf.ntmps16
    go_wp2_with (go_at_call 12; refine (isd12 _ _).mono ?_; rintro e w' ⟨rfl, rfl⟩; rw [HDG.out])
    go_ret
    exact ⟨rfl, rfl⟩

set_option maxRecDepth 100000 in
set_option maxHeartbeats 2000000 in
theorem step16_5 (y : Int) (w : World) : Calls Tryf.prog 16 #[.int .i64 5, .int .u8 y] w fun e w' => e = .returned (.int .i64 (if dgB y then 5 else if y == 101 then 6 else if y == 69 then 6 else -1)) ∧ w' = w := by
  cases hd1 : dgB y
  · have HDG : Hid (dgB y = false) := hd1
    clear hd1
    cases h101 : (y == 101)
    · cases h69 : (y == 69)
      · go_enter Tryf.func16, Tryf.ntmps16
        go_wp2_with (go_at_call 12; refine (isd12 _ _).mono ?_; rintro e w' ⟨rfl, rfl⟩; rw [HDG.out])
        go_ret
        exact ⟨rfl, rfl⟩
      · go_enter Tryf.func16, Tryf.ntmps16
        go_wp2_with (go_at_call 12; refine (isd12 _ _).mono ?_; rintro e w' ⟨rfl, rfl⟩; rw [HDG.out])
        go_ret
        exact ⟨rfl, rfl⟩
    · go_enter Tryf.func16, Tryf.ntmps16
      go_wp2_with (go_at_call 12; refine (isd12 _ _).mono ?_; rintro e w' ⟨rfl, rfl⟩; rw [HDG.out])
      go_ret
      exact ⟨rfl, rfl⟩
  · have HDG : Hid (dgB y = true) := hd1
    clear hd1
    go_enter Tryf.func16, Tryf.ntmps16
    go_wp2_with (go_at_call 12; refine (isd12 _ _).mono ?_; rintro e w' ⟨rfl, rfl⟩; rw [HDG.out])
    go_ret
    exact ⟨rfl, rfl⟩

set_option maxRecDepth 100000 in
set_option maxHeartbeats 2000000 in
theorem step16_6 (y : Int) (w : World) : Calls Tryf.prog 16 #[.int .i64 6, .int .u8 y] w fun e w' => e = .returned (.int .i64 (if y == 43 then 7 else if y == 45 then 7 else if dgB y then 8 else -1)) ∧ w' = w := by
  cases h43 : (y == 43)
  · cases h45 : (y == 45)
    · cases hd3 : dgB y
      · have HDG : Hid (dgB y = false) := hd3
        clear hd3
        go_enter Tryf.func16, Tryf.ntmps16
        go_wp2_with (go_at_call 12; refine (isd12 _ _).mono ?_; rintro e w' ⟨rfl, rfl⟩; rw [HDG.out])
        go_ret
        exact ⟨rfl, rfl⟩
      · have HDG : Hid (dgB y = true) := hd3
        clear hd3
        go_enter Tryf.func16, Tryf.ntmps16
        go_wp2_with (go_at_call 12; refine (isd12 _ _).mono ?_; rintro e w' ⟨rfl, rfl⟩; rw [HDG.out])
        go_ret
        exact ⟨rfl, rfl⟩
    · go_enter Tryf.func16, Tryf.ntmps16
      go_wp2
      go_ret
      exact ⟨rfl, rfl⟩
  · go_enter Tryf.func16, Tryf.ntmps16
    go_wp2
    go_ret
    exact ⟨rfl, rfl⟩

set_option maxRecDepth 100000 in
set_option maxHeartbeats 2000000 in
theorem step16_7 (y : Int) (w : World) : Calls Tryf.prog 16 #[.int .i64 7, .int .u8 y] w fun e w' => e = .returned (.int .i64 (if dgB y then 8 else -1)) ∧ w' = w := by
  cases hd1 : dgB y
  · have HDG : Hid (dgB y = false) := hd1
    clear hd1
    go_enter Tryf.func16, Tryf.ntmps16
    go_wp2_with (go_at_call 12; refine (isd12 _ _).mono ?_; rintro e w' ⟨rfl, rfl⟩; rw [HDG.out])
    go_ret
    exact ⟨rfl, rfl⟩
  · have HDG : Hid (dgB y = true) := hd1
    clear hd1
    go_enter Tryf.func16, Tryf.ntmps16
    go_wp2_with (go_at_call 12; refine (isd12 _ _).mono ?_; rintro e w' ⟨rfl, rfl⟩; rw [HDG.out])
    go_ret
    exact ⟨rfl, rfl⟩

set_option maxRecDepth 100000 in
set_option maxHeartbeats 2000000 in
theorem step16_8 (y : Int) (w : World) : Calls Tryf.prog 16 #[.int .i64 8, .int .u8 y] w fun e w' => e = .returned (.int .i64 (if dgB y then 8 else -1)) ∧ w' = w := by
  cases hd1 : dgB y
  · have HDG : Hid (dgB y = false) := hd1
    clear hd1
    go_enter Tryf.func16, Tryf.ntmps16
    go_wp2_with (go_at_call 12; refine (isd12 _ _).mono ?_; rintro e w' ⟨rfl, rfl⟩; rw [HDG.out])
    go_ret
    exact ⟨rfl, rfl⟩
  · have HDG : Hid (dgB y = true) := hd1
    clear hd1
    go_enter Tryf.func16, Tryf.ntmps16
    go_wp2_with (go_at_call 12; refine (isd12 _ _).mono ?_; rintro e w' ⟨rfl, rfl⟩; rw [HDG.out])
    go_ret
    exact ⟨rfl, rfl⟩


theorem step16 (s : Nat) (hs : s ≤ 8) (y : Int) (w : World) : Calls Tryf.prog 16 #[.int .i64 (s : Int), .int .u8 y] w fun e w' => e = .returned (.int .i64 (stI s y)) ∧ w' = w := by
  have hs9 : s = 0 ∨ s = 1 ∨ s = 2 ∨ s = 3 ∨ s = 4 ∨ s = 5 ∨ s = 6 ∨ s = 7 ∨ s = 8 := by omega
  rcases hs9 with rfl | rfl | rfl | rfl | rfl | rfl | rfl | rfl | rfl
  · exact step16_0 y w
  · exact step16_1 y w
  · exact step16_2 y w
  · exact step16_3 y w
  · exact step16_4 y w
  · exact step16_5 y w
  · exact step16_6 y w
  · exact step16_7 y w
  · exact step16_8 y w

set_option maxHeartbeats 1000000 in
theorem acc10 (s : Nat) (hs : s ≤ 8) (w : World) : Calls Tryf.prog 10 #[.int .i64 (s : Int)] w fun e w' => e = .returned (.bool (acc s)) ∧ w' = w := by
  have hs9 : s = 0 ∨ s = 1 ∨ s = 2 ∨ s = 3 ∨ s = 4 ∨ s = 5 ∨ s = 6 ∨ s = 7 ∨ s = 8 := by omega
  rcases hs9 with rfl | rfl | rfl | rfl | rfl | rfl | rfl | rfl | rfl
  all_goals
    go_enter Tryf.func10, Tryf.ntmps10
    go_wp2
    go_ret
    exact ⟨rfl, rfl⟩
end Go.Proofs.Qxb6617053aFmt
