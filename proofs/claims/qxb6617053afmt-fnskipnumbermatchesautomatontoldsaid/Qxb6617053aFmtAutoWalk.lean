/- Seat b6617053aF. The walk of FnSkipNumberMatchesAutomaton. -/
import Derived.Test.Qxb6617053aFmtAutoBase
namespace Go.Proofs.Qxb6617053aFmt
open Go.RowKit Go.Extern.Stop Go.Stop Go.Extern

theorem Bts.byte {w : World} {a : Option Addr} {len cap : Nat} {xs : List UInt8} (h : Bts w a len cap xs) {k : Nat} (hk : k < len) :
    ∃ b off c, a = some ⟨b, off, .none⟩ ∧ w.cell? ⟨b, off + k, .none⟩ = some (.int .u8 ((c : UInt8).toNat : Int)) ∧ xs[k]? = some c := by
  obtain ⟨hx, hl, hcap, hcap2, hd⟩ := h
  rcases hd with ⟨_, h0, _⟩ | ⟨b, off, rfl, _, hc⟩
  · omega
  · refine ⟨b, off, _, rfl, hc k hk, ?_⟩
    rw [List.getD_eq_getElem?_getD, List.getElem?_eq_getElem (show k < xs.length by omega)]
    rfl

set_option maxHeartbeats 1000000 in
theorem run8 (a : Option Addr) (len cap : Nat) (xs : List UInt8) (i : Nat) (w : World) (hd : Bts w a len cap xs) (hi : i ≤ len) :
    Calls Tryf.prog 8 #[.slice a len cap, .int .i64 (i : Int)] w fun e w' => (∃ p s : Nat, s ≤ 8 ∧ R xs 0 i = (p, s) ∧ e = .returned (.tuple #[.int .i64 (p : Int), .int .i64 (s : Int)])) ∧ w' = w := by
  have HD : Hid (Bts w a len cap xs) := hd
  have HX : Hid (xs.length = len) := hd.1
  have hl : len ≤ 1048576 := hd.2.1
  clear hd
  go_enter Tryf.func8, Tryf.ntmps8
  go_wp2
  go_loop [6, 7] (fun s p => ∃ st k : Nat, k ≤ len ∧ st ≤ 8 ∧ s = .int .i64 st ∧ p = .int .i64 k ∧ Hid (R xs 0 i = R xs st k)) (fun _ p => len - (intOf p).toNat)
  case atStart => exact ⟨0, i, hi, by omega, rfl, rfl, rfl⟩
  case round =>
    obtain ⟨st, k, hk, hst, rfl, rfl, HK⟩ := hrel
    by_cases hlt : k < len
    · obtain ⟨b, off, c, rfl, hc, hxc⟩ := HD.out.byte hlt
      have HXC : Hid (xs[k]? = some c) := hxc
      have HST := stI_step st c hst
      clear hxc
      cases hs : step st c with
      | none =>
        rw [hs] at HST
        have HST2 : Hid (stI st (c.toNat : Int) = -1) := HST
        have HR : Hid (R xs 0 i = (k, st)) := HK.out.trans (R_no HXC.out hs)
        clear HST hs
        go_wp2_with (go_at_call 16; refine (step16 st hst _ _).mono ?_; rintro e w' ⟨rfl, rfl⟩; rw [HST2.out])
        go_ret2
        exact ⟨⟨k, st, hst, HR.out, rfl⟩, rfl⟩
      | some t =>
        rw [hs] at HST
        have HST2 : Hid (stI st (c.toNat : Int) = (t : Int)) := HST
        have HR : Hid (R xs 0 i = R xs t (k + 1)) := HK.out.trans (R_yes HXC.out hs)
        have ht := step_le hs
        have hne : ((t : Int) == -1) = false := by rw [beq_eq_false_iff_ne]; omega
        clear HST hs
        go_wp2_with (go_at_call 16; refine (step16 st hst _ _).mono ?_; rintro e w' ⟨rfl, rfl⟩; rw [HST2.out])
        go_round
        case rel => exact ⟨t, k + 1, by omega, ht, rfl, by go_num, HR⟩
        case measure => simp [intOf]; omega
    · have HR : Hid (R xs 0 i = (k, st)) := HK.out.trans (R_end (by rw [HX.out]; omega))
      go_wp2
      go_ret2
      exact ⟨⟨k, st, hst, HR.out, rfl⟩, rfl⟩

set_option maxHeartbeats 400000 in
theorem zz7_any (a0 : Option Addr) (len cap : Nat) (i : Value) (w : World) (hl : len ≤ maxLen)  :
    Calls Tryf.prog 7 #[.slice a0 len cap, i] w fun e w' => e = .returned (.bool (decide (len ≤ 1048576))) ∧ w' = w := by
  unfold maxLen at *
  by_cases h : len ≤ 1048576
  · go_enter Tryf.func7, Tryf.ntmps7
    go_wp2
    go_ret
    exact ⟨by simp [h], rfl⟩
  · have h' : 1048576 < len := by omega
    go_enter Tryf.func7, Tryf.ntmps7
    go_wp2
    go_ret
    exact ⟨by simp; omega, rfl⟩

theorem zz7_yes (a0 : Option Addr) (len cap : Nat) (i : Value) (w : World) (hl : len ≤ 1048576)  :
    Calls Tryf.prog 7 #[.slice a0 len cap, i] w fun e w' => e = .returned (.bool true) ∧ w' = w := by
  have := zz7_any a0 len cap i w (by unfold maxLen; omega)
  rwa [decide_eq_true hl] at this

set_option maxRecDepth 100000 in
set_option maxHeartbeats 1000000 in
theorem auto_out (a0 : Option Addr) (len cap : Nat) (i : Int) (w : World) (hl : len ≤ maxLen)
    (hout : ¬ (len ≤ 1048576 ∧ 0 ≤ i ∧ i ≤ (len : Int))) :
    Calls Tryf.prog 3 #[.slice a0 len cap, .int .i64 i] w fun e w' => e = .returned (.bool true) ∧ Below w.heap.size w w' := by
  by_cases c1 : len ≤ 1048576
  case neg =>
    have hd : decide (len ≤ 1048576) = false := by simpa using c1
    have HZ : Hid (∀ i w, Calls Tryf.prog 7 #[.slice a0 len cap, i] w fun e w' => e = .returned (.bool false) ∧ w' = w) := by
      intro i w
      have := zz7_any a0 len cap i w hl
      rwa [hd] at this
    clear hout hd
    go_enter Tryf.func3, Tryf.ntmps3
    go_wp2_with (go_at_call 7; refine (HZ.out _ _).mono ?_; rintro e w' ⟨rfl, rfl⟩)
    go_ret
    exact ⟨rfl, Below.refl _ _⟩
  by_cases c2 : i < 0
  · clear hout
    have c2' : decide (i < 0) = true := by simpa using c2
    go_enter Tryf.func3, Tryf.ntmps3
    go_wp2_with (go_at_call 7; refine (zz7_yes a0 len cap _ _ c1).mono ?_; rintro e w' ⟨rfl, rfl⟩)
    go_ret
    exact ⟨rfl, Below.refl _ _⟩
  have c3 : (len : Int) < i := by omega
  clear hout
  go_enter Tryf.func3, Tryf.ntmps3
  go_wp2_with (go_at_call 7; refine (zz7_yes a0 len cap _ _ c1).mono ?_; rintro e w' ⟨rfl, rfl⟩)
  go_ret
  exact ⟨rfl, Below.refl _ _⟩

set_option maxRecDepth 100000 in
set_option maxHeartbeats 1000000 in
theorem auto_in (F : Interp) (a0 : Option Addr) (len cap : Nat) (xs : List UInt8) (i j : Nat) (ok : Bool) (w : World) (hF : F.answers w.tape) (h1 : len ≤ 1048576) (hi : i ≤ len)
    (hj : sn xs i = (j, ok)) (hd : Arg w a0 len cap xs) :
    Calls Tryf.prog 3 #[.slice a0 len cap, .int .i64 (i : Int)] w fun e w' => e = .returned (.bool true) ∧ Below w.heap.size w w' := by
  have hnn := fun (w : World) => run_neq_slice_nil_any (P := Tryf.prog) w 22 5 a0 len cap 0 0 Tryf.underlying22
  have HD0 : Hid (Arg w a0 len cap xs) := hd
  have HF : Hid (F.answers w.tape) := hF
  have HJ : Hid (sn xs i = (j, ok)) := hj
  have HI : Hid (i ≤ len) := hi
  clear hd hj hF
  go_enter Tryf.func3, Tryf.ntmps3
  go_upto_if 26 with (go_at_call 7; refine (zz7_yes a0 len cap _ _ h1).mono ?_; rintro e w' ⟨rfl, rfl⟩)
  go_cut [0] (fun d wc => ∃ A C, d = .slice A len C ∧ Bts wc A len C xs ∧ Below w'.heap.size w' wc)
  case first =>
    rcases HD0.out with ⟨rfl, rfl, rfl, rfl⟩ | ⟨x, zs, rfl, hz, hcell, hw, hxs⟩
    · go_wp2
      go_meet
      case rel => exact ⟨.none, 0, rfl, Bts.none _, Below.refl _ _⟩
    · obtain ⟨w1, hcp, hd1, hb1, hs1⟩ := copied w' x len cap zs (by omega) hz hcell hw
      have hmk := made w' len (by omega)
      rw [← hxs] at hd1
      have HD : Hid (Bts w1 (some ⟨w'.heap.size, 0, .none⟩) len len xs) := hd1
      have HB : Hid (Below w'.heap.size w' w1) := hb1
      clear hd1 hcell hw hz hxs hb1
      go_wp2
      go_meet
      case rel => exact ⟨_, _, rfl, HD.out, HB.out⟩
  case rest =>
    obtain ⟨A, C, rfl, hd, hb⟩ := hcut
    have HD : Hid (Bts wc A len C xs) := hd
    have HB : Hid (Below w'.heap.size w' wc) := hb
    clear hd hb
    go_wp2_with fail
    refine (run8 _ _ _ xs i _ HD.out HI.out).mono ?_
    rintro e w2 ⟨⟨p, s, hs, hr, rfl⟩, rfl⟩
    have HS : Hid (p = j ∧ acc s = ok) := by
      have := HJ.out
      rw [sn_R, hr] at this
      simp only [Prod.mk.injEq] at this
      exact this
    clear hr
    go_wp2_with fail
    cases ok
    · refine (zznum_no F _ _ _ _ _ i j _ rfl HJ.out (by rw [HB.out.tape]; exact HF.out) HD.out HI.out).mono ?_
      rintro e w3 ⟨⟨q, rfl⟩, hb3⟩
      obtain rfl := HS.out.1
      have HAC : Hid (∀ w, Calls Tryf.prog 10 #[.int .i64 (s : Int)] w fun e w' => e = .returned (.bool false) ∧ w' = w) := fun w => by
        have := acc10 s hs w
        rwa [HS.out.2] at this
      go_wp2_with fail
      go_quiet ((go_at_call 10; exact Calls.quiet_of_same (HAC.out _)))
      go_wp2
      go_ret
      exact ⟨rfl, below_drewN (chain HB.out hb3) _⟩
    · refine (zznum_yes F _ _ _ _ _ i j _ rfl HJ.out (by rw [HB.out.tape]; exact HF.out) HD.out HI.out).mono ?_
      rintro e w3 ⟨rfl, hb3⟩
      obtain rfl := HS.out.1
      have HAC : Hid (∀ w, Calls Tryf.prog 10 #[.int .i64 (s : Int)] w fun e w' => e = .returned (.bool true) ∧ w' = w) := fun w => by
        have := acc10 s hs w
        rwa [HS.out.2] at this
      go_wp2_with fail
      go_quiet ((go_at_call 10; exact Calls.quiet_of_same (HAC.out _)))
      go_wp2
      go_ret
      exact ⟨rfl, below_drewN (chain HB.out hb3) _⟩

/-- THE WALK: whatever the input, true; nothing that was there has turned. -/
theorem auto_walk (F : Interp) (a0 : Option Addr) (len cap : Nat) (xs : List UInt8) (i : Int) (w : World) (hF : F.answers w.tape) (hl : len ≤ maxLen) (hd : Arg w a0 len cap xs) :
    Calls Tryf.prog 3 #[.slice a0 len cap, .int .i64 i] w fun e w' => e = .returned (.bool true) ∧ Below w.heap.size w w' := by
  by_cases hin : len ≤ 1048576 ∧ 0 ≤ i ∧ i ≤ (len : Int)
  · obtain ⟨h1, h2, h3⟩ := hin
    obtain ⟨i, rfl⟩ := Int.eq_ofNat_of_zero_le h2
    exact auto_in F a0 len cap xs i (sn xs i).1 (sn xs i).2 w hF h1 (by omega) rfl hd
  · exact auto_out a0 len cap i w hl hin

end Go.Proofs.Qxb6617053aFmt
