/- Seat b6617053aF. The walk of FnSkipNumberCutAnywhere. -/
import Derived.Test.Qxb6617053aFmtCutBase
namespace Go.Proofs.Qxb6617053aFmt
open Go.RowKit Go.Extern.Stop Go.Stop Go.Extern

theorem Bts.cut {w : World} {a : Option Addr} {len cap : Nat} {xs : List UInt8} (h : Bts w a len cap xs) {c : Nat} (hc : c ≤ len) : Bts w a c cap (xs.take c) := by
  obtain ⟨h1, h2, h3, h4, h5⟩ := h
  refine ⟨by simp; omega, by omega, by omega, h4, ?_⟩
  rcases h5 with ⟨h6, h7, h8⟩ | ⟨b, off, e, hlt, hc'⟩
  · exact .inl ⟨h6, by omega, h8⟩
  · refine .inr ⟨b, off, e, hlt, fun j hj => ?_⟩
    rw [hc' j (by omega)]
    simp only [List.getD_eq_getElem?_getD, List.getElem?_take, if_pos hj]

/-- An error value: nil or not. -/
def EV (ok : Bool) (v : Value) : Prop := (ok = true ∧ v = .nilIface) ∨ (ok = false ∧ ∃ p, v = .iface 41 (.pointer (some p)))

theorem zznumE (F : Interp) (a : Option Addr) (len cap : Nat) (xs : List UInt8) (v : Int) (i j : Nat) (ok : Bool) (w : World) (hv : v = i) (hj : sn xs i = (j, ok)) (hF : F.answers w.tape) (hd : Bts w a len cap xs) (hi : i ≤ len) :
    Calls Tryf.prog 9 #[.slice a len cap, .int .i64 v] w fun e w' => (∃ u, EV ok u ∧ e = .returned (.tuple #[.int .i64 (j : Int), u])) ∧ Below w.heap.size w w' := by
  cases ok
  · refine (zznum_no F a len cap xs v i j w hv hj hF hd hi).mono ?_
    rintro e w' ⟨⟨p, rfl⟩, hb⟩
    exact ⟨⟨_, .inr ⟨rfl, p, rfl⟩, rfl⟩, hb⟩
  · refine (zznum_yes F a len cap xs v i j w hv hj hF hd hi).mono ?_
    rintro e w' ⟨rfl, hb⟩
    exact ⟨⟨_, .inl ⟨rfl, rfl⟩, rfl⟩, hb⟩

set_option maxRecDepth 100000 in
set_option maxHeartbeats 1000000 in
theorem cut_in (F : Interp) (a0 : Option Addr) (len cap : Nat) (xs : List UInt8) (i c j j2 : Nat) (ok ok2 : Bool) (w : World) (hF : F.answers w.tape) (h1 : len ≤ 1048576) (hic : i ≤ c) (hc : c ≤ len)
    (hj : sn xs i = (j, ok)) (hj2 : sn (xs.take c) i = (j2, ok2)) (hij : i ≤ j) (hjl : j ≤ len) (hmin : c < j ∧ j2 = c ∨ j ≤ c ∧ j2 = j ∧ ok2 = ok)
    (hends : ok = true → i < j ∧ (isAt xs i 45 = true ∨ digAt xs i = true) ∧ digAt xs (j - 1) = true)
    (hd : Arg w a0 len cap xs) :
    Calls Tryf.prog 4 #[.slice a0 len cap, .int .i64 (i : Int), .int .i64 (c : Int)] w fun e w' => e = .returned (.bool true) ∧ Below w.heap.size w w' := by
  have hnn := fun (w : World) => run_neq_slice_nil_any (P := Tryf.prog) w 22 5 a0 len cap 0 0 Tryf.underlying22
  have HD0 : Hid (Arg w a0 len cap xs) := hd
  have HF : Hid (F.answers w.tape) := hF
  have HJ : Hid (sn xs i = (j, ok)) := hj
  have HJ2 : Hid (sn (xs.take c) i = (j2, ok2)) := hj2
  have HM : Hid (c < j ∧ j2 = c ∨ j ≤ c ∧ j2 = j ∧ ok2 = ok) := hmin
  have HE : Hid (ok = true → i < j ∧ (isAt xs i 45 = true ∨ digAt xs i = true) ∧ digAt xs (j - 1) = true) := hends
  have HIC : Hid (i ≤ c) := hic
  have HC : Hid (c ≤ len) := hc
  clear hd hj hj2 hmin hends hF
  go_enter Tryf.func4, Tryf.ntmps4
  go_upto_if 40 with (go_at_call 11; refine (zz11_yes a0 len cap _ _ _ h1).mono ?_; rintro e w' ⟨rfl, rfl⟩)
  go_cut [0] (fun d wc => ∃ A C, d = .slice A len C ∧ Bts wc A len C xs ∧ Below w'.heap.size w' wc)
  case first =>
    rcases HD0.out with ⟨rfl, rfl, rfl, rfl⟩ | ⟨x, zs, rfl, hz, hcell, hw, hxs⟩
    · go_wp2
      go_meet
      case rel => exact ⟨.none, 0, rfl, Bts.none _, Below.refl _ _⟩
    · obtain ⟨w1, hcp, hd1, hb1, hs1⟩ := copied w' x len cap zs (by omega) hz hcell hw
      have hmk := made w' len (by omega)
      rw [← hxs] at hd1
      have HD : Hid (Bts w1 (some ⟨w'.heap.size, 0, .none⟩) len len xs) := hd1
      have HB : Hid (Below w'.heap.size w' w1) := hb1
      clear hd1 hcell hw hz hxs hb1
      go_wp2
      go_meet
      case rel => exact ⟨_, _, rfl, HD.out, HB.out⟩
  case rest =>
    obtain ⟨A, C, rfl, hd, hb⟩ := hcut
    have HD : Hid (Bts wc A len C xs) := hd
    have HB : Hid (Below w'.heap.size w' wc) := hb
    clear hd hb
    have hC : len ≤ C := HD.out.2.2.1
    have hC2 : C ≤ 9223372036854775807 := HD.out.2.2.2.1
    go_upto_region 13 with fail
    go_cut [8, 9] (fun s t wd => s = .int .i64 (j : Int) ∧ EV ok t ∧ Bts wd A len C xs ∧ Below w'.heap.size w' wd)
    case first =>
      go_wp2_with fail
      refine (zznumE F _ _ _ _ _ i j ok _ rfl HJ.out (by rw [HB.out.tape]; exact HF.out) HD.out (by omega)).mono ?_
      rintro e w2 ⟨⟨u, hu, rfl⟩, hb2⟩
      have HU : Hid (EV ok u) := hu
      have HB2 : Hid (Below wc.heap.size wc w2) := hb2
      clear hu hb2
      go_wp2
      go_meet
      case rel => exact ⟨rfl, HU.out, HD.out.later HB2.out, chain HB.out HB2.out⟩
    case rest =>
      clear HD HB
      obtain ⟨rfl, hu, hd, hb⟩ := hcut
      have HU : Hid (EV ok u9) := hu
      have HD : Hid (Bts wc A len C xs) := hd
      have HB : Hid (Below w'.heap.size w' wc) := hb
      clear hu hd hb
      go_upto_region 16 with fail
      go_cut [10, 11] (fun s t wd => s = .int .i64 (j2 : Int) ∧ EV ok2 t ∧ Bts wd A len C xs ∧ Below w'.heap.size w' wd)
      case first =>
        rcases HD.out.2.2.2.2 with ⟨rfl, rfl, rfl⟩ | ⟨b, off, rfl, hlt, hcc⟩
        case' inl =>
          obtain rfl : c = 0 := by omega
          obtain rfl : i = 0 := by omega
          go_wp2_with fail
        case' inr =>
          clear hcc
          go_wp2_with fail
        all_goals
          refine (zznumE F _ _ _ _ _ _ j2 ok2 _ (by rfl) HJ2.out (by rw [HB.out.tape]; exact HF.out) (HD.out.cut HC.out) HIC.out).mono ?_
          rintro e w2 ⟨⟨u, hu, rfl⟩, hb2⟩
          have HU2 : Hid (EV ok2 u) := hu
          have HB2 : Hid (Below wc.heap.size wc w2) := hb2
          clear hu hb2
          go_wp2
          go_meet
          case rel => exact ⟨rfl, HU2.out, HD.out.later HB2.out, chain HB.out HB2.out⟩
      case rest =>
        clear HD HB
        obtain ⟨rfl, hu, hd, hb⟩ := hcut
        have HU2 : Hid (EV ok2 u11) := hu
        have HD : Hid (Bts wc A len C xs) := hd
        have HB : Hid (Below w'.heap.size w' wc) := hb
        clear hu hd hb
        go_upto_if 74 with fail
        go_cut [12] (fun s wd => s = .int .i64 (j2 : Int) ∧ wd = wc)
        case first =>
          rcases HM.out with ⟨h2, h3⟩ | ⟨h2, h3, _⟩
          · go_wp2
            go_meet
            case rel => exact ⟨by rw [h3], rfl⟩
          · go_wp2
            go_meet
            case rel => exact ⟨by rw [h3], rfl⟩
        case rest =>
          obtain ⟨rfl, hwc⟩ := hcut
          subst hwc
          go_upto_region 22 with fail
          go_cut [88] (fun s wd => s = .bool false ∧ Bts wd A len C xs ∧ Below w'.heap.size w' wd)
          case first =>
            rcases HM.out with ⟨h2, h3⟩ | ⟨h2, h3, h4⟩
            · have hg : decide (j ≤ c) = false := by simpa using h2
              go_quiet (fail)
              go_wp2
              go_meet
              case rel => exact ⟨rfl, HD.out.later (below_drewN (Below.refl _ _) _), below_drewN HB.out _⟩
            · subst h4
              clear h3
              rcases HU.out with ⟨rfl, rfl⟩ | ⟨rfl, p, rfl⟩
              · rcases HU2.out with ⟨_, rfl⟩ | ⟨h5, _⟩
                · go_quiet (fail)
                  go_wp2
                  go_meet
                  case rel => exact ⟨rfl, HD.out.later (below_drewN (Below.refl _ _) _), below_drewN HB.out _⟩
                · cases h5
              · rcases HU2.out with ⟨h5, _⟩ | ⟨_, q, rfl⟩
                · cases h5
                · go_quiet (fail)
                  go_wp2
                  go_meet
                  case rel => exact ⟨rfl, HD.out.later (below_drewN (Below.refl _ _) _), below_drewN HB.out _⟩
          case rest =>
            clear HD HB
            obtain ⟨rfl, hd, hb⟩ := hcut
            have HD : Hid (Bts wc A len C xs) := hd
            have HB : Hid (Below w'.heap.size w' wc) := hb
            clear hd hb HM HU2 HJ2 HJ
            rcases HU.out with ⟨rfl, rfl⟩ | ⟨rfl, p, rfl⟩
            · obtain ⟨e1, e2, e3⟩ := HE.out rfl
              obtain ⟨b, off, y, rfl, hcy, haty, hdy⟩ := HD.out.at (show i < len by omega)
              obtain ⟨b', off', z, hbb, hcz, _, hdz⟩ := HD.out.at (show j - 1 < len by omega)
              cases hbb
              have hne : ((j : Int) == (i : Int)) = false := by rw [beq_eq_false_iff_ne]; omega
              have HZ : Hid (dgB (z : Int) = true) := by show decide _ = true; rw [← hdz]; exact e3
              have hcz' : wc.cell? ⟨b, off + (j - 1), .none⟩ = some (.int .u8 (z : Int)) := hcz
              by_cases h45 : (y : Int) = 45
              · have h45b : ((y : Int) != 45) = false := by rw [h45]; rfl
                clear h45 hcz hdy hdz haty e2 e3
                go_wp2_with (go_at_call 12; refine (isd12 _ _).mono ?_; rintro e w9 ⟨rfl, rfl⟩; rw [HZ.out])
                go_ret
                exact ⟨rfl, HB.out⟩
              · have h45b : ((y : Int) != 45) = true := by rw [bne_iff_ne]; exact h45
                have HY : Hid (dgB (y : Int) = true) := by
                  show decide _ = true
                  rw [← hdy]
                  rcases e2 with e2 | e2
                  · have := haty 45; rw [e2] at this; exact absurd (beq_iff_eq.1 this.symm) h45
                  · exact e2
                clear h45 hcz hdy hdz haty e2 e3
                go_wp2_with fail
                refine (isd12 _ _).mono ?_
                rintro e w9 ⟨rfl, rfl⟩
                rw [HY.out]
                go_wp2_with fail
                refine (isd12 _ _).mono ?_
                rintro e w9 ⟨rfl, rfl⟩
                rw [HZ.out]
                go_wp2
                go_ret
                exact ⟨rfl, HB.out⟩
            · go_wp2
              go_ret
              exact ⟨rfl, HB.out⟩

/-- THE WALK: whatever the input, true; nothing that was there has turned. -/
theorem cut_walk (F : Interp) (a0 : Option Addr) (len cap : Nat) (xs : List UInt8) (i c : Int) (w : World) (hF : F.answers w.tape) (hl : len ≤ maxLen) (hd : Arg w a0 len cap xs) :
    Calls Tryf.prog 4 #[.slice a0 len cap, .int .i64 i, .int .i64 c] w fun e w' => e = .returned (.bool true) ∧ Below w.heap.size w w' := by
  by_cases hin : len ≤ 1048576 ∧ 0 ≤ i ∧ i ≤ (len : Int) ∧ i ≤ c ∧ c ≤ (len : Int)
  · obtain ⟨h1, h2, h3, h4, h5⟩ := hin
    obtain ⟨i, rfl⟩ := Int.eq_ofNat_of_zero_le h2
    obtain ⟨c, rfl⟩ := Int.eq_ofNat_of_zero_le (show 0 ≤ c by omega)
    have hxl : xs.length = len := by
      rcases hd with ⟨_, rfl, _, rfl⟩ | ⟨_, zs, _, hz, _, _, rfl⟩
      · rfl
      · exact byts_length zs len hz
    obtain ⟨g1, g2, g3, g4⟩ := sn_cut xs i c (by omega) (by omega)
    refine cut_in F a0 len cap xs i c (sn xs i).1 (sn (xs.take c) i).1 (sn xs i).2 (sn (xs.take c) i).2 w hF h1 (by omega) (by omega) rfl rfl g1 (by omega) ?_ (sn_ends xs i) hd
    by_cases hcj : c < (sn xs i).1
    · exact .inl ⟨hcj, by rw [g3]; omega⟩
    · exact .inr ⟨by omega, by rw [g3]; omega, g4 (by omega)⟩
  · exact cut_out a0 len cap i c w hl hin

end Go.Proofs.Qxb6617053aFmt
