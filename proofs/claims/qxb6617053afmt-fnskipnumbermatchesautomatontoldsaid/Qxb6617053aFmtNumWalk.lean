/- Seat b6617053aF. skipDigits, skipNumber, ZZskipNumber: their contracts. -/
import Derived.Test.Qxb6617053aFmtBase
import Derived.Test.Qxb6617053aFmtNum
import Derived.Deep.DeepCutAuto
import Derived.Deep.CutBlock
namespace Go.Proofs.Qxb6617053aFmt
open Go.RowKit Go.Extern.Stop Go.Stop Go.Extern

/-- What a place of the slice holds, as the walk asks it. -/
theorem digAt_num {xs : List UInt8} {k : Nat} (h : k < xs.length) : digAt xs k = decide (48 ≤ ((xs.getD k 0).toNat : Int) ∧ ((xs.getD k 0).toNat : Int) ≤ 57) := by
  unfold digAt isDig
  rw [List.getD_eq_getElem?_getD, List.getElem?_eq_getElem h]
  simp only [Option.map_some, Option.getD_some]
  congr 1
  simp only [eq_iff_iff]
  omega

theorem isAt_num {xs : List UInt8} {k : Nat} (c : UInt8) (h : k < xs.length) : isAt xs k c = (((xs.getD k 0).toNat : Int) == (c.toNat : Int)) := by
  unfold isAt
  rw [List.getD_eq_getElem?_getD, List.getElem?_eq_getElem h, Bool.eq_iff_iff, decide_eq_true_iff, beq_iff_eq]
  simp only [Option.some.injEq, Option.getD_some]
  constructor
  · rintro h; rw [h]
  · intro h; exact UInt8.toNat_inj.1 (by omega)
theorem isAt_out {xs : List UInt8} {k : Nat} (c : UInt8) (h : xs.length ≤ k) : isAt xs k c = false := by
  unfold isAt
  rw [List.getElem?_eq_none h]
  rfl
theorem digAt_out {xs : List UInt8} {k : Nat} (h : xs.length ≤ k) : digAt xs k = false := by
  unfold digAt
  rw [List.getElem?_eq_none h]
  rfl

set_option maxHeartbeats 400000 in
theorem dig19 (a : Option Addr) (len cap : Nat) (xs : List UInt8) (i : Nat) (w : World) (hd : Bts w a len cap xs) (hi : i ≤ len) :
    Calls Tryf.prog 19 #[.slice a len cap, .int .i64 (i : Int)] w fun e w' => e = .returned (.int .i64 (digs xs i : Nat)) ∧ w' = w := by
  obtain ⟨hx, hl, hcap, hcap2, hd⟩ := hd
  have HX : Hid (xs.length = len) := hx
  clear hx
  go_enter Tryf.func19, Tryf.ntmps19
  go_wp2
  go_loop [1] (fun t => ∃ k : Nat, k ≤ len ∧ t = .int .i64 k ∧ Hid (digs xs i = digs xs k)) (fun t => len - (intOf t).toNat)
  case atStart => exact ⟨i, hi, rfl, rfl⟩
  case round =>
    obtain ⟨k, hk, rfl, HK⟩ := hrel
    by_cases hlt : k < len
    · rcases hd with ⟨_, h0, _⟩ | ⟨b, off, rfl, _, hc⟩
      · omega
      · have hck := hc k hlt
        have hdk := digAt_num (xs := xs) (k := k) (by rw [HX.out]; exact hlt)
        have HDK : Hid (digAt xs k = decide (48 ≤ ((xs.getD k 0).toNat : Int) ∧ ((xs.getD k 0).toNat : Int) ≤ 57)) := hdk
        generalize (xs.getD k 0).toNat = y at hck HDK
        clear hc hdk
        by_cases h48 : 48 ≤ (y : Int)
        · by_cases h57 : (y : Int) ≤ 57
          · have HS : Hid (digs xs k = digs xs (k + 1)) := digs_yes (by rw [HDK.out]; simp; omega)
            go_wp2
            go_round
            case rel => exact ⟨k + 1, by omega, by go_num, HK.out.trans HS.out⟩
            case measure => simp [intOf]; omega
          · have HS : Hid (digs xs k = k) := digs_no (by rw [HDK.out]; simp; omega)
            go_wp2
            go_ret
            exact ⟨by rw [HK.out, HS.out]; rfl, rfl⟩
        · have HS : Hid (digs xs k = k) := digs_no (by rw [HDK.out]; simp; omega)
          have h48' : decide (48 ≤ (y : Int)) = false := by simpa using h48
          go_wp2
          go_ret
          exact ⟨by rw [HK.out, HS.out]; rfl, rfl⟩
    · have HS : Hid (digs xs k = k) := digs_no (digAt_out (by rw [HX.out]; omega))
      go_wp2
      go_ret
      exact ⟨by rw [HK.out, HS.out]; rfl, rfl⟩

def ErrIf (ok : Bool) (v : Value) : Prop := if ok then v = .nilIface else ∃ p, v = .iface 41 (.pointer (some p))

/-- A place that the slice has, and what lies there. -/
theorem Bts.at {w : World} {a : Option Addr} {len cap : Nat} {xs : List UInt8} (h : Bts w a len cap xs) {k : Nat} (hk : k < len) :
    ∃ b off y, a = some ⟨b, off, none⟩ ∧ w.cell? ⟨b, off + k, none⟩ = some (.int .u8 (y : Nat)) ∧ (∀ c : UInt8, isAt xs k c = ((y : Int) == (c.toNat : Int))) ∧ digAt xs k = decide (48 ≤ (y : Int) ∧ (y : Int) ≤ 57) := by
  obtain ⟨hx, hl, hcap, hcap2, hd⟩ := h
  rcases hd with ⟨_, h0, _⟩ | ⟨b, off, rfl, _, hc⟩
  · omega
  · exact ⟨b, off, _, rfl, hc k hk, fun c => isAt_num c (by omega), digAt_num (by omega)⟩

set_option maxRecDepth 100000 in
set_option maxHeartbeats 1000000 in
theorem num17 (F : Interp) (a : Option Addr) (len cap : Nat) (xs : List UInt8) (i : Nat) (w : World) (hF : F.answers w.tape) (hd : Bts w a len cap xs) (hi : i ≤ len) :
    Calls Tryf.prog 17 #[.slice a len cap, .int .i64 (i : Int)] w fun e w' => (∃ v, ErrIf (sn xs i).2 v ∧ e = .returned (.tuple #[.int .i64 ((sn xs i).1 : Nat), v])) ∧ Below w.heap.size w w' := by
  have HD : Hid (Bts w a len cap xs) := hd
  have HX : Hid (xs.length = len) := hd.1
  have hl : len ≤ 1048576 := hd.2.1
  clear hd
  generalize hr : sn xs i = r
  have HR : Hid (sn1 xs (if isAt xs i 45 then i + 1 else i) = r) := hr
  clear hr
  go_enter Tryf.func17, Tryf.ntmps17
  go_upto_region 1 with fail
  go_cut [19] (fun t wd => t = .bool (isAt xs i 45) ∧ wd = w)
  case first =>
    by_cases hlt : i < len
    · obtain ⟨b, off, y, rfl, hc, hat, _⟩ := HD.out.at hlt
      have HA : Hid (isAt xs i 45 = ((y : Int) == 45)) := hat 45
      clear hat
      go_wp2
      go_meet
      case rel => exact ⟨by rw [HA.out], rfl⟩
    · have HA : Hid (isAt xs i 45 = false) := isAt_out 45 (by rw [HX.out]; omega)
      go_wp2
      go_meet
      case rel => exact ⟨by rw [HA.out], rfl⟩
  case rest =>
    obtain ⟨rfl, hwc⟩ := hcut
    subst hwc
    have HY : Hid (isAt xs i 45 = true → i < len) := by
      intro h
      rcases Nat.lt_or_ge i len with h1 | h1
      · exact h1
      · rw [isAt_out 45 (by rw [HX.out]; exact h1)] at h; cases h
    generalize isAt xs i 45 = tb at HR HY
    go_upto_if 19 with fail
    go_cut [1] (fun t wd => (∃ k : Nat, k ≤ len ∧ t = .int .i64 k ∧ Hid (sn1 xs k = r)) ∧ wd = wc)
    case first =>
      cases tb
      · go_wp2
        go_meet
        case rel => exact ⟨⟨i, hi, rfl, show _ = r by simpa using HR.out⟩, rfl⟩
      · have hlt := HY.out rfl
        go_wp2
        go_meet
        case rel => exact ⟨⟨i + 1, by omega, by go_num, show _ = r by simpa using HR.out⟩, rfl⟩
    case rest =>
      obtain ⟨⟨k, hk, rfl, HK⟩, hwc⟩ := hcut
      subst hwc
      clear HR HY hi
      have hge := digs_ge xs k
      have hle := digs_le xs k (by rw [HX.out]; exact hk)
      rw [HX.out] at hle
      have HG : Hid (Calls Tryf.prog 19 #[.slice a len cap, .int .i64 (k : Int)] wc fun e w' => e = .returned (.int .i64 (digs xs k : Nat)) ∧ w' = wc) := dig19 a len cap xs k wc HD.out hk
      have HEI := digs_eq_iff xs k
      obtain ⟨e, HEE⟩ : ∃ e, Hid (digs xs k = e) := ⟨_, rfl⟩
      rw [HEE.out] at HG HEI hge hle
      have HEI2 : Hid (e = k ↔ digAt xs k = false) := HEI
      clear HEI
      go_upto_block 0 with (go_at_call 19; refine HG.out.mono ?_; rintro e' w' ⟨rfl, rfl⟩)
      clear HG
      go_cut [1] (fun t wd => (∃ k : Nat, k ≤ len ∧ t = .int .i64 k ∧ Hid (sn2 xs k = r)) ∧ wd = w')
      case first =>
        cases hdg : digAt xs k
        · have hek := HEI2.out.2 hdg
          have hne : ((e : Int) == (k : Int)) = true := by rw [beq_iff_eq]; omega
          have HRR : Hid ((k, false) = r) := by
            have := HK.out
            unfold sn1 at this
            rwa [HEE.out, if_pos hek] at this
          clear hdg hek
          go_wp2_with (go_at_call 20; refine (syn F a len cap xs k _ (by exact hF) (by exact HD.out) hk).mono ?_; rintro e w' ⟨⟨v, ⟨p, rfl⟩, rfl⟩, hb⟩)
          go_ret2
          exact ⟨⟨_, by rw [← HRR.out]; exact ⟨p, rfl⟩, by rw [← HRR.out]; rfl⟩, hb⟩
        · have hlt := digAt_lt hdg
          rw [HX.out] at hlt
          have hek : e ≠ k := fun h => by rw [HEI2.out.1 h] at hdg; cases hdg
          have hne : ((e : Int) == (k : Int)) = false := by rw [beq_eq_false_iff_ne]; omega
          have HRR : Hid (sn2 xs (if isAt xs k 48 then k + 1 else e) = r) := by
            have := HK.out
            unfold sn1 at this
            rwa [HEE.out, if_neg hek] at this
          obtain ⟨b, off, y, rfl, hc, hat, _⟩ := HD.out.at hlt
          have hat48 : isAt xs k 48 = ((y : Int) == 48) := hat 48
          rw [hat48] at HRR
          clear hdg hek hat hat48
          by_cases h48 : (y : Int) = 48
          · have h48b : ((y : Int) == 48) = true := by rw [beq_iff_eq]; exact h48
            have HR2 : Hid (sn2 xs (k + 1) = r) := by have := HRR.out; rwa [if_pos h48b] at this
            clear h48 HRR
            go_wp2
            go_meet
            case rel => exact ⟨⟨k + 1, by omega, by go_num, HR2⟩, rfl⟩
          · have h48b : ((y : Int) == 48) = false := by rw [beq_eq_false_iff_ne]; exact h48
            have HR2 : Hid (sn2 xs e = r) := by have := HRR.out; rwa [if_neg (by rw [h48b]; simp)] at this
            clear h48 HRR
            go_wp2
            go_meet
            case rel => exact ⟨⟨e, hle, rfl, HR2⟩, rfl⟩
      case rest =>
        clear HK HEI2 HEE hge hle hk
        obtain ⟨⟨k, hk, rfl, HK⟩, hwc⟩ := hcut
        subst hwc
        go_upto_region 9 with fail
        go_cut [52] (fun t wd => t = .bool (isAt xs k 46) ∧ wd = wc)
        case first =>
          by_cases hlt : k < len
          · obtain ⟨b, off, y, rfl, hc, hat, _⟩ := HD.out.at hlt
            have HA : Hid (isAt xs k 46 = ((y : Int) == 46)) := hat 46
            clear hat
            go_wp2
            go_meet
            case rel => exact ⟨by rw [HA.out], rfl⟩
          · have HA : Hid (isAt xs k 46 = false) := isAt_out 46 (by rw [HX.out]; omega)
            go_wp2
            go_meet
            case rel => exact ⟨by rw [HA.out], rfl⟩
        case rest =>
          obtain ⟨rfl, hwc⟩ := hcut
          subst hwc
          have HY : Hid (isAt xs k 46 = true → k < len) := by
            intro h
            rcases Nat.lt_or_ge k len with h1 | h1
            · exact h1
            · rw [isAt_out 46 (by rw [HX.out]; exact h1)] at h; cases h
          have HK2 : Hid ((if isAt xs k 46 then (if digs xs (k + 1) = k + 1 then (k + 1, false) else sn3 xs (digs xs (k + 1))) else sn3 xs k) = r) := HK
          clear HK
          generalize isAt xs k 46 = tb at HK2 HY
          go_upto_if 52 with fail
          go_cut [1] (fun t wd => (∃ k : Nat, k ≤ len ∧ t = .int .i64 k ∧ Hid (sn3 xs k = r)) ∧ wd = wc)
          case first =>
            cases tb
            · go_wp2
              go_meet
              case rel => exact ⟨⟨k, hk, rfl, show _ = r by simpa using HK2.out⟩, rfl⟩
            · have hlt := HY.out rfl
              have hge := digs_ge xs (k + 1)
              have hle := digs_le xs (k + 1) (by rw [HX.out]; exact hlt)
              rw [HX.out] at hle
              have HG : Hid (Calls Tryf.prog 19 #[.slice a len cap, .int .i64 ((k : Int) + 1)] wc fun e w' => e = .returned (.int .i64 (digs xs (k + 1) : Nat)) ∧ w' = wc) := dig19 a len cap xs (k + 1) wc HD.out hlt
              have HK3 : Hid ((if digs xs (k + 1) = k + 1 then (k + 1, false) else sn3 xs (digs xs (k + 1))) = r) := show _ = r by simpa using HK2.out
              clear HK2
              generalize digs xs (k + 1) = e at HG HK3 hge hle
              by_cases hek : e = k + 1
              · have hne : ((e : Int) == (k : Int) + 1) = true := by rw [beq_iff_eq]; omega
                have HRR : Hid ((e, false) = r) := by have := HK3.out; rwa [if_pos hek, ← hek] at this
                clear hek HK3
                go_wp2_with (first | (go_at_call 19; refine HG.out.mono ?_; rintro e' w' ⟨rfl, rfl⟩) | (go_at_call 20; refine (syn F a len cap xs e _ (by exact hF) (by exact HD.out) hle).mono ?_; rintro e' w' ⟨⟨v, ⟨p, rfl⟩, rfl⟩, hb⟩))
                go_ret2
                exact ⟨⟨_, by rw [← HRR.out]; exact ⟨p, rfl⟩, by rw [← HRR.out]; rfl⟩, hb⟩
              · have hne : ((e : Int) == (k : Int) + 1) = false := by rw [beq_eq_false_iff_ne]; omega
                have HRR : Hid (sn3 xs e = r) := by have := HK3.out; rwa [if_neg hek] at this
                clear hek HK3
                go_wp2_with (go_at_call 19; refine HG.out.mono ?_; rintro e' w' ⟨rfl, rfl⟩)
                go_meet
                case rel => exact ⟨⟨e, hle, rfl, HRR⟩, rfl⟩
          case rest =>
            clear HK2 HY hk
            obtain ⟨⟨k, hk, rfl, HK⟩, hwc⟩ := hcut
            subst hwc
            go_upto_region 14 with fail
            go_cut [83] (fun t wd => t = .bool (isAt xs k 101 || isAt xs k 69) ∧ wd = wc)
            case first =>
              by_cases hlt : k < len
              · obtain ⟨b, off, y, rfl, hc, hat, _⟩ := HD.out.at hlt
                have HA : Hid ((isAt xs k 101 || isAt xs k 69) = (((y : Int) == 101) || ((y : Int) == 69))) := by
                  have h1 : isAt xs k 101 = ((y : Int) == 101) := hat 101
                  have h2 : isAt xs k 69 = ((y : Int) == 69) := hat 69
                  show _ = _
                  rw [h1, h2]
                clear hat
                cases h101 : ((y : Int) == 101)
                · rw [h101] at HA
                  go_wp2
                  go_meet
                  case rel => exact ⟨by rw [HA.out]; rfl, rfl⟩
                · rw [h101] at HA
                  go_wp2
                  go_meet
                  case rel => exact ⟨by rw [HA.out]; rfl, rfl⟩
              · have HA : Hid ((isAt xs k 101 || isAt xs k 69) = false) := by
                  show _ = _
                  rw [isAt_out 101 (by rw [HX.out]; omega), isAt_out 69 (by rw [HX.out]; omega)]
                  rfl
                go_wp2
                go_meet
                case rel => exact ⟨by rw [HA.out], rfl⟩
            case rest =>
              obtain ⟨rfl, hwc⟩ := hcut
              subst hwc
              have HY : Hid ((isAt xs k 101 || isAt xs k 69) = true → k < len) := by
                intro h
                rcases Nat.lt_or_ge k len with h1 | h1
                · exact h1
                · rw [isAt_out 101 (by rw [HX.out]; exact h1), isAt_out 69 (by rw [HX.out]; exact h1)] at h; cases h
              have HK2 : Hid ((if isAt xs k 101 || isAt xs k 69 then sn4 xs (k + 1) else (k, true)) = r) := HK
              clear HK
              generalize (isAt xs k 101 || isAt xs k 69) = tb at HK2 HY
              cases tb
              · have HRR : Hid ((k, true) = r) := show _ = r by simpa using HK2.out
                clear HK2 HY
                go_wp2
                go_ret2
                exact ⟨⟨_, by rw [← HRR.out]; rfl, by rw [← HRR.out]; rfl⟩, Below.refl _ _⟩
              · have hlt := HY.out rfl
                have HRR : Hid (sn4 xs (k + 1) = r) := show _ = r by simpa using HK2.out
                clear HK2 HY
                go_upto_region 16 with fail
                go_cut [1, 103] (fun s t wd => s = .int .i64 ((k + 1 : Nat) : Int) ∧ t = .bool (isAt xs (k + 1) 43 || isAt xs (k + 1) 45) ∧ wd = wc)
                case first =>
                  by_cases hlt2 : k + 1 < len
                  · obtain ⟨b, off, y, rfl, hc, hat, _⟩ := HD.out.at hlt2
                    have HA : Hid ((isAt xs (k + 1) 43 || isAt xs (k + 1) 45) = (((y : Int) == 43) || ((y : Int) == 45))) := by
                      have h1 : isAt xs (k + 1) 43 = ((y : Int) == 43) := hat 43
                      have h2 : isAt xs (k + 1) 45 = ((y : Int) == 45) := hat 45
                      show _ = _
                      rw [h1, h2]
                    clear hat
                    cases h101 : ((y : Int) == 43)
                    · rw [h101] at HA
                      go_wp2
                      go_meet
                      case rel => exact ⟨by go_num, by rw [HA.out]; rfl, rfl⟩
                    · rw [h101] at HA
                      go_wp2
                      go_meet
                      case rel => exact ⟨by go_num, by rw [HA.out]; rfl, rfl⟩
                  · have HA : Hid ((isAt xs (k + 1) 43 || isAt xs (k + 1) 45) = false) := by
                      show _ = _
                      rw [isAt_out 43 (by rw [HX.out]; omega), isAt_out 45 (by rw [HX.out]; omega)]
                      rfl
                    go_wp2
                    go_meet
                    case rel => exact ⟨by go_num, by rw [HA.out], rfl⟩
                case rest =>
                  obtain ⟨rfl, rfl, hwc⟩ := hcut
                  subst hwc
                  have hm : k + 1 ≤ len := hlt
                  clear hk hlt
                  generalize k + 1 = m at HRR hm
                  have HY : Hid ((isAt xs m 43 || isAt xs m 45) = true → m < len) := by
                    intro h
                    rcases Nat.lt_or_ge m len with h1 | h1
                    · exact h1
                    · rw [isAt_out 43 (by rw [HX.out]; exact h1), isAt_out 45 (by rw [HX.out]; exact h1)] at h; cases h
                  have HK2 : Hid (sn5 xs (if isAt xs m 43 || isAt xs m 45 then m + 1 else m) = r) := HRR
                  clear HRR
                  generalize (isAt xs m 43 || isAt xs m 45) = tb at HK2 HY
                  go_upto_if 103 with fail
                  go_cut [1] (fun t wd => (∃ k : Nat, k ≤ len ∧ t = .int .i64 k ∧ Hid (sn5 xs k = r)) ∧ wd = wc)
                  case first =>
                    cases tb
                    · go_wp2
                      go_meet
                      case rel => exact ⟨⟨m, hm, rfl, show _ = r by simpa using HK2.out⟩, rfl⟩
                    · have hlt := HY.out rfl
                      go_wp2
                      go_meet
                      case rel => exact ⟨⟨m + 1, by omega, by go_num, show _ = r by simpa using HK2.out⟩, rfl⟩
                  case rest =>
                    clear HK2 HY hm
                    obtain ⟨⟨k, hk, rfl, HK⟩, hwc⟩ := hcut
                    subst hwc
                    have hge := digs_ge xs k
                    have hle := digs_le xs k (by rw [HX.out]; exact hk)
                    rw [HX.out] at hle
                    have HG : Hid (Calls Tryf.prog 19 #[.slice a len cap, .int .i64 (k : Int)] wc fun e w' => e = .returned (.int .i64 (digs xs k : Nat)) ∧ w' = wc) := dig19 a len cap xs k wc HD.out hk
                    have HK3 : Hid ((if digs xs k = k then (k, false) else (digs xs k, true)) = r) := HK
                    clear HK
                    generalize digs xs k = e at HG HK3 hge hle
                    by_cases hek : e = k
                    · have hne : ((e : Int) == (k : Int)) = true := by rw [beq_iff_eq]; omega
                      have HRR : Hid ((k, false) = r) := by have := HK3.out; rwa [if_pos hek] at this
                      clear hek HK3
                      go_wp2_with (first | (go_at_call 19; refine HG.out.mono ?_; rintro e' w' ⟨rfl, rfl⟩) | (go_at_call 20; refine (syn F a len cap xs k _ (by exact hF) (by exact HD.out) hk).mono ?_; rintro e' w' ⟨⟨v, ⟨p, rfl⟩, rfl⟩, hb⟩))
                      go_ret2
                      exact ⟨⟨_, by rw [← HRR.out]; exact ⟨p, rfl⟩, by rw [← HRR.out]; rfl⟩, hb⟩
                    · have hne : ((e : Int) == (k : Int)) = false := by rw [beq_eq_false_iff_ne]; omega
                      have HRR : Hid ((e, true) = r) := by have := HK3.out; rwa [if_neg hek] at this
                      clear hek HK3
                      go_wp2_with (go_at_call 19; refine HG.out.mono ?_; rintro e' w' ⟨rfl, rfl⟩)
                      go_ret2
                      exact ⟨⟨_, by rw [← HRR.out]; rfl, by rw [← HRR.out]; rfl⟩, Below.refl _ _⟩

set_option maxHeartbeats 400000 in
theorem zznum9 (F : Interp) (a : Option Addr) (len cap : Nat) (xs : List UInt8) (i : Nat) (w : World) (hF : F.answers w.tape) (hd : Bts w a len cap xs) (hi : i ≤ len) :
    Calls Tryf.prog 9 #[.slice a len cap, .int .i64 (i : Int)] w fun e w' => (∃ v, ErrIf (sn xs i).2 v ∧ e = .returned (.tuple #[.int .i64 ((sn xs i).1 : Nat), v])) ∧ Below w.heap.size w w' := by
  have HC := num17 F a len cap xs i w hF hd hi
  generalize sn xs i = r at HC
  have HC2 : Hid (Calls Tryf.prog 17 #[.slice a len cap, .int .i64 (i : Int)] w fun e w' => (∃ v, ErrIf r.2 v ∧ e = .returned (.tuple #[.int .i64 (r.1 : Nat), v])) ∧ Below w.heap.size w w') := HC
  clear HC hd
  go_enter Tryf.func9, Tryf.ntmps9
  go_wp2_with (go_at_call 17; refine HC2.out.mono ?_; rintro e w' ⟨⟨v, hv, rfl⟩, hb⟩)
  go_ret2
  exact ⟨⟨v, hv, rfl⟩, hb⟩

theorem zznum_yes (F : Interp) (a : Option Addr) (len cap : Nat) (xs : List UInt8) (v : Int) (i j : Nat) (w : World) (hv : v = i) (hj : sn xs i = (j, true)) (hF : F.answers w.tape) (hd : Bts w a len cap xs) (hi : i ≤ len) :
    Calls Tryf.prog 9 #[.slice a len cap, .int .i64 v] w fun e w' => e = .returned (.tuple #[.int .i64 (j : Int), .nilIface]) ∧ Below w.heap.size w w' := by
  subst hv
  refine (zznum9 F a len cap xs i w hF hd hi).mono ?_
  rintro e w' ⟨⟨v, hv, rfl⟩, hb⟩
  rw [hj] at hv
  rw [hj]
  simp only [ErrIf] at hv
  exact ⟨by rw [hv], hb⟩

theorem zznum_no (F : Interp) (a : Option Addr) (len cap : Nat) (xs : List UInt8) (v : Int) (i j : Nat) (w : World) (hv : v = i) (hj : sn xs i = (j, false)) (hF : F.answers w.tape) (hd : Bts w a len cap xs) (hi : i ≤ len) :
    Calls Tryf.prog 9 #[.slice a len cap, .int .i64 v] w fun e w' => (∃ p, e = .returned (.tuple #[.int .i64 (j : Int), .iface 41 (.pointer (some p))])) ∧ Below w.heap.size w w' := by
  subst hv
  refine (zznum9 F a len cap xs i w hF hd hi).mono ?_
  rintro e w' ⟨⟨v, hv, rfl⟩, hb⟩
  rw [hj] at hv
  rw [hj]
  obtain ⟨p, rfl⟩ := hv
  exact ⟨⟨p, rfl⟩, hb⟩

end Go.Proofs.Qxb6617053aFmt
