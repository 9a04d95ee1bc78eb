/- Seat b6617053aF. The walk of FnSkipLiteralExactTextOnly. -/
import Derived.Test.Qxb6617053aFmtExactBase
namespace Go.Proofs.Qxb6617053aFmt
open Go.RowKit Go.Extern.Stop Go.Stop Go.Extern

/-- The text that stands at i, n bytes long. -/
def txt (xs : List UInt8) (i n : Nat) : List UInt8 := (xs.drop i).take n
theorem txt_length (xs : List UInt8) (i n : Nat) (h : i + n ≤ xs.length) : (txt xs i n).length = n := by simp [txt]; omega

theorem AtB_set {xs : List UInt8} {i n k : Nat} {x : UInt8} (hl : (txt xs i n).length = n) (hk : k < n) (hne : x ≠ (txt xs i n).getD k 0) : AtB xs i ((txt xs i n).set k x) = false := by
  unfold AtB
  rw [decide_eq_false_iff_not, List.length_set, hl]
  intro h
  apply hne
  have h2 := congrArg (fun l : List UInt8 => l.getD k 0) h
  simp only [List.getD_eq_getElem?_getD] at h2
  rw [List.getElem?_set_self (by omega)] at h2
  rw [List.getD_eq_getElem?_getD]
  exact h2.symm

theorem AtB_snoc {xs l : List UInt8} {i : Nat} (x : UInt8) (h : AtB xs i l = true) : AtB xs i (l ++ [x]) = decide (xs[i + l.length]? = some x) := by
  unfold AtB at h ⊢
  rw [decide_eq_true_iff] at h
  congr 1
  rw [List.length_append, List.length_singleton, List.take_add_one, h, List.getElem?_drop]
  cases xs[i + l.length]? <;> simp

theorem snoc_data (nm : ByteArray) (x : UInt8) : (nm ++ (⟨#[x]⟩ : ByteArray)).data.toList = nm.data.toList ++ [x] := by simp
theorem snoc_size (nm : ByteArray) (x : UInt8) : (nm ++ (⟨#[x]⟩ : ByteArray)).size = nm.size + 1 := by
  rw [← size_data, snoc_data, List.length_append, size_data]
  rfl

theorem ret_bool {x : Bool} (h : x = true) : Ending.returned (.bool x) = .returned (.bool true) := by rw [h]

theorem nm_ne {nm : ByteArray} {k : Nat} {l : List UInt8} {x : UInt8} (hk : k < nm.size) (hl : nm.data.toList = l) (h : ((x.toNat : Int) != (nm[k].toNat : Int)) = true) : x ≠ l.getD k 0 := by
  rw [bne_iff_ne] at h
  intro e
  apply h
  subst hl
  have hk' : k < nm.data.size := hk
  rw [e]
  simp [List.getD, Array.getElem?_eq_getElem hk']
  rfl

set_option maxRecDepth 100000 in
set_option maxHeartbeats 1000000 in
theorem exact_in (F : Interp) (a0 : Option Addr) (len cap : Nat) (xs : List UInt8) (i n : Nat) (p : Int) (x : UInt8) (w : World) (hF : F.answers w.tape) (h1 : len ≤ 1048576) (hi : i + n ≤ len) (hn : n ≤ 65536)
    (nm : ByteArray) (hnm : nm.data.toList = txt xs i n) (hsz : nm.size = n)
    (hd : Arg w a0 len cap xs) :
    Calls Tryf.prog 6 #[.slice a0 len cap, .int .i64 (i : Int), .int .i64 (n : Int), .int .i64 p, .int .u8 (x.toNat : Int)] w fun e w' => e = .returned (.bool true) ∧ Below w.heap.size w w' := by
  have hnn := fun (w : World) => run_neq_slice_nil_any (P := Tryf.prog) w 22 5 a0 len cap 0 0 Tryf.underlying22
  have HD0 : Hid (Arg w a0 len cap xs) := hd
  have HF : Hid (F.answers w.tape) := hF
  have HNM : Hid (nm.data.toList = txt xs i n) := hnm
  have HSZ : Hid (nm.size = n) := hsz
  clear hd hnm hsz
  go_enter Tryf.func6, Tryf.ntmps6
  go_upto_if 54 with (go_at_call 15; refine (zz15_yes a0 len cap _ _ _ _ _ h1).mono ?_; rintro e w' ⟨rfl, rfl⟩)
  go_cut [0] (fun d wc => ∃ A C, d = .slice A len C ∧ Bts wc A len C xs ∧ Below w'.heap.size w' wc)
  case first =>
    rcases HD0.out with ⟨rfl, rfl, rfl, rfl⟩ | ⟨x, zs, rfl, hz, hcell, hw, hxs⟩
    · go_wp2
      go_meet
      case rel => exact ⟨.none, 0, rfl, Bts.none _, Below.refl _ _⟩
    · obtain ⟨w1, hcp, hd1, hb1, hs1⟩ := copied w' x len cap zs (by omega) hz hcell hw
      have hmk := made w' len (by omega)
      rw [← hxs] at hd1
      have HD : Hid (Bts w1 (some ⟨w'.heap.size, 0, .none⟩) len len xs) := hd1
      have HB : Hid (Below w'.heap.size w' w1) := hb1
      clear hd1 hcell hw hz hxs hb1
      go_wp2
      go_meet
      case rel => exact ⟨_, _, rfl, HD.out, HB.out⟩
  case rest =>
    obtain ⟨A, C, rfl, hd, hb⟩ := hcut
    have HD : Hid (Bts wc A len C xs) := hd
    have HB : Hid (Below w'.heap.size w' wc) := hb
    have hFc : F.answers wc.tape := by rw [hb.tape]; exact hF
    clear hd hb hF
    have hC : len ≤ C := HD.out.2.2.1
    have hC2 : C ≤ 9223372036854775807 := HD.out.2.2.2.1
    go_upto_region 13 with fail
    go_cut [12] (fun s wd => s = .string nm ∧ wd = wc)
    case first =>
      have hxl := HD.out.1
      rcases HD.out.2.2.2.2 with ⟨rfl, rfl, rfl⟩ | ⟨b, off, rfl, _, hc⟩
      · obtain rfl : i = 0 := by omega
        obtain rfl : n = 0 := by omega
        have hcv : (convert 22 9 (.slice none 0 0)).run Tryf.prog wc = .ok (.string nm) wc := by
          rw [run_convert_bytes_nil (P := Tryf.prog) wc 22 5 Tryf.underlying22 Tryf.underlying5 0 0 9 Tryf.underlying9]
          rw [size_zero HSZ.out]
          rfl
        go_wp2
        go_meet
        case rel => exact ⟨rfl, rfl⟩
      · by_cases hlt : i < C
        · have hne : C ≠ i := by omega
          have hcv := conv_part wc b off xs i n (C - i) (by rw [hxl]; exact hc) (by omega)
          have e : (⟨((xs.drop i).take n).toArray⟩ : ByteArray) = nm := by apply WideShapes.bytes_inj; rw [HNM.out]; rfl
          rw [e] at hcv
          clear hc e
          go_wp2
          go_meet
          case rel => exact ⟨rfl, rfl⟩
        · obtain rfl : i = C := by omega
          obtain rfl : n = 0 := by omega
          have hcv := conv_part wc b off xs 0 0 0 (by rw [hxl]; exact hc) (by omega)
          have e1 : (⟨((xs.drop 0).take 0).toArray⟩ : ByteArray) = nm := by rw [size_zero HSZ.out]; simp
          rw [e1] at hcv
          simp only [Nat.add_zero] at hcv
          clear hc e1
          go_wp2
          go_meet
          case rel => exact ⟨rfl, rfl⟩
    case rest =>
      obtain ⟨rfl, rfl⟩ := hcut
      have HY : Hid (AtB xs i nm.data.toList = true) := by
        show _ = _
        unfold AtB
        rw [decide_eq_true_iff, size_data, HSZ.out, HNM.out]
        rfl
      go_wp2_with fail
      refine (zzlit_yes' _ _ _ _ _ i nm _ (by simp) HD.out (by omega) HY.out).mono ?_
      rintro e w2 ⟨rfl, rfl⟩
      rw [HSZ.out]
      go_upto_region 17 with fail
      go_cut [98] (fun t wd => ∃ tb, t = .bool tb ∧ wd = w2 ∧ (tb = true → ∃ k : Nat, p = k ∧ k < n ∧ x ≠ (txt xs i n).getD k 0))
      case first =>
        by_cases hp0 : p < 0
        · have hpd : decide (0 ≤ p) = false := by simpa using hp0
          go_wp2
          go_meet
          case rel => exact ⟨_, rfl, rfl, fun h => by cases h⟩
        · obtain ⟨k, rfl⟩ := Int.eq_ofNat_of_zero_le (show 0 ≤ p by omega)
          by_cases hpn : k < n
          · have hks : k < nm.size := by rw [HSZ.out]; exact hpn
            go_wp2
            go_meet
            case rel => exact ⟨_, rfl, rfl, fun h => ⟨k, rfl, hpn, nm_ne hks HNM.out h⟩⟩
          · go_wp2
            go_meet
            case rel => exact ⟨_, rfl, rfl, fun h => by cases h⟩
      case rest =>
        obtain ⟨tb, rfl, rfl, hk⟩ := hcut
        have HK : Hid (tb = true → ∃ k : Nat, p = k ∧ k < n ∧ x ≠ (txt xs i n).getD k 0) := hk
        clear hk
        go_upto_if 98 with fail
        go_cut [] (fun wd => Bts wd A len C xs ∧ Below w'.heap.size w' wd)
        case first =>
          cases tb
          · go_wp2
            go_meet
            case rel => exact ⟨HD.out, HB.out⟩
          · obtain ⟨k, rfl, hkn, hne⟩ := HK.out rfl
            have hln : (txt xs i n).length = n := txt_length xs i n (by rw [HD.out.1]; exact hi)
            obtain ⟨c, w3, hcb, hcells, hfroz, hb3⟩ := bytes_of wc nm (txt xs i n) HNM.out
            have hks : k < nm.size := by rw [HSZ.out]; exact hkn
            have hck := hcells k (by omega)
            have hfk := hfroz k (by omega)
            have hcv2 := conv_whole (w3.setCell ⟨wc.heap.size, k, .none⟩ (.int .u8 (x.toNat : Int))) wc.heap.size ((txt xs i n).set k x) nm.size c (by rw [List.length_set, hln, HSZ.out]) (set_cell w3 wc.heap.size k x _ (by omega) hcells)
            have HB3 : Hid (Below wc.heap.size wc (w3.setCell ⟨wc.heap.size, k, .none⟩ (.int .u8 (x.toNat : Int)))) := hb3.setCell (Nat.le_refl _) _
            have HN2 : Hid (AtB xs i ((txt xs i n).set k x) = false) := AtB_set hln hkn hne
            have HS2 : Hid (((txt xs i n).set k x).length = n) := by show _ = _; rw [List.length_set, hln]
            generalize hnm2 : (⟨((txt xs i n).set k x).toArray⟩ : ByteArray) = nm2 at hcv2
            have HNM2 : Hid (nm2.data.toList = (txt xs i n).set k x) := by show _ = _; rw [← hnm2]
            have HZ2 : Hid (nm2.size ≤ 1048576) := by show _ ≤ _; rw [← size_data, HNM2.out, HS2.out]; omega
            clear hcells hfroz hb3 hne hln hnm2
            go_wp2_with fail
            refine (zzlit_no' F _ _ _ _ _ i nm2 _ (by simp) (by rw [HB3.out.tape]; exact hFc) (HD.out.later HB3.out) (by omega) HZ2.out (by rw [HNM2.out]; exact HN2.out)).mono ?_
            rintro e w5 ⟨⟨q, rfl⟩, hb5⟩
            have HB5 : Hid (Below wc.heap.size wc w5) := chain HB3.out hb5
            clear hb5
            go_wp2
            go_meet
            case rel => exact ⟨HD.out.later HB5.out, chain HB.out HB5.out⟩
        case rest =>
          clear HD HB hFc
          obtain ⟨hd, hb⟩ := hcut
          have HD : Hid (Bts wc A len C xs) := hd
          have HB : Hid (Below w'.heap.size w' wc) := hb
          have hone := fun w => conv_one w x
          have hnz : nm.size ≤ 65536 := by rw [HSZ.out]; exact hn
          have hFc : F.answers wc.tape := by rw [hb.tape]; exact HF.out
          have HQ : Hid (AtB xs i (nm ++ (⟨#[x]⟩ : ByteArray)).data.toList = decide (xs[i + n]? = some x)) := by
            show _ = _
            rw [snoc_data, AtB_snoc x HY.out, size_data, HSZ.out]
          have HQZ : Hid ((nm ++ (⟨#[x]⟩ : ByteArray)).size = n + 1) := by show _ = _; rw [snoc_size, HSZ.out]
          have HBA : Hid (∀ o, Below wc.heap.size wc (wc.alloc o)) := fun o => (Below.refl _ wc).alloc (Nat.le_refl _) o
          clear hd hb
          by_cases hq : i + n < len
          · have hxl := HD.out.1
            have hget : xs[i + n]? = some (xs.getD (i + n) 0) := by rw [List.getD_eq_getElem?_getD, List.getElem?_eq_getElem (show i + n < xs.length by omega)]; rfl
            rcases HD.out.2.2.2.2 with ⟨_, h0, _⟩ | ⟨b, off, rfl, hlt, hc⟩
            · omega
            · have hcq := hc (i + n) hq
              clear hc
              by_cases hqx : xs.getD (i + n) 0 = x
              · have HY2 : Hid (AtB xs i (nm ++ (⟨#[x]⟩ : ByteArray)).data.toList = true) := by show _ = _; rw [HQ.out, hget, hqx]; simp
                rw [hqx] at hcq
                clear hget hqx
                go_wp2_with fail
                refine (zzlit_yes' _ _ _ _ _ i (nm ++ (⟨#[x]⟩ : ByteArray)) _ (by simp) (HD.out.later (HBA.out _)) (by omega) HY2.out).mono ?_
                rintro e w5 ⟨rfl, rfl⟩
                rw [HQZ.out]
                go_wp2
                go_ret
                exact ⟨ret_bool (by rw [beq_iff_eq]; omega), chain HB.out (HBA.out _)⟩
              · have HY2 : Hid (AtB xs i (nm ++ (⟨#[x]⟩ : ByteArray)).data.toList = false) := by show _ = _; rw [HQ.out, hget]; simpa using hqx
                generalize xs.getD (i + n) 0 = y at hqx hcq
                have hbq : ((y.toNat : Int) == (x.toNat : Int)) = false := by
                  rw [beq_eq_false_iff_ne]
                  intro h
                  exact hqx (UInt8.toNat_inj.1 (by omega))
                clear hget hqx
                go_wp2_with fail
                refine (zzlit_no' F _ _ _ _ _ i (nm ++ (⟨#[x]⟩ : ByteArray)) _ (by simp) (by rw [(HBA.out _).tape]; exact hFc) (HD.out.later (HBA.out _)) (by omega) (by rw [HQZ.out]; omega) HY2.out).mono ?_
                rintro e w5 ⟨⟨q, rfl⟩, hb5⟩
                have HB5 : Hid (Below wc.heap.size wc w5) := chain (HBA.out _) hb5
                have hcq5 : w5.cell? ⟨b, off + (i + n), .none⟩ = some (.int .u8 (y.toNat : Int)) := by rw [HB5.out.cell (p := ⟨b, off + (i + n), .none⟩) hlt]; exact hcq
                clear hb5 hcq
                go_wp2
                go_ret
                exact ⟨rfl, chain HB.out HB5.out⟩
          · have HY2 : Hid (AtB xs i (nm ++ (⟨#[x]⟩ : ByteArray)).data.toList = false) := by
              show _ = _
              rw [HQ.out, List.getElem?_eq_none (by rw [HD.out.1]; omega)]
              rfl
            go_wp2_with fail
            refine (zzlit_no' F _ _ _ _ _ i (nm ++ (⟨#[x]⟩ : ByteArray)) _ (by simp) (by rw [(HBA.out _).tape]; exact hFc) (HD.out.later (HBA.out _)) (by omega) (by rw [HQZ.out]; omega) HY2.out).mono ?_
            rintro e w5 ⟨⟨q, rfl⟩, hb5⟩
            have HB5 : Hid (Below wc.heap.size wc w5) := chain (HBA.out _) hb5
            clear hb5
            go_wp2
            go_ret
            exact ⟨rfl, chain HB.out HB5.out⟩

/-- THE WALK: whatever the input, true; nothing that was there has turned. -/
theorem exact_walk (F : Interp) (a0 : Option Addr) (len cap : Nat) (xs : List UInt8) (i n p x : Int) (w : World) (hF : F.answers w.tape) (hl : len ≤ maxLen) (hx : 0 ≤ x ∧ x ≤ 255) (hd : Arg w a0 len cap xs) :
    Calls Tryf.prog 6 #[.slice a0 len cap, .int .i64 i, .int .i64 n, .int .i64 p, .int .u8 x] w fun e w' => e = .returned (.bool true) ∧ Below w.heap.size w w' := by
  by_cases hin : len ≤ 1048576 ∧ 0 ≤ i ∧ i ≤ (len : Int) ∧ 0 ≤ n ∧ n ≤ 65536 ∧ n ≤ (len : Int) - i
  · obtain ⟨h1, h2, h3, h4, h5, h6⟩ := hin
    obtain ⟨i, rfl⟩ := Int.eq_ofNat_of_zero_le h2
    obtain ⟨n, rfl⟩ := Int.eq_ofNat_of_zero_le h4
    have hxl : xs.length = len := by
      rcases hd with ⟨_, rfl, _, rfl⟩ | ⟨_, zs, _, hz, _, _, rfl⟩
      · rfl
      · exact byts_length zs len hz
    have ex : x = ((UInt8.ofNat x.toNat).toNat : Int) := by rw [UInt8.toNat_ofNat']; omega
    rw [ex]
    refine exact_in F a0 len cap xs i n p _ w hF h1 (by omega) (by omega) ⟨(txt xs i n).toArray⟩ rfl ?_ hd
    have := txt_length xs i n (by omega)
    rw [← size_data]
    exact this
  · exact exact_out a0 len cap i n _ _ w hl hin

end Go.Proofs.Qxb6617053aFmt
