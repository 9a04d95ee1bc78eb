/- Seat b6617077a. The walk of FnPointedAtTheFarEnd. -/
import Derived.Test.Qxb6617077aPtSecBase
namespace Go.Proofs.Qxb6617077a
open Go.RowKit

set_option maxRecDepth 100000 in
set_option maxHeartbeats 1000000 in
theorem second_out (a b c : Option Addr) (n m l ca cb cc : Nat) (ns hs ts : List ByteArray) (j : Int) (w : World) (hn : n ≤ 9223372036854775807) (hm : m ≤ 9223372036854775807) (hl : l ≤ 9223372036854775807) (hd : Strs w a n ns) (he : Strs w b m hs) (hf : Strs w c l ts)
    (hout : ¬ (n ≤ 4096 ∧ m ≤ 4096 ∧ l ≤ 4096)) :
    Calls Try.prog 4 #[.slice a n ca, .slice b m cb, .slice c l cc, .int .i64 j] w fun r w' => r = .returned (.bool true) ∧ Below w.heap.size w w' := by
  have HZ : Hid (Calls Try.prog 15 #[.slice a n ca, .slice b m cb, .slice c l cc, .int .i64 j] w fun r w' => SomeBool r ∧ w' = w) := zz15_any a b c n m l ca cb cc ns hs ts _ w hn hm hl hd he hf
  clear hd he hf
  by_cases c1 : 4096 < n
  case' pos => have c1' : decide (4096 < (n : Int)) = true := by simp; omega
  case' neg =>
    by_cases c2 : 4096 < m
    case' neg => have c3 : 4096 < l := by omega
  all_goals
    clear hout
    go_enter Try.func4, Try.ntmps4
    go_wp2_with fail
    refine HZ.out.mono ?_
    rintro e w' ⟨⟨t, rfl⟩, rfl⟩
    cases t
    all_goals
      go_wp2
      go_ret
      exact ⟨rfl, Below.refl _ _⟩

theorem nil_alike {w w' : World} {a b : Option Addr} {c c' : Nat} {L : List ByteArray} (ha : SStrs w a L.length c L) (hb : SStrs w' b L.length c' L) (h1 : Value.slice a L.length c = .slice none 0 0 ↔ L = [])
    (h2 : Value.slice b L.length c' = .slice none 0 0 ↔ L = []) : (a = none ∧ b = none) ∨ ∃ x y, a = some x ∧ b = some y := by
  by_cases hL : L = []
  · have e1 := h1.2 hL
    have e2 := h2.2 hL
    simp only [Value.slice.injEq] at e1 e2
    exact .inl ⟨e1.1, e2.1⟩
  · have hp : 0 < L.length := by
      rcases Nat.eq_zero_or_pos L.length with h | h
      · exact absurd (List.eq_nil_of_length_eq_zero h) hL
      · exact h
    obtain ⟨b1, o1, e1, _⟩ := ha.1.2.2 hp
    obtain ⟨b2, o2, e2, _⟩ := hb.1.2.2 hp
    exact .inr ⟨_, _, e1, e2⟩

set_option maxRecDepth 100000 in
set_option maxHeartbeats 4000000 in
theorem second_in (a b c : Option Addr) (n m l ca cb cc : Nat) (ns hs ts : List ByteArray) (j : Int) (w : World) (hn : n ≤ 4096) (hm : m ≤ 4096) (hl : l ≤ 4096) (hd : SArg w a n ca ns) (he : SArg w b m cb hs) (hf : SArg w c l cc ts) :
    Calls Try.prog 4 #[.slice a n ca, .slice b m cb, .slice c l cc, .int .i64 j] w fun r w' => r = .returned (.bool true) ∧ Below w.heap.size w w' := by
  have HZ : Hid (Calls Try.prog 15 #[.slice a n ca, .slice b m cb, .slice c l cc, .int .i64 j] w fun r w' => SomeBool r ∧ w' = w) := zz15_any a b c n m l ca cb cc ns hs ts _ w (by omega) (by omega) (by omega) hd.strs he.strs hf.strs
  have HDA : Hid (SArg w a n ca ns) := hd
  have HEA : Hid (SArg w b m cb hs) := he
  have HFA : Hid (SArg w c l cc ts) := hf
  have hnn := fun (w : World) => run_neq_slice_nil_any (P := Try.prog) w 22 9 a n ca 0 0 Try.underlying22
  have hnm := fun (w : World) => run_neq_slice_nil_any (P := Try.prog) w 22 9 b m cb 0 0 Try.underlying22
  clear hd he hf
  go_enter Try.func4, Try.ntmps4
  go_wp2_with fail
  refine HZ.out.mono ?_
  rintro e w' ⟨⟨t, rfl⟩, rfl⟩
  cases t
  · go_wp2
    go_ret
    exact ⟨rfl, Below.refl _ _⟩
  go_wp2_with fail
  refine (addStrs_any _ _ _ _ ns _ (by omega) (by omega) (by omega) HDA.out.strs).mono ?_
  rintro e w1 ⟨⟨u, h0, h9, rfl⟩, rfl⟩
  go_wp2_with fail
  refine (addStrs_any _ _ _ _ hs _ (by omega) (by omega) (by omega) HEA.out.strs).mono ?_
  rintro e w1 ⟨⟨u2, g0, g9, rfl⟩, rfl⟩
  go_wp2_with fail
  refine (addStrs_any _ _ _ _ ts _ (by omega) (by omega) (by omega) HFA.out.strs).mono ?_
  rintro e w1 ⟨⟨u3, f0, f9, rfl⟩, rfl⟩
  by_cases hu : 1048576 < u3
  · go_wp2
    go_ret
    exact ⟨rfl, Below.refl _ _⟩
  clear HZ h0 h9 g0 g9 f0 f9
  go_upto_if 46 with fail
  go_cut [0] (fun d wc => ∃ A C, d = .slice A n C ∧ SStrs wc A n C ns ∧ Below w1.heap.size w1 wc)
  case first =>
    rcases HDA.out with ⟨rfl, rfl, rfl, rfl⟩ | ⟨x, zs, rfl, hz, hcell, hw, hxs⟩
    · go_wp2
      go_meet
      case rel => exact ⟨.none, 0, rfl, SStrs.none _, Below.refl _ _⟩
    · obtain ⟨w2, hcp, hd1, hb1⟩ := copied9 w1 x n ca zs (by omega) hz hcell hw
      have hmk := made9 w1 n (by omega)
      rw [← hxs] at hd1
      have HD : Hid (SStrs w2 (some ⟨w1.heap.size, 0, .none⟩) n n ns) := hd1
      have HB : Hid (Below w1.heap.size w1 w2) := hb1
      clear hd1 hcell hw hz hxs hb1
      go_wp2
      go_meet
      case rel => exact ⟨_, _, rfl, HD.out, HB.out⟩
  case rest =>
    obtain ⟨A, C, rfl, hd, hb⟩ := hcut
    have HD : Hid (SStrs wc A n C ns) := hd
    have HB : Hid (Below w1.heap.size w1 wc) := hb
    have HEA2 : Hid (SArg wc b m cb hs) := HEA.out.later hb
    clear hd hb hnn
    go_upto_if 55 with fail
    go_cut [1] (fun d wd => ∃ A2 C2, d = .slice A2 m C2 ∧ SStrs wd A2 m C2 hs ∧ SStrs wd A n C ns ∧ Below w1.heap.size w1 wd)
    case first =>
      rcases HEA2.out with ⟨rfl, rfl, rfl, rfl⟩ | ⟨x, zs, rfl, hz, hcell, hw, hxs⟩
      · go_wp2
        go_meet
        case rel => exact ⟨.none, 0, rfl, SStrs.none _, HD.out, HB.out⟩
      · obtain ⟨w2, hcp, hd1, hb1⟩ := copied9 wc x m cb zs (by omega) hz hcell hw
        have hmk := made9 wc m (by omega)
        rw [← hxs] at hd1
        have HD2 : Hid (SStrs w2 (some ⟨wc.heap.size, 0, .none⟩) m m hs) := hd1
        have HB2 : Hid (Below wc.heap.size wc w2) := hb1
        clear hd1 hcell hw hz hxs hb1
        go_wp2
        go_meet
        case rel => exact ⟨_, _, rfl, HD2.out, HD.out.later HB2.out, chain HB.out HB2.out⟩
    case rest =>
      clear HD HB HEA2
      obtain ⟨A2, C2, rfl, he, hd, hb⟩ := hcut
      have HE : Hid (SStrs wc A2 m C2 hs) := he
      have HD : Hid (SStrs wc A n C ns) := hd
      have HB : Hid (Below w1.heap.size w1 wc) := hb
      have HT : Hid (SArg wc c l cc ts) := HFA.out.later hb
      have HTX : Hid (ts.length = l) := HFA.out.strs.1
      clear he hd hb hnm HDA HEA HFA
      go_wp2
      go_loop [65] (fun i => ∃ k : Nat, k ≤ l ∧ i = .int .i64 k ∧ Hid (∀ t ∈ ts.take k, has hs t = false)) (fun i => l - (intOf i).toNat)
      case atStart => exact ⟨0, Nat.zero_le _, rfl, fun t h => by simp at h⟩
      case round =>
        obtain ⟨k, hk, rfl, HK⟩ := hrel
        by_cases hlt : k < l
        · obtain ⟨bb, off, s, rfl, hbl, hc, hs', _⟩ := HT.out.strs.at hlt
          have HC : Hid (Calls Try.prog 12 #[.slice A2 m C2, .string s] wc fun e w' => e = .returned (.bool (has hs s)) ∧ w' = wc) := mem12 A2 m C2 hs s wc HE.out.1 (by omega)
          cases hh : has hs s
          · rw [hh] at HC
            have HK2 : Hid (∀ t ∈ ts.take (k + 1), has hs t = false) := by
              intro t ht
              rw [take_snoc ts k (by rw [HTX.out]; exact hlt), hs', List.mem_append, List.mem_singleton] at ht
              rcases ht with ht | rfl
              · exact HK.out t ht
              · exact hh
            clear hs' hh
            go_wp2_with (go_at_call 12; refine HC.out.mono ?_; rintro e w5 ⟨rfl, rfl⟩)
            go_round
            case rel => exact ⟨k + 1, by omega, by go_num, HK2⟩
            case measure => simp [intOf]; omega
          · rw [hh] at HC
            clear hs' hh
            go_wp2_with (go_at_call 12; refine HC.out.mono ?_; rintro e w5 ⟨rfl, rfl⟩)
            go_ret
            exact ⟨rfl, HB.out⟩
        · have HTN : Hid (ptd (ns ++ ts) hs = ptd ns hs) := by
            refine ptd_tail ns ts hs ?_
            have := HK.out
            rwa [List.take_of_length_le (by rw [HTX.out]; omega)] at this
          clear HK
          go_wp2_with fail
          refine (zzpointed11 _ _ _ _ _ _ ns hs _ (by omega) (by omega) HD.out HE.out.1).mono ?_
          rintro e w2 ⟨⟨v, rfl, ho, hv⟩, hb2⟩
          obtain ⟨ga, gc, rfl, hgs⟩ := own_strs ho (fun s h => HD.out.1.2.1 s (mem_ptd h))
          have HG : Hid (SStrs w2 ga (ptd ns hs).length gc (ptd ns hs)) := hgs
          have HV : Hid (Value.slice ga (ptd ns hs).length gc = .slice none 0 0 ↔ ptd ns hs = []) := hv
          have HB2 : Hid (Below wc.heap.size wc w2) := hb2
          clear ho hv hgs hb2
          go_wp2_with fail
          refine (concat16 _ _ _ _ _ _ ns ts _ hn hl (HD.out.later HB2.out).src (HT.out.later HB2.out).src).mono ?_
          rintro e w3 ⟨⟨cg, ccap, rfl, hcs⟩, hb3⟩
          have HCS : Hid (SStrs w3 cg (n + l) ccap (ns ++ ts)) := hcs
          have HB3 : Hid (Below wc.heap.size wc w3) := chain HB2.out hb3
          have HB23 : Hid (Below w2.heap.size w2 w3) := hb3
          clear hcs hb3
          go_wp2_with fail
          refine (zzpointed11 _ _ _ _ _ _ (ns ++ ts) hs _ (by omega) (by omega) HCS.out (HE.out.later HB3.out).1).mono ?_
          rintro e w4 ⟨⟨v, rfl, ho, hv⟩, hb4⟩
          rw [HTN.out] at ho hv
          obtain ⟨la, lc, rfl, hls⟩ := own_strs ho (fun s h => HD.out.1.2.1 s (mem_ptd h))
          have HNI := nil_alike hls HG.out hv HV.out
          have HB4 : Hid (Below wc.heap.size wc w4) := chain HB3.out hb4
          have HSA : Hid (Calls Try.prog 14 #[.slice la (ptd ns hs).length lc, .slice ga (ptd ns hs).length gc] w4 fun r w' => r = .returned (.bool true) ∧ Below w4.heap.size w4 w') :=
            same14 la ga _ lc gc _ w4 (by
              have h1 : (ptd ns hs).length ≤ (ns.take (min (far ns hs) 3)).length := List.length_filter_le _ _
              have h2 := List.length_take_le (min (far ns hs) 3) ns
              omega) hls.1 (HG.out.1.later (chain HB23.out hb4))
          clear ho hv hls hb4 HB23 HCS HV HG HTN
          generalize (ptd ns hs).length = pl at HSA
          have hq1 := fun (w : World) => Lib.run_eql_slice_nil (P := Try.prog) w 22 9 la pl lc 0 0 Try.underlying22
          have hq2 := fun (w : World) => Lib.run_eql_slice_nil (P := Try.prog) w 22 9 ga pl gc 0 0 Try.underlying22
          go_upto_region 23 with fail
          go_cut [15] (fun t wd => t = .bool true ∧ Below wc.heap.size wc wd)
          case first =>
            rcases HNI with ⟨rfl, rfl⟩ | ⟨ga, wa, rfl, rfl⟩
            all_goals
              go_wp2_with (go_at_call 14; refine HSA.out.mono ?_; rintro e w5 ⟨rfl, hb5⟩)
              go_meet
              case rel => exact ⟨rfl, chain HB4.out hb5⟩
          case rest =>
            clear hq1 hq2 HSA HNI HB4 HB3 HB2
            obtain ⟨rfl, hb⟩ := hcut
            have HD' : Hid (SStrs wc A n C ns) := HD.out.later hb
            have HE' : Hid (SStrs wc A2 m C2 hs) := HE.out.later hb
            have HBW : Hid (Below w1.heap.size w1 wc) := chain HB.out hb
            clear HD HE HB HT hb
            by_cases hj0 : j < 0
            · have hjd : decide (j < 0) = true := by simpa using hj0
              go_wp2
              go_ret
              exact ⟨rfl, HBW.out⟩
            by_cases hjm : (m : Int) ≤ j
            · go_wp2
              go_ret
              exact ⟨rfl, HBW.out⟩
            obtain ⟨jn, rfl⟩ := Int.eq_ofNat_of_zero_le (show 0 ≤ j by omega)
            have hjl : jn < m := by omega
            obtain ⟨bb, off, s, hA2, hbl, hc, hsj, hsz⟩ := HE'.out.1.at hjl
            have HHS : Hid (has hs s = true) := by
              refine has_mem ?_
              have hjl' : jn < hs.length := by rw [HE'.out.1.1]; exact hjl
              rw [← hsj, List.getD_eq_getElem?_getD, List.getElem?_eq_getElem hjl']
              exact List.getElem_mem hjl'
            clear hsj
            subst hA2
            have HXN : Hid (ns.length = n) := HD'.out.1.1
            have HBA : Hid (∀ o, Below wc.heap.size wc (wc.alloc o)) := fun o => (Below.refl _ wc).alloc (Nat.le_refl _) o
            have HSR : Hid (Src (wc.alloc (.cells #[.string s] 9)) (some ⟨wc.heap.size, 0, none⟩) 1 1 [s]) := by
              refine ⟨rfl, fun x hx => by simp at hx; subst hx; exact hsz, .inr ⟨_, rfl, fun j u hj => ?_⟩⟩
              match j, hj with
              | 0, hj => simp at hj; subst hj; simp [Addr.add]
            go_wp2_with fail
            refine (concat16 _ _ _ _ _ _ ns [s] _ hn (by omega) (HD'.out.later (HBA.out _)).src HSR.out).mono ?_
            rintro e w3 ⟨⟨cg, ccap, rfl, hcs⟩, hb3⟩
            have HCS : Hid (SStrs w3 cg (n + 1) ccap (ns ++ [s])) := hcs
            have HB3 : Hid (Below wc.heap.size wc w3) := chain (HBA.out _) hb3
            clear hcs hb3 HSR
            go_wp2_with fail
            refine (zzpointed11 _ _ _ _ _ _ (ns ++ [s]) hs _ (by omega) (by omega) HCS.out (HE'.out.later HB3.out).1).mono ?_
            rintro e w4 ⟨⟨v, rfl, ho, hv⟩, hb4⟩
            have hcap := ptd_cap ns hs s HHS.out
            rw [HXN.out] at hcap
            rw [hcap] at ho hv
            have HMN : ∀ k, ∀ x ∈ non hs (ns.take k), x.size ≤ 9223372036854775807 := fun k x hx => HD'.out.1.2.1 x (List.mem_of_mem_take (List.mem_filter.1 hx).1)
            have HLK : ∀ k, (non hs (ns.take k)).length ≤ k := fun k => by
              have h1 : (non hs (ns.take k)).length ≤ (ns.take k).length := List.length_filter_le _ _
              have h2 := List.length_take_le k ns
              omega
            have HMN2 : Hid (∀ k, ∀ x ∈ non hs (ns.take k), x.size ≤ 9223372036854775807) := HMN
            have HLK2 : Hid (∀ k, (non hs (ns.take k)).length ≤ k) := HLK
            clear HMN HLK
            obtain ⟨pa, pc, rfl, hps⟩ := own_strs ho (HMN2.out _)
            have HLM : Hid ((non hs (ns.take (min n 3))).length ≤ 4096) := by have := HLK2.out (min n 3); show _ ≤ _; omega
            have HG : Hid (SStrs w4 pa (non hs (ns.take (min n 3))).length pc (non hs (ns.take (min n 3)))) := hps
            have HV : Hid (Value.slice pa (non hs (ns.take (min n 3))).length pc = .slice none 0 0 ↔ non hs (ns.take (min n 3)) = []) := hv
            have HB4 : Hid (Below wc.heap.size wc w4) := chain HB3.out hb4
            have HD4 : Hid (SStrs w4 A n C ns) := HD'.out.later HB4.out
            have HE4 : Hid (SStrs w4 (some ⟨bb, off, none⟩) m C2 hs) := HE'.out.later HB4.out
            obtain ⟨L, HL⟩ : ∃ L, Hid (non hs (ns.take (min n 3)) = L) := ⟨_, rfl⟩
            rw [HL.out] at HG HV HLM
            rw [HL.out]
            clear ho hv hps hb4 hcap HD' HE' HCS HB3 HHS hc
            go_wp2
            go_loopw [17, 18] (fun v i wr => ∃ k : Nat, k ≤ n ∧ k ≤ 3 ∧ i = .int .i64 k ∧ Hid (wr.ownsRow w4.heap.size 9 1 v (non hs (ns.take k)).length ((non hs (ns.take k)).map Value.string)) ∧ Hid (v = .slice none 0 0 ↔ non hs (ns.take k) = []) ∧ Hid (Below w4.heap.size w4 wr)) (fun _ i _ => 3 - (intOf i).toNat)
            case atStart => exact ⟨0, Nat.zero_le _, Nat.zero_le _, rfl, World.ownsRow_nil _ _ _ _, ⟨fun _ => rfl, fun _ => rfl⟩, Below.refl _ _⟩
            case round =>
              obtain ⟨k, hk, hk3, rfl, HO, HN, HBR⟩ := hrel
              by_cases hlt : k < n ∧ k < 3
              · obtain ⟨hkn, hk3'⟩ := hlt
                obtain ⟨b1, off1, s1, rfl, hbl1, hc1, hs1, _⟩ := HD4.out.1.at hkn
                have hcr : wr.cell? ⟨b1, off1 + k, none⟩ = some (.string s1) := by rw [HBR.out.cell (p := ⟨b1, off1 + k, none⟩) hbl1]; exact hc1
                have HTK : Hid (ns.take (k + 1) = ns.take k ++ [s1]) := by show _ = _; rw [take_snoc ns k (by rw [HXN.out]; omega), hs1]
                have HNS := non_snoc hs (ns.take k) s1
                have HC : Hid (Calls Try.prog 12 #[.slice (some ⟨bb, off, none⟩) m C2, .string s1] wr fun e w' => e = .returned (.bool (has hs s1)) ∧ w' = wr) := mem12 _ m C2 hs s1 wr (HE4.out.1.later HBR.out) (by omega)
                clear hs1 hc1
                cases hh : has hs s1
                · rw [hh] at HC HNS
                  have H2 : Hid (non hs (ns.take (k + 1)) = non hs (ns.take k) ++ [s1]) := by show _ = _; rw [HTK.out]; exact HNS
                  obtain ⟨v', w', hap, ho', hb', hv'⟩ := append1 wr w4.heap.size u17 (non hs (ns.take k)) s1 HO.out (by have := HLK2.out k; omega) HBR.out.size
                  have HO' : Hid (w'.ownsRow w4.heap.size 9 1 v' (non hs (ns.take (k + 1))).length ((non hs (ns.take (k + 1))).map Value.string)) := by rw [H2.out]; exact ho'
                  have HB' : Hid (Below w4.heap.size w4 w') := HBR.out.trans hb'
                  have HV' : Hid (v' = .slice none 0 0 ↔ non hs (ns.take (k + 1)) = []) := by
                    rw [H2.out]
                    exact ⟨fun h => absurd h hv', fun h => by simp at h⟩
                  have HAP : Hid ((Builtin.append_ #[22, 22] 22 #[u17, .slice (some ⟨wr.heap.size, 0, none⟩) 1 1]).run Try.prog (wr.alloc (.cells #[.string s1] 9)) = .ok v' w') := hap
                  clear HNS hh ho' hb' hv' hap
                  go_wp2_with (first | (go_at_call 12; refine HC.out.mono ?_; rintro e w5 ⟨rfl, rfl⟩) | (at_builtin; refine wpList_append_run rfl (.tmp 126) (.tmp 131) 22 rfl _ _ _ _ rfl rfl HAP.out ?_))
                  go_roundw
                  case rel => exact ⟨k + 1, by omega, by omega, by go_num, HO', HV', HB'⟩
                  case measure => simp [intOf]; omega
                · rw [hh] at HC HNS
                  have H2 : Hid (non hs (ns.take (k + 1)) = non hs (ns.take k)) := by show _ = _; rw [HTK.out]; exact HNS
                  have HO' : Hid (wr.ownsRow w4.heap.size 9 1 u17 (non hs (ns.take (k + 1))).length ((non hs (ns.take (k + 1))).map Value.string)) := by rw [H2.out]; exact HO
                  have HV' : Hid (u17 = .slice none 0 0 ↔ non hs (ns.take (k + 1)) = []) := by rw [H2.out]; exact HN
                  clear HNS hh
                  go_wp2_with (go_at_call 12; refine HC.out.mono ?_; rintro e w5 ⟨rfl, rfl⟩)
                  go_roundw
                  case rel => exact ⟨k + 1, by omega, by omega, by go_num, HO', HV', HBR⟩
                  case measure => simp [intOf]; omega
              · have hkm : min n 3 = k := by omega
                have HKM : Hid (non hs (ns.take k) = L) := by
                  have := HL.out
                  rwa [hkm] at this
                clear hkm
                obtain ⟨wa, wcap, hu17, hws⟩ := own_strs HO.out (HMN2.out k)
                have hno := HN.out
                rw [HKM.out] at hws hno hu17
                rw [hu17] at hno
                have HNI := nil_alike HG.out hws HV.out hno
                subst hu17
                have HSA : Hid (Calls Try.prog 14 #[.slice pa L.length pc, .slice wa L.length wcap] wr fun r w' => r = .returned (.bool true) ∧ Below wr.heap.size wr w') := same14 pa wa L.length pc wcap L wr (by have := HLM.out; omega) (HG.out.1.later HBR.out) hws.1
                clear hno hws HO HN HKM HV HG HL
                have hq1 := fun (w : World) => Lib.run_eql_slice_nil (P := Try.prog) w 22 9 pa L.length pc 0 0 Try.underlying22
                have hq2 := fun (w : World) => Lib.run_eql_slice_nil (P := Try.prog) w 22 9 wa L.length wcap 0 0 Try.underlying22
                by_cases hkn : k < n
                case' pos => have hk3' : k = 3 := by omega
                all_goals
                  rcases HNI with ⟨rfl, rfl⟩ | ⟨pa, wa, rfl, rfl⟩
                  all_goals
                    go_wp2_with (go_at_call 14; refine HSA.out.mono ?_; rintro e w5 ⟨rfl, hb5⟩)
                    go_ret
                    exact ⟨rfl, chain (chain (chain HBW.out HB4.out) HBR.out) hb5⟩

/-- THE WALK: whatever the input, true; nothing that was there has turned. -/
theorem second_walk (a b c : Option Addr) (n m l ca cb cc : Nat) (ns hs ts : List ByteArray) (j : Int) (w : World) (hn : n ≤ maxLen) (hm : m ≤ maxLen) (hl : l ≤ maxLen) (hd : SArg w a n ca ns) (he : SArg w b m cb hs) (hf : SArg w c l cc ts) :
    Calls Try.prog 4 #[.slice a n ca, .slice b m cb, .slice c l cc, .int .i64 j] w fun r w' => r = .returned (.bool true) ∧ Below w.heap.size w w' := by
  unfold maxLen at hn hm hl
  by_cases hin : n ≤ 4096 ∧ m ≤ 4096 ∧ l ≤ 4096
  · exact second_in a b c n m l ca cb cc ns hs ts j w hin.1 hin.2.1 hin.2.2 hd he hf
  · exact second_out a b c n m l ca cb cc ns hs ts j w hn hm hl hd.strs he.strs hf.strs hin

end Go.Proofs.Qxb6617077a
