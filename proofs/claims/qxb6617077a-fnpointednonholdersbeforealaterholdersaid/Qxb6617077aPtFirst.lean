/- Seat b6617077a. The walk of FnPointedNonHoldersBeforeALaterHolder. -/
import Derived.Test.Qxb6617077aPtWalk
namespace Go.Proofs.Qxb6617077a
open Go.RowKit

set_option maxRecDepth 100000 in
set_option maxHeartbeats 1000000 in
theorem first_out (a b : Option Addr) (n m ca cb : Nat) (ns hs : List ByteArray) (w : World) (hn : n ≤ 9223372036854775807) (hm : m ≤ 9223372036854775807) (hd : Strs w a n ns) (he : Strs w b m hs) (hout : ¬ (n ≤ 4096 ∧ m ≤ 4096)) :
    Calls Try.prog 3 #[.slice a n ca, .slice b m cb] w fun r w' => r = .returned (.bool true) ∧ Below w.heap.size w w' := by
  have HZ : Hid (Calls Try.prog 9 #[.slice a n ca, .slice b m cb] w fun r w' => SomeBool r ∧ w' = w) := zz9_any a b n m ca cb ns hs w hn hm hd he
  clear hd he
  by_cases c1 : 4096 < n
  · clear hout
    have c1' : decide (4096 < (n : Int)) = true := by simp; omega
    go_enter Try.func3, Try.ntmps3
    go_wp2_with fail
    refine HZ.out.mono ?_
    rintro e w' ⟨⟨t, rfl⟩, rfl⟩
    cases t
    all_goals
      go_wp2
      go_ret
      exact ⟨rfl, Below.refl _ _⟩
  · have c2 : 4096 < m := by omega
    clear hout
    go_enter Try.func3, Try.ntmps3
    go_wp2_with fail
    refine HZ.out.mono ?_
    rintro e w' ⟨⟨t, rfl⟩, rfl⟩
    cases t
    all_goals
      go_wp2
      go_ret
      exact ⟨rfl, Below.refl _ _⟩

theorem nil_alike {w w' : World} {a b : Option Addr} {c c' : Nat} {L : List ByteArray} (ha : SStrs w a L.length c L) (hb : SStrs w' b L.length c' L) (h1 : Value.slice a L.length c = .slice none 0 0 ↔ L = [])
    (h2 : Value.slice b L.length c' = .slice none 0 0 ↔ L = []) : (a = none ∧ b = none) ∨ ∃ x y, a = some x ∧ b = some y := by
  by_cases hL : L = []
  · have e1 := h1.2 hL
    have e2 := h2.2 hL
    simp only [Value.slice.injEq] at e1 e2
    exact .inl ⟨e1.1, e2.1⟩
  · have hp : 0 < L.length := by
      rcases Nat.eq_zero_or_pos L.length with h | h
      · exact absurd (List.eq_nil_of_length_eq_zero h) hL
      · exact h
    obtain ⟨b1, o1, e1, _⟩ := ha.1.2.2 hp
    obtain ⟨b2, o2, e2, _⟩ := hb.1.2.2 hp
    exact .inr ⟨_, _, e1, e2⟩

set_option maxRecDepth 100000 in
set_option maxHeartbeats 2000000 in
theorem first_in (a b : Option Addr) (n m ca cb : Nat) (ns hs : List ByteArray) (w : World) (hn : n ≤ 4096) (hm : m ≤ 4096) (hd : SArg w a n ca ns) (he : SArg w b m cb hs) :
    Calls Try.prog 3 #[.slice a n ca, .slice b m cb] w fun r w' => r = .returned (.bool true) ∧ Below w.heap.size w w' := by
  have HZ : Hid (Calls Try.prog 9 #[.slice a n ca, .slice b m cb] w fun r w' => SomeBool r ∧ w' = w) := zz9_any a b n m ca cb ns hs w (by omega) (by omega) hd.strs he.strs
  have HDA : Hid (SArg w a n ca ns) := hd
  have HEA : Hid (SArg w b m cb hs) := he
  have hnn := fun (w : World) => run_neq_slice_nil_any (P := Try.prog) w 22 9 a n ca 0 0 Try.underlying22
  have hnm := fun (w : World) => run_neq_slice_nil_any (P := Try.prog) w 22 9 b m cb 0 0 Try.underlying22
  clear hd he
  go_enter Try.func3, Try.ntmps3
  go_wp2_with fail
  refine HZ.out.mono ?_
  rintro e w' ⟨⟨t, rfl⟩, rfl⟩
  cases t
  · go_wp2
    go_ret
    exact ⟨rfl, Below.refl _ _⟩
  go_wp2_with fail
  refine (addStrs_any _ _ _ _ ns _ (by omega) (by omega) (by omega) HDA.out.strs).mono ?_
  rintro e w1 ⟨⟨u, h0, h9, rfl⟩, rfl⟩
  go_wp2_with fail
  refine (addStrs_any _ _ _ _ hs _ (by omega) (by omega) (by omega) HEA.out.strs).mono ?_
  rintro e w1 ⟨⟨u2, g0, g9, rfl⟩, rfl⟩
  by_cases hu : 1048576 < u2
  · go_wp2
    go_ret
    exact ⟨rfl, Below.refl _ _⟩
  clear HZ h0 h9 g0 g9
  go_upto_if 28 with fail
  go_cut [0] (fun d wc => ∃ A C, d = .slice A n C ∧ SStrs wc A n C ns ∧ Below w1.heap.size w1 wc)
  case first =>
    rcases HDA.out with ⟨rfl, rfl, rfl, rfl⟩ | ⟨x, zs, rfl, hz, hcell, hw, hxs⟩
    · go_wp2
      go_meet
      case rel => exact ⟨.none, 0, rfl, SStrs.none _, Below.refl _ _⟩
    · obtain ⟨w2, hcp, hd1, hb1⟩ := copied9 w1 x n ca zs (by omega) hz hcell hw
      have hmk := made9 w1 n (by omega)
      rw [← hxs] at hd1
      have HD : Hid (SStrs w2 (some ⟨w1.heap.size, 0, .none⟩) n n ns) := hd1
      have HB : Hid (Below w1.heap.size w1 w2) := hb1
      clear hd1 hcell hw hz hxs hb1
      go_wp2
      go_meet
      case rel => exact ⟨_, _, rfl, HD.out, HB.out⟩
  case rest =>
    obtain ⟨A, C, rfl, hd, hb⟩ := hcut
    have HD : Hid (SStrs wc A n C ns) := hd
    have HB : Hid (Below w1.heap.size w1 wc) := hb
    have HEA2 : Hid (SArg wc b m cb hs) := HEA.out.later hb
    clear hd hb hnn
    go_upto_if 37 with fail
    go_cut [1] (fun d wd => ∃ A2 C2, d = .slice A2 m C2 ∧ SStrs wd A2 m C2 hs ∧ SStrs wd A n C ns ∧ Below w1.heap.size w1 wd)
    case first =>
      rcases HEA2.out with ⟨rfl, rfl, rfl, rfl⟩ | ⟨x, zs, rfl, hz, hcell, hw, hxs⟩
      · go_wp2
        go_meet
        case rel => exact ⟨.none, 0, rfl, SStrs.none _, HD.out, HB.out⟩
      · obtain ⟨w2, hcp, hd1, hb1⟩ := copied9 wc x m cb zs (by omega) hz hcell hw
        have hmk := made9 wc m (by omega)
        rw [← hxs] at hd1
        have HD2 : Hid (SStrs w2 (some ⟨wc.heap.size, 0, .none⟩) m m hs) := hd1
        have HB2 : Hid (Below wc.heap.size wc w2) := hb1
        clear hd1 hcell hw hz hxs hb1
        go_wp2
        go_meet
        case rel => exact ⟨_, _, rfl, HD2.out, HD.out.later HB2.out, chain HB.out HB2.out⟩
    case rest =>
      clear HD HB HEA2
      obtain ⟨A2, C2, rfl, he, hd, hb⟩ := hcut
      have HE : Hid (SStrs wc A2 m C2 hs) := he
      have HD : Hid (SStrs wc A n C ns) := hd
      have HB : Hid (Below w1.heap.size w1 wc) := hb
      clear he hd hb hnm
      go_wp2_with fail
      refine (zzpointed11 _ _ _ _ _ _ ns hs _ (by omega) (by omega) HD.out HE.out.1).mono ?_
      rintro e w2 ⟨⟨v, rfl, ho, hv⟩, hb2⟩
      obtain ⟨ga, gc, rfl, hgs⟩ := own_strs ho (fun s h => HD.out.1.2.1 s (mem_ptd h))
      have HG : Hid (SStrs w2 ga (ptd ns hs).length gc (ptd ns hs)) := hgs
      have HV : Hid (Value.slice ga (ptd ns hs).length gc = .slice none 0 0 ↔ ptd ns hs = []) := hv
      have HB2 : Hid (Below w1.heap.size w1 w2) := chain HB.out hb2
      have HD2 : Hid (SStrs w2 A n C ns) := HD.out.later hb2
      have HE2 : Hid (SStrs w2 A2 m C2 hs) := HE.out.later hb2
      have HLN : Hid ((ptd ns hs).length ≤ 4096) := by
        have h1 : (ptd ns hs).length ≤ (ns.take (min (far ns hs) 3)).length := List.length_filter_le _ _
        have h2 := List.length_take_le (min (far ns hs) 3) ns
        show _ ≤ _
        omega
      have HW : Hid (wantTo ns hs (min ns.length 3) = ptd ns hs) := want_ptd ns hs
      clear ho hv hgs hb2 HD HE HB
      generalize ptd ns hs = L at HG HV HLN HW
      have HXN : Hid (ns.length = n) := HD2.out.1.1
      go_wp2
      go_loopw [8, 9] (fun v i wr => ∃ k : Nat, k ≤ n ∧ k ≤ 3 ∧ i = .int .i64 k ∧ Hid (wr.ownsRow w2.heap.size 9 1 v (wantTo ns hs k).length ((wantTo ns hs k).map Value.string)) ∧ Hid (v = .slice none 0 0 ↔ wantTo ns hs k = []) ∧ Hid (Below w2.heap.size w2 wr)) (fun _ i _ => 3 - (intOf i).toNat)
      case atStart => exact ⟨0, Nat.zero_le _, Nat.zero_le _, rfl, World.ownsRow_nil _ _ _ _, ⟨fun _ => rfl, fun _ => rfl⟩, Below.refl _ _⟩
      case round =>
        obtain ⟨k, hk, hk3, rfl, HO, HN, HBR⟩ := hrel
        by_cases hlt : k < n ∧ k < 3
        · obtain ⟨hkn, hk3'⟩ := hlt
          obtain ⟨bb, off, s, rfl, hbl, hc, hs', _⟩ := HD2.out.1.at hkn
          have hcr : wr.cell? ⟨bb, off + k, none⟩ = some (.string s) := by rw [HBR.out.cell (p := ⟨bb, off + k, none⟩) hbl]; exact hc
          have HWS : wantTo ns hs (k + 1) = if !has hs (ns.getD k ByteArray.empty) && after ns hs k then wantTo ns hs k ++ [ns.getD k ByteArray.empty] else wantTo ns hs k := rfl
          rw [hs'] at HWS
          have HLE : (wantTo ns hs k).length ≤ 4096 := by
            rw [want_eq ns hs k (by rw [HXN.out]; omega)]
            have h1 : (non hs (ns.take (min (far ns hs) k))).length ≤ (ns.take (min (far ns hs) k)).length := List.length_filter_le _ _
            have h2 := List.length_take_le (min (far ns hs) k) ns
            omega
          have HC : Hid (Calls Try.prog 12 #[.slice A2 m C2, .string s] wr fun e w' => e = .returned (.bool (has hs s)) ∧ w' = wr) := mem12 A2 m C2 hs s wr (HE2.out.1.later HBR.out) (by omega)
          have HF : Hid (Calls Try.prog 13 #[.slice (some ⟨bb, off, none⟩) n C, .slice A2 m C2, .int .i64 (k : Int)] wr fun e w' => e = .returned (.bool (after ns hs k)) ∧ w' = wr) := after13 _ A2 n m C C2 k ns hs wr hn hm (by omega) (HD2.out.1.later HBR.out) (HE2.out.1.later HBR.out)
          clear hs' hc
          cases hh : has hs s
          · cases haf : after ns hs k
            · rw [hh, haf] at HWS
              rw [hh] at HC
              rw [haf] at HF
              have H2 : Hid (wantTo ns hs (k + 1) = wantTo ns hs k) := HWS
              have HO' : Hid (wr.ownsRow w2.heap.size 9 1 u8 (wantTo ns hs (k + 1)).length ((wantTo ns hs (k + 1)).map Value.string)) := by rw [H2.out]; exact HO
              have HV' : Hid (u8 = .slice none 0 0 ↔ wantTo ns hs (k + 1) = []) := by rw [H2.out]; exact HN
              clear HWS hh haf HLE
              go_wp2_with (first | (go_at_call 12; refine HC.out.mono ?_; rintro e w5 ⟨rfl, rfl⟩) | (go_at_call 13; refine HF.out.mono ?_; rintro e w5 ⟨rfl, rfl⟩))
              go_roundw
              case rel => exact ⟨k + 1, by omega, by omega, by go_num, HO', HV', HBR⟩
              case measure => simp [intOf]; omega
            · rw [hh, haf] at HWS
              rw [hh] at HC
              rw [haf] at HF
              have H2 : Hid (wantTo ns hs (k + 1) = wantTo ns hs k ++ [s]) := HWS
              obtain ⟨v', w', hap, ho', hb', hv'⟩ := append1 wr w2.heap.size u8 (wantTo ns hs k) s HO.out HLE HBR.out.size
              have HO' : Hid (w'.ownsRow w2.heap.size 9 1 v' (wantTo ns hs (k + 1)).length ((wantTo ns hs (k + 1)).map Value.string)) := by rw [H2.out]; exact ho'
              have HB' : Hid (Below w2.heap.size w2 w') := HBR.out.trans hb'
              have HV' : Hid (v' = .slice none 0 0 ↔ wantTo ns hs (k + 1) = []) := by
                rw [H2.out]
                exact ⟨fun h => absurd h hv', fun h => by simp at h⟩
              have HAP : Hid ((Builtin.append_ #[22, 22] 22 #[u8, .slice (some ⟨wr.heap.size, 0, none⟩) 1 1]).run Try.prog (wr.alloc (.cells #[.string s] 9)) = .ok v' w') := hap
              clear HWS hh haf HLE ho' hb' hv' hap
              go_wp2_with (first | (go_at_call 12; refine HC.out.mono ?_; rintro e w5 ⟨rfl, rfl⟩) | (go_at_call 13; refine HF.out.mono ?_; rintro e w5 ⟨rfl, rfl⟩) | (at_builtin; refine wpList_append_run rfl (.tmp 71) (.tmp 76) 22 rfl _ _ _ _ rfl rfl HAP.out ?_))
              go_roundw
              case rel => exact ⟨k + 1, by omega, by omega, by go_num, HO', HV', HB'⟩
              case measure => simp [intOf]; omega
          · rw [hh] at HC HWS
            have H2 : Hid (wantTo ns hs (k + 1) = wantTo ns hs k) := HWS
            have HO' : Hid (wr.ownsRow w2.heap.size 9 1 u8 (wantTo ns hs (k + 1)).length ((wantTo ns hs (k + 1)).map Value.string)) := by rw [H2.out]; exact HO
            have HV' : Hid (u8 = .slice none 0 0 ↔ wantTo ns hs (k + 1) = []) := by rw [H2.out]; exact HN
            clear HWS hh HLE
            go_wp2_with (go_at_call 12; refine HC.out.mono ?_; rintro e w5 ⟨rfl, rfl⟩)
            go_roundw
            case rel => exact ⟨k + 1, by omega, by omega, by go_num, HO', HV', HBR⟩
            case measure => simp [intOf]; omega
        · have HKM : Hid (wantTo ns hs k = L) := by
            have := HW.out
            rw [HXN.out, show min n 3 = k by omega] at this
            exact this
          have hoo := HO.out
          have hno := HN.out
          rw [HKM.out] at hoo hno
          obtain ⟨wa, wcap, hu8, hws⟩ := own_strs hoo (fun s h => by
            have h2 : s ∈ ptd ns hs := by rw [← want_ptd ns hs, HW.out]; exact h
            exact HD2.out.1.2.1 s (mem_ptd h2))
          rw [hu8] at hno
          have HNI := nil_alike HG.out hws HV.out hno
          subst hu8
          have HSA : Hid (Calls Try.prog 14 #[.slice ga L.length gc, .slice wa L.length wcap] wr fun r w' => r = .returned (.bool true) ∧ Below wr.heap.size wr w') := same14 ga wa L.length gc wcap L wr (by have := HLN.out; omega) (HG.out.1.later HBR.out) hws.1
          clear hoo hno hws HO HN HKM
          have hq1 := fun (w : World) => Lib.run_eql_slice_nil (P := Try.prog) w 22 9 ga L.length gc 0 0 Try.underlying22
          have hq2 := fun (w : World) => Lib.run_eql_slice_nil (P := Try.prog) w 22 9 wa L.length wcap 0 0 Try.underlying22
          by_cases hkn : k < n
          case' pos => have hk3' : k = 3 := by omega
          all_goals
            rcases HNI with ⟨rfl, rfl⟩ | ⟨ga, wa, rfl, rfl⟩
            all_goals
              go_wp2_with (go_at_call 14; refine HSA.out.mono ?_; rintro e w5 ⟨rfl, hb5⟩)
              go_ret
              exact ⟨rfl, chain (chain HB2.out HBR.out) hb5⟩

/-- THE WALK: whatever the input, true; nothing that was there has turned. -/
theorem first_walk (a b : Option Addr) (n m ca cb : Nat) (ns hs : List ByteArray) (w : World) (hn : n ≤ maxLen) (hm : m ≤ maxLen) (hd : SArg w a n ca ns) (he : SArg w b m cb hs) :
    Calls Try.prog 3 #[.slice a n ca, .slice b m cb] w fun r w' => r = .returned (.bool true) ∧ Below w.heap.size w w' := by
  unfold maxLen at hn hm
  by_cases hin : n ≤ 4096 ∧ m ≤ 4096
  · exact first_in a b n m ca cb ns hs w hin.1 hin.2 hd he
  · exact first_out a b n m ca cb ns hs w hn hm hd.strs he.strs hin

end Go.Proofs.Qxb6617077a
