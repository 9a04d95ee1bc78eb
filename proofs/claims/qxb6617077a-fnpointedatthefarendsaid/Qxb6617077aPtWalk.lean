/- Seat b6617077a. holderAfter, sameStrs, pointed, ZZPointed: their contracts; the copies that the laws make first. -/
import Derived.Test.Qxb6617077aPtBase
namespace Go.Proofs.Qxb6617077a
open Go.RowKit

theorem after_step (ns hs : List ByteArray) (k : Nat) (h : k < ns.length) : (ns.drop k).any (has hs) = (has hs (ns.getD k ByteArray.empty) || (ns.drop (k + 1)).any (has hs)) := by
  rw [List.drop_eq_getElem_cons h, List.any_cons, List.getD_eq_getElem?_getD, List.getElem?_eq_getElem h]
  rfl

set_option maxHeartbeats 400000 in
theorem after13 (a b : Option Addr) (n m ca cb i : Nat) (ns hs : List ByteArray) (w : World) (hn : n ≤ 4096) (hm : m ≤ 4096) (hi : i ≤ 4096) (hd : Strs w a n ns) (he : Strs w b m hs) :
    Calls Try.prog 13 #[.slice a n ca, .slice b m cb, .int .i64 (i : Int)] w fun r w' => r = .returned (.bool (after ns hs i)) ∧ w' = w := by
  have HD : Hid (Strs w a n ns) := hd
  have HE : Hid (Strs w b m hs) := he
  clear hd he
  go_enter Try.func13, Try.ntmps13
  go_wp2
  go_loop [7] (fun j => ∃ k : Nat, k ≤ 4097 ∧ j = .int .i64 k ∧ Hid (after ns hs i = (ns.drop k).any (has hs))) (fun j => 4097 - (intOf j).toNat)
  case atStart => exact ⟨i + 1, by omega, by go_num, show _ = _ from rfl⟩
  case round =>
    obtain ⟨k, hk, rfl, HK⟩ := hrel
    by_cases hlt : k < n
    · obtain ⟨bb, off, s, rfl, _, hc, hs', _⟩ := HD.out.at hlt
      have HS := after_step ns hs k (by rw [HD.out.1]; exact hlt)
      rw [hs'] at HS
      have HC : Hid (Calls Try.prog 12 #[.slice b m cb, .string s] w fun e w' => e = .returned (.bool (has hs s)) ∧ w' = w) := mem12 b m cb hs s w HE.out (by omega)
      clear hs'
      cases he : has hs s
      · rw [he] at HS HC
        have H2 : Hid (after ns hs i = (ns.drop (k + 1)).any (has hs)) := HK.out.trans HS
        clear HS he
        go_wp2_with (go_at_call 12; refine HC.out.mono ?_; rintro e w' ⟨rfl, rfl⟩)
        go_round
        case rel => exact ⟨k + 1, by omega, by go_num, H2⟩
        case measure => simp [intOf]; omega
      · rw [he] at HS HC
        have H2 : Hid (after ns hs i = true) := HK.out.trans HS
        clear HS he
        go_wp2_with (go_at_call 12; refine HC.out.mono ?_; rintro e w' ⟨rfl, rfl⟩)
        go_ret
        exact ⟨by rw [H2.out]; rfl, rfl⟩
    · have H2 : Hid (after ns hs i = false) := by
        have := HK.out
        rwa [List.drop_eq_nil_of_le (by rw [HD.out.1]; omega)] at this
      go_wp2
      go_ret
      exact ⟨by rw [H2.out]; rfl, rfl⟩

set_option maxHeartbeats 1000000 in
theorem same14 (a b : Option Addr) (n ca cb : Nat) (ss : List ByteArray) (w : World) (hn : n ≤ 1048576) (hd : Strs w a n ss) (he : Strs w b n ss) :
    Calls Try.prog 14 #[.slice a n ca, .slice b n cb] w fun r w' => r = .returned (.bool true) ∧ Below w.heap.size w w' := by
  have HD : Hid (Strs w a n ss) := hd
  have HE : Hid (Strs w b n ss) := he
  clear hd he
  go_enter Try.func14, Try.ntmps14
  go_wp2
  go_loopw [13] (fun i wr => ∃ k : Nat, k ≤ n ∧ i = .int .i64 k ∧ Hid (Below w.heap.size w wr)) (fun i _ => n - (intOf i).toNat)
  case atStart => exact ⟨0, Nat.zero_le _, rfl, Below.refl _ _⟩
  case round =>
    obtain ⟨k, hk, rfl, HB⟩ := hrel
    by_cases hlt : k < n
    · obtain ⟨b1, off1, s, rfl, hl1, hc1, hs1, _⟩ := HD.out.at hlt
      obtain ⟨b2, off2, s2, rfl, hl2, hc2, hs2, _⟩ := HE.out.at hlt
      obtain rfl : s = s2 := hs1.symm.trans hs2
      have hc1' : wr.cell? ⟨b1, off1 + k, none⟩ = some (.string s) := by rw [HB.out.cell (p := ⟨b1, off1 + k, none⟩) hl1]; exact hc1
      have hc2' : wr.cell? ⟨b2, off2 + k, none⟩ = some (.string s) := by rw [HB.out.cell (p := ⟨b2, off2 + k, none⟩) hl2]; exact hc2
      clear hs1 hs2 hc1 hc2
      have hlt' : (k : Int) < (n : Int) := by omega
      go_wp2
      go_quiet (fail)
      go_wp2
      go_roundw
      case rel => exact ⟨k + 1, by omega, by go_num, below_drewN HB.out _⟩
      case measure => simp [intOf]; omega
    · go_wp2
      go_ret
      exact ⟨rfl, HB.out⟩

/-- A slice of strings that can be cut. -/
def SStrs (w : World) (a : Option Addr) (len cap : Nat) (ss : List ByteArray) : Prop :=
  Strs w a len ss ∧ len ≤ cap ∧ cap ≤ 9223372036854775807 ∧ ((a = none ∧ len = 0 ∧ cap = 0) ∨ ∃ b off, a = some ⟨b, off, none⟩)

theorem SStrs.later {w w' : World} {a : Option Addr} {len cap : Nat} {ss : List ByteArray} (h : SStrs w a len cap ss) (hb : Below w.heap.size w w') : SStrs w' a len cap ss :=
  ⟨h.1.later hb, h.2.1, h.2.2.1, h.2.2.2⟩

theorem info9 : (Try.prog.info? 9).map (fun i => (i.zero, i.size, i.bytes)) = some (some (.string ByteArray.empty), 1, 16) := by kernel_rfl

/-- 'v = append(v, s)', v a slice of strings of the call's own. -/
theorem append1 (wr : World) (B : Nat) (v : Value) (L : List ByteArray) (s : ByteArray) (hown : wr.ownsRow B 9 1 v L.length (L.map Value.string)) (hn : L.length ≤ 4096) (hB : B ≤ wr.heap.size) :
    ∃ v' w', (Builtin.append_ #[22, 22] 22 #[v, .slice (some ⟨wr.heap.size, 0, none⟩) 1 1]).run Try.prog (wr.alloc (.cells #[.string s] 9)) = .ok v' w' ∧ w'.ownsRow B 9 1 v' (L ++ [s]).length ((L ++ [s]).map Value.string) ∧
      Below B wr w' ∧ v' ≠ .slice none 0 0 := by
  obtain ⟨i, hi, h1, h2, h3⟩ := info_parts info9
  obtain ⟨v', w', hr, ho, hg, hv⟩ := run_append_own (P := Try.prog) (wr.alloc (.cells #[.string s] 9)) B 22 22 9 i (.string ByteArray.empty) 1 16 Try.underlying22 hi h1 h2 h3 rfl (by decide) v L.length (L.map Value.string) (hown.alloc _)
    ⟨wr.heap.size, 0, none⟩ 1 1 [.string s] rfl (by
      intro j u hj
      match j, hj with
      | 0, hj => simp at hj; subst hj; simp [Addr.add]) (by intro u hu; simp at hu; subst hu; rfl) (by unfold maxLen; omega) (by omega) (by simp; omega)
  refine ⟨v', w', hr, ?_, ?_, ?_⟩
  · simpa using ho
  · refine Below.grown ((Below.refl B wr).alloc hB _) hg (by simp; omega) ?_
    intro k hk
    exact (hown.lt k hk).1
  · intro h
    have := hv.1 h
    omega

/-- An append whose run is known. -/
theorem wpList_append_run {P : Program} {w : World} {ops : Array Oper} {rest : List Oper} {o : Oper} {a : Act} {Q : Exit → Act → World → Prop} (hgd : o.guard = none) (s x : Operand) (t : TypeId)
    (ho : o.op = .call { callee := .builtin .append, args := #[s, x], argTypes := #[t, t] }) (v1 v2 v' : Value) (w' : World) (hs : a.eval s = v1) (hx : a.eval x = v2)
    (hr : (Builtin.append_ #[t, t] o.type #[v1, v2]).run P w = .ok v' w') (h : wpList P ops Q rest (a.put o.dst v') w') : wpList P ops Q (o :: rest) a w := by
  refine wpList_plain hgd fun K hK => ?_
  unfold Oper.wp execOp
  simp only [ho, resolve, invoke, builtin, Sem.run_bind, Sem.run_pure, Result.andThen_ok, List.map_toArray, List.map_cons, List.map_nil, hs, hx, hr]
  exact hK _ _ h

set_option maxRecDepth 100000 in
set_option maxHeartbeats 1000000 in
theorem pointed34 (a b : Option Addr) (n m ca cb : Nat) (ns hs : List ByteArray) (w : World) (hn : n ≤ 1048576) (hm : m ≤ 1048576) (hd : SStrs w a n ca ns) (he : Strs w b m hs) :
    Calls Try.prog 34 #[.slice a n ca, .slice b m cb] w fun r w' => (∃ v, r = .returned v ∧ w'.ownsRow w.heap.size 9 1 v (ptd ns hs).length ((ptd ns hs).map Value.string) ∧ (v = .slice none 0 0 ↔ ptd ns hs = [])) ∧ Below w.heap.size w w' := by
  have HD : Hid (SStrs w a n ca ns) := hd
  have HX : Hid (ns.length = n) := hd.1.1
  have HE : Hid (Strs w b m hs) := he
  have hca := hd.2.1
  have hca2 := hd.2.2.1
  clear hd he
  go_enter Try.func34, Try.ntmps34
  go_wp2
  go_loop [5, 13] (fun f i => ∃ k : Nat, k ≤ n ∧ i = .int .i64 k ∧ f = .int .i64 (farTo ns hs k : Nat)) (fun _ i => n - (intOf i).toNat)
  case atStart => exact ⟨0, Nat.zero_le _, rfl, rfl⟩
  case round =>
    obtain ⟨k, hk, rfl, rfl⟩ := hrel
    by_cases hlt : k < n
    · obtain ⟨bb, off, s, rfl, _, hc, hs', _⟩ := HD.out.1.at hlt
      have HF : farTo ns hs (k + 1) = if has hs (ns.getD k ByteArray.empty) then k else farTo ns hs k := rfl
      rw [hs'] at HF
      have HC : Hid (Calls Try.prog 39 #[.slice b m cb, .string s] w fun e w' => e = .returned (.bool (has hs s)) ∧ w' = w) := has39 b m cb hs s w HE.out (by omega)
      clear hs'
      cases hh : has hs s
      · rw [hh] at HF HC
        have H2 : Hid (farTo ns hs (k + 1) = farTo ns hs k) := HF
        clear HF hh
        go_wp2_with (go_at_call 39; refine HC.out.mono ?_; rintro e w' ⟨rfl, rfl⟩)
        go_round
        case rel => exact ⟨k + 1, by omega, by go_num, by rw [H2.out]⟩
        case measure => simp [intOf]; omega
      · rw [hh] at HF HC
        have H2 : Hid (farTo ns hs (k + 1) = k) := HF
        clear HF hh
        go_wp2_with (go_at_call 39; refine HC.out.mono ?_; rintro e w' ⟨rfl, rfl⟩)
        go_round
        case rel => exact ⟨k + 1, by omega, by go_num, by rw [H2.out]⟩
        case measure => simp [intOf]; omega
    · obtain rfl : k = n := by omega
      have HFA : Hid (farTo ns hs k = far ns hs) := by show _ = farTo ns hs ns.length; rw [HX.out]
      rw [HFA.out]
      have hfl := far_le ns hs
      rw [HX.out] at hfl
      have HP : Hid (ptd ns hs = non hs (ns.take (min (far ns hs) 3))) := rfl
      generalize far ns hs = f at HP hfl
      obtain ⟨q, HQ⟩ : ∃ q, Hid (min f 3 = q) := ⟨_, rfl⟩
      rw [HQ.out] at HP
      have hq3 : q ≤ 3 := by have := HQ.out; omega
      have hqk : q ≤ k := by have := HQ.out; omega
      clear HFA hk hlt
      go_upto_region 9 with fail
      go_cut [26, 27, 28] (fun s l i wd => (∃ A C, s = .slice A q C ∧ Hid (0 < q → A = a)) ∧ l = .int .i64 (q : Int) ∧ i = .int .i64 0 ∧ wd = w)
      case first =>
        rcases HD.out.2.2.2 with ⟨rfl, rfl, rfl⟩ | ⟨bb, off, rfl⟩
        · obtain rfl : f = 0 := by omega
          obtain rfl : q = 0 := by omega
          go_wp2
          go_meet
          case rel => exact ⟨⟨_, _, rfl, fun h => by omega⟩, rfl, rfl, rfl⟩
        · by_cases hf : f ≤ 3
          · obtain rfl : q = f := by have := HQ.out; omega
            have hmin : min (q : Int) 3 = q := by omega
            go_wp2
            go_meet
            case rel => exact ⟨⟨_, _, rfl, fun h => rfl⟩, rfl, rfl, rfl⟩
          · obtain rfl : q = 3 := by have := HQ.out; omega
            have hmin : min (f : Int) 3 = 3 := by omega
            go_wp2
            go_meet
            case rel => exact ⟨⟨_, _, rfl, fun h => rfl⟩, rfl, rfl, rfl⟩
      case rest =>
        obtain ⟨⟨A, C, rfl, HA⟩, rfl, rfl, hwc⟩ := hcut
        subst hwc
        go_wp2
        go_loopw [8, 28] (fun v i wr => ∃ j : Nat, j ≤ q ∧ i = .int .i64 j ∧ Hid (wr.ownsRow wc.heap.size 9 1 v (non hs (ns.take j)).length ((non hs (ns.take j)).map Value.string)) ∧ Hid (v = .slice none 0 0 ↔ non hs (ns.take j) = []) ∧ Hid (Below wc.heap.size wc wr)) (fun _ i _ => q - (intOf i).toNat)
        case atStart => exact ⟨0, Nat.zero_le _, rfl, World.ownsRow_nil _ _ _ _, ⟨fun _ => rfl, fun _ => rfl⟩, Below.refl _ _⟩
        case round =>
          obtain ⟨j, hj, rfl, HO, HN, HB⟩ := hrel
          by_cases hlt : j < q
          · obtain rfl := HA.out (by omega)
            obtain ⟨bb, off, s, rfl, hbl, hc, hs', _⟩ := HD.out.1.at (show j < k by omega)
            have hcr : wr.cell? ⟨bb, off + j, none⟩ = some (.string s) := by rw [HB.out.cell (p := ⟨bb, off + j, none⟩) hbl]; exact hc
            have HTK : Hid (ns.take (j + 1) = ns.take j ++ [s]) := by show _ = _; rw [take_snoc ns j (by rw [HX.out]; omega), hs']
            have HLE : (non hs (ns.take j)).length ≤ 4096 := by
              have h1 : (non hs (ns.take j)).length ≤ (ns.take j).length := List.length_filter_le _ _
              have h2 : (ns.take j).length ≤ j := List.length_take_le _ _
              omega
            have HC : Hid (Calls Try.prog 39 #[.slice b m cb, .string s] wr fun e w' => e = .returned (.bool (has hs s)) ∧ w' = wr) := has39 b m cb hs s wr (HE.out.later HB.out) (by omega)
            have HNS := non_snoc hs (ns.take j) s
            clear hs' hc
            cases hh : has hs s
            · rw [hh] at HC HNS
              have H2 : Hid (non hs (ns.take (j + 1)) = non hs (ns.take j) ++ [s]) := by show _ = _; rw [HTK.out]; exact HNS
              obtain ⟨v', w', hap, ho', hb', hv'⟩ := append1 wr wc.heap.size u8 (non hs (ns.take j)) s HO.out HLE HB.out.size
              have HO' : Hid (w'.ownsRow wc.heap.size 9 1 v' (non hs (ns.take (j + 1))).length ((non hs (ns.take (j + 1))).map Value.string)) := by rw [H2.out]; exact ho'
              have HB' : Hid (Below wc.heap.size wc w') := HB.out.trans hb'
              have HV' : Hid (v' = .slice none 0 0 ↔ non hs (ns.take (j + 1)) = []) := by
                rw [H2.out]
                exact ⟨fun h => absurd h hv', fun h => by simp at h⟩
              have HAP : Hid ((Builtin.append_ #[22, 22] 22 #[u8, .slice (some ⟨wr.heap.size, 0, none⟩) 1 1]).run Try.prog (wr.alloc (.cells #[.string s] 9)) = .ok v' w') := hap
              clear HNS hh ho' hb' hv' HLE hap
              go_wp2_with (first | (go_at_call 39; refine HC.out.mono ?_; rintro e w2 ⟨rfl, rfl⟩) | (at_builtin; refine wpList_append_run rfl (.tmp 36) (.tmp 38) 22 rfl _ _ _ _ rfl rfl HAP.out ?_))
              go_roundw
              case rel => exact ⟨j + 1, by omega, by go_num, HO', HV', HB'⟩
              case measure => simp [intOf]; omega
            · rw [hh] at HC HNS
              have H2 : Hid (non hs (ns.take (j + 1)) = non hs (ns.take j)) := by show _ = _; rw [HTK.out]; exact HNS
              have HO' : Hid (wr.ownsRow wc.heap.size 9 1 u8 (non hs (ns.take (j + 1))).length ((non hs (ns.take (j + 1))).map Value.string)) := by rw [H2.out]; exact HO
              have HV' : Hid (u8 = .slice none 0 0 ↔ non hs (ns.take (j + 1)) = []) := by rw [H2.out]; exact HN
              clear HNS hh HLE
              go_wp2_with (go_at_call 39; refine HC.out.mono ?_; rintro e w2 ⟨rfl, rfl⟩)
              go_roundw
              case rel => exact ⟨j + 1, by omega, by go_num, HO', HV', HB⟩
              case measure => simp [intOf]; omega
          · obtain rfl : j = q := by omega
            go_wp2
            go_ret
            exact ⟨⟨_, rfl, by rw [HP.out]; exact HO.out, by rw [HP.out]; exact HN.out⟩, HB.out⟩

set_option maxHeartbeats 400000 in
theorem zzpointed11 (a b : Option Addr) (n m ca cb : Nat) (ns hs : List ByteArray) (w : World) (hn : n ≤ 1048576) (hm : m ≤ 1048576) (hd : SStrs w a n ca ns) (he : Strs w b m hs) :
    Calls Try.prog 11 #[.slice a n ca, .slice b m cb] w fun r w' => (∃ v, r = .returned v ∧ w'.ownsRow w.heap.size 9 1 v (ptd ns hs).length ((ptd ns hs).map Value.string) ∧ (v = .slice none 0 0 ↔ ptd ns hs = [])) ∧ Below w.heap.size w w' := by
  have HC : Hid (Calls Try.prog 34 #[.slice a n ca, .slice b m cb] w fun r w' => (∃ v, r = .returned v ∧ w'.ownsRow w.heap.size 9 1 v (ptd ns hs).length ((ptd ns hs).map Value.string) ∧ (v = .slice none 0 0 ↔ ptd ns hs = [])) ∧ Below w.heap.size w w') := pointed34 a b n m ca cb ns hs w hn hm hd he
  clear hd he
  go_enter Try.func11, Try.ntmps11
  go_wp2_with fail
  refine HC.out.mono ?_
  rintro e w' ⟨⟨v, rfl, ho, hv⟩, hb⟩
  have HO : Hid (w'.ownsRow w.heap.size 9 1 v (ptd ns hs).length ((ptd ns hs).map Value.string)) := ho
  have HV : Hid (v = .slice none 0 0 ↔ ptd ns hs = []) := hv
  clear ho hv
  go_wp2
  go_ret
  exact ⟨⟨_, rfl, HO.out, HV.out⟩, hb⟩

theorem mem_ptd {ns hs : List ByteArray} {s : ByteArray} (h : s ∈ ptd ns hs) : s ∈ ns := List.mem_of_mem_take (List.mem_filter.1 h).1

/-- A row of strings of the call's own, as a slice of strings in memory. -/
theorem own_strs {w : World} {B : Nat} {v : Value} {L : List ByteArray} (h : w.ownsRow B 9 1 v L.length (L.map Value.string)) (hs : ∀ s ∈ L, s.size ≤ 9223372036854775807) :
    ∃ a cap, v = .slice a L.length cap ∧ SStrs w a L.length cap L := by
  obtain ⟨h1, h2 | ⟨g, cap, cur, hv, hg, hh, hn, hcap, hcs, htake⟩⟩ := h
  · obtain ⟨hv, hn⟩ := h2
    have : L = [] := List.eq_nil_of_length_eq_zero hn
    subst this
    exact ⟨none, 0, hv, ⟨rfl, by simp, fun h => by simp at h⟩, Nat.le_refl _, by omega, .inl ⟨rfl, rfl, rfl⟩⟩
  · refine ⟨_, cap, hv, ⟨rfl, hs, fun hl => ⟨g, 0, rfl, ?_, ?_⟩⟩, hn, by unfold maxLen at hcap; omega, .inr ⟨g, 0, rfl⟩⟩
    · rcases Nat.lt_or_ge g w.heap.size with h | h
      · exact h
      · rw [Array.getElem?_eq_none h] at hh; cases hh
    · intro j hj
      have hcj : cur[j]? = some (.string (L.getD j ByteArray.empty)) := by
        have hx := congrArg (fun l : List Value => l[j]?) htake
        simp only [List.getElem?_take, List.getElem?_map] at hx
        rw [if_pos (by omega)] at hx
        rw [← Array.getElem?_toList, hx, List.getElem?_eq_getElem hj, List.getD_eq_getElem?_getD, List.getElem?_eq_getElem hj]
        rfl
      simp only [World.cell?, hh, Nat.zero_add]
      simpa using hcj

theorem made9 (w : World) (len : Nat) (h : len ≤ 1048576) :
    (Instr.makeSlice 22 (.int .i64 (len : Int)) (.int .i64 (len : Int))).run Try.prog w = .ok (.slice (some ⟨w.heap.size, 0, none⟩) len len) (w.alloc (.cells (madeCells #[.string ByteArray.empty] len) 9)) := by
  obtain ⟨i, hi, h1, h2, h3⟩ := info_parts info9
  have := run_make (P := Try.prog) w 22 9 i (.string ByteArray.empty) Try.underlying22 hi h1 .i64 .i64 (len : Int) (len : Int) (by omega) (by omega) (by rw [h3]; omega) (by omega)
  simpa [h2, Value.cells] using this

theorem size9 : (Try.prog.info? 9).map (·.size) = some 1 := by kernel_rfl

theorem copied9 (w : World) (x : Addr) (len cap : Nat) (ss : List ByteArray) (hl : len ≤ 1048576) (hz : len ≤ ss.length)
    (hcell : ∀ i, i < ss.length → w.cell? (x.add i) = some (.string (ss.getD i ByteArray.empty))) (hw : ∀ s ∈ ss, s.size ≤ 9223372036854775807) :
    ∃ w1, (∀ ty, (Builtin.copy_ #[22, 22] ty #[.slice (some ⟨w.heap.size, 0, none⟩) len len, .slice (some x) len cap]).run Try.prog (w.alloc (.cells (madeCells #[.string ByteArray.empty] len) 9)) = .ok (goInt len) w1) ∧
      SStrs w1 (some ⟨w.heap.size, 0, none⟩) len len (ss.take len) ∧ Below w.heap.size w w1 := by
  have hlen : ((ss.take len).map Value.string).length = len := by simp; omega
  have hg : (w.alloc (.cells (madeCells #[.string ByteArray.empty] len) 9)).heap[w.heap.size]? = some (.cells (madeCells #[.string ByteArray.empty] len) 9 (0, 0)) := by
    show (w.heap.push _)[w.heap.size]? = _
    simp
  have hrun := fun ty => run_copy_row (P := Try.prog) (w.alloc (.cells (madeCells #[.string ByteArray.empty] len) 9)) 22 22 ty 9 w.heap.size 0 len len x len cap (madeCells #[.string ByteArray.empty] len) 9 ((ss.take len).map Value.string)
    Try.underlying22 size9 hg (by rw [hlen]; exact (Nat.min_self len).symm) (by
      intro j v hj
      have hjl : j < len := by
        have := (List.getElem?_eq_some_iff.1 hj).1
        omega
      have hj' : j < ss.length := by omega
      have hc := hcell j hj'
      have hlt : x.block < w.heap.size := by
        rcases Nat.lt_or_ge x.block w.heap.size with h | h
        · exact h
        · have hb : (x.add j).block = x.block := by unfold Addr.add; split <;> rfl
          simp [World.cell?, hb, Array.getElem?_eq_none h] at hc
      have hb : (x.add j).block < w.heap.size := by unfold Addr.add; split <;> exact hlt
      rw [((Below.refl w.heap.size w).alloc (Nat.le_refl _) _).cell hb, hc]
      simp only [List.getElem?_map, List.getElem?_take, if_pos hjl, List.getElem?_eq_getElem hj', Option.map_some, Option.some.injEq] at hj
      rw [← hj]
      simp [List.getD, List.getElem?_eq_getElem hj']) (by rw [hlen, size_madeCells]; omega) (by
      intro v hv
      obtain ⟨z, _, rfl⟩ := List.mem_map.1 hv
      rfl)
  have hrow : ((madeCells #[.string ByteArray.empty] len).toList.take 0 ++ (ss.take len).map Value.string ++ (madeCells #[.string ByteArray.empty] len).toList.drop (0 + ((ss.take len).map Value.string).length)) = (ss.take len).map Value.string := by
    rw [List.drop_eq_nil_of_le (by rw [hlen]; simp [size_madeCells])]
    simp
  rw [hlen] at hrun
  rw [hlen] at hrow
  refine ⟨_, hrun, ?_, below_setRow ((Below.refl w.heap.size w).alloc (Nat.le_refl _) _) (Nat.le_refl _) _⟩
  rw [hrow]
  refine ⟨⟨by simp; omega, fun s h => hw s (List.mem_of_mem_take h), fun _ => ⟨w.heap.size, 0, rfl, by simp [World.setRow], ?_⟩⟩, Nat.le_refl _, by omega, .inr ⟨_, _, rfl⟩⟩
  intro j hj
  have hh := setRow_heap _ w.heap.size _ ((ss.take len).map Value.string).toArray 9 (0, 0) hg
  have hj' : j < ss.length := by omega
  simp only [World.cell?, hh]
  simp [List.getD, hj, hj']

/-- A slice of strings that came in: nil, or a row of cells; 'ss' its strings. -/
def SArg (w : World) (a0 : Option Addr) (len cap : Nat) (ss : List ByteArray) : Prop :=
  (a0 = none ∧ len = 0 ∧ cap = 0 ∧ ss = []) ∨ ∃ (x : Addr) (zs : List ByteArray), a0 = some x ∧ len ≤ zs.length ∧ (∀ i, i < zs.length → w.cell? (x.add i) = some (.string (zs.getD i ByteArray.empty))) ∧ (∀ s ∈ zs, s.size ≤ 9223372036854775807) ∧ ss = zs.take len

theorem SArg.strs {w : World} {a0 : Option Addr} {len cap : Nat} {ss : List ByteArray} (h : SArg w a0 len cap ss) : Strs w a0 len ss := by
  rcases h with ⟨rfl, rfl, rfl, rfl⟩ | ⟨x, zs, rfl, hz, hcell, hw, rfl⟩
  · exact ⟨rfl, by simp, fun h => by simp at h⟩
  · refine ⟨by simp; omega, fun s h => hw s (List.mem_of_mem_take h), fun hl => ?_⟩
    have hc0 := hcell 0 (by omega)
    obtain ⟨b, off, spot⟩ := x
    have hspot : spot = none := by simpa [Addr.add] using World.cell?_spot hc0
    subst hspot
    refine ⟨b, off, rfl, ?_, ?_⟩
    · rcases Nat.lt_or_ge b w.heap.size with h | h
      · exact h
      · simp [World.cell?, Addr.add, Array.getElem?_eq_none h] at hc0
    · intro j hj
      have := hcell j (by omega)
      have hplain : (⟨b, off, none⟩ : Addr).add j = ⟨b, off + j, none⟩ := by unfold Addr.add; split <;> simp_all
      rw [hplain] at this
      rw [this]
      simp [List.getD, hj]

theorem SStrs.none (w : World) : SStrs w .none 0 0 [] := ⟨⟨rfl, by simp, fun h => by simp at h⟩, Nat.le_refl _, by omega, .inl ⟨rfl, rfl, rfl⟩⟩

theorem SArg.later {w w' : World} {a0 : Option Addr} {len cap : Nat} {ss : List ByteArray} (h : SArg w a0 len cap ss) (hb : Below w.heap.size w w') : SArg w' a0 len cap ss := by
  rcases h with h | ⟨x, zs, e, hz, hcell, hw, es⟩
  · exact .inl h
  · refine .inr ⟨x, zs, e, hz, fun i hi => ?_, hw, es⟩
    have hc := hcell i hi
    have hlt : (x.add i).block < w.heap.size := by
      rcases Nat.lt_or_ge (x.add i).block w.heap.size with h | h
      · exact h
      · simp [World.cell?, Array.getElem?_eq_none h] at hc
    rw [hb.cell hlt]
    exact hc

theorem chain {w w1 w2 : World} (h1 : Below w.heap.size w w1) (h2 : Below w1.heap.size w1 w2) : Below w.heap.size w w2 := h1.trans (h2.mono h1.size)

end Go.Proofs.Qxb6617077a
