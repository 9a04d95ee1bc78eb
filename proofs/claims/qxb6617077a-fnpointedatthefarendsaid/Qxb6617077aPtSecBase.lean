/- Seat b6617077a. concat, the second law's size test: their contracts. -/
import Derived.Test.Qxb6617077aPtWalk
namespace Go.Proofs.Qxb6617077a
open Go.RowKit

/-- A slice of strings whose cells can be read off: nil, or at some address. -/
def Src (w : World) (p : Option Addr) (m c : Nat) (ss : List ByteArray) : Prop :=
  ss.length = m ∧ (∀ s ∈ ss, s.size ≤ 9223372036854775807) ∧ ((p = none ∧ m = 0 ∧ c = 0) ∨ ∃ x, p = some x ∧ ∀ j u, (ss.map Value.string)[j]? = some u → w.cell? (x.add j) = some u)

theorem SArg.src {w : World} {a0 : Option Addr} {len cap : Nat} {ss : List ByteArray} (h : SArg w a0 len cap ss) : Src w a0 len cap ss := by
  refine ⟨h.strs.1, h.strs.2.1, ?_⟩
  rcases h with ⟨h1, h2, h3, _⟩ | ⟨x, zs, e, hz, hcell, hw, rfl⟩
  · exact .inl ⟨h1, h2, h3⟩
  · refine .inr ⟨x, e, fun j u hj => ?_⟩
    have hjl : j < len := by
      have := (List.getElem?_eq_some_iff.1 hj).1
      simp at this
      omega
    have hj' : j < zs.length := by omega
    rw [hcell j hj']
    simp only [List.getElem?_map, List.getElem?_take, if_pos hjl, List.getElem?_eq_getElem hj', Option.map_some, Option.some.injEq] at hj
    rw [← hj]
    simp [List.getD, List.getElem?_eq_getElem hj']

theorem SStrs.src {w : World} {a0 : Option Addr} {len cap : Nat} {ss : List ByteArray} (h : SStrs w a0 len cap ss) : Src w a0 len cap ss := by
  refine ⟨h.1.1, h.1.2.1, ?_⟩
  rcases h.2.2.2 with h1 | ⟨b, off, e⟩
  · exact .inl h1
  · refine .inr ⟨_, e, fun j u hj => ?_⟩
    have hjl : j < ss.length := by
      have := (List.getElem?_eq_some_iff.1 hj).1
      simpa using this
    have hl := h.1.1
    obtain ⟨b', off', e', _, hc⟩ := h.1.2.2 (by omega)
    rw [e] at e'
    cases e'
    have hplain : (⟨b, off, .none⟩ : Addr).add j = ⟨b, off + j, .none⟩ := by unfold Addr.add; split <;> simp_all
    rw [hplain, hc j (by omega)]
    simp only [List.getElem?_map, List.getElem?_eq_getElem hjl, Option.map_some, Option.some.injEq] at hj
    rw [← hj]
    simp [List.getD, List.getElem?_eq_getElem hjl]

theorem Src.later {w w' : World} {p : Option Addr} {m c : Nat} {ss : List ByteArray} (h : Src w p m c ss) (hb : Below w.heap.size w w') : Src w' p m c ss := by
  refine ⟨h.1, h.2.1, ?_⟩
  rcases h.2.2 with h1 | ⟨x, e, hc⟩
  · exact .inl h1
  · refine .inr ⟨x, e, fun j u hj => ?_⟩
    have hcu := hc j u hj
    have hlt : (x.add j).block < w.heap.size := by
      rcases Nat.lt_or_ge (x.add j).block w.heap.size with h | h
      · exact h
      · simp [World.cell?, Array.getElem?_eq_none h] at hcu
    rw [hb.cell hlt]
    exact hcu

/-- 'v = append(v, ss...)', v a slice of strings of the call's own. -/
theorem appendS (wr : World) (B : Nat) (v : Value) (L : List ByteArray) (p : Option Addr) (m c : Nat) (ss : List ByteArray) (hown : wr.ownsRow B 9 1 v L.length (L.map Value.string)) (hs : Src wr p m c ss) (hn : L.length + m ≤ 1048576) (hB : B ≤ wr.heap.size) :
    ∃ v' w', (Builtin.append_ #[22, 22] 22 #[v, .slice p m c]).run Try.prog wr = .ok v' w' ∧ w'.ownsRow B 9 1 v' (L ++ ss).length ((L ++ ss).map Value.string) ∧ Below B wr w' := by
  obtain ⟨i, hi, h1, h2, h3⟩ := info_parts info9
  obtain ⟨hl, _, ⟨rfl, rfl, rfl⟩ | ⟨x, rfl, hc⟩⟩ := hs
  · obtain rfl : ss = [] := List.eq_nil_of_length_eq_zero hl
    refine ⟨v, wr, run_append_owned_none (P := Try.prog) wr B 22 22 9 i 1 Try.underlying22 hi v L.length _ hown, by simpa using hown, Below.refl _ _⟩
  · obtain ⟨v', w', hr, ho, hg, hv⟩ := run_append_own (P := Try.prog) wr B 22 22 9 i (.string ByteArray.empty) 1 16 Try.underlying22 hi h1 h2 h3 rfl (by decide) v L.length (L.map Value.string) hown
      x m c (ss.map Value.string) (by simp; omega) hc (by intro u hu; obtain ⟨z, _, rfl⟩ := List.mem_map.1 hu; rfl) (by unfold maxLen; omega) (by omega) hB
    refine ⟨v', w', hr, ?_, ?_⟩
    · rw [List.map_append, List.length_append, hl]; exact ho
    · refine Below.grown (Below.refl B wr) hg hB ?_
      intro k hk
      exact (hown.lt k hk).1

set_option maxHeartbeats 1000000 in
theorem concat16 (a b : Option Addr) (n m ca cb : Nat) (ns ts : List ByteArray) (w : World) (hn : n ≤ 4096) (hm : m ≤ 4096) (hd : Src w a n ca ns) (he : Src w b m cb ts) :
    Calls Try.prog 16 #[.slice a n ca, .slice b m cb] w fun r w' => (∃ g cap, r = .returned (.slice g (n + m) cap) ∧ SStrs w' g (n + m) cap (ns ++ ts)) ∧ Below w.heap.size w w' := by
  obtain ⟨i, hi, h1, h2, h3⟩ := info_parts info9
  obtain ⟨w1, hmk, ho1, hg1⟩ := run_make_own (P := Try.prog) w w.heap.size 22 9 i (.string ByteArray.empty) 1 Try.underlying22 hi h1 h2 .i64 .i64 (n + m) (by rw [h3]; omega) (by unfold maxLen; omega) (Nat.le_refl _)
  have hb1 : Below w.heap.size w w1 := Below.grown (Below.refl _ _) hg1 (Nat.le_refl _) (by intro k hk; cases hk)
  obtain ⟨v2, w2, hr2, ho2, hb2⟩ := appendS w1 w.heap.size _ [] a n ca ns ho1 (hd.later hb1) (by simp; omega) hb1.size
  have hb2' : Below w.heap.size w w2 := hb1.trans hb2
  obtain ⟨v3, w3, hr3, ho3, hb3⟩ := appendS w2 w.heap.size _ _ b m cb ts ho2 (he.later hb2') (by have := hd.1; simp; omega) hb2'.size
  have HS3 := own_strs ho3 (by
    intro s h
    simp at h
    rcases h with h | h
    · exact hd.2.1 s h
    · exact he.2.1 s h)
  have hnl := hd.1
  have hml := he.1
  simp only [List.nil_append, List.length_append, hnl, hml] at HS3
  obtain ⟨g, cap, hv3, hs3⟩ := HS3
  have HR2 : Hid ((Builtin.append_ #[22, 22] 22 #[.slice (some ⟨w.heap.size, 0, none⟩) 0 (n + m), .slice a n ca]).run Try.prog w1 = .ok v2 w2) := hr2
  have HR3 : Hid ((Builtin.append_ #[22, 22] 22 #[v2, .slice b m cb]).run Try.prog w2 = .ok v3 w3) := hr3
  have HV3 : Hid (v3 = .slice g (n + m) cap) := hv3
  have HS : Hid (SStrs w3 g (n + m) cap (ns ++ ts)) := hs3
  have HB : Hid (Below w.heap.size w w3) := hb2'.trans hb3
  have ec : ((n + m : Nat) : Int) = (n : Int) + (m : Int) := by omega
  rw [ec] at hmk
  clear hr2 hr3 hv3 hs3 hb1 hb2 hb2' hb3 ho1 ho2 ho3 hd he hg1 hi h1 h2 h3 hnl hml ec
  go_enter Try.func16, Try.ntmps16
  go_wp2_with (first | (at_builtin; refine wpList_append_run rfl (.tmp 12) (.tmp 13) 22 rfl _ _ _ _ rfl rfl HR2.out ?_) | (at_builtin; refine wpList_append_run rfl (.tmp 15) (.tmp 16) 22 rfl _ _ _ _ rfl rfl HR3.out ?_))
  go_ret
  exact ⟨⟨g, cap, by rw [← HV3.out]; rfl, HS.out⟩, HB.out⟩

set_option maxRecDepth 100000 in
set_option maxHeartbeats 2000000 in
theorem zz15_any (a b c : Option Addr) (n m l ca cb cc : Nat) (ns hs ts : List ByteArray) (jv : Value) (w : World) (hn : n ≤ 9223372036854775807) (hm : m ≤ 9223372036854775807) (hl : l ≤ 9223372036854775807) (hd : Strs w a n ns) (he : Strs w b m hs) (hf : Strs w c l ts) :
    Calls Try.prog 15 #[.slice a n ca, .slice b m cb, .slice c l cc, jv] w fun r w' => SomeBool r ∧ w' = w := by
  have HD : Hid (Strs w a n ns) := hd
  have HE : Hid (Strs w b m hs) := he
  have HF : Hid (Strs w c l ts) := hf
  clear hd he hf
  by_cases c1 : 1048576 < n
  · go_enter Try.func15, Try.ntmps15
    go_wp2
    go_ret
    exact ⟨⟨_, rfl⟩, rfl⟩
  go_enter Try.func15, Try.ntmps15
  go_wp2
  go_loop [9, 10] (fun t i => ∃ (k : Nat) (u : Int), k ≤ n ∧ i = .int .i64 k ∧ 0 ≤ u ∧ u ≤ 1048576 ∧ t = .int .i64 u) (fun _ i => n - (intOf i).toNat)
  case atStart => exact ⟨0, _, Nat.zero_le _, rfl, by omega, by omega, rfl⟩
  case round =>
    obtain ⟨k, u, hk, rfl, h0, h9, rfl⟩ := hrel
    by_cases hlt : k < n
    · obtain ⟨bb, off, s, rfl, _, hc, _, hsz⟩ := HD.out.at hlt
      by_cases hs1 : 1048576 < s.size
      · go_wp2
        go_ret
        exact ⟨⟨_, rfl⟩, rfl⟩
      · by_cases hs2 : 1048576 < u + s.size
        · go_wp2
          go_ret
          exact ⟨⟨_, rfl⟩, rfl⟩
        · go_wp2
          go_round
          case rel => exact ⟨k + 1, u + s.size, by omega, by go_num, by omega, by omega, rfl⟩
          case measure => simp [intOf]; omega
    · by_cases c2 : 1048576 < m
      · go_wp2
        go_ret
        exact ⟨⟨_, rfl⟩, rfl⟩
      by_cases c3 : 1048576 < u + m
      · go_wp2
        go_ret
        exact ⟨⟨_, rfl⟩, rfl⟩
      go_wp2
      go_loop [9, 11] (fun t i => ∃ (k : Nat) (u : Int), k ≤ m ∧ i = .int .i64 k ∧ 0 ≤ u ∧ u ≤ 1048576 ∧ t = .int .i64 u) (fun _ i => m - (intOf i).toNat)
      case atStart => exact ⟨0, _, Nat.zero_le _, rfl, by omega, by omega, rfl⟩
      case round =>
        clear h0 h9 hk hlt c3
        obtain ⟨k, u, hk, rfl, h0, h9, rfl⟩ := hrel
        by_cases hlt : k < m
        · obtain ⟨bb, off, s, rfl, _, hc, _, hsz⟩ := HE.out.at hlt
          by_cases hs1 : 1048576 < s.size
          · go_wp2
            go_ret
            exact ⟨⟨_, rfl⟩, rfl⟩
          · by_cases hs2 : 1048576 < u + s.size
            · go_wp2
              go_ret
              exact ⟨⟨_, rfl⟩, rfl⟩
            · go_wp2
              go_round
              case rel => exact ⟨k + 1, u + s.size, by omega, by go_num, by omega, by omega, rfl⟩
              case measure => simp [intOf]; omega
        · by_cases c4 : 1048576 < l
          · go_wp2
            go_ret
            exact ⟨⟨_, rfl⟩, rfl⟩
          by_cases c5 : 1048576 < u + l
          · go_wp2
            go_ret
            exact ⟨⟨_, rfl⟩, rfl⟩
          go_wp2
          go_loop [9, 12] (fun t i => ∃ (k : Nat) (u : Int), k ≤ l ∧ i = .int .i64 k ∧ 0 ≤ u ∧ u ≤ 1048576 ∧ t = .int .i64 u) (fun _ i => l - (intOf i).toNat)
          case atStart => exact ⟨0, _, Nat.zero_le _, rfl, by omega, by omega, rfl⟩
          case round =>
            clear h0 h9 hk hlt c5
            obtain ⟨k, u, hk, rfl, h0, h9, rfl⟩ := hrel
            by_cases hlt : k < l
            · obtain ⟨bb, off, s, rfl, _, hc, _, hsz⟩ := HF.out.at hlt
              by_cases hs1 : 1048576 < s.size
              · go_wp2
                go_ret
                exact ⟨⟨_, rfl⟩, rfl⟩
              · by_cases hs2 : 1048576 < u + s.size
                · go_wp2
                  go_ret
                  exact ⟨⟨_, rfl⟩, rfl⟩
                · go_wp2
                  go_round
                  case rel => exact ⟨k + 1, u + s.size, by omega, by go_num, by omega, by omega, rfl⟩
                  case measure => simp [intOf]; omega
            · go_wp2
              go_ret
              exact ⟨⟨_, rfl⟩, rfl⟩
end Go.Proofs.Qxb6617077a
