/- Seat b6617077a. Slices of strings in memory; contains, member, addLen, addWords, addStrs, the size test: their contracts. -/
import Derived.Test.Qxb6617077aRows
import Derived.Test.Qxb6617077aPtLaw
import Derived.WalkKit
import Derived.WalkSpells
import Derived.WalkLawsBesides
import Derived.Deep.DeepCutAuto
import Derived.Deep.CutBlock
import Derived.Deep.QuietTactic
import Derived.BigQuiet
import Derived.Laws.CopyOwn
namespace Go.Proofs.Qxb6617077a
open Go.RowKit

/-- A slice of strings in memory: 'ss' its strings (of an empty slice nothing is asked). -/
def Strs (w : World) (a : Option Addr) (len : Nat) (ss : List ByteArray) : Prop :=
  ss.length = len ∧ (∀ s ∈ ss, s.size ≤ 9223372036854775807) ∧
  (0 < len → ∃ b off, a = some ⟨b, off, none⟩ ∧ b < w.heap.size ∧ ∀ j, j < len → w.cell? ⟨b, off + j, none⟩ = some (.string (ss.getD j ByteArray.empty)))

theorem Strs.later {w w' : World} {a : Option Addr} {len : Nat} {ss : List ByteArray} (h : Strs w a len ss) (hb : Below w.heap.size w w') : Strs w' a len ss := by
  obtain ⟨h1, h2, h3⟩ := h
  refine ⟨h1, h2, fun hl => ?_⟩
  obtain ⟨b, off, e, hlt, hc⟩ := h3 hl
  exact ⟨b, off, e, Nat.lt_of_lt_of_le hlt hb.size, fun j hj => by rw [hb.cell (p := ⟨b, off + j, none⟩) hlt]; exact hc j hj⟩

/-- A place of it, and what lies there. -/
theorem Strs.at {w : World} {a : Option Addr} {len : Nat} {ss : List ByteArray} (h : Strs w a len ss) {k : Nat} (hk : k < len) :
    ∃ b off s, a = some ⟨b, off, none⟩ ∧ b < w.heap.size ∧ w.cell? ⟨b, off + k, none⟩ = some (.string s) ∧ ss.getD k ByteArray.empty = s ∧ s.size ≤ 9223372036854775807 := by
  obtain ⟨h1, h2, h3⟩ := h
  obtain ⟨b, off, e, hlt, hc⟩ := h3 (by omega)
  refine ⟨b, off, _, e, hlt, hc k hk, rfl, ?_⟩
  rw [List.getD_eq_getElem?_getD, List.getElem?_eq_getElem (by omega)]
  exact h2 _ (List.getElem_mem _)

theorem has_take_snoc (hs : List ByteArray) (x : ByteArray) (k : Nat) (h : k < hs.length) : has (hs.take (k + 1)) x = (has (hs.take k) x || ((hs.getD k ByteArray.empty).toList == x.toList)) := by
  rw [take_snoc hs k h]
  unfold has
  rw [List.any_append]
  simp

theorem has_of_take (hs : List ByteArray) (x : ByteArray) (k : Nat) (h : has (hs.take k) x = true) : has hs x = true := by
  unfold has at h ⊢
  rw [List.any_eq_true] at h ⊢
  obtain ⟨y, hy, e⟩ := h
  exact ⟨y, List.mem_of_mem_take hy, e⟩

set_option maxHeartbeats 400000 in
theorem has39 (a : Option Addr) (len cap : Nat) (hs : List ByteArray) (x : ByteArray) (w : World) (hd : Strs w a len hs) (hl : len ≤ 140737488355328) :
    Calls Try.prog 39 #[.slice a len cap, .string x] w fun e w' => e = .returned (.bool (has hs x)) ∧ w' = w := by
  have HD : Hid (Strs w a len hs) := hd
  clear hd
  go_enter Try.func39, Try.ntmps39
  go_wp2
  go_loop [9] (fun i => ∃ k : Nat, k ≤ len ∧ i = .int .i64 k ∧ Hid (has (hs.take k) x = false)) (fun i => len - (intOf i).toNat)
  case atStart => exact ⟨0, Nat.zero_le _, rfl, show _ = _ from rfl⟩
  case round =>
    obtain ⟨k, hk, rfl, HK⟩ := hrel
    by_cases hlt : k < len
    · obtain ⟨b, off, s, rfl, _, hc, hs', _⟩ := HD.out.at hlt
      have HS := has_take_snoc hs x k (by rw [HD.out.1]; exact hlt)
      rw [hs', HK.out, Bool.false_or] at HS
      clear hs'
      cases he : (s.toList == x.toList)
      · have H2 : Hid (has (hs.take (k + 1)) x = false) := HS.trans he
        clear HS
        go_wp2
        go_round
        case rel => exact ⟨k + 1, by omega, by go_num, H2⟩
        case measure => simp [intOf]; omega
      · have H2 : Hid (has hs x = true) := has_of_take hs x (k + 1) (HS.trans he)
        clear HS
        go_wp2
        go_ret
        exact ⟨by rw [H2.out]; rfl, rfl⟩
    · have H2 : Hid (has hs x = false) := by
        have := HK.out
        rwa [List.take_of_length_le (by rw [HD.out.1]; omega)] at this
      go_wp2
      go_ret
      exact ⟨by rw [H2.out]; rfl, rfl⟩
set_option maxHeartbeats 400000 in
theorem mem12 (a : Option Addr) (len cap : Nat) (hs : List ByteArray) (x : ByteArray) (w : World) (hd : Strs w a len hs) (hl : len ≤ 140737488355328) :
    Calls Try.prog 12 #[.slice a len cap, .string x] w fun e w' => e = .returned (.bool (has hs x)) ∧ w' = w := by
  have HD : Hid (Strs w a len hs) := hd
  clear hd
  go_enter Try.func12, Try.ntmps12
  go_wp2
  go_loop [9] (fun i => ∃ k : Nat, k ≤ len ∧ i = .int .i64 k ∧ Hid (has (hs.take k) x = false)) (fun i => len - (intOf i).toNat)
  case atStart => exact ⟨0, Nat.zero_le _, rfl, show _ = _ from rfl⟩
  case round =>
    obtain ⟨k, hk, rfl, HK⟩ := hrel
    by_cases hlt : k < len
    · obtain ⟨b, off, s, rfl, _, hc, hs', _⟩ := HD.out.at hlt
      have HS := has_take_snoc hs x k (by rw [HD.out.1]; exact hlt)
      rw [hs', HK.out, Bool.false_or] at HS
      clear hs'
      cases he : (s.toList == x.toList)
      · have H2 : Hid (has (hs.take (k + 1)) x = false) := HS.trans he
        clear HS
        go_wp2
        go_round
        case rel => exact ⟨k + 1, by omega, by go_num, H2⟩
        case measure => simp [intOf]; omega
      · have H2 : Hid (has hs x = true) := has_of_take hs x (k + 1) (HS.trans he)
        clear HS
        go_wp2
        go_ret
        exact ⟨by rw [H2.out]; rfl, rfl⟩
    · have H2 : Hid (has hs x = false) := by
        have := HK.out
        rwa [List.take_of_length_le (by rw [HD.out.1]; omega)] at this
      go_wp2
      go_ret
      exact ⟨by rw [H2.out]; rfl, rfl⟩

set_option maxHeartbeats 400000 in
theorem addLen_any (t n : Int) (w : World) (ht : 0 ≤ t) (ht2 : t ≤ 1048577) (hn : 0 ≤ n) (hn2 : n ≤ 9223372036854775807) :
    Calls Try.prog 18 #[.int .i64 t, .int .i64 n] w fun r w' => (∃ u, 0 ≤ u ∧ u ≤ 1048577 ∧ r = .returned (.int .i64 u)) ∧ w' = w := by
  by_cases h1 : 1048576 < t
  · have hd : decide (1048576 < t) = true := by simpa using h1
    go_enter Try.func18, Try.ntmps18
    go_wp2
    go_ret
    exact ⟨⟨_, by omega, by omega, rfl⟩, rfl⟩
  · by_cases h2 : 1048576 < n
    · go_enter Try.func18, Try.ntmps18
      go_wp2
      go_ret
      exact ⟨⟨_, by omega, by omega, rfl⟩, rfl⟩
    · by_cases h3 : 1048576 < t + n
      · go_enter Try.func18, Try.ntmps18
        go_wp2
        go_ret
        exact ⟨⟨_, by omega, by omega, rfl⟩, rfl⟩
      · go_enter Try.func18, Try.ntmps18
        go_wp2
        go_ret
        exact ⟨⟨t + n, by omega, by omega, rfl⟩, rfl⟩

set_option maxHeartbeats 400000 in
theorem addWords_any (t n : Int) (w : World) (ht : 0 ≤ t) (ht2 : t ≤ 1048577) (hn : 0 ≤ n) (hn2 : n ≤ 9223372036854775807) :
    Calls Try.prog 33 #[.int .i64 t, .int .i64 n] w fun r w' => (∃ u, 0 ≤ u ∧ u ≤ 1048577 ∧ r = .returned (.int .i64 u)) ∧ w' = w := by
  by_cases h1 : 1048576 < n
  · go_enter Try.func33, Try.ntmps33
    go_wp2
    go_ret
    exact ⟨⟨_, by omega, by omega, rfl⟩, rfl⟩
  · go_enter Try.func33, Try.ntmps33
    go_wp2_with fail
    refine (addLen_any _ _ _ (by omega) (by omega) (by omega) (by omega)).mono ?_
    rintro e w' ⟨⟨u, h0, h9, rfl⟩, rfl⟩
    go_wp2
    go_ret
    exact ⟨⟨u, h0, h9, rfl⟩, rfl⟩

set_option maxHeartbeats 400000 in
theorem addStrs_any (t : Int) (a : Option Addr) (len cap : Nat) (ss : List ByteArray) (w : World) (ht : 0 ≤ t) (ht2 : t ≤ 1048577) (hl : len ≤ 9223372036854775807) (hd : Strs w a len ss) :
    Calls Try.prog 10 #[.int .i64 t, .slice a len cap] w fun r w' => (∃ u, 0 ≤ u ∧ u ≤ 1048577 ∧ r = .returned (.int .i64 u)) ∧ w' = w := by
  have HD : Hid (Strs w a len ss) := hd
  clear hd
  go_enter Try.func10, Try.ntmps10
  go_wp2_with (go_at_call 33; refine (addWords_any _ _ _ (by omega) (by omega) (by omega) (by omega)).mono ?_; rintro e w' ⟨⟨u, h0, h9, rfl⟩, rfl⟩)
  go_loop [0, 13] (fun t i => ∃ (k : Nat) (u : Int), k ≤ len ∧ i = .int .i64 k ∧ 0 ≤ u ∧ u ≤ 1048577 ∧ t = .int .i64 u) (fun _ i => len - (intOf i).toNat)
  case atStart => exact ⟨0, u, Nat.zero_le _, rfl, h0, h9, rfl⟩
  case round =>
    clear h0 h9
    obtain ⟨k, u, hk, rfl, h0, h9, rfl⟩ := hrel
    by_cases hlt : k < len
    · obtain ⟨b, off, s, rfl, _, hc, _, hsz⟩ := HD.out.at hlt
      by_cases hu : 1048576 < u
      · go_wp2
        go_ret
        exact ⟨⟨u, h0, h9, rfl⟩, rfl⟩
      · go_wp2_with fail
        refine (addLen_any _ _ _ (by omega) (by omega) (by omega) (by omega)).mono ?_
        rintro e w' ⟨⟨u', g0, g9, rfl⟩, rfl⟩
        go_wp2
        go_round
        case rel => exact ⟨k + 1, u', by omega, by go_num, g0, g9, rfl⟩
        case measure => simp [intOf]; omega
    · go_wp2
      go_ret
      exact ⟨⟨u, h0, h9, rfl⟩, rfl⟩

/-- It returned a bool. -/
def SomeBool (r : Ending) : Prop := ∃ t, r = .returned (.bool t)

set_option maxRecDepth 100000 in
set_option maxHeartbeats 1000000 in
theorem zz9_any (a b : Option Addr) (n m ca cb : Nat) (ns hs : List ByteArray) (w : World) (hn : n ≤ 9223372036854775807) (hm : m ≤ 9223372036854775807) (hd : Strs w a n ns) (he : Strs w b m hs) :
    Calls Try.prog 9 #[.slice a n ca, .slice b m cb] w fun r w' => SomeBool r ∧ w' = w := by
  have HD : Hid (Strs w a n ns) := hd
  have HE : Hid (Strs w b m hs) := he
  clear hd he
  by_cases c1 : 1048576 < n
  · go_enter Try.func9, Try.ntmps9
    go_wp2
    go_ret
    exact ⟨⟨_, rfl⟩, rfl⟩
  go_enter Try.func9, Try.ntmps9
  go_wp2
  go_loop [5, 6] (fun t i => ∃ (k : Nat) (u : Int), k ≤ n ∧ i = .int .i64 k ∧ 0 ≤ u ∧ u ≤ 1048576 ∧ t = .int .i64 u) (fun _ i => n - (intOf i).toNat)
  case atStart => exact ⟨0, n, Nat.zero_le _, rfl, by omega, by omega, rfl⟩
  case round =>
    obtain ⟨k, u, hk, rfl, h0, h9, rfl⟩ := hrel
    by_cases hlt : k < n
    · obtain ⟨b, off, s, rfl, _, hc, _, hsz⟩ := HD.out.at hlt
      by_cases hs1 : 1048576 < s.size
      · go_wp2
        go_ret
        exact ⟨⟨_, rfl⟩, rfl⟩
      · by_cases hs2 : 1048576 < u + s.size
        · go_wp2
          go_ret
          exact ⟨⟨_, rfl⟩, rfl⟩
        · go_wp2
          go_round
          case rel => exact ⟨k + 1, u + s.size, by omega, by go_num, by omega, by omega, rfl⟩
          case measure => simp [intOf]; omega
    · by_cases c2 : 1048576 < m
      · go_wp2
        go_ret
        exact ⟨⟨_, rfl⟩, rfl⟩
      by_cases c3 : 1048576 < u + m
      · go_wp2
        go_ret
        exact ⟨⟨_, rfl⟩, rfl⟩
      go_wp2
      go_loop [5, 7] (fun t i => ∃ (k : Nat) (u : Int), k ≤ m ∧ i = .int .i64 k ∧ 0 ≤ u ∧ u ≤ 1048576 ∧ t = .int .i64 u) (fun _ i => m - (intOf i).toNat)
      case atStart => exact ⟨0, u + m, Nat.zero_le _, rfl, by omega, by omega, rfl⟩
      case round =>
        clear h0 h9 hk hlt c3
        obtain ⟨k, u, hk, rfl, h0, h9, rfl⟩ := hrel
        by_cases hlt : k < m
        · obtain ⟨b, off, s, rfl, _, hc, _, hsz⟩ := HE.out.at hlt
          by_cases hs1 : 1048576 < s.size
          · go_wp2
            go_ret
            exact ⟨⟨_, rfl⟩, rfl⟩
          · by_cases hs2 : 1048576 < u + s.size
            · go_wp2
              go_ret
              exact ⟨⟨_, rfl⟩, rfl⟩
            · go_wp2
              go_round
              case rel => exact ⟨k + 1, u + s.size, by omega, by go_num, by omega, by omega, rfl⟩
              case measure => simp [intOf]; omega
        · go_wp2
          go_ret
          exact ⟨⟨_, rfl⟩, rfl⟩
end Go.Proofs.Qxb6617077a
