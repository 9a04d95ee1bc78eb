/- Seat b6617053aF. skipLiteral and ZZskipLiteral: their contracts. -/
import Derived.Test.Qxb6617053aFmtBase
namespace Go.Proofs.Qxb6617053aFmt
open Go.RowKit Go.Extern.Stop Go.Stop Go.Extern

theorem size_of_part (l : List UInt8) : (⟨l.toArray⟩ : ByteArray).size = l.length := by simp [ByteArray.size]
theorem size_zero {nm : ByteArray} (h : nm.size = 0) : nm = ⟨#[]⟩ := by
  obtain ⟨d⟩ := nm
  simp [ByteArray.size] at h
  simp [h]

set_option maxHeartbeats 400000 in
theorem lit_yes (a : Option Addr) (len cap : Nat) (xs : List UInt8) (i : Nat) (nm : ByteArray) (w : World) (hd : Bts w a len cap xs) (hi : i + nm.size ≤ len) (hm : (⟨((xs.drop i).take nm.size).toArray⟩ : ByteArray) = nm) :
    Calls Tryf.prog 18 #[.slice a len cap, .int .i64 (i : Int), .string nm] w fun e w' => e = .returned (.tuple #[.int .i64 ((i : Int) + (nm.size : Int)), .nilIface]) ∧ w' = w := by
  obtain ⟨hx, hl, hcap, hcap2, hd⟩ := hd
  rcases hd with ⟨rfl, rfl, rfl⟩ | ⟨b, off, rfl, _, hc⟩
  · obtain rfl : i = 0 := by omega
    have hz : nm.size = 0 := by omega
    have hcv : (convert 22 9 (.slice none 0 0)).run Tryf.prog w = .ok (.string nm) w := by
      rw [run_convert_bytes_nil (P := Tryf.prog) w 22 5 Tryf.underlying22 Tryf.underlying5 0 0 9 Tryf.underlying9]
      rw [size_zero hz]
      rfl
    clear hm hi
    go_enter Tryf.func18, Tryf.ntmps18
    go_wp2
    go_ret2
    exact ⟨by simp [hz], rfl⟩
  · by_cases hlt : i < cap
    · have hne : cap ≠ i := by omega
      have hcv := conv_part w b off xs i nm.size (cap - i) (by rw [hx]; exact hc) (by omega)
      rw [hm] at hcv
      clear hm hc
      go_enter Tryf.func18, Tryf.ntmps18
      go_wp2
      go_ret2
      exact ⟨by simp, rfl⟩
    · obtain rfl : i = cap := by omega
      obtain rfl : i = len := by omega
      have hz : nm.size = 0 := by omega
      have hcv := conv_part w b off xs 0 0 0 (by rw [hx]; exact hc) (by omega)
      have e1 : (⟨((xs.drop 0).take 0).toArray⟩ : ByteArray) = nm := by rw [size_zero hz]; simp
      rw [e1] at hcv
      simp only [Nat.add_zero] at hcv
      clear hm hc e1
      go_enter Tryf.func18, Tryf.ntmps18
      go_wp2
      go_ret2
      exact ⟨by simp [hz], rfl⟩

set_option maxHeartbeats 400000 in
/-- Too few bytes are left. -/
theorem lit_short (F : Interp) (a : Option Addr) (len cap : Nat) (xs : List UInt8) (i : Nat) (nm : ByteArray) (w : World) (hF : F.answers w.tape) (hd : Bts w a len cap xs) (hi : i ≤ len) (hn : nm.size ≤ 1048576) (hs : len < i + nm.size) :
    Calls Tryf.prog 18 #[.slice a len cap, .int .i64 (i : Int), .string nm] w fun e w' => (∃ v, Err v ∧ e = .returned (.tuple #[.int .i64 (i : Int), v])) ∧ Below w.heap.size w w' := by
  have hl : len ≤ 1048576 := hd.2.1
  have HD : Hid (Bts w a len cap xs) := hd
  clear hd
  go_enter Tryf.func18, Tryf.ntmps18
  go_wp2_with (go_at_call 20; refine (syn F a len cap xs i _ (by exact hF) (by exact HD.out) hi).mono ?_; rintro e w' ⟨⟨v, hv, rfl⟩, hb⟩)
  go_ret2
  exact ⟨⟨v, hv, rfl⟩, hb⟩

set_option maxHeartbeats 400000 in
/-- Another text stands there. -/
theorem lit_other (F : Interp) (b off len cap : Nat) (xs : List UInt8) (i : Nat) (nm : ByteArray) (w : World) (hF : F.answers w.tape) (hd : Bts w (some ⟨b, off, none⟩) len cap xs) (hi : i + nm.size ≤ len) (S : ByteArray)
    (hS : (⟨((xs.drop i).take nm.size).toArray⟩ : ByteArray) = S) (hne : S ≠ nm) :
    Calls Tryf.prog 18 #[.slice (some ⟨b, off, none⟩) len cap, .int .i64 (i : Int), .string nm] w fun e w' => (∃ v, Err v ∧ e = .returned (.tuple #[.int .i64 (i : Int), v])) ∧ Below w.heap.size w w' := by
  have hz : nm.size ≠ 0 := by
    intro hz
    apply hne
    rw [← hS, size_zero hz]
    simp [ByteArray.size]
  have HD : Hid (Bts w (some ⟨b, off, none⟩) len cap xs) := hd
  have hx := hd.1
  have hl := hd.2.1
  have hcap := hd.2.2.1
  have hcap2 := hd.2.2.2.1
  have hcv : (convert 22 9 (.slice (some ⟨b, off + i, none⟩) nm.size (cap - i))).run Tryf.prog w = .ok (.string S) w := by
    rw [← hS]
    refine conv_part w b off xs i nm.size (cap - i) ?_ (by omega)
    rcases hd.2.2.2.2 with ⟨h, _⟩ | ⟨b', off', e, _, hc⟩
    · cases h
    · cases e; rw [hx]; exact hc
  have hnc : cap ≠ i := by omega
  have hb1 : (S.toList == nm.toList) = false := by
    rw [beq_eq_false_iff_ne, ByteArray.toList_eq, ByteArray.toList_eq]
    exact fun h => hne (WideShapes.bytes_inj h)
  clear hd hS
  go_enter Tryf.func18, Tryf.ntmps18
  go_wp2_with (go_at_call 20; refine (syn F _ len cap xs i _ (by exact hF) (by exact HD.out) (by omega)).mono ?_; rintro e w' ⟨⟨v, hv, rfl⟩, hb⟩)
  go_ret2
  exact ⟨⟨v, hv, rfl⟩, hb⟩

/-- Do the bytes 'l' stand at place i? -/
def AtB (xs : List UInt8) (i : Nat) (l : List UInt8) : Bool := decide ((xs.drop i).take l.length = l)

theorem AtB_fits {xs l : List UInt8} {i : Nat} (hi : i ≤ xs.length) (h : AtB xs i l = true) : i + l.length ≤ xs.length := by
  unfold AtB at h
  have := congrArg List.length (of_decide_eq_true h)
  simp at this
  omega

theorem size_data (nm : ByteArray) : nm.data.toList.length = nm.size := by rw [Array.length_toList]; rfl

theorem part_eq (xs : List UInt8) (i : Nat) (nm : ByteArray) : (⟨((xs.drop i).take nm.size).toArray⟩ : ByteArray) = nm ↔ AtB xs i nm.data.toList = true := by
  unfold AtB
  rw [decide_eq_true_iff, size_data]
  constructor
  · intro h
    have := congrArg (fun b : ByteArray => b.data.toList) h
    simpa using this
  · intro h
    apply WideShapes.bytes_inj
    simpa using h

theorem lit18_yes (a : Option Addr) (len cap : Nat) (xs : List UInt8) (i : Nat) (nm : ByteArray) (w : World) (hd : Bts w a len cap xs) (hi : i ≤ len) (hm : AtB xs i nm.data.toList = true) :
    Calls Tryf.prog 18 #[.slice a len cap, .int .i64 (i : Int), .string nm] w fun e w' => e = .returned (.tuple #[.int .i64 ((i : Int) + (nm.size : Int)), .nilIface]) ∧ w' = w := by
  have hx := hd.1
  have := AtB_fits (by omega) hm
  rw [size_data] at this
  exact lit_yes a len cap xs i nm w hd (by omega) ((part_eq xs i nm).2 hm)

theorem lit18_no (F : Interp) (a : Option Addr) (len cap : Nat) (xs : List UInt8) (i : Nat) (nm : ByteArray) (w : World) (hF : F.answers w.tape) (hd : Bts w a len cap xs) (hi : i ≤ len) (hn : nm.size ≤ 1048576) (hm : AtB xs i nm.data.toList = false) :
    Calls Tryf.prog 18 #[.slice a len cap, .int .i64 (i : Int), .string nm] w fun e w' => (∃ v, Err v ∧ e = .returned (.tuple #[.int .i64 (i : Int), v])) ∧ Below w.heap.size w w' := by
  by_cases hs : len < i + nm.size
  · exact lit_short F a len cap xs i nm w hF hd hi hn hs
  · have hne : (⟨((xs.drop i).take nm.size).toArray⟩ : ByteArray) ≠ nm := by
      intro h
      rw [part_eq, hm] at h
      cases h
    rcases hd.2.2.2.2 with ⟨rfl, rfl, _⟩ | ⟨b, off, rfl, _, _⟩
    · exfalso
      apply hne
      rw [size_zero (nm := nm) (by omega)]
      simp [ByteArray.size]
    · exact lit_other F b off len cap xs i nm w hF hd (by omega) _ rfl hne

set_option maxHeartbeats 400000 in
theorem zzlit_yes (a : Option Addr) (len cap : Nat) (xs : List UInt8) (i : Nat) (nm : ByteArray) (w : World) (hd : Bts w a len cap xs) (hi : i ≤ len) (hm : AtB xs i nm.data.toList = true) :
    Calls Tryf.prog 14 #[.slice a len cap, .int .i64 (i : Int), .string nm] w fun e w' => e = .returned (.tuple #[.int .i64 ((i : Int) + (nm.size : Int)), .nilIface]) ∧ w' = w := by
  have HC : Hid (Calls Tryf.prog 18 #[.slice a len cap, .int .i64 (i : Int), .string nm] w fun e w' => e = .returned (.tuple #[.int .i64 ((i : Int) + (nm.size : Int)), .nilIface]) ∧ w' = w) := lit18_yes a len cap xs i nm w hd hi hm
  clear hd hm
  go_enter Tryf.func14, Tryf.ntmps14
  go_wp2_with (go_at_call 18; refine HC.out.mono ?_; rintro e w' ⟨rfl, rfl⟩)
  go_ret2
  exact ⟨rfl, rfl⟩

set_option maxHeartbeats 400000 in
theorem zzlit_no (F : Interp) (a : Option Addr) (len cap : Nat) (xs : List UInt8) (i : Nat) (nm : ByteArray) (w : World) (hF : F.answers w.tape) (hd : Bts w a len cap xs) (hi : i ≤ len) (hn : nm.size ≤ 1048576) (hm : AtB xs i nm.data.toList = false) :
    Calls Tryf.prog 14 #[.slice a len cap, .int .i64 (i : Int), .string nm] w fun e w' => (∃ v, Err v ∧ e = .returned (.tuple #[.int .i64 (i : Int), v])) ∧ Below w.heap.size w w' := by
  have HC : Hid (Calls Tryf.prog 18 #[.slice a len cap, .int .i64 (i : Int), .string nm] w fun e w' => (∃ v, Err v ∧ e = .returned (.tuple #[.int .i64 (i : Int), v])) ∧ Below w.heap.size w w') := lit18_no F a len cap xs i nm w hF hd hi hn hm
  clear hd hm
  go_enter Tryf.func14, Tryf.ntmps14
  go_wp2_with (go_at_call 18; refine HC.out.mono ?_; rintro e w' ⟨⟨v, hv, rfl⟩, hb⟩)
  go_ret2
  exact ⟨⟨v, hv, rfl⟩, hb⟩

/-- The same, the place written as the walk writes it. -/
theorem zzlit_yes' (a : Option Addr) (len cap : Nat) (xs : List UInt8) (v : Int) (i : Nat) (nm : ByteArray) (w : World) (hv : v = i) (hd : Bts w a len cap xs) (hi : i ≤ len) (hm : AtB xs i nm.data.toList = true) :
    Calls Tryf.prog 14 #[.slice a len cap, .int .i64 v, .string nm] w fun e w' => e = .returned (.tuple #[.int .i64 (v + (nm.size : Int)), .nilIface]) ∧ w' = w := by
  subst hv
  exact zzlit_yes a len cap xs i nm w hd hi hm

theorem zzlit_no' (F : Interp) (a : Option Addr) (len cap : Nat) (xs : List UInt8) (v : Int) (i : Nat) (nm : ByteArray) (w : World) (hv : v = i) (hF : F.answers w.tape) (hd : Bts w a len cap xs) (hi : i ≤ len) (hn : nm.size ≤ 1048576) (hm : AtB xs i nm.data.toList = false) :
    Calls Tryf.prog 14 #[.slice a len cap, .int .i64 v, .string nm] w fun e w' => (∃ p, e = .returned (.tuple #[.int .i64 v, .iface 41 (.pointer (some p))])) ∧ Below w.heap.size w w' := by
  subst hv
  refine (zzlit_no F a len cap xs i nm w hF hd hi hn hm).mono ?_
  rintro e w' ⟨⟨v, ⟨p, rfl⟩, rfl⟩, hb⟩
  exact ⟨⟨p, rfl⟩, hb⟩
end Go.Proofs.Qxb6617053aFmt
