/- Seat b6617053aF. FnSkipLiteralExactTextOnly: outside its bounds; conversions between bytes and strings. -/
import Derived.Test.Qxb6617053aFmtLit
import Derived.Test.Qxb6617053aFmtCopy
import Derived.Deep.DeepCutAuto
namespace Go.Proofs.Qxb6617053aFmt
open Go.RowKit Go.Extern.Stop Go.Stop Go.Extern

set_option maxHeartbeats 400000 in
theorem zz15_any (a0 : Option Addr) (len cap : Nat) (i n p x : Value) (w : World) (hl : len ≤ maxLen)  :
    Calls Tryf.prog 15 #[.slice a0 len cap, i, n, p, x] w fun e w' => e = .returned (.bool (decide (len ≤ 1048576))) ∧ w' = w := by
  unfold maxLen at *
  by_cases h : len ≤ 1048576
  · go_enter Tryf.func15, Tryf.ntmps15
    go_wp2
    go_ret
    exact ⟨by simp [h], rfl⟩
  · have h' : 1048576 < len := by omega
    go_enter Tryf.func15, Tryf.ntmps15
    go_wp2
    go_ret
    exact ⟨by simp; omega, rfl⟩

theorem zz15_yes (a0 : Option Addr) (len cap : Nat) (i n p x : Value) (w : World) (hl : len ≤ 1048576)  :
    Calls Tryf.prog 15 #[.slice a0 len cap, i, n, p, x] w fun e w' => e = .returned (.bool true) ∧ w' = w := by
  have := zz15_any a0 len cap i n p x w (by unfold maxLen; omega)
  rwa [decide_eq_true hl] at this

set_option maxRecDepth 100000 in
set_option maxHeartbeats 1000000 in
theorem exact_out (a0 : Option Addr) (len cap : Nat) (i n : Int) (p x : Value) (w : World) (hl : len ≤ maxLen) 
    (hout : ¬ (len ≤ 1048576 ∧ 0 ≤ i ∧ i ≤ (len : Int) ∧ 0 ≤ n ∧ n ≤ 65536 ∧ n ≤ (len : Int) - i)) :
    Calls Tryf.prog 6 #[.slice a0 len cap, .int .i64 i, .int .i64 n, p, x] w fun e w' => e = .returned (.bool true) ∧ Below w.heap.size w w' := by
  by_cases c1 : len ≤ 1048576
  case neg =>
    have hd : decide (len ≤ 1048576) = false := by simpa using c1
    have HZ : Hid (∀ i n p x w, Calls Tryf.prog 15 #[.slice a0 len cap, i, n, p, x] w fun e w' => e = .returned (.bool false) ∧ w' = w) := by
      intro i n p x w
      have := zz15_any a0 len cap i n p x w hl
      rwa [hd] at this
    clear hout hd
    go_enter Tryf.func6, Tryf.ntmps6
    go_wp2_with (go_at_call 15; refine (HZ.out _ _ _ _ _).mono ?_; rintro e w' ⟨rfl, rfl⟩)
    go_ret
    exact ⟨rfl, Below.refl _ _⟩
  by_cases c2 : i < 0
  · clear hout
    have c2' : decide (i < 0) = true := by simpa using c2
    go_enter Tryf.func6, Tryf.ntmps6
    go_wp2_with (go_at_call 15; refine (zz15_yes a0 len cap _ _ _ _ _ c1).mono ?_; rintro e w' ⟨rfl, rfl⟩)
    go_ret
    exact ⟨rfl, Below.refl _ _⟩
  by_cases c3 : (len : Int) < i
  · clear hout
    go_enter Tryf.func6, Tryf.ntmps6
    go_wp2_with (go_at_call 15; refine (zz15_yes a0 len cap _ _ _ _ _ c1).mono ?_; rintro e w' ⟨rfl, rfl⟩)
    go_ret
    exact ⟨rfl, Below.refl _ _⟩
  by_cases c4 : n < 0
  · clear hout
    have c4' : decide (n < 0) = true := by simpa using c4
    go_enter Tryf.func6, Tryf.ntmps6
    go_wp2_with (go_at_call 15; refine (zz15_yes a0 len cap _ _ _ _ _ c1).mono ?_; rintro e w' ⟨rfl, rfl⟩)
    go_ret
    exact ⟨rfl, Below.refl _ _⟩
  by_cases c5 : 65536 < n
  · clear hout
    go_enter Tryf.func6, Tryf.ntmps6
    go_wp2_with (go_at_call 15; refine (zz15_yes a0 len cap _ _ _ _ _ c1).mono ?_; rintro e w' ⟨rfl, rfl⟩)
    go_ret
    exact ⟨rfl, Below.refl _ _⟩
  have c6 : (len : Int) - i < n := by omega
  clear hout
  go_enter Tryf.func6, Tryf.ntmps6
  go_wp2_with (go_at_call 15; refine (zz15_yes a0 len cap _ _ _ _ _ c1).mono ?_; rintro e w' ⟨rfl, rfl⟩)
  go_ret
  exact ⟨rfl, Below.refl _ _⟩

/-- The bytes that a slice's row holds, as a string: the row lies at the head of its block. -/
theorem conv_whole (w : World) (b : Nat) (l : List UInt8) (n c : Nat) (hn : l.length = n) (hc : ∀ j, j < l.length → w.cell? ⟨b, j, none⟩ = some (.int .u8 ((l.getD j 0).toNat : Int))) :
    (convert 22 9 (.slice (some ⟨b, 0, none⟩) n c)).run Tryf.prog w = .ok (.string ⟨l.toArray⟩) w := by
  have := conv_part w b 0 l 0 n c (by simpa using hc) (by omega)
  rw [Nat.zero_add] at this
  rw [this]
  simp [← hn]

theorem conv_one (w : World) (x : UInt8) :
    (convert 22 9 (.slice (some ⟨w.heap.size, 0, none⟩) 1 1)).run Tryf.prog (w.alloc (.cells #[.int .u8 (x.toNat : Int)] 5)) = .ok (.string ⟨#[x]⟩) (w.alloc (.cells #[.int .u8 (x.toNat : Int)] 5)) := by
  have := conv_whole (w.alloc (.cells #[.int .u8 (x.toNat : Int)] 5)) w.heap.size [x] 1 1 rfl (by
    intro j hj
    obtain rfl : j = 0 := by simp at hj; omega
    rw [World.cell?_alloc_mark]
    rfl)
  exact this

theorem bytes_of (w : World) (nm : ByteArray) (l : List UInt8) (h : nm.data.toList = l) :
    ∃ c w2, (convert 9 22 (.string nm)).run Tryf.prog w = .ok (.slice (some ⟨w.heap.size, 0, none⟩) nm.size c) w2 ∧ (∀ j, j < l.length → w2.cell? ⟨w.heap.size, j, none⟩ = some (.int .u8 ((l.getD j 0).toNat : Int))) ∧
      (∀ j, j < l.length → w2.frozen? ⟨w.heap.size, j, none⟩ = false) ∧ Below w.heap.size w w2 := by
  subst h
  have hrun := run_bytes_of_string (P := Tryf.prog) w 9 22 5 nm Tryf.underlying9 Tryf.underlying22 Tryf.underlying5
  refine ⟨_, _, hrun, ?_, ?_, (Below.refl _ w).drew.alloc (Nat.le_refl _) _⟩
  · intro j hj
    have hj' : j < nm.data.size := by simpa using hj
    have := World.cell?_alloc_mark w.drew (bytesRow nm (grownCap w nm.size 0 5)) 5 ((bytesRow nm (grownCap w nm.size 0 5)).size, (bytesRow nm (grownCap w nm.size 0 5)).size + 1) j
    refine this.trans ?_
    rw [bytesRow_at _ _ _ hj']
    simp [List.getD, Array.getElem?_eq_getElem hj']
  · intro j hj
    have hj' : j < nm.data.size := by simpa using hj
    have := World.frozen?_alloc_mark w.drew (bytesRow nm (grownCap w nm.size 0 5)) 5 (bytesRow nm (grownCap w nm.size 0 5)).size ((bytesRow nm (grownCap w nm.size 0 5)).size + 1) j
    refine this.trans ?_
    have hb : nm.data.size ≤ (bytesRow nm (grownCap w nm.size 0 5)).size := by simp [bytesRow]
    simp
    omega

theorem set_cell (w2 : World) (b p : Nat) (x : UInt8) (l : List UInt8) (hp : p < l.length) (hc : ∀ j, j < l.length → w2.cell? ⟨b, j, none⟩ = some (.int .u8 ((l.getD j 0).toNat : Int))) :
    ∀ j, j < (l.set p x).length → (w2.setCell ⟨b, p, none⟩ (.int .u8 (x.toNat : Int))).cell? ⟨b, j, none⟩ = some (.int .u8 (((l.set p x).getD j 0).toNat : Int)) := by
  intro j hj
  rw [List.length_set] at hj
  by_cases h : j = p
  · subst h
    rw [World.cell?_setCell_same _ _ _ (hc j hj)]
    simp [List.getD, hj]
  · rw [World.cell?_setCell_other _ _ _ _ (by simp), hc j hj]
    simp [List.getD, List.getElem?_set_ne (Ne.symm h)]

end Go.Proofs.Qxb6617053aFmt
