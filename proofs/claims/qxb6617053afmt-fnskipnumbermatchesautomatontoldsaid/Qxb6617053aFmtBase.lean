/- Seat b6617053aF. Shared: the closed facts on fmt's stopped front, syntaxError's contract, a slice of bytes in memory. -/
import Derived.Test.Qxb6617053aFmtRows
import Derived.WalkKit
import Derived.WalkSpells
import Derived.WalkLawsBesides
import Derived.Stop.FmtLaws
import GoSem.ClaimData
namespace Go.Proofs.Qxb6617053aFmt
open Go.RowKit Go.Extern.Stop Go.Stop Go.Extern

theorem call23 (args : Array Value) (w : World) : (callFunc 23 args).run Tryf.prog w = ((FmtStop.errorf #[9, 44] #[27] args).run Tryf.prog w).andThen fun v w' => .ok (.value v) w' :=
  run_callFunc_extern Tryf.func23 (by kernel_rfl) (by kernel_rfl) (by kernel_rfl) (by kernel_rfl) args w
theorem guardF (name : String) (w : World) : (FmtStop.guard name).run Tryf.prog w = .ok () w := by kernel_rfl
theorem fmt0 : FmtStop.printed? ⟨#[110, 111, 116, 32, 99, 111, 109, 112, 97, 99, 116, 32, 74, 83, 79, 78, 58, 32, 37, 113, 32, 97, 116, 32, 98, 121, 116, 101, 32, 37, 100]⟩ 2 = some [(0, 113, false), (1, 100, false)] := by kernel_rfl
theorem fmt0r (w : World) : (FmtDoors.printed ⟨#[110, 111, 116, 32, 99, 111, 109, 112, 97, 99, 116, 32, 74, 83, 79, 78, 58, 32, 37, 113, 32, 97, 116, 32, 98, 121, 116, 101, 32, 37, 100]⟩ 2).run Tryf.prog w = .ok [(0, 113, false), (1, 100, false)] w := by kernel_rfl
def shape5 : List UInt8 := [6, 5, 0, 0, 0, 0, 0, 0, 0, 117, 105, 110, 116, 56]
def shape3 : List UInt8 := [5, 3, 0, 0, 0, 0, 0, 0, 0, 105, 110, 116]
theorem op5 (name : String) (x : Int) (w : World) : (FmtStop.operand name true 113 false (.iface 5 (.int .u8 x))).run Tryf.prog w = .ok (shape5, Go.Extern.Stop.digits 8 (x % 2 ^ 64).toNat) w := by kernel_rfl
theorem op3 (name : String) (x : Int) (w : World) : (FmtStop.operand name true 100 false (.iface 3 (.int .i64 x))).run Tryf.prog w = .ok (shape3, Go.Extern.Stop.digits 8 (x % 2 ^ 64).toNat) w := by kernel_rfl
theorem op5f (name : String) (x : Int) (w : World) : (FmtStop.operand name false 113 false (.iface 5 (.int .u8 x))).run Tryf.prog w = .ok (shape5, Go.Extern.Stop.digits 8 (x % 2 ^ 64).toNat) w := by kernel_rfl
theorem op3f (name : String) (x : Int) (w : World) : (FmtStop.operand name false 100 false (.iface 3 (.int .i64 x))).run Tryf.prog w = .ok (shape3, Go.Extern.Stop.digits 8 (x % 2 ^ 64).toNat) w := by kernel_rfl
theorem ptr41 (w : World) : (FmtStop.ptrTo "errors.errorString").run Tryf.prog w = .ok 41 w := by kernel_rfl
theorem elem41 (w : World) : (elemOf 41).run Tryf.prog w = .ok 43 w := by kernel_rfl
theorem isError41 (w : World) : (FmtDoors.textMethod 41 "Error").run Tryf.prog w = .ok true w := by kernel_rfl

/-- An error that is not nil, as errors.New and fmt.Errorf make it. -/
def Err (v : Value) : Prop := ∃ a, v = .iface 41 (.pointer (some a))

set_option maxHeartbeats 400000 in
theorem syn_end (a : Option Addr) (len cap : Nat) (w : World) :
    Calls Tryf.prog 20 #[.slice a len cap, .int .i64 (len : Int)] w fun e w' => (∃ v, Err v ∧ e = .returned v) ∧ Below w.heap.size w w' := by
  go_enter Tryf.func20, Tryf.ntmps20
  go_wp2
  go_ret
  exact ⟨⟨_, ⟨_, rfl⟩, rfl⟩, (Below.refl _ w).alloc (Nat.le_refl _) _⟩

set_option maxHeartbeats 400000 in
theorem syn_mid (F : Interp) (b off len cap : Nat) (i : Nat) (c : Int) (w : World) (hF : F.answers w.tape) (hi : i < len) (hl : len ≤ 1048576) (hc : w.cell? ⟨b, off + i, none⟩ = some (.int .u8 c)) :
    Calls Tryf.prog 20 #[.slice (some ⟨b, off, none⟩) len cap, .int .i64 (i : Int)] w fun e w' => (∃ v, Err v ∧ e = .returned v) ∧ Below w.heap.size w w' := by
  have hF' := answers_open hF
  have f1 := call23
  have f2 := guardF
  have f3 := fmt0
  have f4 := fmt0r
  have f5 := op5
  have f6 := op3
  have f7 := ptr41
  have f8 := elem41
  have f9 := isError41
  have f10 := op5f
  have f11 := op3f
  go_enter Tryf.func20, Tryf.ntmps20
  go_wp2
  go_ret
  exact ⟨⟨_, ⟨_, rfl⟩, rfl⟩, (((Below.refl _ w).alloc (Nat.le_refl _) _).alloc (by simp) _).drew⟩

/-- A slice of bytes in memory: nil, or a row of cells; 'xs' its bytes. -/
def Bts (w : World) (a : Option Addr) (len cap : Nat) (xs : List UInt8) : Prop :=
  xs.length = len ∧ len ≤ 1048576 ∧ len ≤ cap ∧ cap ≤ 9223372036854775807 ∧
  ((a = none ∧ len = 0 ∧ cap = 0) ∨ ∃ b off, a = some ⟨b, off, none⟩ ∧ b < w.heap.size ∧ ∀ j, j < len → w.cell? ⟨b, off + j, none⟩ = some (.int .u8 ((xs.getD j 0).toNat : Int)))

theorem Bts.later {w w' : World} {a : Option Addr} {len cap : Nat} {xs : List UInt8} (h : Bts w a len cap xs) (hb : Below w.heap.size w w') : Bts w' a len cap xs := by
  obtain ⟨h1, h2, h3, h4, h5⟩ := h
  refine ⟨h1, h2, h3, h4, ?_⟩
  rcases h5 with h5 | ⟨b, off, e, hlt, hc⟩
  · exact .inl h5
  · exact .inr ⟨b, off, e, Nat.lt_of_lt_of_le hlt hb.size, fun j hj => by rw [hb.cell (p := ⟨b, off + j, none⟩) hlt]; exact hc j hj⟩

theorem nums_bytes (l : List UInt8) : strOfNums (l.map fun c => (c.toNat : Int)) = ⟨l.toArray⟩ := by
  unfold strOfNums
  congr 2
  rw [List.map_map]
  conv => rhs; rw [← List.map_id l]
  apply List.map_congr_left
  intro c _
  simp

theorem conv_part (w : World) (b off : Nat) (xs : List UInt8) (i n c : Nat) (hc : ∀ j, j < xs.length → w.cell? ⟨b, off + j, none⟩ = some (.int .u8 ((xs.getD j 0).toNat : Int))) (h : i + n ≤ xs.length) :
    (convert 22 9 (.slice (some ⟨b, off + i, none⟩) n c)).run Tryf.prog w = .ok (.string ⟨((xs.drop i).take n).toArray⟩) w := by
  rw [← nums_bytes]
  refine run_convert_bytes_arg (P := Tryf.prog) w 22 5 Tryf.underlying22 Tryf.underlying5 b (off + i) n c _ (by simp; omega) ?_ 9 Tryf.underlying9
  intro j hj
  have := hc (i + j) (by omega)
  rw [Nat.add_assoc, this]
  congr 2
  simp only [List.getD_eq_getElem?_getD, List.getElem?_map, List.getElem?_take, List.getElem?_drop, if_pos hj]
  rw [List.getElem?_eq_getElem (show i + j < xs.length by omega)]
  simp

theorem syn (F : Interp) (a : Option Addr) (len cap : Nat) (xs : List UInt8) (i : Nat) (w : World) (hF : F.answers w.tape) (hd : Bts w a len cap xs) (hi : i ≤ len) :
    Calls Tryf.prog 20 #[.slice a len cap, .int .i64 (i : Int)] w fun e w' => (∃ v, Err v ∧ e = .returned v) ∧ Below w.heap.size w w' := by
  obtain ⟨hx, hl, hcap, hcap2, hd⟩ := hd
  by_cases he : i = len
  · subst he; exact syn_end a i cap w
  · rcases hd with ⟨rfl, rfl, rfl⟩ | ⟨b, off, rfl, _, hc⟩
    · omega
    · exact syn_mid F b off len cap i _ w hF (by omega) hl (hc i (by omega))

end Go.Proofs.Qxb6617053aFmt
