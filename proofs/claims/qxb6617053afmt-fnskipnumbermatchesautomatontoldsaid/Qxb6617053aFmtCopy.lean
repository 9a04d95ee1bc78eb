/- Seat b6617053aF. The copy that each law makes first: 'zzc := make([]byte, len(data)); copy(zzc, data)': what lies in memory behind it. -/
import Derived.Test.Qxb6617053aFmtBase
import Derived.Laws.CopyOwn
namespace Go.Proofs.Qxb6617053aFmt
open Go.RowKit

/-- The bytes of a row of numbers. -/
def byts (zs : List Int) (len : Nat) : List UInt8 := (zs.take len).map fun z => UInt8.ofNat z.toNat

theorem byts_length (zs : List Int) (len : Nat) (h : len ≤ zs.length) : (byts zs len).length = len := by simp [byts]; omega

theorem byts_getD (zs : List Int) (len j : Nat) (hz : len ≤ zs.length) (hj : j < len) (hw : ∀ n ∈ zs, (Lit.int .u8 n).wf = true) : (((byts zs len).getD j 0).toNat : Int) = zs.getD j 0 := by
  have hj' : j < zs.length := by omega
  have hb := hw zs[j] (List.getElem_mem hj')
  simp [Lit.wf, IntKind.min, IntKind.max, IntKind.signed, IntKind.bits] at hb
  simp only [byts, List.getD_eq_getElem?_getD, List.getElem?_map, List.getElem?_take, if_pos hj, List.getElem?_eq_getElem hj', Option.map_some, Option.getD_some]
  rw [UInt8.toNat_ofNat']
  omega

theorem info5 : (Tryf.prog.info? 5).map (·.size) = some 1 := by kernel_rfl
theorem zero5 : (Tryf.prog.info? 5).bind (·.zero) = some (.int .u8 0) := by kernel_rfl
theorem bytes5 : (Tryf.prog.info? 5).map (·.bytes) = some 1 := by kernel_rfl

theorem made (w : World) (len : Nat) (h : len ≤ 1048576) :
    (Instr.makeSlice 22 (.int .i64 (len : Int)) (.int .i64 (len : Int))).run Tryf.prog w = .ok (.slice (some ⟨w.heap.size, 0, none⟩) len len) (w.alloc (.cells (madeCells #[.int .u8 0] len) 5)) := by
  cases hi : Tryf.prog.info? 5 with
  | none => have := info5; rw [hi] at this; cases this
  | some i =>
    have h1 : i.size = 1 := by have := info5; rw [hi] at this; simpa using this
    have h2 : i.zero = some (.int .u8 0) := by have := zero5; rw [hi] at this; simpa using this
    have h3 : i.bytes = 1 := by have := bytes5; rw [hi] at this; simpa using this
    have := run_make (P := Tryf.prog) w 22 5 i (.int .u8 0) Tryf.underlying22 hi h2 .i64 .i64 (len : Int) (len : Int) (by omega) (by omega) (by rw [h3]; omega) (by omega)
    simpa [h1, Value.cells] using this

theorem copied (w : World) (x : Addr) (len cap : Nat) (zs : List Int) (hl : len ≤ 1048576) (hz : len ≤ zs.length)
    (hcell : ∀ i, i < zs.length → w.cell? (x.add i) = some (.int .u8 (zs.getD i 0))) (hw : ∀ n ∈ zs, (Lit.int .u8 n).wf = true) :
    ∃ w1, (∀ ty, (Builtin.copy_ #[22, 22] ty #[.slice (some ⟨w.heap.size, 0, none⟩) len len, .slice (some x) len cap]).run Tryf.prog (w.alloc (.cells (madeCells #[.int .u8 0] len) 5)) = .ok (goInt len) w1) ∧
      Bts w1 (some ⟨w.heap.size, 0, none⟩) len len (byts zs len) ∧ Below w.heap.size w w1 ∧ w.heap.size < w1.heap.size := by
  have hlen : ((zs.take len).map (Value.int .u8)).length = len := by simp; omega
  have hg : (w.alloc (.cells (madeCells #[.int .u8 0] len) 5)).heap[w.heap.size]? = some (.cells (madeCells #[.int .u8 0] len) 5 (0, 0)) := by
    show (w.heap.push _)[w.heap.size]? = _
    simp
  have hrun := fun ty => run_copy_row (P := Tryf.prog) (w.alloc (.cells (madeCells #[.int .u8 0] len) 5)) 22 22 ty 5 w.heap.size 0 len len x len cap (madeCells #[.int .u8 0] len) 5 ((zs.take len).map (Value.int .u8))
    Tryf.underlying22 info5 hg (by rw [hlen]; exact (Nat.min_self len).symm) (by
      intro j v hj
      have hjl : j < len := by
        have := (List.getElem?_eq_some_iff.1 hj).1
        omega
      have hj' : j < zs.length := by omega
      have hc := hcell j hj'
      have hlt : x.block < w.heap.size := by
        rcases Nat.lt_or_ge x.block w.heap.size with h | h
        · exact h
        · have hb : (x.add j).block = x.block := by unfold Addr.add; split <;> rfl
          simp [World.cell?, hb, Array.getElem?_eq_none h] at hc
      have hb : (x.add j).block < w.heap.size := by unfold Addr.add; split <;> exact hlt
      rw [((Below.refl w.heap.size w).alloc (Nat.le_refl _) _).cell hb, hc]
      simp only [List.getElem?_map, List.getElem?_take, if_pos hjl, List.getElem?_eq_getElem hj', Option.map_some, Option.some.injEq] at hj
      rw [← hj]
      simp [List.getD, List.getElem?_eq_getElem hj']) (by rw [hlen, size_madeCells]; omega) (by
      intro v hv
      obtain ⟨z, _, rfl⟩ := List.mem_map.1 hv
      rfl)
  have hrow : ((madeCells #[.int .u8 0] len).toList.take 0 ++ (zs.take len).map (Value.int .u8) ++ (madeCells #[.int .u8 0] len).toList.drop (0 + ((zs.take len).map (Value.int .u8)).length)) = (zs.take len).map (Value.int .u8) := by
    rw [List.drop_eq_nil_of_le (by rw [hlen]; simp [size_madeCells])]
    simp
  rw [hlen] at hrun
  rw [hlen] at hrow
  refine ⟨_, hrun, ?_, below_setRow ((Below.refl w.heap.size w).alloc (Nat.le_refl _) _) (Nat.le_refl _) _, by simp [World.setRow]⟩
  rw [hrow]
  refine ⟨byts_length zs len hz, hl, Nat.le_refl _, by omega, .inr ⟨w.heap.size, 0, rfl, by simp [World.setRow], ?_⟩⟩
  intro j hj
  have hh := setRow_heap _ w.heap.size _ ((zs.take len).map (Value.int .u8)).toArray 5 (0, 0) hg
  have hj' : j < zs.length := by omega
  rw [byts_getD zs len j hz hj hw]
  simp only [World.cell?, hh]
  simp [List.getD, hj, hj']

/-- A slice of bytes that came in: nil, or a row of cells; 'xs' its bytes. -/
def Arg (w : World) (a0 : Option Addr) (len cap : Nat) (xs : List UInt8) : Prop :=
  (a0 = none ∧ len = 0 ∧ cap = 0 ∧ xs = []) ∨ ∃ x zs, a0 = some x ∧ len ≤ zs.length ∧ (∀ i, i < zs.length → w.cell? (x.add i) = some (.int .u8 (zs.getD i 0))) ∧ (∀ n ∈ zs, (Lit.int .u8 n).wf = true) ∧ xs = byts zs len

theorem Bts.none (w : World) : Bts w .none 0 0 [] := ⟨rfl, by omega, Nat.le_refl _, by omega, .inl ⟨rfl, rfl, rfl⟩⟩

theorem chain {w w1 w2 : World} (h1 : Below w.heap.size w w1) (h2 : Below w1.heap.size w1 w2) : Below w.heap.size w w2 := h1.trans (h2.mono h1.size)

end Go.Proofs.Qxb6617053aFmt
