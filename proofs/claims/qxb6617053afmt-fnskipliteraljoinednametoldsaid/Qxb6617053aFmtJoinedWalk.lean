/- Seat b6617053aF. The walk of FnSkipLiteralJoinedName. -/
import Derived.Test.Qxb6617053aFmtLit
import Derived.Test.Qxb6617053aFmtCopy
namespace Go.Proofs.Qxb6617053aFmt
open Go.RowKit Go.Extern.Stop Go.Stop Go.Extern

set_option maxHeartbeats 400000 in
theorem zz13_yes (a0 : Option Addr) (len cap : Nat) (i : Value) (a b : ByteArray) (w : World) (h1 : len ≤ 524288) (h2 : a.size ≤ 262144) (h3 : b.size ≤ 262144) :
    Calls Tryf.prog 13 #[.slice a0 len cap, i, .string a, .string b] w fun e w' => e = .returned (.bool true) ∧ w' = w := by
  go_enter Tryf.func13, Tryf.ntmps13
  go_wp2
  go_ret
  exact ⟨rfl, rfl⟩

set_option maxHeartbeats 400000 in
theorem zz13_any (a0 : Option Addr) (len cap : Nat) (i : Value) (a b : ByteArray) (w : World) (hl : len ≤ maxLen) (ha : a.size ≤ maxLen) (hb : b.size ≤ maxLen)  :
    Calls Tryf.prog 13 #[.slice a0 len cap, i, .string a, .string b] w fun e w' => (∃ t, e = .returned (.bool t)) ∧ w' = w := by
  unfold maxLen at *
  go_enter Tryf.func13, Tryf.ntmps13
  go_wp2
  all_goals
    go_ret
    exact ⟨⟨_, rfl⟩, rfl⟩

set_option maxHeartbeats 1000000 in
theorem joined_out (a0 : Option Addr) (len cap : Nat) (i : Int) (a b : ByteArray) (w : World) (hl : len ≤ maxLen) (ha : a.size ≤ maxLen) (hb : b.size ≤ maxLen)
    (hout : ¬ (len ≤ 524288 ∧ a.size ≤ 262144 ∧ b.size ≤ 262144 ∧ 0 ≤ i ∧ i ≤ (len : Int))) :
    Calls Tryf.prog 5 #[.slice a0 len cap, .int .i64 i, .string a, .string b] w fun e w' => e = .returned (.bool true) ∧ Below w.heap.size w w' := by
  by_cases c1 : 524288 < len
  · clear hout
    go_enter Tryf.func5, Tryf.ntmps5
    go_wp2_with (go_at_call 13; refine (zz13_any a0 len cap _ a b _ hl ha hb).mono ?_; rintro e w' ⟨⟨t, rfl⟩, rfl⟩)
    all_goals
      go_ret
      exact ⟨rfl, Below.refl _ _⟩
  by_cases c2 : 262144 < a.size
  · clear hout
    go_enter Tryf.func5, Tryf.ntmps5
    go_wp2_with (go_at_call 13; refine (zz13_any a0 len cap _ a b _ hl ha hb).mono ?_; rintro e w' ⟨⟨t, rfl⟩, rfl⟩)
    all_goals
      go_ret
      exact ⟨rfl, Below.refl _ _⟩
  by_cases c3 : 262144 < b.size
  · clear hout
    go_enter Tryf.func5, Tryf.ntmps5
    go_wp2_with (go_at_call 13; refine (zz13_any a0 len cap _ a b _ hl ha hb).mono ?_; rintro e w' ⟨⟨t, rfl⟩, rfl⟩)
    all_goals
      go_ret
      exact ⟨rfl, Below.refl _ _⟩
  by_cases c4 : i < 0
  · clear hout
    have c4' : decide (i < 0) = true := by simpa using c4
    go_enter Tryf.func5, Tryf.ntmps5
    go_wp2_with (go_at_call 13; refine (zz13_any a0 len cap _ a b _ hl ha hb).mono ?_; rintro e w' ⟨⟨t, rfl⟩, rfl⟩)
    all_goals
      go_ret
      exact ⟨rfl, Below.refl _ _⟩
  have c5 : (len : Int) < i := by omega
  clear hout
  go_enter Tryf.func5, Tryf.ntmps5
  go_wp2_with (go_at_call 13; refine (zz13_any a0 len cap _ a b _ hl ha hb).mono ?_; rintro e w' ⟨⟨t, rfl⟩, rfl⟩)
  all_goals
    go_ret
    exact ⟨rfl, Below.refl _ _⟩

theorem ret_bool {x : Bool} (h : x = true) : Ending.returned (.bool x) = .returned (.bool true) := by rw [h]

theorem AtB_append (xs l m : List UInt8) (i : Nat) (hi : i ≤ xs.length) : AtB xs i (l ++ m) = (AtB xs i l && AtB xs (i + l.length) m) := by
  have e : (xs.drop i).take (l ++ m).length = (xs.drop i).take l.length ++ ((xs.drop (i + l.length)).take m.length) := by
    rw [List.length_append, List.take_add, List.drop_drop]
  unfold AtB
  rw [e]
  by_cases h : i + l.length ≤ xs.length
  · rw [Bool.eq_iff_iff, Bool.and_eq_true, decide_eq_true_iff, decide_eq_true_iff, decide_eq_true_iff]
    constructor
    · intro h2
      exact List.append_inj h2 (by simp; omega)
    · rintro ⟨h1, h2⟩
      rw [h1, h2]
  · have hl : ((xs.drop i).take l.length).length < l.length := by simp; omega
    have h1 : ¬ (xs.drop i).take l.length = l := fun h => by rw [h] at hl; omega
    have h2 : ¬ (xs.drop i).take l.length ++ ((xs.drop (i + l.length)).take m.length) = l ++ m := by
      intro h3
      have h4 : (xs.drop (i + l.length)) = [] := List.drop_eq_nil_of_le (by omega)
      have := congrArg List.length h3
      rw [h4] at this
      simp only [List.take_nil, List.append_nil, List.length_append] at this
      omega
    simp [h1, h2]

theorem joined_data (xs : List UInt8) (a b : ByteArray) (i : Nat) (hi : i ≤ xs.length) : AtB xs i (a ++ b).data.toList = (AtB xs i a.data.toList && AtB xs (i + a.size) b.data.toList) := by
  have e : (a ++ b).data.toList = a.data.toList ++ b.data.toList := by simp
  rw [e, AtB_append xs _ _ i hi, size_data]

set_option maxHeartbeats 1000000 in
theorem joined_A (F : Interp) (a0 : Option Addr) (len cap : Nat) (xs : List UInt8) (i : Nat) (a b : ByteArray) (w : World) (hF : F.answers w.tape) (h1 : len ≤ 524288) (h2 : a.size ≤ 262144) (h3 : b.size ≤ 262144) (hi : i ≤ len)
    (hd : Arg w a0 len cap xs) (hA : AtB xs i a.data.toList = false) (hAB : AtB xs i (a ++ b).data.toList = false) :
    Calls Tryf.prog 5 #[.slice a0 len cap, .int .i64 (i : Int), .string a, .string b] w fun e w' => e = .returned (.bool true) ∧ Below w.heap.size w w' := by
  have hnn := fun (w : World) => run_neq_slice_nil_any (P := Tryf.prog) w 22 5 a0 len cap 0 0 Tryf.underlying22
  have HI : Hid (i ≤ len) := hi
  have HA : Hid (AtB xs i a.data.toList = false) := hA
  have HAB : Hid (AtB xs i (a ++ b).data.toList = false) := hAB
  have HAS : Hid ((a ++ b).size = a.size + b.size) := by show _ = _; simp
  clear hA hAB
  rcases hd with ⟨rfl, rfl, rfl, rfl⟩ | ⟨x, zs, rfl, hz, hcell, hw, hxs⟩
  case' inl =>
    have HD : Hid (Bts w .none 0 0 []) := Bts.none w
    have HB : Hid (Below w.heap.size w w) := Below.refl _ _
    have hF1 := hF
    go_enter Tryf.func5, Tryf.ntmps5
    go_wp2_with (go_at_call 13; refine (zz13_yes _ _ _ _ a b _ h1 h2 h3).mono ?_; rintro e w' ⟨rfl, rfl⟩)
  case' inr =>
    obtain ⟨w1, hcp, hd1, hb1, hs1⟩ := copied w x len cap zs (by omega) hz hcell hw
    have hmk := made w len (by omega)
    have hF1 : F.answers w1.tape := by rw [hb1.tape]; exact hF
    rw [← hxs] at hd1
    have HD : Hid (Bts w1 (some ⟨w.heap.size, 0, .none⟩) len len xs) := hd1
    have HB : Hid (Below w.heap.size w w1) := hb1
    clear hd1 hcell hw hz hxs hb1
    go_enter Tryf.func5, Tryf.ntmps5
    go_wp2_with (go_at_call 13; refine (zz13_yes _ _ _ _ a b _ h1 h2 h3).mono ?_; rintro e w' ⟨rfl, rfl⟩)
  all_goals
    refine (zzlit_no' F _ _ _ _ _ i (a ++ b) _ (by simp; try omega) hF1 HD.out HI.out (by rw [HAS.out]; omega) HAB.out).mono ?_
    rintro e w2 ⟨⟨p, rfl⟩, hb2⟩
    go_wp2_with fail
    refine (zzlit_no' F _ _ _ _ _ i a _ (by simp; try omega) (by rw [hb2.tape]; exact hF1) (HD.out.later hb2) HI.out (by omega) HA.out).mono ?_
    rintro e w3 ⟨⟨q, rfl⟩, hb3⟩
    go_wp2
    go_ret
    exact ⟨rfl, chain (chain HB.out hb2) hb3⟩

set_option maxHeartbeats 1000000 in
theorem joined_B (F : Interp) (a0 : Option Addr) (len cap : Nat) (xs : List UInt8) (i : Nat) (a b : ByteArray) (w : World) (hF : F.answers w.tape) (h1 : len ≤ 524288) (h2 : a.size ≤ 262144) (h3 : b.size ≤ 262144) (hi : i ≤ len)
    (hd : Arg w a0 len cap xs) (hA : AtB xs i a.data.toList = true) (hB : AtB xs (i + a.size) b.data.toList = false) (hfit : i + a.size ≤ len) (hAB : AtB xs i (a ++ b).data.toList = false) :
    Calls Tryf.prog 5 #[.slice a0 len cap, .int .i64 (i : Int), .string a, .string b] w fun e w' => e = .returned (.bool true) ∧ Below w.heap.size w w' := by
  have hnn := fun (w : World) => run_neq_slice_nil_any (P := Tryf.prog) w 22 5 a0 len cap 0 0 Tryf.underlying22
  have HI : Hid (i ≤ len) := hi
  have HA : Hid (AtB xs i a.data.toList = true) := hA
  have HB2 : Hid (AtB xs (i + a.size) b.data.toList = false) := hB
  have HFIT : Hid (i + a.size ≤ len) := hfit
  have HAB : Hid (AtB xs i (a ++ b).data.toList = false) := hAB
  have HAS : Hid ((a ++ b).size = a.size + b.size) := by show _ = _; simp
  clear hA hB hAB
  rcases hd with ⟨rfl, rfl, rfl, rfl⟩ | ⟨x, zs, rfl, hz, hcell, hw, hxs⟩
  case' inl =>
    have HD : Hid (Bts w .none 0 0 []) := Bts.none w
    have HB : Hid (Below w.heap.size w w) := Below.refl _ _
    have hF1 := hF
    go_enter Tryf.func5, Tryf.ntmps5
    go_wp2_with (go_at_call 13; refine (zz13_yes _ _ _ _ a b _ h1 h2 h3).mono ?_; rintro e w' ⟨rfl, rfl⟩)
  case' inr =>
    obtain ⟨w1, hcp, hd1, hb1, hs1⟩ := copied w x len cap zs (by omega) hz hcell hw
    have hmk := made w len (by omega)
    have hF1 : F.answers w1.tape := by rw [hb1.tape]; exact hF
    rw [← hxs] at hd1
    have HD : Hid (Bts w1 (some ⟨w.heap.size, 0, .none⟩) len len xs) := hd1
    have HB : Hid (Below w.heap.size w w1) := hb1
    clear hd1 hcell hw hz hxs hb1
    go_enter Tryf.func5, Tryf.ntmps5
    go_wp2_with (go_at_call 13; refine (zz13_yes _ _ _ _ a b _ h1 h2 h3).mono ?_; rintro e w' ⟨rfl, rfl⟩)
  all_goals
    refine (zzlit_no' F _ _ _ _ _ i (a ++ b) _ (by simp; try omega) hF1 HD.out HI.out (by rw [HAS.out]; omega) HAB.out).mono ?_
    rintro e w2 ⟨⟨p, rfl⟩, hb2⟩
    have hF2 : F.answers w2.tape := by rw [hb2.tape]; exact hF1
    go_wp2_with fail
    refine (zzlit_yes' _ _ _ _ _ i a _ (by simp; try omega) (HD.out.later hb2) HI.out HA.out).mono ?_
    rintro e w3 ⟨rfl, rfl⟩
    go_wp2_with fail
    refine (zzlit_no' F _ _ _ _ _ (i + a.size) b _ (by first | (simp; done) | omega) hF2 (HD.out.later hb2) HFIT.out (by omega) HB2.out).mono ?_
    rintro e w4 ⟨⟨q, rfl⟩, hb3⟩
    go_wp2
    go_ret
    exact ⟨rfl, chain (chain HB.out hb2) hb3⟩

set_option maxHeartbeats 1000000 in
theorem joined_C (F : Interp) (a0 : Option Addr) (len cap : Nat) (xs : List UInt8) (i : Nat) (a b : ByteArray) (w : World) (hF : F.answers w.tape) (h1 : len ≤ 524288) (h2 : a.size ≤ 262144) (h3 : b.size ≤ 262144) (hi : i ≤ len)
    (hd : Arg w a0 len cap xs) (hA : AtB xs i a.data.toList = true) (hB : AtB xs (i + a.size) b.data.toList = true) (hfit : i + a.size ≤ len) (hAB : AtB xs i (a ++ b).data.toList = true) :
    Calls Tryf.prog 5 #[.slice a0 len cap, .int .i64 (i : Int), .string a, .string b] w fun e w' => e = .returned (.bool true) ∧ Below w.heap.size w w' := by
  have hnn := fun (w : World) => run_neq_slice_nil_any (P := Tryf.prog) w 22 5 a0 len cap 0 0 Tryf.underlying22
  have HI : Hid (i ≤ len) := hi
  have HA : Hid (AtB xs i a.data.toList = true) := hA
  have HB2 : Hid (AtB xs (i + a.size) b.data.toList = true) := hB
  have HFIT : Hid (i + a.size ≤ len) := hfit
  have HAB : Hid (AtB xs i (a ++ b).data.toList = true) := hAB
  have HAS : Hid ((a ++ b).size = a.size + b.size) := by show _ = _; simp
  clear hA hB hAB
  rcases hd with ⟨rfl, rfl, rfl, rfl⟩ | ⟨x, zs, rfl, hz, hcell, hw, hxs⟩
  case' inl =>
    have HD : Hid (Bts w .none 0 0 []) := Bts.none w
    have HB : Hid (Below w.heap.size w w) := Below.refl _ _
    have hF1 := hF
    go_enter Tryf.func5, Tryf.ntmps5
    go_wp2_with (go_at_call 13; refine (zz13_yes _ _ _ _ a b _ h1 h2 h3).mono ?_; rintro e w' ⟨rfl, rfl⟩)
  case' inr =>
    obtain ⟨w1, hcp, hd1, hb1, hs1⟩ := copied w x len cap zs (by omega) hz hcell hw
    have hmk := made w len (by omega)
    have hF1 : F.answers w1.tape := by rw [hb1.tape]; exact hF
    rw [← hxs] at hd1
    have HD : Hid (Bts w1 (some ⟨w.heap.size, 0, .none⟩) len len xs) := hd1
    have HB : Hid (Below w.heap.size w w1) := hb1
    clear hd1 hcell hw hz hxs hb1
    go_enter Tryf.func5, Tryf.ntmps5
    go_wp2_with (go_at_call 13; refine (zz13_yes _ _ _ _ a b _ h1 h2 h3).mono ?_; rintro e w' ⟨rfl, rfl⟩)
  all_goals
    refine (zzlit_yes' _ _ _ _ _ i (a ++ b) _ (by simp; try omega) HD.out HI.out HAB.out).mono ?_
    rintro e w2 ⟨rfl, rfl⟩
    go_wp2_with fail
    refine (zzlit_yes' _ _ _ _ _ i a _ (by simp; try omega) HD.out HI.out HA.out).mono ?_
    rintro e w3 ⟨rfl, rfl⟩
    go_wp2_with fail
    refine (zzlit_yes' _ _ _ _ _ (i + a.size) b _ (by first | (simp; done) | omega) HD.out HFIT.out HB2.out).mono ?_
    rintro e w4 ⟨rfl, rfl⟩
    go_wp2
    go_ret
    exact ⟨ret_bool (by rw [beq_iff_eq]; omega), HB.out⟩

/-- THE WALK: whatever the input, true; nothing that was there has turned. -/
theorem joined_walk (F : Interp) (a0 : Option Addr) (len cap : Nat) (xs : List UInt8) (i : Int) (a b : ByteArray) (w : World) (hF : F.answers w.tape) (hl : len ≤ maxLen) (ha : a.size ≤ maxLen) (hb : b.size ≤ maxLen)
    (hd : Arg w a0 len cap xs) :
    Calls Tryf.prog 5 #[.slice a0 len cap, .int .i64 i, .string a, .string b] w fun e w' => e = .returned (.bool true) ∧ Below w.heap.size w w' := by
  by_cases hin : len ≤ 524288 ∧ a.size ≤ 262144 ∧ b.size ≤ 262144 ∧ 0 ≤ i ∧ i ≤ (len : Int)
  · obtain ⟨h1, h2, h3, h4, h5⟩ := hin
    obtain ⟨k, rfl⟩ := Int.eq_ofNat_of_zero_le h4
    have hi : k ≤ len := by omega
    have hx : xs.length = len := by
      rcases hd with ⟨_, rfl, _, rfl⟩ | ⟨_, zs, _, hz, _, _, rfl⟩
      · rfl
      · exact byts_length zs len hz
    have hj := joined_data xs a b k (by omega)
    cases hA : AtB xs k a.data.toList with
    | false =>
      rw [hA, Bool.false_and] at hj
      exact joined_A F a0 len cap xs k a b w hF h1 h2 h3 hi hd hA hj
    | true =>
      have hfit := AtB_fits (by omega) hA
      rw [size_data] at hfit
      rw [hA, Bool.true_and] at hj
      cases hB : AtB xs (k + a.size) b.data.toList with
      | false => rw [hB] at hj; exact joined_B F a0 len cap xs k a b w hF h1 h2 h3 hi hd hA hB (by omega) hj
      | true => rw [hB] at hj; exact joined_C F a0 len cap xs k a b w hF h1 h2 h3 hi hd hA hB (by omega) hj
  · exact joined_out a0 len cap i a b w hl ha hb hin

end Go.Proofs.Qxb6617053aFmt
