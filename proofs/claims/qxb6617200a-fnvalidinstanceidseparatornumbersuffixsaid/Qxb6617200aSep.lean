import Derived.Test.Qxb6617200aPlain
import Derived.Test.Qxb6617200aDec
namespace Go.Proofs.Qxb6617200a
open Go.ChangeShapes Go.WideShapes Go.ChangeAt Go.RowKit

set_option maxHeartbeats 400000 in
theorem zzBytes12_yes (s : ByteArray) (n : Int) (w : World) (h : s.size ≤ 1048576) :
    Calls Try.prog 12 #[.string s, .int .u64 n] w fun e w' => e = .returned (.bool true) ∧ w = w' := by
  go_enter Try.func12, Try.ntmps12
  go_wp2
  go_ret
  exact ⟨rfl, rfl⟩
set_option maxHeartbeats 400000 in
theorem zzBytes12_no (s : ByteArray) (n : Int) (w : World) (h : 1048576 < s.size) :
    Calls Try.prog 12 #[.string s, .int .u64 n] w fun e w' => e = .returned (.bool false) ∧ w = w' := by
  go_enter Try.func12, Try.ntmps12
  go_wp2
  go_ret
  exact ⟨rfl, rfl⟩

set_option maxHeartbeats 400000 in
theorem sep_big (s : ByteArray) (n : Int) (w : World) (h : 1048576 < s.size) :
    Calls Try.prog 5 #[.string s, .int .u64 n] w fun e w' => e = .returned (.bool true) ∧ Below w.heap.size w w' := by
  go_enter Try.func5, Try.ntmps5
  go_wp2_with (go_at_call 12; refine (zzBytes12_no _ _ _ h).mono ?_; rintro e w' ⟨rfl, rfl⟩)
  go_ret
  exact ⟨rfl, Below.refl _ _⟩

/-- What ValidInstanceID says of s, a separator and a numeral. -/
theorem sep_calls {s p D : ByteArray} (h : s.size ≤ 1048576) (hp : AllB okI p) (hp1 : p.size = 1) (hD1 : 1 ≤ D.size) (hD2 : D.size ≤ 20) (hD : ∀ i, i < D.size → 48 ≤ byteAt D i ∧ byteAt D i ≤ 57) (r : Bool)
    (e : (decide (s.size + 1 + D.size ≤ 253) && (decide (s.size = 0) || vId s)) = r) :
    ∀ wx, Calls Try.prog 11 #[.string (s ++ p ++ D)] wx fun e w' => e = .returned (.bool r) ∧ Below wx.heap.size wx w' := by
  intro wx
  have C := validId_any (s ++ p ++ D) wx (by rw [ByteArray.size_append, ByteArray.size_append, hp1]; omega)
  rw [vId_eq, vG_suffix okI_dig hp hp1 hD1 hD, ← vId_eq, e] at C
  exact C

set_option maxRecDepth 10000 in
set_option maxHeartbeats 2000000 in
theorem sep_in (s : ByteArray) (n : Nat) (w : World) (h : s.size ≤ 1048576) (hn : n < 18446744073709551616) :
    Calls Try.prog 5 #[.string s, .int .u64 n] w fun e w' => e = .returned (.bool true) ∧ Below w.heap.size w w' := by
  have hd0 : decide (1048576 < (s.size : Int)) = false := by simp; omega
  go_enter Try.func5, Try.ntmps5
  go_wp2_with (go_at_call 12; refine (zzBytes12_yes _ _ _ h).mono ?_; rintro e w' ⟨rfl, rfl⟩)
  refine (decimal_any n w hn).mono ?_
  rintro e w1 ⟨D, rfl, hD1, hD2, hD, hb1⟩
  have hv := vG_digits (L := 253) okI_dig hD1 hD2 (by omega) hD
  rw [← vId_eq] at hv
  go_wp2_with fail
  have C := validId_any D w1 (by omega)
  rw [hv] at C
  refine C.mono ?_
  clear C hv
  rintro e w2 ⟨rfl, hb⟩
  have hb2 := hb1.trans (hb.mono hb1.size)
  clear hb hb1
  by_cases hA : s.size + 1 + D.size ≤ 253
  · have hdA : decide ((s.size : Int) + 1 + (D.size : Int) ≤ 253) = true := decide_eq_true (by omega)
    by_cases hB : s.size = 0
    · have hdB : ((s.size : Int) == 0) = true := beq_iff_eq.2 (by omega)
      have e : (decide (s.size + 1 + D.size ≤ 253) && (decide (s.size = 0) || vId s)) = true := by rw [decide_eq_true hA, decide_eq_true hB]; rfl
      have K1 : Hid (∀ wx, Calls Try.prog 11 #[.string (s ++ ⟨#[45]⟩ ++ D)] wx fun e w' => e = .returned (.bool true) ∧ Below wx.heap.size wx w') := sep_calls h dashI rfl hD1 hD2 hD true e
      have K2 : Hid (∀ wx, Calls Try.prog 11 #[.string (s ++ ⟨#[46]⟩ ++ D)] wx fun e w' => e = .returned (.bool true) ∧ Below wx.heap.size wx w') := sep_calls h dotI rfl hD1 hD2 hD true e
      have K3 : Hid (∀ wx, Calls Try.prog 11 #[.string (s ++ ⟨#[95]⟩ ++ D)] wx fun e w' => e = .returned (.bool true) ∧ Below wx.heap.size wx w') := sep_calls h lineI rfl hD1 hD2 hD true e
      clear e hD hB
      go_wp2_with fail
      refine (K1.out _).mono ?_
      rintro e w3 ⟨rfl, hb⟩
      have hb3 := hb2.trans (hb.mono hb2.size)
      clear hb hb2
      go_wp2_with fail
      refine (K2.out _).mono ?_
      rintro e w4 ⟨rfl, hb⟩
      have hb4 := hb3.trans (hb.mono hb3.size)
      clear hb hb3
      go_wp2_with fail
      refine (K3.out _).mono ?_
      rintro e w5 ⟨rfl, hb⟩
      have hb5 := hb4.trans (hb.mono hb4.size)
      clear hb hb4
      go_wp2_with fail
      go_ret
      exact ⟨rfl, hb5⟩
    · have hdB : ((s.size : Int) == 0) = false := beq_eq_false_iff_ne.2 (by omega)
      have e : (decide (s.size + 1 + D.size ≤ 253) && (decide (s.size = 0) || vId s)) = vId s := by rw [decide_eq_true hA, decide_eq_false hB]; rfl
      have K1 : Hid (∀ wx, Calls Try.prog 11 #[.string (s ++ ⟨#[45]⟩ ++ D)] wx fun e w' => e = .returned (.bool (vId s)) ∧ Below wx.heap.size wx w') := sep_calls h dashI rfl hD1 hD2 hD _ e
      have K2 : Hid (∀ wx, Calls Try.prog 11 #[.string (s ++ ⟨#[46]⟩ ++ D)] wx fun e w' => e = .returned (.bool (vId s)) ∧ Below wx.heap.size wx w') := sep_calls h dotI rfl hD1 hD2 hD _ e
      have K3 : Hid (∀ wx, Calls Try.prog 11 #[.string (s ++ ⟨#[95]⟩ ++ D)] wx fun e w' => e = .returned (.bool (vId s)) ∧ Below wx.heap.size wx w') := sep_calls h lineI rfl hD1 hD2 hD _ e
      have K0 : Hid (∀ wx, Calls Try.prog 11 #[.string s] wx fun e w' => e = .returned (.bool (vId s)) ∧ Below wx.heap.size wx w') := fun wx => validId_any s wx (by omega)
      clear e hD hB
      generalize vId s = r at K0 K1 K2 K3
      go_wp2_with fail
      refine (K0.out _).mono ?_
      rintro e w6 ⟨rfl, hb⟩
      have hb6 := hb2.trans (hb.mono hb2.size)
      clear hb hb2
      go_wp2_with fail
      refine (K1.out _).mono ?_
      rintro e w3 ⟨rfl, hb⟩
      have hb3 := hb6.trans (hb.mono hb6.size)
      clear hb hb6
      go_wp2_with fail
      refine (K2.out _).mono ?_
      rintro e w4 ⟨rfl, hb⟩
      have hb4 := hb3.trans (hb.mono hb3.size)
      clear hb hb3
      go_wp2_with fail
      refine (K3.out _).mono ?_
      rintro e w5 ⟨rfl, hb⟩
      have hb5 := hb4.trans (hb.mono hb4.size)
      clear hb hb4
      go_wp2_with fail
      go_ret
      exact ⟨by simp, hb5⟩
  · have hdA : decide ((s.size : Int) + 1 + (D.size : Int) ≤ 253) = false := decide_eq_false (by omega)
    have e : (decide (s.size + 1 + D.size ≤ 253) && (decide (s.size = 0) || vId s)) = false := by rw [decide_eq_false hA]; rfl
    have K1 : Hid (∀ wx, Calls Try.prog 11 #[.string (s ++ ⟨#[45]⟩ ++ D)] wx fun e w' => e = .returned (.bool false) ∧ Below wx.heap.size wx w') := sep_calls h dashI rfl hD1 hD2 hD _ e
    have K2 : Hid (∀ wx, Calls Try.prog 11 #[.string (s ++ ⟨#[46]⟩ ++ D)] wx fun e w' => e = .returned (.bool false) ∧ Below wx.heap.size wx w') := sep_calls h dotI rfl hD1 hD2 hD _ e
    have K3 : Hid (∀ wx, Calls Try.prog 11 #[.string (s ++ ⟨#[95]⟩ ++ D)] wx fun e w' => e = .returned (.bool false) ∧ Below wx.heap.size wx w') := sep_calls h lineI rfl hD1 hD2 hD _ e
    clear e hD
    go_wp2_with fail
    refine (K1.out _).mono ?_
    rintro e w3 ⟨rfl, hb⟩
    have hb3 := hb2.trans (hb.mono hb2.size)
    clear hb hb2
    go_wp2_with fail
    refine (K2.out _).mono ?_
    rintro e w4 ⟨rfl, hb⟩
    have hb4 := hb3.trans (hb.mono hb3.size)
    clear hb hb3
    go_wp2_with fail
    refine (K3.out _).mono ?_
    rintro e w5 ⟨rfl, hb⟩
    have hb5 := hb4.trans (hb.mono hb4.size)
    clear hb hb4
    go_wp2_with fail
    go_ret
    exact ⟨rfl, hb5⟩
end Go.Proofs.Qxb6617200a
