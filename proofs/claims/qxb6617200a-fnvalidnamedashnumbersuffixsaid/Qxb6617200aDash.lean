import Derived.Test.Qxb6617200aPlain
import Derived.Test.Qxb6617200aDec
namespace Go.Proofs.Qxb6617200a
open Go.ChangeShapes Go.WideShapes Go.ChangeAt Go.RowKit

set_option maxHeartbeats 400000 in
theorem zzBytes7_yes (s : ByteArray) (n : Int) (w : World) (h : s.size ≤ 1048576) :
    Calls Try.prog 7 #[.string s, .int .u64 n] w fun e w' => e = .returned (.bool true) ∧ w = w' := by
  go_enter Try.func7, Try.ntmps7
  go_wp2
  go_ret
  exact ⟨rfl, rfl⟩
set_option maxHeartbeats 400000 in
theorem zzBytes7_no (s : ByteArray) (n : Int) (w : World) (h : 1048576 < s.size) :
    Calls Try.prog 7 #[.string s, .int .u64 n] w fun e w' => e = .returned (.bool false) ∧ w = w' := by
  go_enter Try.func7, Try.ntmps7
  go_wp2
  go_ret
  exact ⟨rfl, rfl⟩

set_option maxHeartbeats 400000 in
theorem dash_big (s : ByteArray) (n : Int) (w : World) (h : 1048576 < s.size) :
    Calls Try.prog 3 #[.string s, .int .u64 n] w fun e w' => e = .returned (.bool true) ∧ Below w.heap.size w w' := by
  go_enter Try.func3, Try.ntmps3
  go_wp2_with (go_at_call 7; refine (zzBytes7_no _ _ _ h).mono ?_; rintro e w' ⟨rfl, rfl⟩)
  go_ret
  exact ⟨rfl, Below.refl _ _⟩

set_option maxRecDepth 10000 in
set_option maxHeartbeats 1000000 in
theorem dash_in (s : ByteArray) (n : Nat) (w : World) (h : s.size ≤ 1048576) (hn : n < 18446744073709551616) :
    Calls Try.prog 3 #[.string s, .int .u64 n] w fun e w' => e = .returned (.bool true) ∧ Below w.heap.size w w' := by
  have hd0 : decide (1048576 < (s.size : Int)) = false := by simp; omega
  go_enter Try.func3, Try.ntmps3
  go_wp2_with (go_at_call 7; refine (zzBytes7_yes _ _ _ h).mono ?_; rintro e w' ⟨rfl, rfl⟩)
  refine (decimal_any n w hn).mono ?_
  rintro e w1 ⟨D, rfl, hD1, hD2, hD, hb1⟩
  have hv := vG_digits (L := 63) okN_dig hD1 hD2 (by omega) hD
  have hj := vG_suffix (L := 63) (s := s) okN_dig dashN rfl hD1 hD
  rw [← vName_eq] at hv
  rw [← vName_eq, ← vName_eq] at hj
  clear hD
  go_wp2_with fail
  have C := validName_any D w1 (by omega)
  rw [hv] at C
  refine C.mono ?_
  clear C hv
  rintro e w2 ⟨rfl, hb⟩
  have hb2 := hb1.trans (hb.mono hb1.size)
  clear hb hb1
  have HJ : Hid (vName (s ++ ⟨#[45]⟩ ++ D) = (decide (s.size + 1 + D.size ≤ 63) && (decide (s.size = 0) || vName s))) := hj
  clear hj
  have hsz : Hid ((s ++ ⟨#[45]⟩ ++ D).size = s.size + 1 + D.size) := by show _ = _; rw [ByteArray.size_append, ByteArray.size_append]; rfl
  have CJ := fun wx => validName_any (s ++ ⟨#[45]⟩ ++ D) wx (by rw [hsz.out]; omega)
  rw [HJ.out] at CJ
  clear HJ hsz
  by_cases hA : s.size + 1 + D.size ≤ 63
  · have hdA : decide ((s.size : Int) + 1 + (D.size : Int) ≤ 63) = true := decide_eq_true (by omega)
    by_cases hB : s.size = 0
    · have hdB : ((s.size : Int) == 0) = true := beq_iff_eq.2 (by omega)
      have CJ' : Hid (∀ wx, Calls Try.prog 9 #[.string (s ++ ⟨#[45]⟩ ++ D)] wx fun e w' => e = .returned (.bool true) ∧ Below wx.heap.size wx w') := by
        have e : (decide (s.size + 1 + D.size ≤ 63) && (decide (s.size = 0) || vName s)) = true := by rw [decide_eq_true hA, decide_eq_true hB]; rfl
        rw [e] at CJ
        exact CJ
      clear CJ hB
      go_wp2_with fail
      refine (CJ'.out _).mono ?_
      rintro e w3 ⟨rfl, hb⟩
      have hb3 := hb2.trans (hb.mono hb2.size)
      clear hb hb2
      go_wp2_with fail
      go_ret
      exact ⟨rfl, hb3⟩
    · have hdB : ((s.size : Int) == 0) = false := beq_eq_false_iff_ne.2 (by omega)
      have CS := fun wx => validName_any s wx (by omega)
      have CJ' : Hid (∀ wx, Calls Try.prog 9 #[.string (s ++ ⟨#[45]⟩ ++ D)] wx fun e w' => e = .returned (.bool (vName s)) ∧ Below wx.heap.size wx w') := by
        have e : (decide (s.size + 1 + D.size ≤ 63) && (decide (s.size = 0) || vName s)) = vName s := by rw [decide_eq_true hA, decide_eq_false hB]; rfl
        rw [e] at CJ
        exact CJ
      have CS' : Hid (∀ wx, Calls Try.prog 9 #[.string s] wx fun e w' => e = .returned (.bool (vName s)) ∧ Below wx.heap.size wx w') := CS
      clear CJ CS hB
      generalize vName s = r at CJ' CS'
      go_wp2_with fail
      refine (CS'.out _).mono ?_
      rintro e w3 ⟨rfl, hb⟩
      have hb3 := hb2.trans (hb.mono hb2.size)
      clear hb hb2
      go_wp2_with fail
      refine (CJ'.out _).mono ?_
      rintro e w4 ⟨rfl, hb⟩
      have hb4 := hb3.trans (hb.mono hb3.size)
      clear hb hb3
      go_wp2_with fail
      go_ret
      exact ⟨by simp, hb4⟩
  · have hdA : decide ((s.size : Int) + 1 + (D.size : Int) ≤ 63) = false := decide_eq_false (by omega)
    have CJ' : Hid (∀ wx, Calls Try.prog 9 #[.string (s ++ ⟨#[45]⟩ ++ D)] wx fun e w' => e = .returned (.bool false) ∧ Below wx.heap.size wx w') := by
      have e : (decide (s.size + 1 + D.size ≤ 63) && (decide (s.size = 0) || vName s)) = false := by rw [decide_eq_false hA]; rfl
      rw [e] at CJ
      exact CJ
    clear CJ
    go_wp2_with fail
    refine (CJ'.out _).mono ?_
    rintro e w3 ⟨rfl, hb⟩
    have hb3 := hb2.trans (hb.mono hb2.size)
    clear hb hb2
    go_wp2_with fail
    go_ret
    exact ⟨rfl, hb3⟩
end Go.Proofs.Qxb6617200a
