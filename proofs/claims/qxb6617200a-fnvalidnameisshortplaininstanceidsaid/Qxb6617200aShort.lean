import Derived.Test.Qxb6617200aPlain
import Derived.Test.Qxb6617200aDec
namespace Go.Proofs.Qxb6617200a
open Go.ChangeShapes Go.WideShapes Go.ChangeAt Go.RowKit

/-! ### The plain law -/
/-- A byte that no name bears though an instance ID may. -/
def notPlain (c : Int) : Bool := decide ((65 ≤ c ∧ c ≤ 90) ∨ c = 46 ∨ c = 95)
/-- s bears none of them. -/
def plainB (s : ByteArray) : Bool := decide (∀ i, i < s.size → notPlain (byteAt s i) = false)
theorem ok_plain (c : Int) : okN c = (okI c && !notPlain c) := by
  rw [Bool.eq_iff_iff]
  simp only [okN, okI, notPlain, Bool.and_eq_true, Bool.not_eq_true', decide_eq_true_eq, decide_eq_false_iff_not]
  omega
theorem name_short (s : ByteArray) : vName s = (vId s && decide (s.size ≤ 63) && plainB s) := by
  rw [vName_eq, vId_eq, Bool.eq_iff_iff]
  simp only [Bool.and_eq_true, vG_iff, plainB, decide_eq_true_eq, AllB]
  constructor
  · rintro ⟨h1, h2, h3⟩
    refine ⟨⟨⟨h1, by omega, fun i hi => ?_⟩, h2⟩, fun i hi => ?_⟩
    · have := h3 i hi
      rw [ok_plain, Bool.and_eq_true] at this
      exact this.1
    · have := h3 i hi
      rw [ok_plain, Bool.and_eq_true] at this
      simpa using this.2
  · rintro ⟨⟨⟨h1, _, h3⟩, h2⟩, h4⟩
    refine ⟨h1, h2, fun i hi => ?_⟩
    rw [ok_plain, h3 i hi, h4 i hi]
    rfl
theorem plain_no {s : ByteArray} {k : Nat} (hk : k < s.size) (h : notPlain (byteAt s k) = true) : plainB s = false :=
  decide_eq_false (fun h2 => by have := h2 k hk; rw [h] at this; cases this)
theorem plain_yes {s : ByteArray} (h : ∀ i, i < s.size → notPlain (byteAt s i) = false) : plainB s = true := decide_eq_true h

theorem plain_cases {c : Int} (h : notPlain c = false) : (c < 65 ∨ 90 < c) ∧ c ≠ 46 ∧ c ≠ 95 := by
  have : ¬ ((65 ≤ c ∧ c ≤ 90) ∨ c = 46 ∨ c = 95) := by simpa only [notPlain, decide_eq_false_iff_not] using h
  omega
theorem plain_cases' {c : Int} (h : notPlain c = true) : (65 ≤ c ∧ c ≤ 90) ∨ c = 46 ∨ c = 95 := by simpa [notPlain] using h
theorem byteAt_get (s : ByteArray) (k : Nat) (h : k < s.size) : ((s[k]'h).toNat : Int) = byteAt s k := by
  unfold byteAt
  rw [Array.getElem?_eq_getElem (show k < s.data.size from h)]
  rfl
theorem short_name {s : ByteArray} {v : Bool} (h : s.size ≤ 1048576) (e : vName s = v) : ∀ wx, Calls Try.prog 9 #[.string s] wx fun e w' => e = .returned (.bool v) ∧ Below wx.heap.size wx w' := by
  intro wx
  have C := validName_any s wx (by omega)
  rw [e] at C
  exact C
theorem short_id {s : ByteArray} {v : Bool} (h : s.size ≤ 1048576) (e : vId s = v) : ∀ wx, Calls Try.prog 11 #[.string s] wx fun e w' => e = .returned (.bool v) ∧ Below wx.heap.size wx w' := by
  intro wx
  have C := validId_any s wx (by omega)
  rw [e] at C
  exact C

/-! ### The walks -/
set_option maxHeartbeats 400000 in
theorem zzBytes10_yes (s : ByteArray) (n : Int) (w : World) (h : s.size ≤ 1048576) :
    Calls Try.prog 10 #[.string s, .int .u64 n] w fun e w' => e = .returned (.bool true) ∧ w = w' := by
  go_enter Try.func10, Try.ntmps10
  go_wp2
  go_ret
  exact ⟨rfl, rfl⟩
set_option maxHeartbeats 400000 in
theorem zzBytes10_no (s : ByteArray) (n : Int) (w : World) (h : 1048576 < s.size) :
    Calls Try.prog 10 #[.string s, .int .u64 n] w fun e w' => e = .returned (.bool false) ∧ w = w' := by
  go_enter Try.func10, Try.ntmps10
  go_wp2
  go_ret
  exact ⟨rfl, rfl⟩
set_option maxHeartbeats 400000 in
theorem short_big (s : ByteArray) (n : Int) (w : World) (h : 1048576 < s.size) :
    Calls Try.prog 4 #[.string s, .int .u64 n] w fun e w' => e = .returned (.bool true) ∧ Below w.heap.size w w' := by
  go_enter Try.func4, Try.ntmps4
  go_wp2_with (go_at_call 10; refine (zzBytes10_no _ _ _ h).mono ?_; rintro e w' ⟨rfl, rfl⟩)
  go_ret
  exact ⟨rfl, Below.refl _ _⟩

set_option maxRecDepth 10000 in
set_option maxHeartbeats 4000000 in
theorem short_in (s : ByteArray) (n : Nat) (w : World) (h : s.size ≤ 1048576) (hn : n < 18446744073709551616) :
    Calls Try.prog 4 #[.string s, .int .u64 n] w fun e w' => e = .returned (.bool true) ∧ Below w.heap.size w w' := by
  have hd0 : decide (1048576 < (s.size : Int)) = false := by simp; omega
  go_enter Try.func4, Try.ntmps4
  go_wp2_with (go_at_call 10; refine (zzBytes10_yes _ _ _ h).mono ?_; rintro e w' ⟨rfl, rfl⟩)
  refine (decimal_any n w hn).mono ?_
  rintro e w1 ⟨D, rfl, hD1, hD2, hD, hb1⟩
  have hv := vG_digits (L := 63) okN_dig hD1 hD2 (by omega) hD
  have hv2 := vG_digits (L := 253) okI_dig hD1 hD2 (by omega) hD
  rw [← vName_eq] at hv
  rw [← vId_eq] at hv2
  clear hD
  go_wp2_with fail
  have C := validName_any D w1 (by omega)
  rw [hv] at C
  refine C.mono ?_
  clear C hv
  rintro e w2 ⟨rfl, hb⟩
  have hb2 := hb1.trans (hb.mono hb1.size)
  clear hb hb1
  go_wp2_with fail
  have C := validId_any D w2 (by omega)
  rw [hv2] at C
  refine C.mono ?_
  clear C hv2
  rintro e w3 ⟨rfl, hb⟩
  have hb3 := hb2.trans (hb.mono hb2.size)
  clear hb hb2
  have HW : Hid (Below w.heap.size w w3) := hb3
  clear hb3
  go_wp2_with fail
  go_loop [6, 7] (fun p i => ∃ k : Nat, k ≤ s.size ∧ p = .bool true ∧ i = .int .i64 k ∧ Hid (∀ j, j < k → notPlain (byteAt s j) = false)) (fun _ i => s.size - (intOf i).toNat)
  case atStart => exact ⟨0, Nat.zero_le _, rfl, rfl, fun j hj => absurd hj (Nat.not_lt_zero _)⟩
  case round =>
    obtain ⟨k, hk, rfl, rfl, hs⟩ := hrel
    by_cases hlt : k < s.size
    · have hr := byteAt_range s k
      have hcx : ((s[k]'hlt).toNat : Int) = byteAt s k := byteAt_get s k hlt
      cases ho : notPlain (byteAt s k)
      · have hi := plain_cases ho
        have HO : Hid (notPlain (byteAt s k) = false) := ho
        clear ho
        generalize hc : byteAt s k = c at hcx hi hr
        clear hc
        have e46 : (c == 46) = false := beq_eq_false_iff_ne.2 (by omega)
        have e95 : (c == 95) = false := beq_eq_false_iff_ne.2 (by omega)
        rcases hi.1 with hi2 | hi2
        · go_wp2_with fail
          go_round
          case rel =>
            refine ⟨k + 1, by omega, rfl, by go_num, ?_⟩
            intro j hj
            by_cases e : j = k
            · subst e; exact HO.out
            · exact hs.out j (by omega)
          case measure => simp [intOf]; omega
        · have d90 : decide (c ≤ 90) = false := decide_eq_false (by omega)
          go_wp2_with fail
          go_round
          case rel =>
            refine ⟨k + 1, by omega, rfl, by go_num, ?_⟩
            intro j hj
            by_cases e : j = k
            · subst e; exact HO.out
            · exact hs.out j (by omega)
          case measure => simp [intOf]; omega
      · have hi := plain_cases' ho
        have HP : Hid (plainB s = false) := plain_no hlt ho
        clear ho hs
        generalize hc : byteAt s k = c at hcx hi hr
        clear hc
        rcases hi with hi | hi | hi
        · cases hr : vId s
          · by_cases g : s.size ≤ 63
            · have K9 : Hid (∀ wx, Calls Try.prog 9 #[.string s] wx fun e w' => e = .returned (.bool false) ∧ Below wx.heap.size wx w') := short_name h (by rw [name_short, hr, decide_eq_true g, HP.out]; rfl)
              have K11 : Hid (∀ wx, Calls Try.prog 11 #[.string s] wx fun e w' => e = .returned (.bool false) ∧ Below wx.heap.size wx w') := short_id h hr
              have e2 : decide ((s.size : Int) ≤ 63) = true := decide_eq_true (by omega)
              clear hr g
              go_wp2_with fail
              refine (K9.out _).mono ?_
              rintro e w4 ⟨rfl, hb⟩
              have hb4 := HW.out.trans (hb.mono HW.out.size)
              clear hb
              go_wp2_with fail
              refine (K11.out _).mono ?_
              rintro e w5 ⟨rfl, hb⟩
              have hb5 := hb4.trans (hb.mono hb4.size)
              clear hb hb4
              go_wp2_with fail
              go_ret
              exact ⟨rfl, hb5⟩
            · have K9 : Hid (∀ wx, Calls Try.prog 9 #[.string s] wx fun e w' => e = .returned (.bool false) ∧ Below wx.heap.size wx w') := short_name h (by rw [name_short, hr, decide_eq_false g, HP.out]; rfl)
              have K11 : Hid (∀ wx, Calls Try.prog 11 #[.string s] wx fun e w' => e = .returned (.bool false) ∧ Below wx.heap.size wx w') := short_id h hr
              have e2 : decide ((s.size : Int) ≤ 63) = false := decide_eq_false (by omega)
              clear hr g
              go_wp2_with fail
              refine (K9.out _).mono ?_
              rintro e w4 ⟨rfl, hb⟩
              have hb4 := HW.out.trans (hb.mono HW.out.size)
              clear hb
              go_wp2_with fail
              refine (K11.out _).mono ?_
              rintro e w5 ⟨rfl, hb⟩
              have hb5 := hb4.trans (hb.mono hb4.size)
              clear hb hb4
              go_wp2_with fail
              go_ret
              exact ⟨rfl, hb5⟩
          · by_cases g : s.size ≤ 63
            · have K9 : Hid (∀ wx, Calls Try.prog 9 #[.string s] wx fun e w' => e = .returned (.bool false) ∧ Below wx.heap.size wx w') := short_name h (by rw [name_short, hr, decide_eq_true g, HP.out]; rfl)
              have K11 : Hid (∀ wx, Calls Try.prog 11 #[.string s] wx fun e w' => e = .returned (.bool true) ∧ Below wx.heap.size wx w') := short_id h hr
              have e2 : decide ((s.size : Int) ≤ 63) = true := decide_eq_true (by omega)
              clear hr g
              go_wp2_with fail
              refine (K9.out _).mono ?_
              rintro e w4 ⟨rfl, hb⟩
              have hb4 := HW.out.trans (hb.mono HW.out.size)
              clear hb
              go_wp2_with fail
              refine (K11.out _).mono ?_
              rintro e w5 ⟨rfl, hb⟩
              have hb5 := hb4.trans (hb.mono hb4.size)
              clear hb hb4
              go_wp2_with fail
              go_ret
              exact ⟨rfl, hb5⟩
            · have K9 : Hid (∀ wx, Calls Try.prog 9 #[.string s] wx fun e w' => e = .returned (.bool false) ∧ Below wx.heap.size wx w') := short_name h (by rw [name_short, hr, decide_eq_false g, HP.out]; rfl)
              have K11 : Hid (∀ wx, Calls Try.prog 11 #[.string s] wx fun e w' => e = .returned (.bool true) ∧ Below wx.heap.size wx w') := short_id h hr
              have e2 : decide ((s.size : Int) ≤ 63) = false := decide_eq_false (by omega)
              clear hr g
              go_wp2_with fail
              refine (K9.out _).mono ?_
              rintro e w4 ⟨rfl, hb⟩
              have hb4 := HW.out.trans (hb.mono HW.out.size)
              clear hb
              go_wp2_with fail
              refine (K11.out _).mono ?_
              rintro e w5 ⟨rfl, hb⟩
              have hb5 := hb4.trans (hb.mono hb4.size)
              clear hb hb4
              go_wp2_with fail
              go_ret
              exact ⟨rfl, hb5⟩
        · subst hi
          cases hr : vId s
          · by_cases g : s.size ≤ 63
            · have K9 : Hid (∀ wx, Calls Try.prog 9 #[.string s] wx fun e w' => e = .returned (.bool false) ∧ Below wx.heap.size wx w') := short_name h (by rw [name_short, hr, decide_eq_true g, HP.out]; rfl)
              have K11 : Hid (∀ wx, Calls Try.prog 11 #[.string s] wx fun e w' => e = .returned (.bool false) ∧ Below wx.heap.size wx w') := short_id h hr
              have e2 : decide ((s.size : Int) ≤ 63) = true := decide_eq_true (by omega)
              clear hr g
              go_wp2_with fail
              refine (K9.out _).mono ?_
              rintro e w4 ⟨rfl, hb⟩
              have hb4 := HW.out.trans (hb.mono HW.out.size)
              clear hb
              go_wp2_with fail
              refine (K11.out _).mono ?_
              rintro e w5 ⟨rfl, hb⟩
              have hb5 := hb4.trans (hb.mono hb4.size)
              clear hb hb4
              go_wp2_with fail
              go_ret
              exact ⟨rfl, hb5⟩
            · have K9 : Hid (∀ wx, Calls Try.prog 9 #[.string s] wx fun e w' => e = .returned (.bool false) ∧ Below wx.heap.size wx w') := short_name h (by rw [name_short, hr, decide_eq_false g, HP.out]; rfl)
              have K11 : Hid (∀ wx, Calls Try.prog 11 #[.string s] wx fun e w' => e = .returned (.bool false) ∧ Below wx.heap.size wx w') := short_id h hr
              have e2 : decide ((s.size : Int) ≤ 63) = false := decide_eq_false (by omega)
              clear hr g
              go_wp2_with fail
              refine (K9.out _).mono ?_
              rintro e w4 ⟨rfl, hb⟩
              have hb4 := HW.out.trans (hb.mono HW.out.size)
              clear hb
              go_wp2_with fail
              refine (K11.out _).mono ?_
              rintro e w5 ⟨rfl, hb⟩
              have hb5 := hb4.trans (hb.mono hb4.size)
              clear hb hb4
              go_wp2_with fail
              go_ret
              exact ⟨rfl, hb5⟩
          · by_cases g : s.size ≤ 63
            · have K9 : Hid (∀ wx, Calls Try.prog 9 #[.string s] wx fun e w' => e = .returned (.bool false) ∧ Below wx.heap.size wx w') := short_name h (by rw [name_short, hr, decide_eq_true g, HP.out]; rfl)
              have K11 : Hid (∀ wx, Calls Try.prog 11 #[.string s] wx fun e w' => e = .returned (.bool true) ∧ Below wx.heap.size wx w') := short_id h hr
              have e2 : decide ((s.size : Int) ≤ 63) = true := decide_eq_true (by omega)
              clear hr g
              go_wp2_with fail
              refine (K9.out _).mono ?_
              rintro e w4 ⟨rfl, hb⟩
              have hb4 := HW.out.trans (hb.mono HW.out.size)
              clear hb
              go_wp2_with fail
              refine (K11.out _).mono ?_
              rintro e w5 ⟨rfl, hb⟩
              have hb5 := hb4.trans (hb.mono hb4.size)
              clear hb hb4
              go_wp2_with fail
              go_ret
              exact ⟨rfl, hb5⟩
            · have K9 : Hid (∀ wx, Calls Try.prog 9 #[.string s] wx fun e w' => e = .returned (.bool false) ∧ Below wx.heap.size wx w') := short_name h (by rw [name_short, hr, decide_eq_false g, HP.out]; rfl)
              have K11 : Hid (∀ wx, Calls Try.prog 11 #[.string s] wx fun e w' => e = .returned (.bool true) ∧ Below wx.heap.size wx w') := short_id h hr
              have e2 : decide ((s.size : Int) ≤ 63) = false := decide_eq_false (by omega)
              clear hr g
              go_wp2_with fail
              refine (K9.out _).mono ?_
              rintro e w4 ⟨rfl, hb⟩
              have hb4 := HW.out.trans (hb.mono HW.out.size)
              clear hb
              go_wp2_with fail
              refine (K11.out _).mono ?_
              rintro e w5 ⟨rfl, hb⟩
              have hb5 := hb4.trans (hb.mono hb4.size)
              clear hb hb4
              go_wp2_with fail
              go_ret
              exact ⟨rfl, hb5⟩
        · subst hi
          cases hr : vId s
          · by_cases g : s.size ≤ 63
            · have K9 : Hid (∀ wx, Calls Try.prog 9 #[.string s] wx fun e w' => e = .returned (.bool false) ∧ Below wx.heap.size wx w') := short_name h (by rw [name_short, hr, decide_eq_true g, HP.out]; rfl)
              have K11 : Hid (∀ wx, Calls Try.prog 11 #[.string s] wx fun e w' => e = .returned (.bool false) ∧ Below wx.heap.size wx w') := short_id h hr
              have e2 : decide ((s.size : Int) ≤ 63) = true := decide_eq_true (by omega)
              clear hr g
              go_wp2_with fail
              refine (K9.out _).mono ?_
              rintro e w4 ⟨rfl, hb⟩
              have hb4 := HW.out.trans (hb.mono HW.out.size)
              clear hb
              go_wp2_with fail
              refine (K11.out _).mono ?_
              rintro e w5 ⟨rfl, hb⟩
              have hb5 := hb4.trans (hb.mono hb4.size)
              clear hb hb4
              go_wp2_with fail
              go_ret
              exact ⟨rfl, hb5⟩
            · have K9 : Hid (∀ wx, Calls Try.prog 9 #[.string s] wx fun e w' => e = .returned (.bool false) ∧ Below wx.heap.size wx w') := short_name h (by rw [name_short, hr, decide_eq_false g, HP.out]; rfl)
              have K11 : Hid (∀ wx, Calls Try.prog 11 #[.string s] wx fun e w' => e = .returned (.bool false) ∧ Below wx.heap.size wx w') := short_id h hr
              have e2 : decide ((s.size : Int) ≤ 63) = false := decide_eq_false (by omega)
              clear hr g
              go_wp2_with fail
              refine (K9.out _).mono ?_
              rintro e w4 ⟨rfl, hb⟩
              have hb4 := HW.out.trans (hb.mono HW.out.size)
              clear hb
              go_wp2_with fail
              refine (K11.out _).mono ?_
              rintro e w5 ⟨rfl, hb⟩
              have hb5 := hb4.trans (hb.mono hb4.size)
              clear hb hb4
              go_wp2_with fail
              go_ret
              exact ⟨rfl, hb5⟩
          · by_cases g : s.size ≤ 63
            · have K9 : Hid (∀ wx, Calls Try.prog 9 #[.string s] wx fun e w' => e = .returned (.bool false) ∧ Below wx.heap.size wx w') := short_name h (by rw [name_short, hr, decide_eq_true g, HP.out]; rfl)
              have K11 : Hid (∀ wx, Calls Try.prog 11 #[.string s] wx fun e w' => e = .returned (.bool true) ∧ Below wx.heap.size wx w') := short_id h hr
              have e2 : decide ((s.size : Int) ≤ 63) = true := decide_eq_true (by omega)
              clear hr g
              go_wp2_with fail
              refine (K9.out _).mono ?_
              rintro e w4 ⟨rfl, hb⟩
              have hb4 := HW.out.trans (hb.mono HW.out.size)
              clear hb
              go_wp2_with fail
              refine (K11.out _).mono ?_
              rintro e w5 ⟨rfl, hb⟩
              have hb5 := hb4.trans (hb.mono hb4.size)
              clear hb hb4
              go_wp2_with fail
              go_ret
              exact ⟨rfl, hb5⟩
            · have K9 : Hid (∀ wx, Calls Try.prog 9 #[.string s] wx fun e w' => e = .returned (.bool false) ∧ Below wx.heap.size wx w') := short_name h (by rw [name_short, hr, decide_eq_false g, HP.out]; rfl)
              have K11 : Hid (∀ wx, Calls Try.prog 11 #[.string s] wx fun e w' => e = .returned (.bool true) ∧ Below wx.heap.size wx w') := short_id h hr
              have e2 : decide ((s.size : Int) ≤ 63) = false := decide_eq_false (by omega)
              clear hr g
              go_wp2_with fail
              refine (K9.out _).mono ?_
              rintro e w4 ⟨rfl, hb⟩
              have hb4 := HW.out.trans (hb.mono HW.out.size)
              clear hb
              go_wp2_with fail
              refine (K11.out _).mono ?_
              rintro e w5 ⟨rfl, hb⟩
              have hb5 := hb4.trans (hb.mono hb4.size)
              clear hb hb4
              go_wp2_with fail
              go_ret
              exact ⟨rfl, hb5⟩
    · have HP : Hid (plainB s = true) := plain_yes (fun i hi => hs.out i (by omega))
      clear hs
      cases hr : vId s
      · by_cases g : s.size ≤ 63
        · have K9 : Hid (∀ wx, Calls Try.prog 9 #[.string s] wx fun e w' => e = .returned (.bool false) ∧ Below wx.heap.size wx w') := short_name h (by rw [name_short, hr, decide_eq_true g, HP.out]; rfl)
          have K11 : Hid (∀ wx, Calls Try.prog 11 #[.string s] wx fun e w' => e = .returned (.bool false) ∧ Below wx.heap.size wx w') := short_id h hr
          have e2 : decide ((s.size : Int) ≤ 63) = true := decide_eq_true (by omega)
          clear hr g
          go_wp2_with fail
          refine (K9.out _).mono ?_
          rintro e w4 ⟨rfl, hb⟩
          have hb4 := HW.out.trans (hb.mono HW.out.size)
          clear hb
          go_wp2_with fail
          refine (K11.out _).mono ?_
          rintro e w5 ⟨rfl, hb⟩
          have hb5 := hb4.trans (hb.mono hb4.size)
          clear hb hb4
          go_wp2_with fail
          go_ret
          exact ⟨rfl, hb5⟩
        · have K9 : Hid (∀ wx, Calls Try.prog 9 #[.string s] wx fun e w' => e = .returned (.bool false) ∧ Below wx.heap.size wx w') := short_name h (by rw [name_short, hr, decide_eq_false g, HP.out]; rfl)
          have K11 : Hid (∀ wx, Calls Try.prog 11 #[.string s] wx fun e w' => e = .returned (.bool false) ∧ Below wx.heap.size wx w') := short_id h hr
          have e2 : decide ((s.size : Int) ≤ 63) = false := decide_eq_false (by omega)
          clear hr g
          go_wp2_with fail
          refine (K9.out _).mono ?_
          rintro e w4 ⟨rfl, hb⟩
          have hb4 := HW.out.trans (hb.mono HW.out.size)
          clear hb
          go_wp2_with fail
          refine (K11.out _).mono ?_
          rintro e w5 ⟨rfl, hb⟩
          have hb5 := hb4.trans (hb.mono hb4.size)
          clear hb hb4
          go_wp2_with fail
          go_ret
          exact ⟨rfl, hb5⟩
      · by_cases g : s.size ≤ 63
        · have K9 : Hid (∀ wx, Calls Try.prog 9 #[.string s] wx fun e w' => e = .returned (.bool true) ∧ Below wx.heap.size wx w') := short_name h (by rw [name_short, hr, decide_eq_true g, HP.out]; rfl)
          have K11 : Hid (∀ wx, Calls Try.prog 11 #[.string s] wx fun e w' => e = .returned (.bool true) ∧ Below wx.heap.size wx w') := short_id h hr
          have e2 : decide ((s.size : Int) ≤ 63) = true := decide_eq_true (by omega)
          clear hr g
          go_wp2_with fail
          refine (K9.out _).mono ?_
          rintro e w4 ⟨rfl, hb⟩
          have hb4 := HW.out.trans (hb.mono HW.out.size)
          clear hb
          go_wp2_with fail
          refine (K11.out _).mono ?_
          rintro e w5 ⟨rfl, hb⟩
          have hb5 := hb4.trans (hb.mono hb4.size)
          clear hb hb4
          go_wp2_with fail
          go_ret
          exact ⟨rfl, hb5⟩
        · have K9 : Hid (∀ wx, Calls Try.prog 9 #[.string s] wx fun e w' => e = .returned (.bool false) ∧ Below wx.heap.size wx w') := short_name h (by rw [name_short, hr, decide_eq_false g, HP.out]; rfl)
          have K11 : Hid (∀ wx, Calls Try.prog 11 #[.string s] wx fun e w' => e = .returned (.bool true) ∧ Below wx.heap.size wx w') := short_id h hr
          have e2 : decide ((s.size : Int) ≤ 63) = false := decide_eq_false (by omega)
          clear hr g
          go_wp2_with fail
          refine (K9.out _).mono ?_
          rintro e w4 ⟨rfl, hb⟩
          have hb4 := HW.out.trans (hb.mono HW.out.size)
          clear hb
          go_wp2_with fail
          refine (K11.out _).mono ?_
          rintro e w5 ⟨rfl, hb⟩
          have hb5 := hb4.trans (hb.mono hb4.size)
          clear hb hb4
          go_wp2_with fail
          go_ret
          exact ⟨rfl, hb5⟩
end Go.Proofs.Qxb6617200a
