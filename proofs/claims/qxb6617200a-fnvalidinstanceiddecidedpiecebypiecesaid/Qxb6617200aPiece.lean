import Derived.Test.Qxb6617200aPlain
import Derived.Test.Qxb6617200aDec
namespace Go.Proofs.Qxb6617200a
open Go.ChangeShapes Go.WideShapes Go.ChangeAt Go.RowKit

set_option maxHeartbeats 400000 in
theorem zzBytes13_yes (s : ByteArray) (i n : Int) (w : World) (h : s.size ≤ 1048576) :
    Calls Try.prog 13 #[.string s, .int .i64 i, .int .u64 n] w fun e w' => e = .returned (.bool true) ∧ w = w' := by
  go_enter Try.func13, Try.ntmps13
  go_wp2
  go_ret
  exact ⟨rfl, rfl⟩
set_option maxHeartbeats 400000 in
theorem zzBytes13_no (s : ByteArray) (i n : Int) (w : World) (h : 1048576 < s.size) :
    Calls Try.prog 13 #[.string s, .int .i64 i, .int .u64 n] w fun e w' => e = .returned (.bool false) ∧ w = w' := by
  go_enter Try.func13, Try.ntmps13
  go_wp2
  go_ret
  exact ⟨rfl, rfl⟩

set_option maxHeartbeats 400000 in
theorem piece_big (s : ByteArray) (i n : Int) (w : World) (h : 1048576 < s.size) :
    Calls Try.prog 6 #[.string s, .int .i64 i, .int .u64 n] w fun e w' => e = .returned (.bool true) ∧ Below w.heap.size w w' := by
  go_enter Try.func6, Try.ntmps6
  go_wp2_with (go_at_call 13; refine (zzBytes13_no _ _ _ _ h).mono ?_; rintro e w' ⟨rfl, rfl⟩)
  go_ret
  exact ⟨rfl, Below.refl _ _⟩
set_option maxHeartbeats 400000 in
theorem piece_neg (s : ByteArray) (i n : Int) (w : World) (h : s.size ≤ 1048576) (hi : i < 0) :
    Calls Try.prog 6 #[.string s, .int .i64 i, .int .u64 n] w fun e w' => e = .returned (.bool true) ∧ Below w.heap.size w w' := by
  have hd0 : decide (i < 0) = true := decide_eq_true hi
  go_enter Try.func6, Try.ntmps6
  go_wp2_with (go_at_call 13; refine (zzBytes13_yes _ _ _ _ h).mono ?_; rintro e w' ⟨rfl, rfl⟩)
  go_ret
  exact ⟨rfl, Below.refl _ _⟩
set_option maxHeartbeats 400000 in
theorem piece_past (s : ByteArray) (i n : Int) (w : World) (h : s.size ≤ 1048576) (hi0 : 0 ≤ i) (hi : (s.size : Int) < i) :
    Calls Try.prog 6 #[.string s, .int .i64 i, .int .u64 n] w fun e w' => e = .returned (.bool true) ∧ Below w.heap.size w w' := by
  have hd0 : decide (i < 0) = false := decide_eq_false (by omega)
  have hd1 : decide ((s.size : Int) < i) = true := decide_eq_true hi
  go_enter Try.func6, Try.ntmps6
  go_wp2_with (go_at_call 13; refine (zzBytes13_yes _ _ _ _ h).mono ?_; rintro e w' ⟨rfl, rfl⟩)
  go_ret
  exact ⟨rfl, Below.refl _ _⟩

theorem cut_join (s : ByteArray) (k : Nat) (hk : k ≤ s.size) : s = s.extract 0 k ++ s.extract k s.size := by
  rw [ByteArray.extract_append_extract, Nat.min_eq_left (Nat.zero_le _), Nat.max_eq_right hk, ByteArray.extract_zero_size]
theorem cut_sizes (s : ByteArray) (k : Nat) (hk : k ≤ s.size) : (s.extract 0 k).size = k ∧ (s.extract k s.size).size = s.size - k := by
  rw [ByteArray.size_extract, ByteArray.size_extract]
  omega

/-- What ValidInstanceID says of s by its two pieces. -/
theorem piece_calls {s : ByteArray} {k : Nat} (h : s.size ≤ 1048576) (hk : k ≤ s.size) (r : Bool)
    (e : (decide (1 ≤ s.size) && decide (s.size ≤ 253) && (decide (k = 0) || vId (s.extract 0 k)) && (decide (s.size - k = 0) || vId (s.extract k s.size))) = r) :
    ∀ wx, Calls Try.prog 11 #[.string s] wx fun e w' => e = .returned (.bool r) ∧ Below wx.heap.size wx w' := by
  intro wx
  have C := validId_any s wx (by omega)
  rw [vId_eq, vG_pieces (cut_join s k hk), (cut_sizes s k hk).1, (cut_sizes s k hk).2, ← vId_eq, ← vId_eq, e] at C
  exact C

set_option maxRecDepth 10000 in
set_option maxHeartbeats 8000000 in
theorem piece_in (s : ByteArray) (k n : Nat) (w : World) (h : s.size ≤ 1048576) (hk : k ≤ s.size) (hn : n < 18446744073709551616) :
    Calls Try.prog 6 #[.string s, .int .i64 k, .int .u64 n] w fun e w' => e = .returned (.bool true) ∧ Below w.heap.size w w' := by
  have hd0 : decide (1048576 < (s.size : Int)) = false := by simp; omega
  have hdi : decide ((k : Int) < 0) = false := decide_eq_false (by omega)
  have hdj : decide ((s.size : Int) < (k : Int)) = false := decide_eq_false (by omega)
  go_enter Try.func6, Try.ntmps6
  go_wp2_with (go_at_call 13; refine (zzBytes13_yes _ _ _ _ h).mono ?_; rintro e w' ⟨rfl, rfl⟩)
  refine (decimal_any n w hn).mono ?_
  rintro e w1 ⟨D, rfl, hD1, hD2, hD, hb1⟩
  have hv := vG_digits (L := 253) okI_dig hD1 hD2 (by omega) hD
  rw [← vId_eq] at hv
  clear hD
  go_wp2_with fail
  have C := validId_any D w1 (by omega)
  rw [hv] at C
  refine C.mono ?_
  clear C hv
  rintro e w2 ⟨rfl, hb⟩
  have hb2 := hb1.trans (hb.mono hb1.size)
  clear hb hb1
  by_cases g1 : 1 ≤ s.size
  · by_cases g2 : s.size ≤ 253
    · by_cases g3 : k = 0
      · by_cases g4 : s.size - k = 0
        · omega
        · cases hrb : vId (s.extract k s.size)
          · have K0 : Hid (∀ wx, Calls Try.prog 11 #[.string s] wx fun e w' => e = .returned (.bool false) ∧ Below wx.heap.size wx w') := piece_calls (k := k) h hk _ (by rw [decide_eq_true g1, decide_eq_true g2, decide_eq_true g3, decide_eq_false g4, hrb]; rfl)
            have KB : Hid (∀ wx, Calls Try.prog 11 #[.string (s.extract k s.size)] wx fun e w' => e = .returned (.bool false) ∧ Below wx.heap.size wx w') := fun wx => by have C := validId_any (s.extract k s.size) wx (by rw [(cut_sizes s k hk).2]; omega); rw [hrb] at C; exact C
            have e1 : decide (1 ≤ (s.size : Int)) = true := decide_eq_true (by omega)
            have e2 : decide ((s.size : Int) ≤ 253) = true := decide_eq_true (by omega)
            have e3 : ((k : Int) == 0) = true := beq_iff_eq.2 (by omega)
            have e4 : ((k : Int) == (s.size : Int)) = false := beq_eq_false_iff_ne.2 (by omega)
            clear g1 g2 g3 g4 hrb
            go_wp2_with fail
            refine (KB.out _).mono ?_
            rintro e w3 ⟨rfl, hb⟩
            have hb3 := hb2.trans (hb.mono hb2.size)
            clear hb hb2
            go_wp2_with fail
            refine (K0.out _).mono ?_
            rintro e w4 ⟨rfl, hb⟩
            have hb4 := hb3.trans (hb.mono hb3.size)
            clear hb hb3
            go_wp2_with fail
            go_ret
            exact ⟨rfl, hb4⟩
          · have K0 : Hid (∀ wx, Calls Try.prog 11 #[.string s] wx fun e w' => e = .returned (.bool true) ∧ Below wx.heap.size wx w') := piece_calls (k := k) h hk _ (by rw [decide_eq_true g1, decide_eq_true g2, decide_eq_true g3, decide_eq_false g4, hrb]; rfl)
            have KB : Hid (∀ wx, Calls Try.prog 11 #[.string (s.extract k s.size)] wx fun e w' => e = .returned (.bool true) ∧ Below wx.heap.size wx w') := fun wx => by have C := validId_any (s.extract k s.size) wx (by rw [(cut_sizes s k hk).2]; omega); rw [hrb] at C; exact C
            have e1 : decide (1 ≤ (s.size : Int)) = true := decide_eq_true (by omega)
            have e2 : decide ((s.size : Int) ≤ 253) = true := decide_eq_true (by omega)
            have e3 : ((k : Int) == 0) = true := beq_iff_eq.2 (by omega)
            have e4 : ((k : Int) == (s.size : Int)) = false := beq_eq_false_iff_ne.2 (by omega)
            clear g1 g2 g3 g4 hrb
            go_wp2_with fail
            refine (KB.out _).mono ?_
            rintro e w3 ⟨rfl, hb⟩
            have hb3 := hb2.trans (hb.mono hb2.size)
            clear hb hb2
            go_wp2_with fail
            refine (K0.out _).mono ?_
            rintro e w4 ⟨rfl, hb⟩
            have hb4 := hb3.trans (hb.mono hb3.size)
            clear hb hb3
            go_wp2_with fail
            go_ret
            exact ⟨rfl, hb4⟩
      · cases hra : vId (s.extract 0 k)
        · by_cases g4 : s.size - k = 0
          · have K0 : Hid (∀ wx, Calls Try.prog 11 #[.string s] wx fun e w' => e = .returned (.bool false) ∧ Below wx.heap.size wx w') := piece_calls (k := k) h hk _ (by rw [decide_eq_true g1, decide_eq_true g2, decide_eq_false g3, decide_eq_true g4, hra]; rfl)
            have KA : Hid (∀ wx, Calls Try.prog 11 #[.string (s.extract 0 k)] wx fun e w' => e = .returned (.bool false) ∧ Below wx.heap.size wx w') := fun wx => by have C := validId_any (s.extract 0 k) wx (by rw [(cut_sizes s k hk).1]; omega); rw [hra] at C; exact C
            have e1 : decide (1 ≤ (s.size : Int)) = true := decide_eq_true (by omega)
            have e2 : decide ((s.size : Int) ≤ 253) = true := decide_eq_true (by omega)
            have e3 : ((k : Int) == 0) = false := beq_eq_false_iff_ne.2 (by omega)
            have e4 : ((k : Int) == (s.size : Int)) = true := beq_iff_eq.2 (by omega)
            clear g1 g2 g3 g4 hra
            go_wp2_with fail
            refine (KA.out _).mono ?_
            rintro e w3 ⟨rfl, hb⟩
            have hb3 := hb2.trans (hb.mono hb2.size)
            clear hb hb2
            go_wp2_with fail
            refine (K0.out _).mono ?_
            rintro e w4 ⟨rfl, hb⟩
            have hb4 := hb3.trans (hb.mono hb3.size)
            clear hb hb3
            go_wp2_with fail
            go_ret
            exact ⟨rfl, hb4⟩
          · cases hrb : vId (s.extract k s.size)
            · have K0 : Hid (∀ wx, Calls Try.prog 11 #[.string s] wx fun e w' => e = .returned (.bool false) ∧ Below wx.heap.size wx w') := piece_calls (k := k) h hk _ (by rw [decide_eq_true g1, decide_eq_true g2, decide_eq_false g3, decide_eq_false g4, hra, hrb]; rfl)
              have KA : Hid (∀ wx, Calls Try.prog 11 #[.string (s.extract 0 k)] wx fun e w' => e = .returned (.bool false) ∧ Below wx.heap.size wx w') := fun wx => by have C := validId_any (s.extract 0 k) wx (by rw [(cut_sizes s k hk).1]; omega); rw [hra] at C; exact C
              have KB : Hid (∀ wx, Calls Try.prog 11 #[.string (s.extract k s.size)] wx fun e w' => e = .returned (.bool false) ∧ Below wx.heap.size wx w') := fun wx => by have C := validId_any (s.extract k s.size) wx (by rw [(cut_sizes s k hk).2]; omega); rw [hrb] at C; exact C
              have e1 : decide (1 ≤ (s.size : Int)) = true := decide_eq_true (by omega)
              have e2 : decide ((s.size : Int) ≤ 253) = true := decide_eq_true (by omega)
              have e3 : ((k : Int) == 0) = false := beq_eq_false_iff_ne.2 (by omega)
              have e4 : ((k : Int) == (s.size : Int)) = false := beq_eq_false_iff_ne.2 (by omega)
              clear g1 g2 g3 g4 hra hrb
              go_wp2_with fail
              refine (KA.out _).mono ?_
              rintro e w3 ⟨rfl, hb⟩
              have hb3 := hb2.trans (hb.mono hb2.size)
              clear hb hb2
              go_wp2_with fail
              refine (KB.out _).mono ?_
              rintro e w4 ⟨rfl, hb⟩
              have hb4 := hb3.trans (hb.mono hb3.size)
              clear hb hb3
              go_wp2_with fail
              refine (K0.out _).mono ?_
              rintro e w5 ⟨rfl, hb⟩
              have hb5 := hb4.trans (hb.mono hb4.size)
              clear hb hb4
              go_wp2_with fail
              go_ret
              exact ⟨rfl, hb5⟩
            · have K0 : Hid (∀ wx, Calls Try.prog 11 #[.string s] wx fun e w' => e = .returned (.bool false) ∧ Below wx.heap.size wx w') := piece_calls (k := k) h hk _ (by rw [decide_eq_true g1, decide_eq_true g2, decide_eq_false g3, decide_eq_false g4, hra, hrb]; rfl)
              have KA : Hid (∀ wx, Calls Try.prog 11 #[.string (s.extract 0 k)] wx fun e w' => e = .returned (.bool false) ∧ Below wx.heap.size wx w') := fun wx => by have C := validId_any (s.extract 0 k) wx (by rw [(cut_sizes s k hk).1]; omega); rw [hra] at C; exact C
              have KB : Hid (∀ wx, Calls Try.prog 11 #[.string (s.extract k s.size)] wx fun e w' => e = .returned (.bool true) ∧ Below wx.heap.size wx w') := fun wx => by have C := validId_any (s.extract k s.size) wx (by rw [(cut_sizes s k hk).2]; omega); rw [hrb] at C; exact C
              have e1 : decide (1 ≤ (s.size : Int)) = true := decide_eq_true (by omega)
              have e2 : decide ((s.size : Int) ≤ 253) = true := decide_eq_true (by omega)
              have e3 : ((k : Int) == 0) = false := beq_eq_false_iff_ne.2 (by omega)
              have e4 : ((k : Int) == (s.size : Int)) = false := beq_eq_false_iff_ne.2 (by omega)
              clear g1 g2 g3 g4 hra hrb
              go_wp2_with fail
              refine (KA.out _).mono ?_
              rintro e w3 ⟨rfl, hb⟩
              have hb3 := hb2.trans (hb.mono hb2.size)
              clear hb hb2
              go_wp2_with fail
              refine (KB.out _).mono ?_
              rintro e w4 ⟨rfl, hb⟩
              have hb4 := hb3.trans (hb.mono hb3.size)
              clear hb hb3
              go_wp2_with fail
              refine (K0.out _).mono ?_
              rintro e w5 ⟨rfl, hb⟩
              have hb5 := hb4.trans (hb.mono hb4.size)
              clear hb hb4
              go_wp2_with fail
              go_ret
              exact ⟨rfl, hb5⟩
        · by_cases g4 : s.size - k = 0
          · have K0 : Hid (∀ wx, Calls Try.prog 11 #[.string s] wx fun e w' => e = .returned (.bool true) ∧ Below wx.heap.size wx w') := piece_calls (k := k) h hk _ (by rw [decide_eq_true g1, decide_eq_true g2, decide_eq_false g3, decide_eq_true g4, hra]; rfl)
            have KA : Hid (∀ wx, Calls Try.prog 11 #[.string (s.extract 0 k)] wx fun e w' => e = .returned (.bool true) ∧ Below wx.heap.size wx w') := fun wx => by have C := validId_any (s.extract 0 k) wx (by rw [(cut_sizes s k hk).1]; omega); rw [hra] at C; exact C
            have e1 : decide (1 ≤ (s.size : Int)) = true := decide_eq_true (by omega)
            have e2 : decide ((s.size : Int) ≤ 253) = true := decide_eq_true (by omega)
            have e3 : ((k : Int) == 0) = false := beq_eq_false_iff_ne.2 (by omega)
            have e4 : ((k : Int) == (s.size : Int)) = true := beq_iff_eq.2 (by omega)
            clear g1 g2 g3 g4 hra
            go_wp2_with fail
            refine (KA.out _).mono ?_
            rintro e w3 ⟨rfl, hb⟩
            have hb3 := hb2.trans (hb.mono hb2.size)
            clear hb hb2
            go_wp2_with fail
            refine (K0.out _).mono ?_
            rintro e w4 ⟨rfl, hb⟩
            have hb4 := hb3.trans (hb.mono hb3.size)
            clear hb hb3
            go_wp2_with fail
            go_ret
            exact ⟨rfl, hb4⟩
          · cases hrb : vId (s.extract k s.size)
            · have K0 : Hid (∀ wx, Calls Try.prog 11 #[.string s] wx fun e w' => e = .returned (.bool false) ∧ Below wx.heap.size wx w') := piece_calls (k := k) h hk _ (by rw [decide_eq_true g1, decide_eq_true g2, decide_eq_false g3, decide_eq_false g4, hra, hrb]; rfl)
              have KA : Hid (∀ wx, Calls Try.prog 11 #[.string (s.extract 0 k)] wx fun e w' => e = .returned (.bool true) ∧ Below wx.heap.size wx w') := fun wx => by have C := validId_any (s.extract 0 k) wx (by rw [(cut_sizes s k hk).1]; omega); rw [hra] at C; exact C
              have KB : Hid (∀ wx, Calls Try.prog 11 #[.string (s.extract k s.size)] wx fun e w' => e = .returned (.bool false) ∧ Below wx.heap.size wx w') := fun wx => by have C := validId_any (s.extract k s.size) wx (by rw [(cut_sizes s k hk).2]; omega); rw [hrb] at C; exact C
              have e1 : decide (1 ≤ (s.size : Int)) = true := decide_eq_true (by omega)
              have e2 : decide ((s.size : Int) ≤ 253) = true := decide_eq_true (by omega)
              have e3 : ((k : Int) == 0) = false := beq_eq_false_iff_ne.2 (by omega)
              have e4 : ((k : Int) == (s.size : Int)) = false := beq_eq_false_iff_ne.2 (by omega)
              clear g1 g2 g3 g4 hra hrb
              go_wp2_with fail
              refine (KA.out _).mono ?_
              rintro e w3 ⟨rfl, hb⟩
              have hb3 := hb2.trans (hb.mono hb2.size)
              clear hb hb2
              go_wp2_with fail
              refine (KB.out _).mono ?_
              rintro e w4 ⟨rfl, hb⟩
              have hb4 := hb3.trans (hb.mono hb3.size)
              clear hb hb3
              go_wp2_with fail
              refine (K0.out _).mono ?_
              rintro e w5 ⟨rfl, hb⟩
              have hb5 := hb4.trans (hb.mono hb4.size)
              clear hb hb4
              go_wp2_with fail
              go_ret
              exact ⟨rfl, hb5⟩
            · have K0 : Hid (∀ wx, Calls Try.prog 11 #[.string s] wx fun e w' => e = .returned (.bool true) ∧ Below wx.heap.size wx w') := piece_calls (k := k) h hk _ (by rw [decide_eq_true g1, decide_eq_true g2, decide_eq_false g3, decide_eq_false g4, hra, hrb]; rfl)
              have KA : Hid (∀ wx, Calls Try.prog 11 #[.string (s.extract 0 k)] wx fun e w' => e = .returned (.bool true) ∧ Below wx.heap.size wx w') := fun wx => by have C := validId_any (s.extract 0 k) wx (by rw [(cut_sizes s k hk).1]; omega); rw [hra] at C; exact C
              have KB : Hid (∀ wx, Calls Try.prog 11 #[.string (s.extract k s.size)] wx fun e w' => e = .returned (.bool true) ∧ Below wx.heap.size wx w') := fun wx => by have C := validId_any (s.extract k s.size) wx (by rw [(cut_sizes s k hk).2]; omega); rw [hrb] at C; exact C
              have e1 : decide (1 ≤ (s.size : Int)) = true := decide_eq_true (by omega)
              have e2 : decide ((s.size : Int) ≤ 253) = true := decide_eq_true (by omega)
              have e3 : ((k : Int) == 0) = false := beq_eq_false_iff_ne.2 (by omega)
              have e4 : ((k : Int) == (s.size : Int)) = false := beq_eq_false_iff_ne.2 (by omega)
              clear g1 g2 g3 g4 hra hrb
              go_wp2_with fail
              refine (KA.out _).mono ?_
              rintro e w3 ⟨rfl, hb⟩
              have hb3 := hb2.trans (hb.mono hb2.size)
              clear hb hb2
              go_wp2_with fail
              refine (KB.out _).mono ?_
              rintro e w4 ⟨rfl, hb⟩
              have hb4 := hb3.trans (hb.mono hb3.size)
              clear hb hb3
              go_wp2_with fail
              refine (K0.out _).mono ?_
              rintro e w5 ⟨rfl, hb⟩
              have hb5 := hb4.trans (hb.mono hb4.size)
              clear hb hb4
              go_wp2_with fail
              go_ret
              exact ⟨rfl, hb5⟩
    · by_cases g3 : k = 0
      · by_cases g4 : s.size - k = 0
        · omega
        · cases hrb : vId (s.extract k s.size)
          · have K0 : Hid (∀ wx, Calls Try.prog 11 #[.string s] wx fun e w' => e = .returned (.bool false) ∧ Below wx.heap.size wx w') := piece_calls (k := k) h hk _ (by rw [decide_eq_true g1, decide_eq_false g2, decide_eq_true g3, decide_eq_false g4, hrb]; rfl)
            have KB : Hid (∀ wx, Calls Try.prog 11 #[.string (s.extract k s.size)] wx fun e w' => e = .returned (.bool false) ∧ Below wx.heap.size wx w') := fun wx => by have C := validId_any (s.extract k s.size) wx (by rw [(cut_sizes s k hk).2]; omega); rw [hrb] at C; exact C
            have e1 : decide (1 ≤ (s.size : Int)) = true := decide_eq_true (by omega)
            have e2 : decide ((s.size : Int) ≤ 253) = false := decide_eq_false (by omega)
            have e3 : ((k : Int) == 0) = true := beq_iff_eq.2 (by omega)
            have e4 : ((k : Int) == (s.size : Int)) = false := beq_eq_false_iff_ne.2 (by omega)
            clear g1 g2 g3 g4 hrb
            go_wp2_with fail
            refine (KB.out _).mono ?_
            rintro e w3 ⟨rfl, hb⟩
            have hb3 := hb2.trans (hb.mono hb2.size)
            clear hb hb2
            go_wp2_with fail
            refine (K0.out _).mono ?_
            rintro e w4 ⟨rfl, hb⟩
            have hb4 := hb3.trans (hb.mono hb3.size)
            clear hb hb3
            go_wp2_with fail
            go_ret
            exact ⟨rfl, hb4⟩
          · have K0 : Hid (∀ wx, Calls Try.prog 11 #[.string s] wx fun e w' => e = .returned (.bool false) ∧ Below wx.heap.size wx w') := piece_calls (k := k) h hk _ (by rw [decide_eq_true g1, decide_eq_false g2, decide_eq_true g3, decide_eq_false g4, hrb]; rfl)
            have KB : Hid (∀ wx, Calls Try.prog 11 #[.string (s.extract k s.size)] wx fun e w' => e = .returned (.bool true) ∧ Below wx.heap.size wx w') := fun wx => by have C := validId_any (s.extract k s.size) wx (by rw [(cut_sizes s k hk).2]; omega); rw [hrb] at C; exact C
            have e1 : decide (1 ≤ (s.size : Int)) = true := decide_eq_true (by omega)
            have e2 : decide ((s.size : Int) ≤ 253) = false := decide_eq_false (by omega)
            have e3 : ((k : Int) == 0) = true := beq_iff_eq.2 (by omega)
            have e4 : ((k : Int) == (s.size : Int)) = false := beq_eq_false_iff_ne.2 (by omega)
            clear g1 g2 g3 g4 hrb
            go_wp2_with fail
            refine (KB.out _).mono ?_
            rintro e w3 ⟨rfl, hb⟩
            have hb3 := hb2.trans (hb.mono hb2.size)
            clear hb hb2
            go_wp2_with fail
            refine (K0.out _).mono ?_
            rintro e w4 ⟨rfl, hb⟩
            have hb4 := hb3.trans (hb.mono hb3.size)
            clear hb hb3
            go_wp2_with fail
            go_ret
            exact ⟨rfl, hb4⟩
      · cases hra : vId (s.extract 0 k)
        · by_cases g4 : s.size - k = 0
          · have K0 : Hid (∀ wx, Calls Try.prog 11 #[.string s] wx fun e w' => e = .returned (.bool false) ∧ Below wx.heap.size wx w') := piece_calls (k := k) h hk _ (by rw [decide_eq_true g1, decide_eq_false g2, decide_eq_false g3, decide_eq_true g4, hra]; rfl)
            have KA : Hid (∀ wx, Calls Try.prog 11 #[.string (s.extract 0 k)] wx fun e w' => e = .returned (.bool false) ∧ Below wx.heap.size wx w') := fun wx => by have C := validId_any (s.extract 0 k) wx (by rw [(cut_sizes s k hk).1]; omega); rw [hra] at C; exact C
            have e1 : decide (1 ≤ (s.size : Int)) = true := decide_eq_true (by omega)
            have e2 : decide ((s.size : Int) ≤ 253) = false := decide_eq_false (by omega)
            have e3 : ((k : Int) == 0) = false := beq_eq_false_iff_ne.2 (by omega)
            have e4 : ((k : Int) == (s.size : Int)) = true := beq_iff_eq.2 (by omega)
            clear g1 g2 g3 g4 hra
            go_wp2_with fail
            refine (KA.out _).mono ?_
            rintro e w3 ⟨rfl, hb⟩
            have hb3 := hb2.trans (hb.mono hb2.size)
            clear hb hb2
            go_wp2_with fail
            refine (K0.out _).mono ?_
            rintro e w4 ⟨rfl, hb⟩
            have hb4 := hb3.trans (hb.mono hb3.size)
            clear hb hb3
            go_wp2_with fail
            go_ret
            exact ⟨rfl, hb4⟩
          · cases hrb : vId (s.extract k s.size)
            · have K0 : Hid (∀ wx, Calls Try.prog 11 #[.string s] wx fun e w' => e = .returned (.bool false) ∧ Below wx.heap.size wx w') := piece_calls (k := k) h hk _ (by rw [decide_eq_true g1, decide_eq_false g2, decide_eq_false g3, decide_eq_false g4, hra, hrb]; rfl)
              have KA : Hid (∀ wx, Calls Try.prog 11 #[.string (s.extract 0 k)] wx fun e w' => e = .returned (.bool false) ∧ Below wx.heap.size wx w') := fun wx => by have C := validId_any (s.extract 0 k) wx (by rw [(cut_sizes s k hk).1]; omega); rw [hra] at C; exact C
              have KB : Hid (∀ wx, Calls Try.prog 11 #[.string (s.extract k s.size)] wx fun e w' => e = .returned (.bool false) ∧ Below wx.heap.size wx w') := fun wx => by have C := validId_any (s.extract k s.size) wx (by rw [(cut_sizes s k hk).2]; omega); rw [hrb] at C; exact C
              have e1 : decide (1 ≤ (s.size : Int)) = true := decide_eq_true (by omega)
              have e2 : decide ((s.size : Int) ≤ 253) = false := decide_eq_false (by omega)
              have e3 : ((k : Int) == 0) = false := beq_eq_false_iff_ne.2 (by omega)
              have e4 : ((k : Int) == (s.size : Int)) = false := beq_eq_false_iff_ne.2 (by omega)
              clear g1 g2 g3 g4 hra hrb
              go_wp2_with fail
              refine (KA.out _).mono ?_
              rintro e w3 ⟨rfl, hb⟩
              have hb3 := hb2.trans (hb.mono hb2.size)
              clear hb hb2
              go_wp2_with fail
              refine (KB.out _).mono ?_
              rintro e w4 ⟨rfl, hb⟩
              have hb4 := hb3.trans (hb.mono hb3.size)
              clear hb hb3
              go_wp2_with fail
              refine (K0.out _).mono ?_
              rintro e w5 ⟨rfl, hb⟩
              have hb5 := hb4.trans (hb.mono hb4.size)
              clear hb hb4
              go_wp2_with fail
              go_ret
              exact ⟨rfl, hb5⟩
            · have K0 : Hid (∀ wx, Calls Try.prog 11 #[.string s] wx fun e w' => e = .returned (.bool false) ∧ Below wx.heap.size wx w') := piece_calls (k := k) h hk _ (by rw [decide_eq_true g1, decide_eq_false g2, decide_eq_false g3, decide_eq_false g4, hra, hrb]; rfl)
              have KA : Hid (∀ wx, Calls Try.prog 11 #[.string (s.extract 0 k)] wx fun e w' => e = .returned (.bool false) ∧ Below wx.heap.size wx w') := fun wx => by have C := validId_any (s.extract 0 k) wx (by rw [(cut_sizes s k hk).1]; omega); rw [hra] at C; exact C
              have KB : Hid (∀ wx, Calls Try.prog 11 #[.string (s.extract k s.size)] wx fun e w' => e = .returned (.bool true) ∧ Below wx.heap.size wx w') := fun wx => by have C := validId_any (s.extract k s.size) wx (by rw [(cut_sizes s k hk).2]; omega); rw [hrb] at C; exact C
              have e1 : decide (1 ≤ (s.size : Int)) = true := decide_eq_true (by omega)
              have e2 : decide ((s.size : Int) ≤ 253) = false := decide_eq_false (by omega)
              have e3 : ((k : Int) == 0) = false := beq_eq_false_iff_ne.2 (by omega)
              have e4 : ((k : Int) == (s.size : Int)) = false := beq_eq_false_iff_ne.2 (by omega)
              clear g1 g2 g3 g4 hra hrb
              go_wp2_with fail
              refine (KA.out _).mono ?_
              rintro e w3 ⟨rfl, hb⟩
              have hb3 := hb2.trans (hb.mono hb2.size)
              clear hb hb2
              go_wp2_with fail
              refine (KB.out _).mono ?_
              rintro e w4 ⟨rfl, hb⟩
              have hb4 := hb3.trans (hb.mono hb3.size)
              clear hb hb3
              go_wp2_with fail
              refine (K0.out _).mono ?_
              rintro e w5 ⟨rfl, hb⟩
              have hb5 := hb4.trans (hb.mono hb4.size)
              clear hb hb4
              go_wp2_with fail
              go_ret
              exact ⟨rfl, hb5⟩
        · by_cases g4 : s.size - k = 0
          · have K0 : Hid (∀ wx, Calls Try.prog 11 #[.string s] wx fun e w' => e = .returned (.bool false) ∧ Below wx.heap.size wx w') := piece_calls (k := k) h hk _ (by rw [decide_eq_true g1, decide_eq_false g2, decide_eq_false g3, decide_eq_true g4, hra]; rfl)
            have KA : Hid (∀ wx, Calls Try.prog 11 #[.string (s.extract 0 k)] wx fun e w' => e = .returned (.bool true) ∧ Below wx.heap.size wx w') := fun wx => by have C := validId_any (s.extract 0 k) wx (by rw [(cut_sizes s k hk).1]; omega); rw [hra] at C; exact C
            have e1 : decide (1 ≤ (s.size : Int)) = true := decide_eq_true (by omega)
            have e2 : decide ((s.size : Int) ≤ 253) = false := decide_eq_false (by omega)
            have e3 : ((k : Int) == 0) = false := beq_eq_false_iff_ne.2 (by omega)
            have e4 : ((k : Int) == (s.size : Int)) = true := beq_iff_eq.2 (by omega)
            clear g1 g2 g3 g4 hra
            go_wp2_with fail
            refine (KA.out _).mono ?_
            rintro e w3 ⟨rfl, hb⟩
            have hb3 := hb2.trans (hb.mono hb2.size)
            clear hb hb2
            go_wp2_with fail
            refine (K0.out _).mono ?_
            rintro e w4 ⟨rfl, hb⟩
            have hb4 := hb3.trans (hb.mono hb3.size)
            clear hb hb3
            go_wp2_with fail
            go_ret
            exact ⟨rfl, hb4⟩
          · cases hrb : vId (s.extract k s.size)
            · have K0 : Hid (∀ wx, Calls Try.prog 11 #[.string s] wx fun e w' => e = .returned (.bool false) ∧ Below wx.heap.size wx w') := piece_calls (k := k) h hk _ (by rw [decide_eq_true g1, decide_eq_false g2, decide_eq_false g3, decide_eq_false g4, hra, hrb]; rfl)
              have KA : Hid (∀ wx, Calls Try.prog 11 #[.string (s.extract 0 k)] wx fun e w' => e = .returned (.bool true) ∧ Below wx.heap.size wx w') := fun wx => by have C := validId_any (s.extract 0 k) wx (by rw [(cut_sizes s k hk).1]; omega); rw [hra] at C; exact C
              have KB : Hid (∀ wx, Calls Try.prog 11 #[.string (s.extract k s.size)] wx fun e w' => e = .returned (.bool false) ∧ Below wx.heap.size wx w') := fun wx => by have C := validId_any (s.extract k s.size) wx (by rw [(cut_sizes s k hk).2]; omega); rw [hrb] at C; exact C
              have e1 : decide (1 ≤ (s.size : Int)) = true := decide_eq_true (by omega)
              have e2 : decide ((s.size : Int) ≤ 253) = false := decide_eq_false (by omega)
              have e3 : ((k : Int) == 0) = false := beq_eq_false_iff_ne.2 (by omega)
              have e4 : ((k : Int) == (s.size : Int)) = false := beq_eq_false_iff_ne.2 (by omega)
              clear g1 g2 g3 g4 hra hrb
              go_wp2_with fail
              refine (KA.out _).mono ?_
              rintro e w3 ⟨rfl, hb⟩
              have hb3 := hb2.trans (hb.mono hb2.size)
              clear hb hb2
              go_wp2_with fail
              refine (KB.out _).mono ?_
              rintro e w4 ⟨rfl, hb⟩
              have hb4 := hb3.trans (hb.mono hb3.size)
              clear hb hb3
              go_wp2_with fail
              refine (K0.out _).mono ?_
              rintro e w5 ⟨rfl, hb⟩
              have hb5 := hb4.trans (hb.mono hb4.size)
              clear hb hb4
              go_wp2_with fail
              go_ret
              exact ⟨rfl, hb5⟩
            · have K0 : Hid (∀ wx, Calls Try.prog 11 #[.string s] wx fun e w' => e = .returned (.bool false) ∧ Below wx.heap.size wx w') := piece_calls (k := k) h hk _ (by rw [decide_eq_true g1, decide_eq_false g2, decide_eq_false g3, decide_eq_false g4, hra, hrb]; rfl)
              have KA : Hid (∀ wx, Calls Try.prog 11 #[.string (s.extract 0 k)] wx fun e w' => e = .returned (.bool true) ∧ Below wx.heap.size wx w') := fun wx => by have C := validId_any (s.extract 0 k) wx (by rw [(cut_sizes s k hk).1]; omega); rw [hra] at C; exact C
              have KB : Hid (∀ wx, Calls Try.prog 11 #[.string (s.extract k s.size)] wx fun e w' => e = .returned (.bool true) ∧ Below wx.heap.size wx w') := fun wx => by have C := validId_any (s.extract k s.size) wx (by rw [(cut_sizes s k hk).2]; omega); rw [hrb] at C; exact C
              have e1 : decide (1 ≤ (s.size : Int)) = true := decide_eq_true (by omega)
              have e2 : decide ((s.size : Int) ≤ 253) = false := decide_eq_false (by omega)
              have e3 : ((k : Int) == 0) = false := beq_eq_false_iff_ne.2 (by omega)
              have e4 : ((k : Int) == (s.size : Int)) = false := beq_eq_false_iff_ne.2 (by omega)
              clear g1 g2 g3 g4 hra hrb
              go_wp2_with fail
              refine (KA.out _).mono ?_
              rintro e w3 ⟨rfl, hb⟩
              have hb3 := hb2.trans (hb.mono hb2.size)
              clear hb hb2
              go_wp2_with fail
              refine (KB.out _).mono ?_
              rintro e w4 ⟨rfl, hb⟩
              have hb4 := hb3.trans (hb.mono hb3.size)
              clear hb hb3
              go_wp2_with fail
              refine (K0.out _).mono ?_
              rintro e w5 ⟨rfl, hb⟩
              have hb5 := hb4.trans (hb.mono hb4.size)
              clear hb hb4
              go_wp2_with fail
              go_ret
              exact ⟨rfl, hb5⟩
  · have g2 : s.size ≤ 253 := by omega
    by_cases g3 : k = 0
    · by_cases g4 : s.size - k = 0
      · have K0 : Hid (∀ wx, Calls Try.prog 11 #[.string s] wx fun e w' => e = .returned (.bool false) ∧ Below wx.heap.size wx w') := piece_calls (k := k) h hk _ (by rw [decide_eq_false g1, decide_eq_true g2, decide_eq_true g3, decide_eq_true g4]; rfl)
        have e1 : decide (1 ≤ (s.size : Int)) = false := decide_eq_false (by omega)
        have e2 : decide ((s.size : Int) ≤ 253) = true := decide_eq_true (by omega)
        have e3 : ((k : Int) == 0) = true := beq_iff_eq.2 (by omega)
        have e4 : ((k : Int) == (s.size : Int)) = true := beq_iff_eq.2 (by omega)
        clear g1 g2 g3 g4
        go_wp2_with fail
        refine (K0.out _).mono ?_
        rintro e w3 ⟨rfl, hb⟩
        have hb3 := hb2.trans (hb.mono hb2.size)
        clear hb hb2
        go_wp2_with fail
        go_ret
        exact ⟨rfl, hb3⟩
      · omega
    · omega
end Go.Proofs.Qxb6617200a
