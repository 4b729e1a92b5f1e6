import Derived.Test.Qxb6617175aPop
namespace Go.Proofs.Qxb6617175a
open Go.ChangeShapes Go.WideShapes Go.ChangeAt Go.RowKit

set_option maxHeartbeats 400000 in
theorem zzBytes17_yes (named : Bool) (a : Option Addr) (len cap : Nat) (n : Int) (w : World) (h : len ≤ 1048576) :
    Calls Try.prog 17 #[.bool named, .slice a len cap, .int .i64 n] w fun e w' => e = .returned (.bool true) ∧ w = w' := by
  go_enter Try.func17, Try.ntmps17
  go_wp2
  go_ret
  exact ⟨rfl, rfl⟩

set_option maxHeartbeats 400000 in
theorem zzBytes17_no (named : Bool) (a : Option Addr) (len cap : Nat) (n : Int) (w : World) (h : 1048576 < len) :
    Calls Try.prog 17 #[.bool named, .slice a len cap, .int .i64 n] w fun e w' => e = .returned (.bool false) ∧ w = w' := by
  go_enter Try.func17, Try.ntmps17
  go_wp2
  go_ret
  exact ⟨rfl, rfl⟩

/-- The law's own row of bytes, and that nothing below it has turned. -/
structure One (w0 wr : World) (B len : Nat) (f : Nat → Int) : Prop where
  a : BRow wr B len f
  bel : Below B w0 wr
theorem One.later {w0 wr w' : World} {B len : Nat} {f : Nat → Int} (t : One w0 wr B len f) (hb : Below wr.heap.size wr w') : One w0 w' B len f :=
  ⟨t.a.below hb t.a.lt, t.bel.trans (hb.mono (Nat.le_of_lt t.a.lt))⟩

theorem cnt_yes {named : Bool} {len : Nat} {f : Nat → Int} {k : Nat} (h : markB named len f k = true) : cnt named len f (k + 1) = cnt named len f k + 1 := by
  rw [cnt, if_pos h]
theorem cnt_no {named : Bool} {len : Nat} {f : Nat → Int} {k : Nat} (h : markB named len f k = false) : cnt named len f (k + 1) = cnt named len f k := by
  rw [cnt, h]; rfl

set_option maxRecDepth 10000 in
set_option maxHeartbeats 1000000 in
theorem counts_in (named : Bool) (x : Addr) (len cap n : Nat) (f : Nat → Int) (w : World) (hl : len ≤ 4096) (hn : n ≤ 9223372036854775807) (hcell : ∀ i, i < len → w.cell? (x.add i) = some (.int .u8 (f i))) (hf : ∀ i, i < len → 0 ≤ f i ∧ f i < 256) :
    Calls Try.prog 7 #[.bool named, .slice (some x) len cap, .int .i64 n] w fun e w' => e = .returned (.bool true) ∧ Below w.heap.size w w' := by
  have q22 : ∀ (w : World) (a : Option Addr) (n c n' c' : Nat), (binOp .neq 22 (.slice a n c) (.slice none n' c')).run Try.prog w = .ok (.bool (!a.isNone)) w := fun w a n c n' c' => run_neq_slice_nil_any w _ _ a n c n' c' Try.underlying22
  have q22' : ∀ (w : World) (a : Option Addr) (n c n' c' : Nat), (binOp .eql 22 (.slice a n c) (.slice none n' c')).run Try.prog w = .ok (.bool a.isNone) w := fun w a n c n' c' => Lib.run_eql_slice_nil w _ _ a n c n' c' Try.underlying22
  have hd1 : decide ((4096 : Int) < (len : Int)) = false := by simp; omega
  have hd2 : decide ((n : Int) < 0) = false := by simp
  have HC : Hid (∀ i, i < len → w.cell? (x.add i) = some (.int .u8 (f i))) := hcell
  have HF : Hid (∀ i, i < len → 0 ≤ f i ∧ f i < 256) := hf
  clear hcell hf
  go_enter Try.func7, Try.ntmps7
  go_wp2_with (first | (go_at_call 17; refine (zzBytes17_yes _ _ _ _ _ _ (by omega)).mono ?_; rintro e w' ⟨rfl, rfl⟩) | (at_make; refine wpList_make_bytes _ rfl _ _ rfl _ _ len rfl rfl (by omega) ?_))
  intro w1 hr1 hb1 hs1
  go_wp2_with (refine wpList_copy_bytes _ rfl _ _ rfl w.heap.size len len cap x _ f rfl rfl hr1 (fun j hj => ?_) ?_)
  · exact (hb1.cell (World.block_lt_of_cell? _ _ (HC.out j hj))).trans (HC.out j hj)
  intro w2 hr2 hb2 hs2
  have T0 : One w w2 w.heap.size len f := ⟨hr2, hb1.trans hb2⟩
  clear hr1 hb1 hr2 hb2 hs1 hs2
  obtain ⟨B, hB⟩ : ∃ B, w.heap.size = B := ⟨_, rfl⟩
  rw [hB] at T0 ⊢
  have HB : Hid (w.heap.size = B) := hB
  clear hB
  go_wp2_with fail
  go_loopw [8, 9] (fun c i wr => ∃ k : Nat, k ≤ 8 * len ∧ c = .int .i64 (cnt named len f k) ∧ i = .int .i64 k ∧ One w wr B len f) (fun _ i _ => 8 * len - (intOf i).toNat)
  case atStart => exact ⟨0, Nat.zero_le _, rfl, rfl, T0⟩
  case round =>
    clear T0
    obtain ⟨k, hk, rfl, rfl, T⟩ := hrel
    have hck := cnt_le named len f k
    by_cases hlt : k < 8 * len
    · obtain ⟨r, hr⟩ : ∃ r, markB named len f k = r := ⟨_, rfl⟩
      have C1 := mark_own named B len len k f _ (by omega) T.a.cell
      cases r
      · rw [hr] at C1
        have hc1 := cnt_no hr
        have HC1 : Hid (cnt named len f (k + 1) = cnt named len f k) := hc1
        clear hc1 hr
        generalize cnt named len f k = c at hck HC1
        go_wp2_with fail
        refine C1.mono ?_
        clear C1
        rintro e w7 ⟨rfl, hb7⟩
        have T5 := T.later hb7
        clear T hb7
        go_wp2_with fail
        go_roundw
        case rel => exact ⟨k + 1, by omega, by rw [HC1.out], by go_num, T5⟩
        case measure => simp [intOf]; omega
      · rw [hr] at C1
        have hc1 := cnt_yes hr
        have HC1 : Hid (cnt named len f (k + 1) = cnt named len f k + 1) := hc1
        clear hc1 hr
        generalize cnt named len f k = c at hck HC1
        go_wp2_with fail
        refine C1.mono ?_
        clear C1
        rintro e w7 ⟨rfl, hb7⟩
        have T5 := T.later hb7
        clear T hb7
        go_wp2_with fail
        go_roundw
        case rel => exact ⟨k + 1, by omega, by rw [HC1.out]; go_num, by go_num, T5⟩
        case measure => simp [intOf]; omega
    · have hc8 : cnt named len f k = cnt named len f (8 * len) := by rw [show k = 8 * len by omega]
      rw [hc8]
      clear hck hc8
      have hmk : n / 8 < len ∨ markB named len f n = false := by
        by_cases h : n / 8 < len
        · exact .inl h
        · right; simp [markB, h]
      cases named
      · rw [cnt_unnamed]
        by_cases hnn : n / 8 < len
        · have hd3 : decide (8 * (len : Int) ≤ (n : Int)) = false := by simp; omega
          go_wp2_with fail
          go_ret
          exact ⟨rfl, by rw [HB.out]; exact T.bel⟩
        · have hd3 : decide (8 * (len : Int) ≤ (n : Int)) = true := by simp; omega
          have C1 := mark_own false B len len n f _ hn T.a.cell
          rw [hmk.resolve_left hnn] at C1
          clear hmk
          go_wp2_with fail
          refine C1.mono ?_
          clear C1
          rintro e w7 ⟨rfl, hb7⟩
          have T5 := T.later hb7
          clear T hb7
          go_wp2_with fail
          go_ret
          exact ⟨rfl, by rw [HB.out]; exact T5.bel⟩
      · rw [cnt_all len f HF.out len (Nat.le_refl _)]
        have hsl := sumPop_le f len
        obtain ⟨S, hS⟩ : ∃ S, sumPop f len = S := ⟨_, rfl⟩
        rw [hS] at hsl ⊢
        have HS : Hid (sumPop f len = S) := hS
        clear hS
        go_wp2_with fail
        go_loopw [10, 11] (fun c i wr => ∃ k : Nat, k ≤ len ∧ c = .int .i64 (sumPop f k) ∧ i = .int .i64 k ∧ One w wr B len f) (fun _ i _ => len - (intOf i).toNat)
        case atStart => exact ⟨0, Nat.zero_le _, rfl, rfl, T⟩
        case round =>
          clear T
          obtain ⟨k, hk, rfl, rfl, T⟩ := hrel
          by_cases hlt : k < len
          · have c1 := T.a.cell k hlt
            have hsk := sumPop_le f k
            have hfk := HF.out k hlt
            have hp := popN_le (f k).toNat
            have HK : Hid (sumPop f (k + 1) = sumPop f k + popN (f k).toNat) := rfl
            obtain ⟨z, hz⟩ : ∃ z : Nat, f k = z := ⟨(f k).toNat, by omega⟩
            rw [hz] at c1
            rw [hz, Int.toNat_natCast] at HK hp
            have hz2 : z < 256 := by omega
            clear hz hfk
            generalize sumPop f k = s at hsk HK
            go_wp2_with fail
            refine (popcount8_any z _ hz2).mono ?_
            rintro e w7 ⟨rfl, rfl⟩
            go_wp2_with fail
            go_roundw
            case rel => exact ⟨k + 1, by omega, by rw [HK.out]; go_num, by go_num, T⟩
            case measure => simp [intOf]; omega
          · obtain rfl : k = len := by omega
            rw [HS.out]
            clear hk hlt
            by_cases hnn : n / 8 < k
            · have hd3 : decide (8 * (k : Int) ≤ (n : Int)) = false := by simp; omega
              go_wp2_with fail
              go_ret
              exact ⟨rfl, by rw [HB.out]; exact T.bel⟩
            · have hd3 : decide (8 * (k : Int) ≤ (n : Int)) = true := by simp; omega
              have C1 := mark_own true B k k n f _ hn T.a.cell
              rw [hmk.resolve_left hnn] at C1
              clear hmk
              go_wp2_with fail
              refine C1.mono ?_
              clear C1
              rintro e w7 ⟨rfl, hb7⟩
              have T5 := T.later hb7
              clear T hb7
              go_wp2_with fail
              go_ret
              exact ⟨rfl, by rw [HB.out]; exact T5.bel⟩

set_option maxRecDepth 10000 in
set_option maxHeartbeats 1000000 in
theorem counts_nil (named : Bool) (n : Int) (w : World) (hn0 : 0 ≤ n) :
    Calls Try.prog 7 #[.bool named, .slice none 0 0, .int .i64 n] w fun e w' => e = .returned (.bool true) ∧ Below w.heap.size w w' := by
  have q22 : ∀ (w : World) (a : Option Addr) (n c n' c' : Nat), (binOp .neq 22 (.slice a n c) (.slice none n' c')).run Try.prog w = .ok (.bool (!a.isNone)) w := fun w a n c n' c' => run_neq_slice_nil_any w _ _ a n c n' c' Try.underlying22
  have q22' : ∀ (w : World) (a : Option Addr) (n c n' c' : Nat), (binOp .eql 22 (.slice a n c) (.slice none n' c')).run Try.prog w = .ok (.bool a.isNone) w := fun w a n c n' c' => Lib.run_eql_slice_nil w _ _ a n c n' c' Try.underlying22
  have hd2 : decide (n < 0) = false := by simp; omega
  have hd3 : decide (0 ≤ n) = true := by simp; omega
  cases named
  · go_enter Try.func7, Try.ntmps7
    go_wp2_with (go_at_call 17; refine (zzBytes17_yes _ _ _ _ _ _ (by omega)).mono ?_; rintro e w' ⟨rfl, rfl⟩)
    refine wp_loop_rounds 1 ?_
    rw [rounds_succ]
    go_wp2_with fail
    refine (mark_nil false n w).mono ?_
    rintro e w7 ⟨rfl, hb7⟩
    go_wp2_with fail
    go_ret
    exact ⟨rfl, hb7⟩
  · go_enter Try.func7, Try.ntmps7
    go_wp2_with (go_at_call 17; refine (zzBytes17_yes _ _ _ _ _ _ (by omega)).mono ?_; rintro e w' ⟨rfl, rfl⟩)
    refine wp_loop_rounds 1 ?_
    rw [rounds_succ]
    go_wp2_with fail
    refine wp_loop_rounds 1 ?_
    rw [rounds_succ]
    go_wp2_with fail
    refine (mark_nil true n w).mono ?_
    rintro e w7 ⟨rfl, hb7⟩
    go_wp2_with fail
    go_ret
    exact ⟨rfl, hb7⟩

/-! ### The short ways -/
set_option maxHeartbeats 400000 in
theorem counts_big (named : Bool) (a : Option Addr) (len cap : Nat) (n : Int) (w : World) (h : 1048576 < len) :
    Calls Try.prog 7 #[.bool named, .slice a len cap, .int .i64 n] w fun e w' => e = .returned (.bool true) ∧ Below w.heap.size w w' := by
  go_enter Try.func7, Try.ntmps7
  go_wp2_with (go_at_call 17; refine (zzBytes17_no _ _ _ _ _ _ h).mono ?_; rintro e w' ⟨rfl, rfl⟩)
  go_ret
  exact ⟨rfl, Below.refl _ _⟩
set_option maxHeartbeats 400000 in
theorem counts_wide (named : Bool) (a : Option Addr) (len cap : Nat) (n : Int) (w : World) (h : len ≤ 1048576) (h2 : 4096 < len) :
    Calls Try.prog 7 #[.bool named, .slice a len cap, .int .i64 n] w fun e w' => e = .returned (.bool true) ∧ Below w.heap.size w w' := by
  go_enter Try.func7, Try.ntmps7
  go_wp2_with (go_at_call 17; refine (zzBytes17_yes _ _ _ _ _ _ h).mono ?_; rintro e w' ⟨rfl, rfl⟩)
  go_ret
  exact ⟨rfl, Below.refl _ _⟩
set_option maxHeartbeats 400000 in
theorem counts_neg (named : Bool) (a : Option Addr) (len cap : Nat) (n : Int) (w : World) (h : len ≤ 4096) (h3 : n < 0) :
    Calls Try.prog 7 #[.bool named, .slice a len cap, .int .i64 n] w fun e w' => e = .returned (.bool true) ∧ Below w.heap.size w w' := by
  go_enter Try.func7, Try.ntmps7
  go_wp2_with (go_at_call 17; refine (zzBytes17_yes _ _ _ _ _ _ (by omega)).mono ?_; rintro e w' ⟨rfl, rfl⟩)
  go_ret
  exact ⟨rfl, Below.refl _ _⟩
end Go.Proofs.Qxb6617175a
