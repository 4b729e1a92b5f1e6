import Derived.Test.Qxb6617175aProg
import Derived.WalkKit
import Derived.WalkSpells
import Derived.ProofKit
import Derived.Deep.QuietTactic
import Derived.BigQuiet
import Derived.Lib.SliceRun
import Derived.Below
import Derived.WalkSmall
namespace Go.Proofs.Qxb6617175a
open Go.ChangeShapes Go.WideShapes Go.ChangeAt Go.RowKit

theorem lt_of_cell {w : World} {b o : Nat} {v : Value} (h : w.cell? ⟨b, o, none⟩ = some v) : b < w.heap.size := by
  apply Classical.byContradiction
  intro hn
  simp [World.cell?, Array.getElem?_eq_none (show w.heap.size ≤ b by omega)] at h

set_option maxHeartbeats 400000 in
theorem zzBytes20_yes (named : Bool) (a : Option Addr) (len cap : Nat) (n : Int) (w : World) (h : len ≤ 1048576) :
    Calls Try.prog 20 #[.bool named, .slice a len cap, .int .i64 n] w fun e w' => e = .returned (.bool true) ∧ w = w' := by
  go_enter Try.func20, Try.ntmps20
  go_wp2
  go_ret
  exact ⟨rfl, rfl⟩

set_option maxHeartbeats 400000 in
theorem zzBytes20_no (named : Bool) (a : Option Addr) (len cap : Nat) (n : Int) (w : World) (h : 1048576 < len) :
    Calls Try.prog 20 #[.bool named, .slice a len cap, .int .i64 n] w fun e w' => e = .returned (.bool false) ∧ w = w' := by
  go_enter Try.func20, Try.ntmps20
  go_wp2
  go_ret
  exact ⟨rfl, rfl⟩

set_option maxHeartbeats 400000 in
theorem wrote_unnamed (a : Option Addr) (len cap : Nat) (n : Int) (w : World) :
    Calls Try.prog 23 #[.agg #[.bool false, .slice a len cap], .int .i64 n] w fun e w' => e = .returned (.bool false) ∧ Below w.heap.size w w' := by
  go_enter Try.func23, Try.ntmps23
  go_wp2
  go_ret
  exact ⟨rfl, (Below.refl _ _).alloc (Nat.le_refl _) _⟩

set_option maxHeartbeats 400000 in
theorem wrote_nil (len cap : Nat) (n : Int) (w : World) :
    Calls Try.prog 23 #[.agg #[.bool true, .slice none len cap], .int .i64 n] w fun e w' => e = .returned (.bool true) ∧ Below w.heap.size w w' := by
  have q22 : ∀ (w : World) (a : Option Addr) (n c n' c' : Nat), (binOp .eql 22 (.slice a n c) (.slice none n' c')).run Try.prog w = .ok (.bool a.isNone) w := fun w a n c n' c' => Lib.run_eql_slice_nil w _ _ a n c n' c' Try.underlying22
  go_enter Try.func23, Try.ntmps23
  go_wp2
  go_ret
  exact ⟨rfl, (Below.refl _ _).alloc (Nat.le_refl _) _⟩

set_option maxHeartbeats 400000 in
theorem wrote_past (x : Addr) (len cap n : Nat) (w : World) (hn : n ≤ 9223372036854775807) (h : len ≤ n / 8) :
    Calls Try.prog 23 #[.agg #[.bool true, .slice (some x) len cap], .int .i64 n] w fun e w' => e = .returned (.bool false) ∧ Below w.heap.size w w' := by
  have q22 : ∀ (w : World) (a : Option Addr) (n c n' c' : Nat), (binOp .eql 22 (.slice a n c) (.slice none n' c')).run Try.prog w = .ok (.bool a.isNone) w := fun w a n c n' c' => Lib.run_eql_slice_nil w _ _ a n c n' c' Try.underlying22
  have hd : decide ((n : Int) / 8 < (len : Int)) = false := by simp; omega
  go_enter Try.func23, Try.ntmps23
  go_wp2
  go_quiet (fail)
  go_wp2
  go_ret
  exact ⟨rfl, below_drewN ((Below.refl _ _).alloc (Nat.le_refl _) _) _⟩

set_option maxHeartbeats 400000 in
theorem wrote_at (b off len cap n : Nat) (z : Int) (w : World) (hn : n ≤ 9223372036854775807) (h : n / 8 < len) (hc : w.cell? ⟨b, off + n / 8, none⟩ = some (.int .u8 z)) :
    Calls Try.prog 23 #[.agg #[.bool true, .slice (some ⟨b, off, none⟩) len cap], .int .i64 n] w fun e w' => e = .returned (.bool (bits .and .u8 z (128 / 2 ^ (n % 8)) != 0)) ∧ Below w.heap.size w w' := by
  have q22 : ∀ (w : World) (a : Option Addr) (n c n' c' : Nat), (binOp .eql 22 (.slice a n c) (.slice none n' c')).run Try.prog w = .ok (.bool a.isNone) w := fun w a n c n' c' => Lib.run_eql_slice_nil w _ _ a n c n' c' Try.underlying22
  have hlt : (n : Int) / 8 < (len : Int) := by omega
  have hd : decide ((n : Int) / 8 < (len : Int)) = true := by simp; omega
  have hblt : b < w.heap.size := lt_of_cell hc
  have h0 : 0 ≤ (n : Int) / 8 := by omega
  have hwr : IntKind.i64.wrap ((n : Int) / 8) = (n : Int) / 8 := by rw [IntKind.wrap_i64]; omega
  have htn : ((n : Int) / 8).toNat = n / 8 := by omega
  have hm : 0 ≤ (n : Int) % 8 := by omega
  have hm' : (n : Int) % 8 < 8 := by omega
  go_enter Try.func23, Try.ntmps23
  go_wp2
  go_quiet (fail)
  go_wp2
  go_ret
  exact ⟨rfl, below_drewN ((Below.refl _ _).alloc (Nat.le_refl _) _) _⟩

/-! ### What a marking answers, plainly -/
/-- Bit n of the byte z that holds it (from the top bit on), as the Go text asks it. -/
def bitB (z : Int) (n : Nat) : Bool := bits .and .u8 z (128 / 2 ^ (n % 8)) != 0
/-- What 'wrote' answers for a slice that is not nil, of len bytes, byte i being f i. -/
def markB (named : Bool) (len : Nat) (f : Nat → Int) (n : Nat) : Bool := named && (decide (n / 8 < len) && bitB (f (n / 8)) n)

set_option maxHeartbeats 400000 in
/-- ZZmarkingWrote over a slice at the head of a block: it answers 'markB' and writes nothing that was there. -/
theorem mark_own (named : Bool) (b len cap n : Nat) (f : Nat → Int) (w : World) (hn : n ≤ 9223372036854775807) (hc : ∀ i, i < len → w.cell? ⟨b, i, none⟩ = some (.int .u8 (f i))) :
    Calls Try.prog 18 #[.bool named, .slice (some ⟨b, 0, none⟩) len cap, .int .i64 n] w fun e w' => e = .returned (.bool (markB named len f n)) ∧ Below w.heap.size w w' := by
  cases named
  · go_enter Try.func18, Try.ntmps18
    go_wp2_with (go_at_call 23; refine (wrote_unnamed _ _ _ _ _).mono ?_; rintro e w' ⟨rfl, hb⟩)
    go_ret
    exact ⟨rfl, hb⟩
  · by_cases h : n / 8 < len
    · have hcc : w.cell? ⟨b, 0 + n / 8, none⟩ = some (.int .u8 (f (n / 8))) := by rw [Nat.zero_add]; exact hc _ h
      have hm : Hid (markB true len f n = (bits .and .u8 (f (n / 8)) (128 / 2 ^ (n % 8)) != 0)) := by simp [Hid, markB, bitB, h]
      generalize f (n / 8) = z at hcc hm
      generalize markB true len f n = r at hm ⊢
      clear hc
      go_enter Try.func18, Try.ntmps18
      go_wp2_with fail
      refine (wrote_at b 0 len cap n z w hn h hcc).mono ?_
      rintro e w' ⟨rfl, hb⟩
      go_wp2_with fail
      go_ret
      exact ⟨by rw [hm.out]; rfl, hb⟩
    · have hm : Hid (markB true len f n = false) := by simp [Hid, markB, h]
      generalize markB true len f n = r at hm ⊢
      clear hc
      go_enter Try.func18, Try.ntmps18
      go_wp2_with fail
      refine (wrote_past _ len cap n w hn (by omega)).mono ?_
      rintro e w' ⟨rfl, hb⟩
      go_wp2_with fail
      go_ret
      exact ⟨by rw [hm.out]; rfl, hb⟩

set_option maxHeartbeats 400000 in
/-- ZZmarkingWrote over the nil slice: it answers 'named'. -/
theorem mark_nil (named : Bool) (n : Int) (w : World) :
    Calls Try.prog 18 #[.bool named, .slice none 0 0, .int .i64 n] w fun e w' => e = .returned (.bool named) ∧ Below w.heap.size w w' := by
  cases named
  · go_enter Try.func18, Try.ntmps18
    go_wp2_with (go_at_call 23; refine (wrote_unnamed _ _ _ _ _).mono ?_; rintro e w' ⟨rfl, hb⟩)
    go_ret
    exact ⟨rfl, hb⟩
  · go_enter Try.func18, Try.ntmps18
    go_wp2_with (go_at_call 23; refine (wrote_nil _ _ _ _).mono ?_; rintro e w' ⟨rfl, hb⟩)
    go_ret
    exact ⟨rfl, hb⟩
end Go.Proofs.Qxb6617175a
