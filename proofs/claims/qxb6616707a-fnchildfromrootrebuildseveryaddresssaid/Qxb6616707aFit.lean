import Derived.Test.Qxb6616707aPrefix
namespace Go.Proofs.Qxb6616707a
open Go.ChangeShapes Go.WideShapes Go.ChangeAt Go.RowKit

variable {N K : Nat → ByteArray} {H : Nat → Bool}

/-- It returned one of the two answers. -/
def SaysBool (e : Ending) : Prop := ∃ r, e = .returned (.bool r)
theorem says (r : Bool) : SaysBool (.returned (.bool r)) := ⟨r, rfl⟩

set_option maxRecDepth 10000 in
set_option maxHeartbeats 1000000 in
/-- zzBytes: it answers yes or no and turns nothing. -/
theorem zzBytes9_any (p : Option Addr) (n c : Nat) (w : World) (hn : n ≤ 9223372036854775807) (hs : Steps w p n N K H) :
    Calls Try.prog 9 #[.slice p n c] w fun e w' => SaysBool e ∧ w = w' := by
  by_cases hbig : 1048576 < n
  · clear hs
    go_enter Try.func9, Try.ntmps9
    go_wp2_with fail
    go_ret
    exact ⟨says _, rfl⟩
  · have HS : Hid (Steps w p n N K H) := hs
    clear hs
    have hd : decide (1048576 < (n : Int)) = false := decide_eq_false (by omega)
    go_enter Try.func9, Try.ntmps9
    go_wp2_with fail
    go_loop [3, 4] (fun t i => ∃ (k : Nat) (z : Int), k ≤ n ∧ t = .int .i64 z ∧ i = .int .i64 k) (fun _ i => n - (intOf i).toNat)
    case atStart => exact ⟨0, _, Nat.zero_le _, rfl, rfl⟩
    case round =>
      obtain ⟨k, z, hk, rfl, rfl⟩ := hrel
      by_cases hlt : k < n
      · obtain ⟨b, o, hp, hb, hcs⟩ := HS.out (by omega)
        subst hp
        obtain ⟨s0, s1, s2⟩ := hcs k hlt
        clear hcs s2 HS
        generalize N k = nm at s0
        generalize K k = ky at s1
        go_wp2_with fail
        all_goals first
          | (go_ret; exact ⟨says _, rfl⟩)
          | (go_round
             case rel => exact ⟨k + 1, _, by omega, rfl, by go_num⟩
             case measure => simp [intOf]; omega)
      · go_wp2_with fail
        go_ret
        exact ⟨says _, rfl⟩

set_option maxRecDepth 10000 in
set_option maxHeartbeats 1000000 in
/-- zzStepsFit: it answers yes or no and turns nothing that was there. -/
theorem fit_any (p : Option Addr) (n c : Nat) (L : Int) (w : World) (hn : n ≤ 9223372036854775807) (hs : Steps w p n N K H) :
    Calls Try.prog 10 #[.slice p n c, .int .i64 L] w fun e w' => SaysBool e ∧ Below w.heap.size w w' := by
  have HS : Hid (Steps w p n N K H) := hs
  clear hs
  go_enter Try.func10, Try.ntmps10
  go_wp2_with fail
  go_loopw [5, 6] (fun t i wr => ∃ (k : Nat) (z : Int), k ≤ n ∧ t = .int .i64 z ∧ i = .int .i64 k ∧ ∃ q, wr = w.drewN q) (fun _ i _ => n - (intOf i).toNat)
  case atStart => exact ⟨0, _, Nat.zero_le _, rfl, rfl, 0, rfl⟩
  case round =>
    obtain ⟨k, z, hk, rfl, rfl, q, rfl⟩ := hrel
    by_cases hlt : k < n
    · obtain ⟨b, o, hp, hb, hcs⟩ := HS.out (by omega)
      subst hp
      obtain ⟨s0, s1, s2⟩ := hcs k hlt
      clear hcs s2 HS
      generalize N k = nm at s0
      generalize K k = ky at s1
      have hil : (k : Int) < (n : Int) := by omega
      go_wp2_with fail
      go_quiet (fail)
      go_wp2_with fail
      · go_ret
        exact ⟨says _, below_drewN (Below.refl _ _) _⟩
      · go_roundw
        case rel => exact ⟨k + 1, _, by omega, rfl, by go_num, _, rfl⟩
        case measure => simp [intOf]; omega
    · go_wp2_with fail
      go_ret
      exact ⟨says _, below_drewN (Below.refl _ _) _⟩
end Go.Proofs.Qxb6616707a
