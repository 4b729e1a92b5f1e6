import Derived.Test.Qxb6617175aCount
import Derived.Test.Qxb6617175aMem
namespace Go.Proofs.Qxb6617175a
open Go.ChangeShapes Go.WideShapes Go.ChangeAt Go.RowKit

theorem pop_and (x : Nat) (hx : x < 256) (h1 : 1 ≤ x) : bits .and .u8 (x : Int) ((x : Int) - 1) = ((x &&& (x - 1) : Nat) : Int) := by
  rw [show (x : Int) - 1 = ((x - 1 : Nat) : Int) by omega]
  exact u8_and_nat x _ hx (by omega)

set_option maxHeartbeats 400000 in
/-- popcount8: it answers how many bits are set. -/
theorem popcount8_any (z : Nat) (w : World) (hz : z < 256) :
    Calls Try.prog 19 #[.int .u8 z] w fun e w' => e = .returned (.int .i64 (popN z)) ∧ w = w' := by
  go_enter Try.func19, Try.ntmps19
  go_wp2
  go_loop [3, 4] (fun c x => ∃ k y : Nat, y < 256 ∧ Hid (k + popN y = popN z) ∧ c = .int .i64 k ∧ x = .int .u8 y) (fun _ x => (intOf x).toNat)
  case atStart => exact ⟨0, z, hz, Nat.zero_add _, rfl, rfl⟩
  case round =>
    obtain ⟨k, y, hy, hs, rfl, rfl⟩ := hrel
    have hk : k ≤ 8 := by have := hs.out; have := popN_le z; omega
    by_cases h0 : y = 0
    · subst h0
      go_wp2
      go_ret
      have : k = popN z := by have h := hs.out; simpa [popN] using h
      exact ⟨by rw [← this]; rfl, rfl⟩
    · have hne : ((y : Int) != 0) = true := by rw [bne_iff_ne]; omega
      have h1 : 1 ≤ y := by omega
      have hp := pop_drop ⟨y, hy⟩ h0
      have hl := pop_less ⟨y, hy⟩ h0
      dsimp only at hp hl
      have HP : Hid (popN (y &&& (y - 1)) + 1 = popN y) := hp
      have ha := pop_and y hy h1
      clear hp
      go_wp2
      go_round
      case rel => exact ⟨k + 1, y &&& (y - 1), by omega, by have a := hs.out; have b := HP.out; show _ = _; omega, by go_num, rfl⟩
      case measure => simp [intOf]; omega
end Go.Proofs.Qxb6617175a
