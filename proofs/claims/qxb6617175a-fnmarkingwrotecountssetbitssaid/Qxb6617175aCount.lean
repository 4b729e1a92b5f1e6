import Derived.Test.Qxb6617175aBits
namespace Go.Proofs.Qxb6617175a
open Go.RowKit

/-- How many bits of the byte z are set. -/
def popN (z : Nat) : Nat := z / 128 % 2 + z / 64 % 2 + z / 32 % 2 + z / 16 % 2 + z / 8 % 2 + z / 4 % 2 + z / 2 % 2 + z % 2
theorem popN_le (z : Nat) : popN z ≤ 8 := by unfold popN; omega
set_option maxRecDepth 100000 in
theorem pop_drop : ∀ x : Fin 256, x.val ≠ 0 → popN (x.val &&& (x.val - 1)) + 1 = popN x.val := by decide +kernel
set_option maxRecDepth 100000 in
theorem pop_less : ∀ x : Fin 256, x.val ≠ 0 → (x.val &&& (x.val - 1)) < x.val := by decide +kernel
set_option maxRecDepth 100000 in
theorem pop_bits : ∀ z : Fin 256, popN z.val = (if (z.val &&& 128 / 2 ^ 0) != 0 then 1 else 0) + (if (z.val &&& 128 / 2 ^ 1) != 0 then 1 else 0) + (if (z.val &&& 128 / 2 ^ 2) != 0 then 1 else 0) + (if (z.val &&& 128 / 2 ^ 3) != 0 then 1 else 0) + (if (z.val &&& 128 / 2 ^ 4) != 0 then 1 else 0) + (if (z.val &&& 128 / 2 ^ 5) != 0 then 1 else 0) + (if (z.val &&& 128 / 2 ^ 6) != 0 then 1 else 0) + (if (z.val &&& 128 / 2 ^ 7) != 0 then 1 else 0) := by decide +kernel

/-- How often 'wrote' says yes over the places below m. -/
def cnt (named : Bool) (len : Nat) (f : Nat → Int) : Nat → Nat
  | 0 => 0
  | m + 1 => cnt named len f m + (if markB named len f m then 1 else 0)
/-- The set bits of the first k bytes. -/
def sumPop (f : Nat → Int) : Nat → Nat
  | 0 => 0
  | k + 1 => sumPop f k + popN (f k).toNat

theorem cnt_le (named : Bool) (len : Nat) (f : Nat → Int) (m : Nat) : cnt named len f m ≤ m := by
  induction m with
  | zero => exact Nat.le_refl _
  | succ m ih => unfold cnt; split <;> omega
theorem sumPop_le (f : Nat → Int) (k : Nat) : sumPop f k ≤ 8 * k := by
  induction k with
  | zero => exact Nat.le_refl _
  | succ k ih => unfold sumPop; have := popN_le (f k).toNat; omega
theorem cnt_unnamed (len : Nat) (f : Nat → Int) (m : Nat) : cnt false len f m = 0 := by
  induction m with
  | zero => rfl
  | succ m ih => simp [cnt, ih, markB]

theorem mark_at (len : Nat) (f : Nat → Int) (k s : Nat) (hk : k < len) (hs : s < 8) (hf : 0 ≤ f k ∧ f k < 256) : markB true len f (8 * k + s) = (((f k).toNat &&& 128 / 2 ^ s) != 0) := by
  have e1 : (8 * k + s) / 8 = k := by omega
  have e2 : (8 * k + s) % 8 = s := by omega
  unfold markB
  rw [e1]
  have e3 : f k = ((f k).toNat : Int) := by omega
  have e4 : bitB (f k) (8 * k + s) = (((f k).toNat &&& 128 / 2 ^ s) != 0) := by
    rw [e3, bitB_nat _ (by omega), e2, Int.toNat_natCast]
  simp [hk, e4]

theorem cnt_eight (len : Nat) (f : Nat → Int) (k : Nat) (hk : k < len) (hf : 0 ≤ f k ∧ f k < 256) : cnt true len f (8 * k + 8) = cnt true len f (8 * k) + popN (f k).toNat := by
  have h := pop_bits ⟨(f k).toNat, by omega⟩
  have m0 := mark_at len f k 0 hk (by omega) hf
  have m1 := mark_at len f k 1 hk (by omega) hf
  have m2 := mark_at len f k 2 hk (by omega) hf
  have m3 := mark_at len f k 3 hk (by omega) hf
  have m4 := mark_at len f k 4 hk (by omega) hf
  have m5 := mark_at len f k 5 hk (by omega) hf
  have m6 := mark_at len f k 6 hk (by omega) hf
  have m7 := mark_at len f k 7 hk (by omega) hf
  rw [Nat.add_zero] at m0
  show cnt true len f (8 * k + 7 + 1) = _
  rw [cnt, cnt, cnt, cnt, cnt, cnt, cnt, cnt, m0, m1, m2, m3, m4, m5, m6, m7]
  dsimp only at h
  rw [h]
  omega

theorem cnt_all (len : Nat) (f : Nat → Int) (hf : ∀ i, i < len → 0 ≤ f i ∧ f i < 256) (k : Nat) (hk : k ≤ len) : cnt true len f (8 * k) = sumPop f k := by
  induction k with
  | zero => rfl
  | succ k ih =>
    have e := cnt_eight len f k (by omega) (hf k (by omega))
    rw [show 8 * (k + 1) = 8 * k + 8 by omega, e, ih (by omega)]
    rfl
end Go.Proofs.Qxb6617175a
