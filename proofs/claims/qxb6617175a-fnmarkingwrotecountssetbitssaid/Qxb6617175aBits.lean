import Derived.Test.Qxb6617175aWrote
import Derived.Laws.BitsAllLaws
namespace Go.Proofs.Qxb6617175a
open Go.RowKit

set_option maxRecDepth 100000 in
theorem nat_or_hit : ∀ z : Fin 256, ∀ s : Fin 8, ((z.val ||| 128 / 2 ^ s.val) &&& 128 / 2 ^ s.val) ≠ 0 := by decide +kernel
set_option maxRecDepth 100000 in
theorem nat_not_hit : ∀ z : Fin 256, ∀ s : Fin 8, ((z.val &&& (255 - 128 / 2 ^ s.val)) &&& 128 / 2 ^ s.val) = 0 := by decide +kernel
set_option maxRecDepth 100000 in
theorem nat_or_miss : ∀ z : Fin 256, ∀ s t : Fin 8, s ≠ t → ((z.val ||| 128 / 2 ^ s.val) &&& 128 / 2 ^ t.val) = (z.val &&& 128 / 2 ^ t.val) := by decide +kernel
set_option maxRecDepth 100000 in
theorem nat_not_miss : ∀ z : Fin 256, ∀ s t : Fin 8, s ≠ t → ((z.val &&& (255 - 128 / 2 ^ s.val)) &&& 128 / 2 ^ t.val) = (z.val &&& 128 / 2 ^ t.val) := by decide +kernel
set_option maxRecDepth 100000 in
theorem nat_or_same : ∀ z : Fin 256, ∀ s : Fin 8, (z.val ||| 128 / 2 ^ s.val) = z.val ∨ (z.val &&& 128 / 2 ^ s.val) = 0 := by decide +kernel
set_option maxRecDepth 100000 in
theorem nat_or_lt : ∀ z : Fin 256, ∀ s : Fin 8, (z.val ||| 128 / 2 ^ s.val) < 256 := by decide +kernel

/-- The mask of place n as the walk spells it. -/
theorem mask_eq (n : Nat) : ((128 : Int) / 2 ^ (n % 8)) = ((128 / 2 ^ (n % 8) : Nat) : Int) := by simp
theorem mask_lt (n : Nat) : 128 / 2 ^ (n % 8) < 256 := Nat.lt_of_le_of_lt (Nat.div_le_self _ _) (by decide)

theorem and_mask (z : Nat) (hz : z < 256) (n : Nat) : bits .and .u8 (z : Int) (128 / 2 ^ (n % 8)) = ((z &&& 128 / 2 ^ (n % 8) : Nat) : Int) := by
  rw [mask_eq]; exact u8_and_nat z _ hz (mask_lt n)
theorem or_mask (z : Nat) (hz : z < 256) (n : Nat) : bits .or .u8 (z : Int) (128 / 2 ^ (n % 8)) = ((z ||| 128 / 2 ^ (n % 8) : Nat) : Int) := by
  rw [mask_eq]; exact u8_or_nat z _ hz (mask_lt n)
theorem not_mask (z : Nat) (hz : z < 256) (n : Nat) : bits .andNot .u8 (z : Int) (128 / 2 ^ (n % 8)) = ((z &&& (255 - 128 / 2 ^ (n % 8)) : Nat) : Int) := by
  rw [mask_eq]; exact u8_andNot_nat z _ hz (mask_lt n)
theorem bitB_nat (z : Nat) (hz : z < 256) (n : Nat) : bitB z n = ((z &&& 128 / 2 ^ (n % 8)) != 0) := by
  unfold bitB; rw [and_mask z hz n, Bool.eq_iff_iff]; simp only [bne_iff_ne, ne_eq]; omega

theorem or_lt (z : Nat) (hz : z < 256) (n : Nat) : (z ||| 128 / 2 ^ (n % 8)) < 256 := nat_or_lt ⟨z, hz⟩ ⟨n % 8, by omega⟩
theorem not_lt (z : Nat) (hz : z < 256) (n : Nat) : (z &&& (255 - 128 / 2 ^ (n % 8))) < 256 := Nat.lt_of_le_of_lt Nat.and_le_left hz

theorem bit_or_hit (z : Int) (h0 : 0 ≤ z) (h1 : z < 256) (n : Nat) : bitB (bits .or .u8 z (128 / 2 ^ (n % 8))) n = true := by
  obtain ⟨z, rfl⟩ := Int.eq_ofNat_of_zero_le h0
  rw [or_mask z (by omega) n, bitB_nat _ (or_lt z (by omega) n) n, bne_iff_ne]
  exact nat_or_hit ⟨z, by omega⟩ ⟨n % 8, by omega⟩
theorem bit_not_hit (z : Int) (h0 : 0 ≤ z) (h1 : z < 256) (n : Nat) : bitB (bits .andNot .u8 z (128 / 2 ^ (n % 8))) n = false := by
  obtain ⟨z, rfl⟩ := Int.eq_ofNat_of_zero_le h0
  rw [not_mask z (by omega) n, bitB_nat _ (not_lt z (by omega) n) n, bne_eq_false_iff_eq]
  exact nat_not_hit ⟨z, by omega⟩ ⟨n % 8, by omega⟩
theorem bit_or_miss (z : Int) (h0 : 0 ≤ z) (h1 : z < 256) (n m : Nat) (h : n % 8 ≠ m % 8) : bitB (bits .or .u8 z (128 / 2 ^ (n % 8))) m = bitB z m := by
  obtain ⟨z, rfl⟩ := Int.eq_ofNat_of_zero_le h0
  rw [or_mask z (by omega) n, bitB_nat _ (or_lt z (by omega) n) m, bitB_nat z (by omega) m]
  rw [nat_or_miss ⟨z, by omega⟩ ⟨n % 8, by omega⟩ ⟨m % 8, by omega⟩ (fun e => h (by simpa using e))]
theorem bit_not_miss (z : Int) (h0 : 0 ≤ z) (h1 : z < 256) (n m : Nat) (h : n % 8 ≠ m % 8) : bitB (bits .andNot .u8 z (128 / 2 ^ (n % 8))) m = bitB z m := by
  obtain ⟨z, rfl⟩ := Int.eq_ofNat_of_zero_le h0
  rw [not_mask z (by omega) n, bitB_nat _ (not_lt z (by omega) n) m, bitB_nat z (by omega) m]
  rw [nat_not_miss ⟨z, by omega⟩ ⟨n % 8, by omega⟩ ⟨m % 8, by omega⟩ (fun e => h (by simpa using e))]
theorem bit_or_other (z : Int) (h0 : 0 ≤ z) (h1 : z < 256) (n : Nat) (h : z ≠ bits .or .u8 z (128 / 2 ^ (n % 8))) : bitB z n = false := by
  obtain ⟨z, rfl⟩ := Int.eq_ofNat_of_zero_le h0
  rw [or_mask z (by omega) n] at h
  rw [bitB_nat z (by omega) n, bne_eq_false_iff_eq]
  rcases nat_or_same ⟨z, by omega⟩ ⟨n % 8, by omega⟩ with e | e
  · exact absurd (by simp at e; rw [e]) h
  · exact e

/-! ### The marking with the bit set, and with the bit cleared -/
/-- The bytes f with bit n set. -/
def setF (f : Nat → Int) (n : Nat) (j : Nat) : Int := if j = n / 8 then bits .or .u8 (f (n / 8)) (128 / 2 ^ (n % 8)) else f j
/-- The bytes f with bit n cleared. -/
def clrF (f : Nat → Int) (n : Nat) (j : Nat) : Int := if j = n / 8 then bits .andNot .u8 (f (n / 8)) (128 / 2 ^ (n % 8)) else f j

variable {f : Nat → Int} {len n m : Nat} {named : Bool}
theorem mark_set_hit (hf : 0 ≤ f (n / 8) ∧ f (n / 8) < 256) (hn : n / 8 < len) : markB named len (setF f n) n = named := by
  simp [markB, setF, hn, bit_or_hit _ hf.1 hf.2 n]
theorem mark_clr_hit (hf : 0 ≤ f (n / 8) ∧ f (n / 8) < 256) (_hn : n / 8 < len) : markB named len (clrF f n) n = false := by
  simp [markB, clrF, bit_not_hit _ hf.1 hf.2 n]
theorem mark_set_miss (hf : 0 ≤ f (n / 8) ∧ f (n / 8) < 256) (h : m ≠ n) : markB named len (setF f n) m = markB named len f m := by
  unfold markB setF
  by_cases e : m / 8 = n / 8
  · rw [if_pos e, bit_or_miss _ hf.1 hf.2 n m (by omega), e]
  · rw [if_neg e]
theorem mark_clr_miss (hf : 0 ≤ f (n / 8) ∧ f (n / 8) < 256) (h : m ≠ n) : markB named len (clrF f n) m = markB named len f m := by
  unfold markB clrF
  by_cases e : m / 8 = n / 8
  · rw [if_pos e, bit_not_miss _ hf.1 hf.2 n m (by omega), e]
  · rw [if_neg e]
theorem mark_same (hf : 0 ≤ f (n / 8) ∧ f (n / 8) < 256) (hn : n / 8 < len) (e : f (n / 8) = setF f n (n / 8)) : markB named len f n = named := by
  have := mark_set_hit (named := named) hf hn
  unfold markB at this ⊢
  rw [← e] at this
  exact this
theorem mark_other (hf : 0 ≤ f (n / 8) ∧ f (n / 8) < 256) (e : f (n / 8) ≠ setF f n (n / 8)) : markB named len f n = false := by
  have : bitB (f (n / 8)) n = false := bit_or_other _ hf.1 hf.2 n (by simpa [setF] using e)
  simp [markB, this]
end Go.Proofs.Qxb6617175a
