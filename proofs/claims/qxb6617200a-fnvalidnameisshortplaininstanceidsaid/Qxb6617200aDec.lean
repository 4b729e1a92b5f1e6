import Derived.Test.Qxb6617200aName
import Derived.Deep.OwnRows
import Derived.Laws.BytesArg
namespace Go.Proofs.Qxb6617200a
open Go.ChangeShapes Go.WideShapes Go.ChangeAt Go.RowKit

/-- The array of twenty bytes that 'decimal' makes, from place i on digits. -/
structure Buf (w0 wr : World) (B i : Nat) (f : Nat → Int) : Prop where
  row : wr.rowIs B 27 20 (fun j => .int .u8 (f j))
  dig : ∀ j, i ≤ j → j < 20 → 48 ≤ f j ∧ f j ≤ 57
  bel : Below B w0 wr
theorem Buf.step {w0 wr : World} {B i : Nat} {f : Nat → Int} (t : Buf w0 wr B (i + 1) f) (d : Int) (h1 : 48 ≤ d) (h2 : d ≤ 57) :
    Buf w0 (wr.setCell ⟨B, i, none⟩ (.int .u8 d)) B i (fun j => if j = i then d else f j) := by
  refine ⟨World.rowIs.congr (World.rowIs.set t.row i (.int .u8 d)) (fun j _ => by split <;> rfl), fun j hj hj2 => ?_, t.bel.setCell (Nat.le_refl _) _⟩
  by_cases e : j = i
  · rw [if_pos e]; exact ⟨h1, h2⟩
  · rw [if_neg e]; exact t.dig j (by omega) hj2

theorem zero20 : (#[Value.int IntKind.u8 0, Value.int IntKind.u8 0, Value.int IntKind.u8 0, Value.int IntKind.u8 0, Value.int IntKind.u8 0, Value.int IntKind.u8 0, Value.int IntKind.u8 0, Value.int IntKind.u8 0, Value.int IntKind.u8 0, Value.int IntKind.u8 0, Value.int IntKind.u8 0, Value.int IntKind.u8 0, Value.int IntKind.u8 0, Value.int IntKind.u8 0, Value.int IntKind.u8 0, Value.int IntKind.u8 0, Value.int IntKind.u8 0, Value.int IntKind.u8 0, Value.int IntKind.u8 0, Value.int IntKind.u8 0] : Array Value) = Array.replicate 20 (.int .u8 0) := rfl

theorem Buf.start (w : World) : Buf w (w.alloc (.cells (Array.replicate 20 (.int .u8 0)) 27)) w.heap.size 20 (fun _ => 0) := by
  refine ⟨?_, fun j h1 h2 => by omega, (Below.refl _ _).alloc (Nat.le_refl _) _⟩
  have := World.rowIs_alloc w (Array.replicate 20 (.int .u8 0)) 27 (fun _ => .int .u8 0) (fun i hi => by simp at hi; simp [hi])
  simpa using this

/-- The text of the digits from place k on. -/
def digS (k : Nat) (f : Nat → Int) : ByteArray := strOfNums ((List.range (20 - k)).map fun j => f (k + j))
theorem digS_size (k : Nat) (f : Nat → Int) : (digS k f).size = 20 - k := by simp [digS, strOfNums_size]
theorem digS_at {k : Nat} {f : Nat → Int} (h : ∀ j, k ≤ j → j < 20 → 48 ≤ f j ∧ f j ≤ 57) : ∀ i, i < (digS k f).size → 48 ≤ byteAt (digS k f) i ∧ byteAt (digS k f) i ≤ 57 := by
  intro i hi
  rw [digS_size] at hi
  have hf := h (k + i) (by omega) (by omega)
  have e : byteAt (digS k f) i = f (k + i) := by
    simp [byteAt, digS, strOfNums, hi]
    omega
  rw [e]
  exact hf

theorem Buf.text {w0 wr : World} {B k : Nat} {f : Nat → Int} (t : Buf w0 wr B k f) :
    (convert 28 9 (.slice (some ⟨B, k, none⟩) (20 - k) (20 - k))).run Try.prog wr = .ok (.string (digS k f)) wr := by
  refine run_convert_bytes_arg (P := Try.prog) wr 28 5 Try.underlying28 Try.underlying5 B k (20 - k) (20 - k) ((List.range (20 - k)).map fun j => f (k + j)) (by simp) (fun i hi => ?_) 9 Try.underlying9
  rw [World.rowIs.cell t.row (show k + i < 20 by omega)]
  simp [hi]

set_option maxRecDepth 10000 in
set_option maxHeartbeats 1000000 in
theorem decimal_any (n : Nat) (w : World) (hn : n < 18446744073709551616) :
    Calls Try.prog 8 #[.int .u64 n] w fun e w' => ∃ D : ByteArray, e = .returned (.string D) ∧ 1 ≤ D.size ∧ D.size ≤ 20 ∧ (∀ i, i < D.size → 48 ≤ byteAt D i ∧ byteAt D i ≤ 57) ∧ Below w.heap.size w w' := by
  have hn20 : Hid (n < 10 ^ 20) := by show n < 10 ^ 20; omega
  go_enter Try.func8, Try.ntmps8
  go_wp2_with fail
  have T0 := Buf.start w
  rw [← zero20] at T0
  obtain ⟨B, hB⟩ : ∃ B, w.heap.size = B := ⟨_, rfl⟩
  rw [hB] at T0 ⊢
  have HB : Hid (w.heap.size = B) := hB
  clear hB
  go_loopw [0, 4] (fun v i wr => ∃ (k m : Nat) (f : Nat → Int), k < 20 ∧ m < 18446744073709551616 ∧ v = .int .u64 m ∧ i = .int .i64 ((k : Int) + 1) ∧ Hid (m < 10 ^ (k + 1)) ∧ Buf w wr B (k + 1) f) (fun _ i _ => (intOf i).toNat)
  case atStart => exact ⟨19, n, _, by omega, hn, rfl, rfl, hn20, T0⟩
  case round =>
    clear T0 hn20 hn
    obtain ⟨k, m, f, hk, hm, rfl, rfl, hp, T⟩ := hrel
    have c2 := World.rowIs.cell T.row hk
    have f2 := World.rowIs.frozen T.row k
    have R2 := T.step (48 + (m : Int) % 10) (by omega) (by omega)
    clear T
    by_cases hq : m / 10 = 0
    · have hq2 : ((m : Int) / 10 == 0) = true := beq_iff_eq.2 (by omega)
      have hcv := R2.text
      have hd := R2.dig
      have bel := R2.bel
      have HD : Hid (∀ j, k ≤ j → j < 20 → 48 ≤ (fun j => if j = k then 48 + (m : Int) % 10 else f j) j ∧ (fun j => if j = k then 48 + (m : Int) % 10 else f j) j ≤ 57) := hd
      have HS := digS_size k (fun j => if j = k then 48 + (m : Int) % 10 else f j)
      have HA : Hid (∀ i, i < (digS k (fun j => if j = k then 48 + (m : Int) % 10 else f j)).size → 48 ≤ byteAt (digS k (fun j => if j = k then 48 + (m : Int) % 10 else f j)) i ∧ byteAt (digS k (fun j => if j = k then 48 + (m : Int) % 10 else f j)) i ≤ 57) := digS_at hd
      clear R2 hd HD
      generalize digS k (fun j => if j = k then 48 + (m : Int) % 10 else f j) = D at hcv HS HA
      have HS' : Hid (D.size = 20 - k) := HS
      clear HS
      have hk20 : (k : Int) ≤ 20 := by omega
      have hk20' : ¬ 20 = k := by omega
      go_wp2_with fail
      go_ret
      exact ⟨D, rfl, by rw [HS'.out]; omega, by rw [HS'.out]; omega, HA.out, by rw [HB.out]; exact bel⟩
    · have hq2 : ((m : Int) / 10 == 0) = false := beq_eq_false_iff_ne.2 (by omega)
      go_wp2_with fail
      go_roundw
      case rel =>
        obtain ⟨k', rfl⟩ : ∃ k', k = k' + 1 := by
          cases k with
          | zero => have := hp.out; simp at this; omega
          | succ k' => exact ⟨k', rfl⟩
        refine ⟨k', m / 10, _, by omega, by omega, by go_num, by go_num, ?_, R2⟩
        have := hp.out
        show m / 10 < 10 ^ (k' + 1)
        rw [Nat.pow_succ] at this
        omega
      case measure => simp [intOf]
end Go.Proofs.Qxb6617200a
