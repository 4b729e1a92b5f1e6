import Derived.Test.Qxb6617175aMem
import Derived.Test.Qxb6617175aWrote
import Derived.Laws.BytesArg
import Derived.Lib.Strings
namespace Go.Proofs.Qxb6617175a
open Go.ChangeShapes Go.WideShapes Go.ChangeAt Go.RowKit

/-- How a []byte that came in lies: n bytes, byte i being f i; of no byte: whatever the address, nil too. -/
def Vw (w : World) (p : Option Addr) (n : Nat) (f : Nat → Int) : Prop :=
  0 < n → ∃ b o, p = some ⟨b, o, none⟩ ∧ b < w.heap.size ∧ ∀ i, i < n → w.cell? ⟨b, o + i, none⟩ = some (.int .u8 (f i))
theorem Vw.later {w w' : World} {p : Option Addr} {n : Nat} {f : Nat → Int} (h : Vw w p n f) (hb : Below w.heap.size w w') : Vw w' p n f := by
  intro h0
  obtain ⟨b, o, hp, hlt, hc⟩ := h h0
  exact ⟨b, o, hp, Nat.lt_of_lt_of_le hlt hb.size, fun i hi => (hb.cell (p := ⟨b, o + i, none⟩) hlt).trans (hc i hi)⟩
theorem BRow.vw {w : World} {g n : Nat} {f : Nat → Int} (h : BRow w g n f) : Vw w (some ⟨g, 0, none⟩) n f :=
  fun _ => ⟨g, 0, rfl, h.lt, fun i hi => by rw [Nat.zero_add]; exact h.cell i hi⟩
theorem BRow.vw_less {w : World} {g n m : Nat} {f : Nat → Int} (h : BRow w g n f) (hm : m ≤ n) : Vw w (some ⟨g, 0, none⟩) m f :=
  fun _ => ⟨g, 0, rfl, h.lt, fun i hi => by rw [Nat.zero_add]; exact h.cell i (by omega)⟩

/-- The bytes as a string. -/
def strF (n : Nat) (f : Nat → Int) : ByteArray := strOfNums ((List.range n).map f)

/-- 'string(b)' of such a slice. -/
theorem run_string_of {w : World} {p : Option Addr} {n c : Nat} {f : Nat → Int} (h : Vw w p n f) : (convert 22 9 (.slice p n c)).run Try.prog w = .ok (.string (strF n f)) w := by
  by_cases h0 : 0 < n
  · obtain ⟨b, o, rfl, _, hc⟩ := h h0
    exact run_convert_bytes_arg (P := Try.prog) w 22 5 Try.underlying22 Try.underlying5 b o n c ((List.range n).map f) (by simp) (fun i hi => by rw [hc i hi]; simp [hi]) 9 Try.underlying9
  · obtain rfl : n = 0 := by omega
    cases p with
    | none => exact run_convert_bytes_nil (P := Try.prog) w 22 5 Try.underlying22 Try.underlying5 0 c 9 Try.underlying9
    | some a =>
      rw [run_convert_bytes_string w 22 9 5 _ 0 c Try.underlying22 Try.underlying5 Try.underlying9, run_bytesToString w a 0 c [] (by
        have := run_loadCells_list (P := Try.prog) w a [] (fun j v hj => by simp at hj)
        simpa using this)]
      rfl

/-- Is g (of m bytes) a prefix of f (of n bytes)? -/
def prefB (n : Nat) (f : Nat → Int) (m : Nat) (g : Nat → Int) : Bool := decide (m ≤ n) && decide (∀ i, i < m → f i = g i)

theorem strF_eq {m : Nat} {f g : Nat → Int} (hf : ∀ i, i < m → 0 ≤ f i ∧ f i < 256) (hg : ∀ i, i < m → 0 ≤ g i ∧ g i < 256) :
    ((strF m f).toList == (strF m g).toList) = decide (∀ i, i < m → f i = g i) := by
  have e : ∀ h : Nat → Int, (strF m h).toList = (List.range m).map (fun i => UInt8.ofNat (h i).toNat) := by
    intro h
    rw [show (strF m h).toList = (strF m h).data.toList from Lib.toList_data _]
    simp [strF, strOfNums]
  rw [e, e, Bool.eq_iff_iff, beq_iff_eq, decide_eq_true_iff]
  constructor
  · intro h i hi
    have h2 := congrArg (fun l => l[i]?) h
    simp [hi] at h2
    have h3 := congrArg UInt8.toNat h2
    have := hf i hi
    have := hg i hi
    simp at h3
    omega
  · intro h
    apply List.map_congr_left
    intro i hi
    rw [h i (by simpa using hi)]

set_option maxHeartbeats 400000 in
theorem equal_any (p1 p2 : Option Addr) (m c d : Nat) (f g : Nat → Int) (w : World) (h1 : Vw w p1 m f) (h2 : Vw w p2 m g) (hf : ∀ i, i < m → 0 ≤ f i ∧ f i < 256) (hg : ∀ i, i < m → 0 ≤ g i ∧ g i < 256) :
    Calls Try.prog 27 #[.slice p1 m c, .slice p2 m d] w fun e w' => e = .returned (.bool (decide (∀ i, i < m → f i = g i))) ∧ w = w' := by
  have r1 := run_string_of (c := c) h1
  have r2 := run_string_of (c := d) h2
  have hs := strF_eq hf hg
  have HS : Hid (((strF m f).toList == (strF m g).toList) = decide (∀ i, i < m → f i = g i)) := hs
  clear hs h1 h2 hf hg
  generalize decide (∀ i, i < m → f i = g i) = r at HS ⊢
  generalize strF m f = s1 at r1 HS
  generalize strF m g = s2 at r2 HS
  go_enter Try.func27, Try.ntmps27
  go_wp2
  go_ret
  exact ⟨by rw [← HS.out]; rfl, rfl⟩
end Go.Proofs.Qxb6617175a
