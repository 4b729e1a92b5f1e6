import Derived.Test.Qxb6616707aStep
namespace Go.Proofs.Qxb6616707a
open Go.ChangeShapes Go.WideShapes Go.ChangeAt Go.RowKit

variable {N K : Nat → ByteArray} {H : Nat → Bool}

/-- How the steps that came in lie: of no step: whatever the address, nil too. -/
def Steps (w : World) (p : Option Addr) (n : Nat) (N K : Nat → ByteArray) (H : Nat → Bool) : Prop :=
  0 < n → ∃ b o, p = some ⟨b, o, none⟩ ∧ b < w.heap.size ∧ ∀ i, i < n → w.cell? ⟨b, o + i * 3, none⟩ = some (.string (N i)) ∧ w.cell? ⟨b, o + i * 3 + 1, none⟩ = some (.string (K i)) ∧ w.cell? ⟨b, o + i * 3 + 2, none⟩ = some (.bool (H i))
theorem Steps.less {w : World} {p : Option Addr} {n m : Nat} (h : Steps w p n N K H) (hm : m ≤ n) : Steps w p m N K H := by
  intro h0
  obtain ⟨b, o, hp, hlt, hc⟩ := h (by omega)
  exact ⟨b, o, hp, hlt, fun i hi => hc i (by omega)⟩
theorem Steps.later {w w' : World} {p : Option Addr} {n : Nat} (h : Steps w p n N K H) {B : Nat} (hb : Below B w w') (hB : w.heap.size ≤ B) : Steps w' p n N K H := by
  intro h0
  obtain ⟨b, o, hp, hlt, hc⟩ := h h0
  have e : ∀ x, w'.cell? ⟨b, x, none⟩ = w.cell? ⟨b, x, none⟩ := fun x => hb.cell (p := ⟨b, x, none⟩) (show b < B by omega)
  exact ⟨b, o, hp, Nat.lt_of_lt_of_le hlt hb.size, fun i hi => by rw [e, e, e]; exact hc i hi⟩

/-- The cells of a module instance of the first k steps. -/
def modCells (N K : Nat → ByteArray) (H : Nat → Bool) : Nat → List Value
  | 0 => []
  | k + 1 => modCells N K H k ++ [.string (N k), keyV (K k) (H k)]
theorem modCells_len (k : Nat) : (modCells N K H k).length = k * 2 := by
  induction k with
  | zero => rfl
  | succ k ih => simp [modCells, ih]; omega
theorem modCells_at (k : Nat) : ∀ i, i < k → (modCells N K H k)[i * 2]? = some (.string (N i)) ∧ (modCells N K H k)[i * 2 + 1]? = some (keyV (K i) (H i)) := by
  induction k with
  | zero => intro i hi; omega
  | succ k ih =>
    intro i hi
    have hl := modCells_len (N := N) (K := K) (H := H) k
    by_cases e : i = k
    · subst e
      unfold modCells
      rw [List.getElem?_append_right (by omega), List.getElem?_append_right (by omega), hl]
      simp
    · obtain ⟨h1, h2⟩ := ih i (by omega)
      unfold modCells
      rw [List.getElem?_append_left (by omega), List.getElem?_append_left (by omega)]
      exact ⟨h1, h2⟩
theorem keyV_one (key : ByteArray) (has : Bool) : (keyV key has).oneCell' = true := by cases has <;> rfl
theorem modCells_one (k : Nat) : ∀ v ∈ modCells N K H k, v.oneCell' = true := by
  induction k with
  | zero => intro v hv; cases hv
  | succ k ih =>
    intro v hv
    rcases List.mem_append.1 hv with h | h
    · exact ih v h
    · simp at h
      rcases h with rfl | rfl
      · rfl
      · exact keyV_one _ _

/-- The module instance of the first k steps, in the call's own memory (of no step: nil). -/
def Mods (w : World) (base : Nat) (p : Option Addr) (k c : Nat) (N K : Nat → ByteArray) (H : Nat → Bool) : Prop := w.ownsRow base 46 2 (.slice p k c) k (modCells N K H k)
theorem Mods.cells {w : World} {base : Nat} {p : Option Addr} {k c : Nat} (h : Mods w base p k c N K H) (hk : 0 < k) :
    ∃ g, p = some ⟨g, 0, none⟩ ∧ g < w.heap.size ∧ ∀ i, i < k → w.cell? ⟨g, i * 2, none⟩ = some (.string (N i)) ∧ w.cell? ⟨g, i * 2 + 1, none⟩ = some (keyV (K i) (H i)) := by
  rcases h.2 with ⟨h', h0⟩ | ⟨g, cap, cur, h', _, hg, _⟩
  · omega
  · simp only [Value.slice.injEq, true_and] at h'
    obtain ⟨rfl, rfl⟩ := h'
    refine ⟨g, rfl, (Array.getElem?_eq_some_iff.1 hg).1, fun i hi => ?_⟩
    have h2 := modCells_at (N := N) (K := K) (H := H) k i hi
    rw [← h2.1, ← h2.2]
    exact ⟨World.ownsRow.cellAt h (i * 2) (by omega), World.ownsRow.cellAt h (i * 2 + 1) (by omega)⟩
theorem Mods.later {w w' : World} {base : Nat} {p : Option Addr} {k c : Nat} (h : Mods w base p k c N K H) {B : Nat} (hb : Below B w w') (hB : w.heap.size ≤ B) : Mods w' base p k c N K H := owns_below h hb hB

set_option maxRecDepth 10000 in
set_option maxHeartbeats 1000000 in
/-- zzPrefixIs: m is the instance of just these steps. -/
theorem prefix_any (base : Nat) (pm p : Option Addr) (k cm c : Nat) (w : World) (hk : k ≤ 4096) (hm : Mods w base pm k cm N K H) (hs : Steps w p k N K H) :
    Calls Try.prog 13 #[.slice pm k cm, .slice p k c] w fun e w' => e = .returned (.bool true) ∧ Below w.heap.size w w' := by
  by_cases h0 : k = 0
  · subst h0
    clear hm hs
    go_enter Try.func13, Try.ntmps13
    go_wp2_with fail
    refine wp_loop_rounds 1 ?_
    rw [rounds_succ]
    go_wp2_with fail
    go_ret
    exact ⟨rfl, Below.refl _ _⟩
  · obtain ⟨g, rfl, hg, hcm⟩ := hm.cells (by omega)
    obtain ⟨b, o, rfl, hb, hcs⟩ := hs (by omega)
    have HM : Hid (∀ i, i < k → w.cell? ⟨g, i * 2, none⟩ = some (.string (N i)) ∧ w.cell? ⟨g, i * 2 + 1, none⟩ = some (keyV (K i) (H i))) := hcm
    have HS : Hid (∀ i, i < k → w.cell? ⟨b, o + i * 3, none⟩ = some (.string (N i)) ∧ w.cell? ⟨b, o + i * 3 + 1, none⟩ = some (.string (K i)) ∧ w.cell? ⟨b, o + i * 3 + 2, none⟩ = some (.bool (H i))) := hcs
    clear hm hs hcm hcs
    go_enter Try.func13, Try.ntmps13
    go_wp2_with fail
    go_loopw [5] (fun i wr => ∃ j : Nat, j ≤ k ∧ i = .int .i64 j ∧ Below w.heap.size w wr) (fun i _ => k - (intOf i).toNat)
    case atStart => exact ⟨0, Nat.zero_le _, rfl, Below.refl _ _⟩
    case round =>
      obtain ⟨j, hj, rfl, bel⟩ := hrel
      by_cases hlt : j < k
      · have e : ∀ x, wr.cell? ⟨b, x, none⟩ = w.cell? ⟨b, x, none⟩ := fun x => bel.cell (p := ⟨b, x, none⟩) hb
        have e' : ∀ x, wr.cell? ⟨g, x, none⟩ = w.cell? ⟨g, x, none⟩ := fun x => bel.cell (p := ⟨g, x, none⟩) hg
        obtain ⟨m0, m1⟩ := HM.out j hlt
        obtain ⟨s0, s1, s2⟩ := HS.out j hlt
        rw [← e'] at m0 m1
        rw [← e] at s0 s1 s2
        have C : Hid (Calls Try.prog 12 #[.slice (some ⟨g, 0, none⟩) k cm, .int .i64 j, .agg #[.string (N j), .string (K j), .bool (H j)]] wr fun e w' => e = .returned (.bool true) ∧ Below wr.heap.size wr w') := stepIs_any g k cm j (N j) (K j) (H j) wr hlt m0 m1
        clear e e' m0 m1
        generalize N j = nm at s0 C
        generalize K j = ky at s1 C
        generalize H j = hs at s2 C
        go_wp2_with fail
        refine (show Calls _ _ _ _ _ from C.out).mono ?_
        rintro e w1 ⟨rfl, hb1⟩
        have bel1 : Below w.heap.size w w1 := bel.trans (hb1.mono bel.size)
        clear bel hb1 s0 s1 s2 C
        go_wp2_with fail
        go_roundw
        case rel => exact ⟨j + 1, by omega, by go_num, bel1⟩
        case measure => simp [intOf]; omega
      · go_wp2_with fail
        go_ret
        exact ⟨rfl, bel⟩
end Go.Proofs.Qxb6616707a
