/-
  The proof of 'Rows.FnChildFromRootRebuildsEveryAddressSaid': the frame after the kit's own for a law over slices, at a slice of structs; the walk is in Qxb6616707aChild.
-/
import Derived.Test.Qxb6616707aRows
import Derived.Test.Qxb6616707aChild
import Derived.WalkKit
import Derived.ProofKit
import Derived.OpenShut
import Derived.ShutString
import Derived.ChangeOld
import Derived.Below
import Derived.Deep.Slices
import Derived.Deep.Strs
namespace Go.Proofs.Qxb6616707a.fnChildFromRootRebuildsEveryAddress
open Go.ChangeShapes Go.WideShapes Go.ChangeAt Go.RowKit
set_option linter.unusedVariables false

theorem own : ownKnob Try.prog.godebug = none := by kernel_rfl
theorem laidOut : laidOutB Try.prog = true := by kernel_rfl
theorem cells36 : Try.prog.cellsOf 36 = 3 := by kernel_rfl
theorem cells9 : Try.prog.cellsOf 9 = 1 := by kernel_rfl
theorem cells4 : Try.prog.cellsOf 4 = 1 := by kernel_rfl

theorem three {α : Type} {l : List α} (h : l.length = 3) : ∃ a b c, l = [a, b, c] := by
  match l, h with
  | [a, b, c], _ => exact ⟨a, b, c, rfl⟩

/-- One step as it lies: a name, a key, a bool. -/
theorem open_step {H : Type} {enc : TypeId × Value → H} {W : World} {sp : Nat → Bool} {held : Bool} {n : Nat} {a : Addr} {cs : List Value} {x : DataW H × List MemPlace}
    (hc : W.cells? 0 a 3 = some cs) (h : DataW.trod enc Try.prog W 0 sp held n 36 cs = some x) :
    ∃ (nm ky : ByteArray) (hs : Bool), W.cell? (a.add 0) = some (.string nm) ∧ W.cell? (a.add 1) = some (.string ky) ∧ W.cell? (a.add 2) = some (.bool hs) := by
  obtain ⟨_, hl, hcell⟩ := World.cells?_some hc
  obtain ⟨c0, c1, c2, rfl⟩ := three hl
  obtain ⟨y0, y1, y2, m, rfl, _, t0, t1, t2⟩ := Deep.trod_struct3 Try.underlying36 h
  simp only [cells9, cells4, List.drop, List.take] at t0 t1 t2
  obtain ⟨nm, e0, _, _⟩ := DataW.trod_string Try.underlying9 t0
  obtain ⟨ky, e1, _, _⟩ := DataW.trod_string Try.underlying9 t1
  obtain ⟨hs, e2, _⟩ := DataW.trod_bool Try.underlying4 t2
  simp only [List.cons.injEq, and_true] at e0 e1 e2
  subst e0 e1 e2
  exact ⟨nm, ky, hs, by simpa using hcell 0 (by omega), by simpa using hcell 1 (by omega), by simpa using hcell 2 (by omega)⟩

/-- The slice of steps that came in, as the contracts take it. -/
theorem opened {H : Type} {enc : TypeId × Value → H} {W : World} {sp : Nat → Bool} {held : Bool} {fuel : Nat} {a0 : Option Addr} {len cap : Nat} {x : DataW H × List MemPlace}
    (hf : DataW.trod enc Try.prog W 0 sp held fuel 29 [.slice a0 len cap] = some x) :
    ∃ (N K : Nat → ByteArray) (Hs : Nat → Bool), len ≤ cap ∧ len ≤ 9223372036854775807 ∧ Steps W a0 len N K Hs := by
  rcases Deep.open_slice Try.underlying29 hf with ⟨hcs, _⟩ | ⟨a, l, c, m, n, D, Pl, hcs, _, hl, hm, hmm, _, hel⟩
  · simp only [List.cons.injEq, Value.slice.injEq, and_true] at hcs
    obtain ⟨rfl, rfl, rfl⟩ := hcs
    exact ⟨fun _ => ⟨#[]⟩, fun _ => ⟨#[]⟩, fun _ => false, Nat.le_refl _, by omega, fun h => absurd h (Nat.lt_irrefl 0)⟩
  · simp only [List.cons.injEq, Value.slice.injEq, and_true] at hcs
    obtain ⟨rfl, rfl, rfl⟩ := hcs
    have hlm : len ≤ m := by rw [hmm]; split <;> omega
    rw [cells36] at hel
    have each : ∀ i, i < len → ∃ t : ByteArray × ByteArray × Bool, W.cell? ((a.add (i * 3)).add 0) = some (.string t.1) ∧ W.cell? ((a.add (i * 3)).add 1) = some (.string t.2.1) ∧ W.cell? ((a.add (i * 3)).add 2) = some (.bool t.2.2) := by
      intro i hi
      obtain ⟨cs', h1, h2⟩ := hel i (by omega)
      obtain ⟨nm, ky, hs, e0, e1, e2⟩ := open_step h1 h2
      exact ⟨(nm, ky, hs), e0, e1, e2⟩
    obtain ⟨f, hff⟩ := Deep.choose_lt each
    refine ⟨fun i => (f i).1, fun i => (f i).2.1, fun i => (f i).2.2, hl, by unfold maxLen at hm; omega, fun h0 => ?_⟩
    obtain ⟨b, o, spot⟩ := a
    have hspot : spot = none := by simpa [Addr.add] using World.cell?_spot (hff 0 h0).1
    subst hspot
    refine ⟨b, o, rfl, World.block_lt_of_cell? _ _ (hff 0 h0).1, fun i hi => ?_⟩
    have := hff i hi
    simpa only [Addr.add_lit, Nat.add_zero] using this

/-! ### THE ROW's STEP -/
set_option maxRecDepth 100000 in
theorem lifted (os : Os) (started : os.Started) (H : Type) (enc : TypeId × Value → H) :
    ReturnsInHanded {} Try.checked os 4 .any (Rows.fnChildFromRootRebuildsEveryAddressSpec.pre6 enc Try.prog Try.f4 Rows.fnChildFromRootRebuildsEveryAddressRow.domain false) (Rows.fnChildFromRootRebuildsEveryAddressSpec.post enc Try.prog Try.f4 false true false false) := by
  refine returnsInHanded_of_change (C := Try.checked) own started (by kernel_rfl) Try.func4
    (ChangeSpec.witness6 (enc := enc) (C := Try.checked) false ⟨#[], #[.slice none 0 0], []⟩ 8 (by kernel_rfl) (by kernel_rfl) (by kernel_rfl) (by kernel_rfl)) ?_
  intro W base args ds gs before hval0 hW hcnd _
  have hval : ∀ (j : Nat) t v, Try.f4.params[j]? = some t → args[j]? = some v → Value.okWide Try.prog W .any base t v := hval0
  have hW' := hW
  obtain ⟨p, q, hA0, hV, rfl, hfz, hnd⟩ := hW
  have hA : DataW.TrodAll enc Try.prog W 0 (fun _ => true) true Try.f4.params.toList args.toList ds p := hA0
  rw [Try.params4] at hA hval
  obtain ⟨v0, vs0, d0, ds0, p0, q0, hargs, rfl, rfl, h0, r0⟩ := trodAll_cons hA
  obtain ⟨rfl, rfl, rfl⟩ := trodAll_nil r0
  obtain rfl : args = #[v0] := by cases args; simp_all
  obtain ⟨rfl, rfl⟩ := trodVars_none hV
  obtain ⟨a0, len0, cap0, rfl⟩ := okWide_slice Try.underlying29 (hval 0 29 v0 rfl rfl)
  have k0 := h0
  have lt0 : ∀ x ∈ p0, x.block < W.heap.size := by obtain ⟨m, hm⟩ := k0; exact DataW.trod_lt m _ _ _ hm
  obtain ⟨N, K, Hs, hl, hm, vs⟩ : ∃ (N K : Nat → ByteArray) (Hs : Nat → Bool), len0 ≤ cap0 ∧ len0 ≤ 9223372036854775807 ∧ Steps W a0 len0 N K Hs := by
    obtain ⟨fuel, hf⟩ := h0
    exact opened (by simpa [Value.cells] using hf)
  clear hA0 hval0
  refine (child_law a0 len0 cap0 W hm hl vs).mono fun e W' ⟨he, bel⟩ => ?_
  subst he
  exact ⟨_, rfl, _, _, _, [], _, [], hW', trodAll_mk1 (shut_bool Try.underlying4 _), (trodAll_cons_mk (Below.trod laidOut (by kernel_rfl) (of_decide_eq_true (by kernel_rfl)) k0 bel lt0) trodAll_mk0), rfl, bel.frame _, fun h => by cases h⟩

theorem over : Rows.fnChildFromRootRebuildsEveryAddressRow.holds Try.pinned (OpenSpec.ofChange Rows.fnChildFromRootRebuildsEveryAddressSpec) :=
  OpenClaim.holds_of_wide 4 Try.f4 rfl rfl rfl rfl rfl rfl rfl ⟨rfl, rfl, rfl, rfl, rfl⟩ rfl rfl rfl rfl rfl (by kernel_rfl) Try.func4 (by kernel_rfl)
    (of_decide_eq_true (by kernel_rfl)) (by unfold Func.isWrapper; first | (rw [if_pos (by decide +kernel)]; kernel_rfl) | (rw [if_neg (by decide +kernel)]; exact ⟨rfl, rfl⟩))
    (fun os started H enc _ => lifted os started H enc)

/-- ████ THE STATEMENT ████ -/
theorem proved : Rows.FnChildFromRootRebuildsEveryAddressSaid := over
#print axioms proved
end Go.Proofs.Qxb6616707a.fnChildFromRootRebuildsEveryAddress
