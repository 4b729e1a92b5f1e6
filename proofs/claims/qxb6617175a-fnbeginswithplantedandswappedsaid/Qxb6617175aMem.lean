import Derived.Test.Qxb6617175aProg
import Derived.WalkKit
import Derived.WalkSpells
import Derived.ProofKit
import Derived.Below
import Derived.Deep.OwnRows
import Derived.Laws.CopyOwn
namespace Go.Proofs.Qxb6617175a
open Go.ChangeShapes Go.WideShapes Go.ChangeAt Go.RowKit

/-- Block g is a row of n bytes of the call's own, byte i being f i; none frozen. -/
def BRow (w : World) (g n : Nat) (f : Nat → Int) : Prop := w.rowIs g 5 n (fun i => .int .u8 (f i))

variable {w w' : World} {g n : Nat} {f f' : Nat → Int}
theorem BRow.cell (h : BRow w g n f) (i : Nat) (hi : i < n) : w.cell? ⟨g, i, none⟩ = some (.int .u8 (f i)) := World.rowIs.cell h hi
theorem BRow.frozen (h : BRow w g n f) (i : Nat) : w.frozen? ⟨g, i, none⟩ = false := World.rowIs.frozen h i
theorem BRow.lt (h : BRow w g n f) : g < w.heap.size := World.rowIs.lt h
theorem BRow.below {B : Nat} (h : BRow w g n f) (hb : Below B w w') (hg : g < B) : BRow w' g n f := World.rowIs.of_block h (hb.block g hg)
theorem BRow.congr (h : BRow w g n f) (e : ∀ i, i < n → f i = f' i) : BRow w g n f' := World.rowIs.congr h (fun i hi => by rw [e i hi])
theorem BRow.set (h : BRow w g n f) (i : Nat) (v : Int) : BRow (w.setCell ⟨g, i, none⟩ (.int .u8 v)) g n (fun j => if j = i then v else f j) :=
  World.rowIs.congr (World.rowIs.set h i (.int .u8 v)) (fun j _ => by dsimp only; split <;> rfl)
theorem BRow.other (h : BRow w g n f) {a : Addr} (ha : g ≠ a.block) (v : Value) : BRow (w.setCell a v) g n f := World.rowIs.setOther h ha v
theorem BRow.made (w : World) (n : Nat) : BRow (w.alloc (.cells (madeCells #[.int .u8 0] n) 5)) w.heap.size n (fun _ => 0) := World.rowIs_made w _ n 5

theorem Try.info5 : (Try.prog.info? 5).map (fun i => (i.zero, i.size, i.bytes)) = some (some (.int .u8 0), 1, 1) := by kernel_rfl

/-- 'make([]byte, n)' as a law for the walk: a new block, a row of n noughts; all that was there is as it was. -/
theorem wpList_make_bytes {ops : Array Oper} {rest : List Oper} {o : Oper} {a : Act} {Q : Exit → Act → World → Prop} (w : World)
    (hg : o.guard = none) (l c : Operand) (hop : o.op = Op.makeSlice 22 l c) (kl kc : IntKind) (n : Nat) (hl : a.eval l = .int kl (n : Int)) (hc : a.eval c = .int kc (n : Int)) (hn : n ≤ 281474976710656)
    (hK : ∀ w', BRow w' w.heap.size n (fun _ => 0) → Below w.heap.size w w' → w'.heap.size = w.heap.size + 1 → wpList Try.prog ops Q rest (a.put o.dst (.slice (some ⟨w.heap.size, 0, none⟩) n n)) w') :
    wpList Try.prog ops Q (o :: rest) a w := by
  obtain ⟨i, hi, hz0, hz1, hz2⟩ := info_parts Try.info5
  refine wpList_make_row w hg l c 22 hop 5 i (.int .u8 0) Try.underlying22 hi hz0 hz1 rfl kl kc n hl hc (by rw [hz2]; omega) (by omega) ?_
  exact hK _ (BRow.made w n) ((Below.refl _ _).alloc (Nat.le_refl _) _) (by simp)

/-- 'copy(zzc, src)', zzc a row of the call's own, src of the same length, at an address: the row then holds src's bytes; blocks other than the row are as they were. -/
theorem wpList_copy_bytes {ops : Array Oper} {rest : List Oper} {o : Oper} {a : Act} {Q : Exit → Act → World → Prop} (w : World)
    (hgd : o.guard = none) (d s : Operand) (ho : o.op = .call { callee := .builtin .copy, args := #[d, s], argTypes := #[22, 22] })
    (g n cap cap' : Nat) (x : Addr) (f0 f : Nat → Int) (hd : a.eval d = .slice (some ⟨g, 0, none⟩) n cap) (hs : a.eval s = .slice (some x) n cap') (hrow : BRow w g n f0)
    (hsrc : ∀ j, j < n → w.cell? (x.add j) = some (.int .u8 (f j)))
    (hK : ∀ w', BRow w' g n f → Below g w w' → w'.heap.size = w.heap.size → wpList Try.prog ops Q rest (a.put o.dst (goInt n)) w') :
    wpList Try.prog ops Q (o :: rest) a w := by
  obtain ⟨c, hb, hcs, hc⟩ := hrow
  have hlen : ((List.range n).map (fun i => Value.int .u8 (f i))).length = n := by simp
  have hget : ∀ j, j < n → ((List.range n).map (fun i => Value.int .u8 (f i)))[j]? = some (.int .u8 (f j)) := fun j hj => by simp [hj]
  refine wpList_copy_own hgd d s 22 22 ho 5 Try.underlying22 (by kernel_rfl) g 0 n cap x n cap' hd hs c 5 hb ((List.range n).map (fun i => Value.int .u8 (f i))) (by simp) ?_ (by simp [hcs]) ?_ ?_
  · intro j v hj
    have hjn : j < n := by
      have := (List.getElem?_eq_some_iff.1 hj).1
      simpa using this
    rw [hget j hjn] at hj
    rw [hsrc j hjn]
    exact hj
  · intro v hv
    obtain ⟨i, _, rfl⟩ := List.mem_map.1 hv
    rfl
  · rw [hlen]
    refine hK _ ?_ ?_ (by simp [World.setRow])
    · refine ⟨_, setRow_heap w g c _ 5 _ hb, ?_, ?_⟩
      · simp [hcs]
      · intro i hi
        have : (c.toList.take 0 ++ ((List.range n).map (fun i => Value.int .u8 (f i)) ++ c.toList.drop (0 + n))) = (List.range n).map (fun i => Value.int .u8 (f i)) := by
          simp [← hcs]
        rw [this, List.getElem?_toArray]
        exact hget i hi
    · exact below_setRow (Below.refl _ _) (Nat.le_refl _) _
end Go.Proofs.Qxb6617175a
