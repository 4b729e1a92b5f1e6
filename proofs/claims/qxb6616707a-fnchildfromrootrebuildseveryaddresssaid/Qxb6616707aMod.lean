import Derived.Test.Qxb6616707aProg
import Derived.WalkKit
import Derived.WalkSpells
import Derived.ProofKit
import Derived.Below
import Derived.WalkSmall
import Derived.Laws.CopyOwn
import Derived.Deep.QuietTactic
import Derived.BigQuiet
namespace Go.Proofs.Qxb6616707a
open Go.ChangeShapes Go.WideShapes Go.ChangeAt Go.RowKit

theorem Try.info46 : (Try.prog.info? 46).map (fun i => (i.zero, i.size, i.bytes)) = some (some (.agg #[.string ⟨#[]⟩, .nilIface]), 2, 32) := by kernel_rfl

/-- 'make(ModuleInstance, k, k+1)' as a law for the walk. -/
theorem wpList_make_mods {ops : Array Oper} {rest : List Oper} {o : Oper} {a : Act} {Q : Exit → Act → World → Prop} (w : World)
    (hg : o.guard = none) (l c : Operand) (hop : o.op = Op.makeSlice 33 l c) (kl kc : IntKind) (k : Nat) (hl : a.eval l = .int kl (k : Int)) (hc : a.eval c = .int kc ((k : Int) + 1)) (hk : k ≤ 4096)
    (hK : ∀ w' cur, Hid (w'.heap[w.heap.size]? = some (.cells cur 46 (0, 0))) → cur.size = (k + 1) * 2 → Below w.heap.size w w' → w'.heap.size = w.heap.size + 1 → wpList Try.prog ops Q rest (a.put o.dst (.slice (some ⟨w.heap.size, 0, none⟩) k (k + 1))) w') :
    wpList Try.prog ops Q (o :: rest) a w := by
  obtain ⟨i, hi, hz0, hz1, hz2⟩ := info_parts Try.info46
  refine wpList_plain hg fun K hK' => ?_
  have hrun := run_make (P := Try.prog) w 33 46 i _ Try.underlying33 hi hz0 kl kc (k : Int) ((k : Int) + 1) (by omega) (by omega) (by rw [hz2]; omega) (by omega)
  rw [show ((k : Int) + 1).toNat = k + 1 by omega, Int.toNat_natCast, hz1] at hrun
  unfold Oper.wp
  simp [execOp, hop, hl, hc, hrun, Result.andThen]
  refine hK' _ _ (hK _ _ (heap_alloc_new w _) (size_madeCells _ _) ((Below.refl _ _).alloc (Nat.le_refl _) _) (by simp))

theorem run_copy_pairs (w : World) (ty : TypeId) (g k dCap : Nat) (a : Addr) (sCap : Nat) (cur : Array Value) (cs : List Value)
    (hg : w.heap[g]? = some (.cells cur 46 (0, 0))) (hn : cs.length = k * 2) (hsrc : ∀ j v, cs[j]? = some v → w.cell? (a.add j) = some v) (hfit : cs.length ≤ cur.size) (h1 : ∀ v ∈ cs, v.oneCell' = true) :
    (Builtin.copy_ #[33, 33] ty #[.slice (some ⟨g, 0, none⟩) k dCap, .slice (some a) k sCap]).run Try.prog w =
      .ok (goInt k) (w.setRow g (cs ++ cur.toList.drop cs.length).toArray) := by
  have hl := run_loadCells_list (P := Try.prog) w a cs hsrc
  have hst := run_storeCells_at Try.prog g 0 46 cs 0 cur w hg (by simpa using hfit) h1
  obtain ⟨i, hi, hz0, hz1, hz2⟩ := info_parts Try.info46
  rw [hn] at hl
  simp at hst
  simp [Builtin.copy_, run_underlying Try.underlying33, Builtin.lenOf, Builtin.firstCells, sizeOf, typeInfo, hi, hz1, hl, hst]

/-- 'copy(child, m)', child a row that the call has just made, m nil or a row of the call's own, of the same length. -/
theorem wpList_copy_mods {ops : Array Oper} {rest : List Oper} {o : Oper} {a : Act} {Q : Exit → Act → World → Prop} (w : World)
    (hgd : o.guard = none) (d s : Operand) (ho : o.op = .call { callee := .builtin .copy, args := #[d, s], argTypes := #[33, 33] })
    (base g k cap : Nat) (m : Value) (xs : List Value) (cur : Array Value) (hd : a.eval d = .slice (some ⟨g, 0, none⟩) k cap) (hs : a.eval s = m) (hb : base ≤ g) (hg : Hid (w.heap[g]? = some (.cells cur 46 (0, 0)))) (hcs : cur.size = cap * 2) (hkc : k ≤ cap) (hcm : cap ≤ maxLen)
    (hm : Hid (w.ownsRow base 46 2 m k xs)) (h1 : ∀ v ∈ xs, v.oneCell' = true)
    (hK : ∀ w', w'.ownsRow base 46 2 (.slice (some ⟨g, 0, none⟩) k cap) k xs → Below g w w' → w'.heap.size = w.heap.size → wpList Try.prog ops Q rest (a.put o.dst (goInt k)) w') :
    wpList Try.prog ops Q (o :: rest) a w := by
  have hxs : xs.length = k * 2 := hm.out.1
  rcases hm.out.2 with ⟨rfl, rfl⟩ | ⟨g2, cap2, cur2, rfl, _, hg2, _, _, hcs2, htake⟩
  · obtain rfl : xs = [] := List.eq_nil_of_length_eq_zero (by simpa using hxs)
    refine wpList_plain hgd fun K hK' => ?_
    have hrun := run_copy_nil (P := Try.prog) w 33 33 o.type 46 ⟨g, 0, none⟩ 0 cap Try.underlying33 (by kernel_rfl)
    unfold Oper.wp
    simp [execOp, ho, resolve, invoke, builtin, hd, hs, hrun, Result.andThen]
    exact hK' _ _ (hK w ⟨rfl, .inr ⟨g, cap, cur, rfl, hb, hg.out, Nat.zero_le _, hcm, hcs, by simp⟩⟩ (Below.refl _ _) rfl)
  · refine wpList_plain hgd fun K hK' => ?_
    have hrun := run_copy_pairs w o.type g k cap ⟨g2, 0, none⟩ cap2 cur xs hg.out hxs (fun j v hj => by
      have hjl : j < k * 2 := by have := (List.getElem?_eq_some_iff.1 hj).1; omega
      rw [Addr.add_lit, Nat.zero_add, cell_of_row w g2 j cur2 46 (0, 0) hg2, ← hj, ← htake, List.getElem?_take, if_pos hjl]
      simp) (by rw [hxs, hcs]; omega) h1
    unfold Oper.wp
    simp [execOp, ho, resolve, invoke, builtin, hd, hs, hrun, Result.andThen]
    refine hK' _ _ (hK _ ⟨hxs, .inr ⟨g, cap, _, rfl, hb, setRow_heap w g cur _ 46 _ hg.out, hkc, hcm, ?_, ?_⟩⟩ (below_setRow (Below.refl _ _) (Nat.le_refl _) _) (by simp [World.setRow]))
    · simp [hxs, hcs]
      omega
    · simp [hxs]

/-- What is owned stays owned where all that was there is as it was. -/
theorem owns_below {w w' : World} {B base : Nat} {e : TypeId} {size : Nat} {v : Value} {n : Nat} {xs : List Value} (h : w.ownsRow base e size v n xs) (hb : Below B w w') (hB : w.heap.size ≤ B) : w'.ownsRow base e size v n xs := by
  refine ⟨h.1, ?_⟩
  rcases h.2 with h2 | ⟨g, cap, cur, h1, h3, hg, r⟩
  · exact .inl h2
  · refine .inr ⟨g, cap, cur, h1, h3, ?_, r⟩
    rw [hb.block g (Nat.lt_of_lt_of_le (Array.getElem?_eq_some_iff.1 hg).1 hB)]
    exact hg

set_option maxRecDepth 10000 in
set_option maxHeartbeats 1000000 in
/-- Child: a new row: the steps of m and one more. -/
theorem child_none (base : Nat) (p : Option Addr) (k c : Nat) (xs : List Value) (name : ByteArray) (w : World) (hbase : base ≤ w.heap.size) (hk : k ≤ 1024) (hm : w.ownsRow base 46 2 (.slice p k c) k xs) (h1 : ∀ v ∈ xs, v.oneCell' = true) :
    Calls Try.prog 14 #[.slice p k c, .string name, .nilIface] w fun e w' => e = .returned (.slice (some ⟨w.heap.size, 0, none⟩) (k + 1) (k + 1)) ∧ w'.ownsRow base 46 2 (.slice (some ⟨w.heap.size, 0, none⟩) (k + 1) (k + 1)) (k + 1) (xs ++ [.string name, .nilIface]) ∧ Below w.heap.size w w' := by
  have HM : Hid (w.ownsRow base 46 2 (.slice p k c) k xs) := hm
  have H1 : Hid (∀ v ∈ xs, v.oneCell' = true) := h1
  clear hm h1
  go_enter Try.func14, Try.ntmps14
  go_wp2_with (at_make; refine wpList_make_mods _ rfl _ _ rfl _ _ k rfl rfl (by omega) ?_)
  intro w1 cur hcur hcs hb1 hs1
  have HM1 : Hid (w1.ownsRow base 46 2 (.slice p k c) k xs) := owns_below HM.out hb1 (Nat.le_refl _)
  go_wp2_with (refine wpList_copy_mods _ rfl _ _ rfl base w.heap.size k (k + 1) (.slice p k c) xs cur rfl rfl hbase hcur hcs (by omega) (by unfold maxLen; omega) HM1 H1.out ?_)
  intro w2 ho2 hb2 hs2
  have HO : Hid (w2.ownsRow base 46 2 (.slice (some ⟨w.heap.size, 0, none⟩) k (k + 1)) k xs) := ho2
  have bel2 := hb1.trans hb2
  obtain ⟨i46, hi, hz0, hz1, hz2⟩ := info_parts Try.info46
  have HI : Hid (Try.prog.info? 46 = some i46) := hi
  have HZ : Hid (i46.size = 2) := hz1
  clear ho2 hcur hcs hb1 HM HM1 H1 hb2 hs1 hi hz0 hz1 hz2
  go_wp2_with (at_builtin; refine wpList_append_fits _ rfl _ _ 33 rfl base 46 i46 2 Try.underlying33 HI.out HZ.out w.heap.size k (k + 1) xs rfl (HO.out.alloc _) ⟨w.heap.size + 1, 0, none⟩ 1 1 [.string name, .nilIface] rfl rfl ?c1 ?c2 ?c3 ?_)
  case c1 =>
    intro j u hj
    rw [Addr.add_lit, Nat.zero_add, World.cell?_alloc_at _ _ _ _ hs2.symm]
    simpa using hj
  case c2 => intro u hu; simp at hu; rcases hu with rfl | rfl <;> rfl
  case c3 => omega
  intro w3 ho3 hg3
  have bel3 : Below w.heap.size w w3 := (bel2.alloc (by omega) _).grown hg3 (by simp; omega) (fun j hj => by cases hj; exact Nat.le_refl _)
  have HO3 : Hid (w3.ownsRow base 46 2 (.slice (some ⟨w.heap.size, 0, none⟩) (k + 1) (k + 1)) (k + 1) (xs ++ [.string name, .nilIface])) := ho3
  clear ho3 hg3 bel2
  go_wp2_with fail
  go_ret
  exact ⟨rfl, HO3.out, bel3⟩

set_option maxRecDepth 10000 in
set_option maxHeartbeats 1000000 in
/-- Child: a new row: the steps of m and one more. -/
theorem child_key (base : Nat) (p : Option Addr) (k c : Nat) (xs : List Value) (name : ByteArray) (key : ByteArray) (w : World) (hbase : base ≤ w.heap.size) (hk : k ≤ 1024) (hm : w.ownsRow base 46 2 (.slice p k c) k xs) (h1 : ∀ v ∈ xs, v.oneCell' = true) :
    Calls Try.prog 14 #[.slice p k c, .string name, .iface 40 (.string key)] w fun e w' => e = .returned (.slice (some ⟨w.heap.size, 0, none⟩) (k + 1) (k + 1)) ∧ w'.ownsRow base 46 2 (.slice (some ⟨w.heap.size, 0, none⟩) (k + 1) (k + 1)) (k + 1) (xs ++ [.string name, .iface 40 (.string key)]) ∧ Below w.heap.size w w' := by
  have HM : Hid (w.ownsRow base 46 2 (.slice p k c) k xs) := hm
  have H1 : Hid (∀ v ∈ xs, v.oneCell' = true) := h1
  clear hm h1
  go_enter Try.func14, Try.ntmps14
  go_wp2_with (at_make; refine wpList_make_mods _ rfl _ _ rfl _ _ k rfl rfl (by omega) ?_)
  intro w1 cur hcur hcs hb1 hs1
  have HM1 : Hid (w1.ownsRow base 46 2 (.slice p k c) k xs) := owns_below HM.out hb1 (Nat.le_refl _)
  go_wp2_with (refine wpList_copy_mods _ rfl _ _ rfl base w.heap.size k (k + 1) (.slice p k c) xs cur rfl rfl hbase hcur hcs (by omega) (by unfold maxLen; omega) HM1 H1.out ?_)
  intro w2 ho2 hb2 hs2
  have HO : Hid (w2.ownsRow base 46 2 (.slice (some ⟨w.heap.size, 0, none⟩) k (k + 1)) k xs) := ho2
  have bel2 := hb1.trans hb2
  obtain ⟨i46, hi, hz0, hz1, hz2⟩ := info_parts Try.info46
  have HI : Hid (Try.prog.info? 46 = some i46) := hi
  have HZ : Hid (i46.size = 2) := hz1
  clear ho2 hcur hcs hb1 HM HM1 H1 hb2 hs1 hi hz0 hz1 hz2
  go_wp2_with (at_builtin; refine wpList_append_fits _ rfl _ _ 33 rfl base 46 i46 2 Try.underlying33 HI.out HZ.out w.heap.size k (k + 1) xs rfl (HO.out.alloc _) ⟨w.heap.size + 1, 0, none⟩ 1 1 [.string name, .iface 40 (.string key)] rfl rfl ?c1 ?c2 ?c3 ?_)
  case c1 =>
    intro j u hj
    rw [Addr.add_lit, Nat.zero_add, World.cell?_alloc_at _ _ _ _ hs2.symm]
    simpa using hj
  case c2 => intro u hu; simp at hu; rcases hu with rfl | rfl <;> rfl
  case c3 => omega
  intro w3 ho3 hg3
  have bel3 : Below w.heap.size w w3 := (bel2.alloc (by omega) _).grown hg3 (by simp; omega) (fun j hj => by cases hj; exact Nat.le_refl _)
  have HO3 : Hid (w3.ownsRow base 46 2 (.slice (some ⟨w.heap.size, 0, none⟩) (k + 1) (k + 1)) (k + 1) (xs ++ [.string name, .iface 40 (.string key)])) := ho3
  clear ho3 hg3 bel2
  go_wp2_with fail
  go_ret
  exact ⟨rfl, HO3.out, bel3⟩

end Go.Proofs.Qxb6616707a
