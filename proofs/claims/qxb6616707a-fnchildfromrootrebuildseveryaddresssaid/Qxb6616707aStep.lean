import Derived.Test.Qxb6616707aMod
namespace Go.Proofs.Qxb6616707a
open Go.ChangeShapes Go.WideShapes Go.ChangeAt Go.RowKit

/-- The key that ZZchild lays: a StringKey, or the nil key. -/
def keyV (key : ByteArray) (has : Bool) : Value := if has then .iface 40 (.string key) else .nilIface

set_option maxHeartbeats 400000 in
theorem zzchild_any (base : Nat) (p : Option Addr) (k c : Nat) (xs : List Value) (name key : ByteArray) (has : Bool) (w : World) (hbase : base ≤ w.heap.size) (hk : k ≤ 1024) (hm : w.ownsRow base 46 2 (.slice p k c) k xs) (h1 : ∀ v ∈ xs, v.oneCell' = true) :
    Calls Try.prog 11 #[.slice p k c, .string name, .string key, .bool has] w fun e w' => e = .returned (.slice (some ⟨w.heap.size, 0, none⟩) (k + 1) (k + 1)) ∧ w'.ownsRow base 46 2 (.slice (some ⟨w.heap.size, 0, none⟩) (k + 1) (k + 1)) (k + 1) (xs ++ [.string name, keyV key has]) ∧ Below w.heap.size w w' := by
  have HM : Hid (w.ownsRow base 46 2 (.slice p k c) k xs) := hm
  have H1 : Hid (∀ v ∈ xs, v.oneCell' = true) := h1
  clear hm h1
  cases has
  · go_enter Try.func11, Try.ntmps11
    go_wp2_with fail
    refine (child_none base p k c xs name w hbase hk HM.out H1.out).mono ?_
    rintro e w' ⟨rfl, ho, hb⟩
    have HO : Hid (w'.ownsRow base 46 2 (.slice (some ⟨w.heap.size, 0, none⟩) (k + 1) (k + 1)) (k + 1) (xs ++ [.string name, .nilIface])) := ho
    clear ho
    go_wp2_with fail
    go_ret
    exact ⟨rfl, HO.out, hb⟩
  · go_enter Try.func11, Try.ntmps11
    go_wp2_with fail
    refine (child_key base p k c xs name key w hbase hk HM.out H1.out).mono ?_
    rintro e w' ⟨rfl, ho, hb⟩
    have HO : Hid (w'.ownsRow base 46 2 (.slice (some ⟨w.heap.size, 0, none⟩) (k + 1) (k + 1)) (k + 1) (xs ++ [.string name, .iface 40 (.string key)])) := ho
    clear ho
    go_wp2_with fail
    go_ret
    exact ⟨rfl, HO.out, hb⟩

theorem results_tmp4 {fn : Func} {t u v x : Tmp} (h : fn.results = #[.tmp t, .tmp u, .tmp v, .tmp x]) (tmps : Array Value) (P : Program) (w : World) :
    (results fn tmps).run P w = .ok (.tuple #[tmps.getD t undef, tmps.getD u undef, tmps.getD v undef, tmps.getD x undef]) w := by
  simp [results, h]

theorem assert_none (w : World) : (Instr.typeAssert .nilIface 44 40 true).run Try.prog w = .ok (.tuple #[.string ⟨#[]⟩, .bool false]) w := by kernel_rfl
theorem assert_key (key : ByteArray) (w : World) : (Instr.typeAssert (.iface 40 (.string key)) 44 40 true).run Try.prog w = .ok (.tuple #[.string key, .bool true]) w := by kernel_rfl
theorem eql_none (w : World) : (binOp .eql 44 .nilIface .nilIface).run Try.prog w = .ok (.bool true) w := by kernel_rfl
theorem eql_key (key : ByteArray) (w : World) : (binOp .eql 44 (.iface 40 (.string key)) .nilIface).run Try.prog w = .ok (.bool false) w := by kernel_rfl

set_option maxHeartbeats 1000000 in
theorem read_none (g n c i : Nat) (name : ByteArray) (w : World) (hi : i < n) (c0 : w.cell? ⟨g, i * 2, none⟩ = some (.string name)) (c1 : w.cell? ⟨g, i * 2 + 1, none⟩ = some .nilIface) :
    Calls Try.prog 15 #[.slice (some ⟨g, 0, none⟩) n c, .int .i64 i] w fun e w' => e = .returned (.tuple #[.string name, .string ⟨#[]⟩, .bool false, .bool true]) ∧ Below w.heap.size w w' := by
  have hil : (i : Int) < (n : Int) := by omega
  have a0 := assert_none
  have e0 := eql_none
  go_enter Try.func15, Try.ntmps15
  go_wp2_with fail
  go_quiet (fail)
  go_wp2_with fail
  refine bodyPost_ret (results_tmp4 rfl _ _ _) rfl ?_
  exact ⟨rfl, below_drewN (Below.refl _ _) _⟩

set_option maxHeartbeats 1000000 in
theorem read_key (g n c i : Nat) (name key : ByteArray) (w : World) (hi : i < n) (c0 : w.cell? ⟨g, i * 2, none⟩ = some (.string name)) (c1 : w.cell? ⟨g, i * 2 + 1, none⟩ = some (.iface 40 (.string key))) :
    Calls Try.prog 15 #[.slice (some ⟨g, 0, none⟩) n c, .int .i64 i] w fun e w' => e = .returned (.tuple #[.string name, .string key, .bool true, .bool false]) ∧ Below w.heap.size w w' := by
  have hil : (i : Int) < (n : Int) := by omega
  have a0 := assert_key
  have e0 := eql_key
  go_enter Try.func15, Try.ntmps15
  go_wp2_with fail
  go_quiet (fail)
  go_wp2_with fail
  refine bodyPost_ret (results_tmp4 rfl _ _ _) rfl ?_
  exact ⟨rfl, below_drewN (Below.refl _ _) _⟩

set_option maxHeartbeats 1000000 in
/-- zzStepIs: step i of m is the one that is wanted. -/
theorem stepIs_any (g n c i : Nat) (name key : ByteArray) (has : Bool) (w : World) (hi : i < n) (c0 : w.cell? ⟨g, i * 2, none⟩ = some (.string name)) (c1 : w.cell? ⟨g, i * 2 + 1, none⟩ = some (keyV key has)) :
    Calls Try.prog 12 #[.slice (some ⟨g, 0, none⟩) n c, .int .i64 i, .agg #[.string name, .string key, .bool has]] w fun e w' => e = .returned (.bool true) ∧ Below w.heap.size w w' := by
  have hd0 : decide ((i : Int) < 0) = false := decide_eq_false (by omega)
  have hd1 : decide ((n : Int) ≤ (i : Int)) = false := decide_eq_false (by omega)
  have hg : g < w.heap.size := World.block_lt_of_cell? _ _ c0
  cases has
  · have c1' : w.cell? ⟨g, i * 2 + 1, none⟩ = some .nilIface := c1
    clear c1
    have C : Hid (∀ w', Below w.heap.size w w' → Calls Try.prog 15 #[.slice (some ⟨g, 0, none⟩) n c, .int .i64 i] w' fun e w'' => e = .returned (.tuple #[.string name, .string ⟨#[]⟩, .bool false, .bool true]) ∧ Below w'.heap.size w' w'') :=
      fun w' hb => read_none g n c i name w' hi ((hb.cell (p := ⟨g, i * 2, none⟩) hg).trans c0) ((hb.cell (p := ⟨g, i * 2 + 1, none⟩) hg).trans c1')
    clear c0 c1' hg
    go_enter Try.func12, Try.ntmps12
    go_wp2_with fail
    refine (C.out _ ((Below.refl _ _).alloc (Nat.le_refl _) _)).mono ?_
    rintro e w1 ⟨rfl, hb⟩
    have hc : ∀ o, w1.cell? ⟨w.heap.size, o, none⟩ = (w.alloc (.cells #[.string name, .string key, .bool false] 36)).cell? ⟨w.heap.size, o, none⟩ :=
      fun o => hb.cell (p := ⟨w.heap.size, o, none⟩) (by simp)
    have hbel : Below w.heap.size w w1 := ((Below.refl _ _).alloc (Nat.le_refl _) _).trans (hb.mono (by simp))
    clear hb
    go_wp2_with fail
    go_ret
    exact ⟨by simp, hbel⟩
  · have c1' : w.cell? ⟨g, i * 2 + 1, none⟩ = some (.iface 40 (.string key)) := c1
    clear c1
    have C : Hid (∀ w', Below w.heap.size w w' → Calls Try.prog 15 #[.slice (some ⟨g, 0, none⟩) n c, .int .i64 i] w' fun e w'' => e = .returned (.tuple #[.string name, .string key, .bool true, .bool false]) ∧ Below w'.heap.size w' w'') :=
      fun w' hb => read_key g n c i name key w' hi ((hb.cell (p := ⟨g, i * 2, none⟩) hg).trans c0) ((hb.cell (p := ⟨g, i * 2 + 1, none⟩) hg).trans c1')
    clear c0 c1' hg
    go_enter Try.func12, Try.ntmps12
    go_wp2_with fail
    refine (C.out _ ((Below.refl _ _).alloc (Nat.le_refl _) _)).mono ?_
    rintro e w1 ⟨rfl, hb⟩
    have hc : ∀ o, w1.cell? ⟨w.heap.size, o, none⟩ = (w.alloc (.cells #[.string name, .string key, .bool true] 36)).cell? ⟨w.heap.size, o, none⟩ :=
      fun o => hb.cell (p := ⟨w.heap.size, o, none⟩) (by simp)
    have hbel : Below w.heap.size w w1 := ((Below.refl _ _).alloc (Nat.le_refl _) _).trans (hb.mono (by simp))
    clear hb
    go_wp2_with fail
    go_ret
    exact ⟨by simp, hbel⟩
end Go.Proofs.Qxb6616707a
