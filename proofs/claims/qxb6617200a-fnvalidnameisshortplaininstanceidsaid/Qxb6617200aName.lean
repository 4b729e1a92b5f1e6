import Derived.Test.Qxb6617200aProg
import Derived.WalkKit
import Derived.WalkSpells
import Derived.ProofKit
import Derived.Below
import Derived.WalkSmall
import Derived.Laws.IdiomStrings
namespace Go.Proofs.Qxb6617200a
open Go.ChangeShapes Go.WideShapes Go.ChangeAt Go.RowKit

/-- Byte i of s, as a number. -/
def byteAt (s : ByteArray) (i : Nat) : Int := ((s.data[i]?.getD 0).toNat : Int)
theorem byteAt_range (s : ByteArray) (i : Nat) : 0 ≤ byteAt s i ∧ byteAt s i < 256 := by
  unfold byteAt
  have := (s.data[i]?.getD 0).toNat_lt
  omega

/-- '[]byte(s)' as a law for the walk: a new block whose first cells are the bytes; all that was there is as it was. -/
theorem wpList_bytes_of {ops : Array Oper} {rest : List Oper} {o : Oper} {a : Act} {Q : Exit → Act → World → Prop} (w : World)
    (hg : o.guard = none) (x : Operand) (hop : o.op = Op.convert 9 28 x) (s : ByteArray) (hx : a.eval x = .string s)
    (hK : ∀ w' cap, (∀ i, i < s.size → w'.cell? ⟨w.heap.size, i, none⟩ = some (.int .u8 (byteAt s i))) → Below w.heap.size w w' → wpList Try.prog ops Q rest (a.put o.dst (.slice (some ⟨w.heap.size, 0, none⟩) s.size cap)) w') :
    wpList Try.prog ops Q (o :: rest) a w := by
  refine wpList_plain hg fun K hK' => ?_
  have hrun := run_bytes_of_string (P := Try.prog) w 9 28 5 s Try.underlying9 Try.underlying28 Try.underlying5
  unfold Oper.wp
  simp [execOp, hop, hx, hrun, Result.andThen]
  refine hK' _ _ (hK _ _ (fun i hi => ?_) ?_)
  · have h1 := World.cell?_alloc_mark w.drew (bytesRow s (grownCap w s.size 0 5)) 5 ((bytesRow s (grownCap w s.size 0 5)).size, (bytesRow s (grownCap w s.size 0 5)).size + 1) i
    rw [bytesRow_at s _ i hi] at h1
    refine h1.trans ?_
    unfold byteAt
    rw [Array.getElem?_eq_getElem (show i < s.data.size from hi)]
    rfl
  · exact (Below.refl _ _).drew.alloc (Nat.le_refl _) _

/-! ### ValidName -/
/-- May the byte c stand in a name? -/
def okN (c : Int) : Bool := decide ((97 ≤ c ∧ c ≤ 122) ∨ (48 ≤ c ∧ c ≤ 57) ∨ c = 45)
/-- What ValidName answers. -/
def vName (s : ByteArray) : Bool := decide (1 ≤ s.size ∧ s.size ≤ 63) && decide (∀ i, i < s.size → okN (byteAt s i) = true)

theorem vName_len {s : ByteArray} (h : ¬ (1 ≤ s.size ∧ s.size ≤ 63)) : vName s = false := by simp only [vName, h, decide_false, Bool.false_and]
theorem vName_no {s : ByteArray} {k : Nat} (hk : k < s.size) (h : okN (byteAt s k) = false) : vName s = false := by
  have : ¬ ∀ i, i < s.size → okN (byteAt s i) = true := fun h2 => by have := h2 k hk; rw [h] at this; cases this
  simp only [vName, this, decide_false, Bool.and_false]
theorem vName_yes {s : ByteArray} (h1 : 1 ≤ s.size ∧ s.size ≤ 63) (h : ∀ i, i < s.size → okN (byteAt s i) = true) : vName s = true := by
  simp only [vName, h1, and_self, decide_true, Bool.true_and, decide_eq_true_eq]
  exact h

theorem okN_yes {c : Int} (h : okN c = true) : (97 ≤ c ∧ c ≤ 122) ∨ (48 ≤ c ∧ c ≤ 57) ∨ c = 45 := by simpa [okN] using h
theorem okN_no {c : Int} (h : okN c = false) : c < 45 ∨ (45 < c ∧ c < 48) ∨ (57 < c ∧ c < 97) ∨ 122 < c := by
  have : ¬ ((97 ≤ c ∧ c ≤ 122) ∨ (48 ≤ c ∧ c ≤ 57) ∨ c = 45) := by simpa only [okN, decide_eq_false_iff_not] using h
  omega

set_option maxHeartbeats 1000000 in
theorem validName_long (s : ByteArray) (w : World) (h : ¬ (1 ≤ s.size ∧ s.size ≤ 63)) (hm : s.size ≤ 9223372036854775807) :
    Calls Try.prog 9 #[.string s] w fun e w' => e = .returned (.bool false) ∧ Below w.heap.size w w' := by
  by_cases h0 : s.size < 1
  · have hd : decide ((s.size : Int) < 1) = true := by simp; omega
    go_enter Try.func9, Try.ntmps9
    go_wp2_with fail
    go_ret
    exact ⟨rfl, Below.refl _ _⟩
  · have hd : decide ((s.size : Int) < 1) = false := by simp; omega
    have hd2 : decide (63 < (s.size : Int)) = true := by simp; omega
    go_enter Try.func9, Try.ntmps9
    go_wp2_with fail
    go_ret
    exact ⟨rfl, Below.refl _ _⟩

set_option maxRecDepth 10000 in
set_option maxHeartbeats 2000000 in
theorem validName_in (s : ByteArray) (w : World) (h1 : 1 ≤ s.size) (h2 : s.size ≤ 63) :
    Calls Try.prog 9 #[.string s] w fun e w' => e = .returned (.bool (vName s)) ∧ Below w.heap.size w w' := by
  have hd : decide ((s.size : Int) < 1) = false := by simp; omega
  have hd2 : decide (63 < (s.size : Int)) = false := by simp; omega
  obtain ⟨R, hR⟩ : ∃ R, vName s = R := ⟨_, rfl⟩
  rw [hR]
  have HR : Hid (vName s = R) := hR
  clear hR
  go_enter Try.func9, Try.ntmps9
  go_wp2_with (refine wpList_bytes_of _ rfl _ rfl s rfl ?_)
  intro w1 cap hc hb
  have HC : Hid (∀ i, i < s.size → w1.cell? ⟨w.heap.size, i, none⟩ = some (.int .u8 (byteAt s i))) := hc
  clear hc
  obtain ⟨B, hB⟩ : ∃ B, w.heap.size = B := ⟨_, rfl⟩
  have HW : Hid (Below w.heap.size w w1) := hb
  rw [hB] at HC ⊢
  clear hB hb
  obtain ⟨n, hn⟩ : ∃ n, s.size = n := ⟨_, rfl⟩
  rw [hn] at HC h1 h2 hd hd2 ⊢
  have HN : Hid (s.size = n) := hn
  clear hn
  go_wp2_with fail
  go_loop [16] (fun i => ∃ k : Nat, k ≤ n ∧ i = .int .i64 k ∧ Hid (∀ j, j < k → okN (byteAt s j) = true)) (fun i => n - (intOf i).toNat)
  case atStart => exact ⟨0, Nat.zero_le _, rfl, fun j hj => absurd hj (Nat.not_lt_zero _)⟩
  case round =>
    obtain ⟨k, hk, rfl, hs⟩ := hrel
    by_cases hlt : k < n
    · have c1 := HC.out k hlt
      have hr := byteAt_range s k
      cases ho : okN (byteAt s k)
      · have hv : vName s = false := vName_no (by rw [HN.out]; exact hlt) ho
        have HF := HR.out.symm.trans hv
        subst HF
        have hi := okN_no ho
        clear HR hs HC ho hv
        generalize byteAt s k = c at c1 hi hr
        have e45 : (c == 45) = false := beq_eq_false_iff_ne.2 (by omega)
        rcases hi with hi | hi | hi | hi
        · go_wp2_with fail
          go_ret
          exact ⟨rfl, HW.out⟩
        · go_wp2_with fail
          go_ret
          exact ⟨rfl, HW.out⟩
        · have d57 : decide (c ≤ 57) = false := decide_eq_false (by omega)
          go_wp2_with fail
          go_ret
          exact ⟨rfl, HW.out⟩
        · have d57 : decide (c ≤ 57) = false := decide_eq_false (by omega)
          have d122 : decide (c ≤ 122) = false := decide_eq_false (by omega)
          go_wp2_with fail
          go_ret
          exact ⟨rfl, HW.out⟩
      · have hi := okN_yes ho
        have HO : Hid (okN (byteAt s k) = true) := ho
        clear ho
        generalize hc : byteAt s k = c at c1 hi hr
        clear hc
        rcases hi with hi | hi | hi
        all_goals
          go_wp2_with fail
          go_round
          case rel =>
            refine ⟨k + 1, by omega, by go_num, ?_⟩
            intro j hj
            by_cases e : j = k
            · subst e; exact HO.out
            · exact hs.out j (by omega)
          case measure => simp [intOf]; omega
    · have hv : vName s = true := vName_yes (by rw [HN.out]; omega) (fun i hi => hs.out i (by rw [HN.out] at hi; omega))
      have HF := HR.out.symm.trans hv
      subst HF
      clear HR hs HC hv
      go_wp2_with fail
      go_ret
      exact ⟨rfl, HW.out⟩

/-- ValidName answers vName. -/
theorem validName_any (s : ByteArray) (w : World) (hm : s.size ≤ 9223372036854775807) :
    Calls Try.prog 9 #[.string s] w fun e w' => e = .returned (.bool (vName s)) ∧ Below w.heap.size w w' := by
  by_cases h : 1 ≤ s.size ∧ s.size ≤ 63
  · exact validName_in s w h.1 h.2
  · rw [vName_len h]
    exact validName_long s w h hm
end Go.Proofs.Qxb6617200a
