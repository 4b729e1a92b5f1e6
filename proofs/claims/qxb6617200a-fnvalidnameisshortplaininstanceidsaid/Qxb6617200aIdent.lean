import Derived.Test.Qxb6617200aName
namespace Go.Proofs.Qxb6617200a
open Go.ChangeShapes Go.WideShapes Go.ChangeAt Go.RowKit

/-! ### ValidInstanceID -/
/-- May the byte c stand in an instance ID? -/
def okI (c : Int) : Bool := decide ((97 ≤ c ∧ c ≤ 122) ∨ (65 ≤ c ∧ c ≤ 90) ∨ (48 ≤ c ∧ c ≤ 57) ∨ c = 46 ∨ c = 45 ∨ c = 95)
/-- What ValidInstanceID answers. -/
def vId (s : ByteArray) : Bool := decide (1 ≤ s.size ∧ s.size ≤ 253) && decide (∀ i, i < s.size → okI (byteAt s i) = true)

theorem vId_len {s : ByteArray} (h : ¬ (1 ≤ s.size ∧ s.size ≤ 253)) : vId s = false := by simp only [vId, h, decide_false, Bool.false_and]
theorem vId_no {s : ByteArray} {k : Nat} (hk : k < s.size) (h : okI (byteAt s k) = false) : vId s = false := by
  have : ¬ ∀ i, i < s.size → okI (byteAt s i) = true := fun h2 => by have := h2 k hk; rw [h] at this; cases this
  simp only [vId, this, decide_false, Bool.and_false]
theorem vId_yes {s : ByteArray} (h1 : 1 ≤ s.size ∧ s.size ≤ 253) (h : ∀ i, i < s.size → okI (byteAt s i) = true) : vId s = true := by
  simp only [vId, h1, and_self, decide_true, Bool.true_and, decide_eq_true_eq]
  exact h

theorem okI_yes {c : Int} (h : okI c = true) : (97 ≤ c ∧ c ≤ 122) ∨ (65 ≤ c ∧ c ≤ 90) ∨ (48 ≤ c ∧ c ≤ 57) ∨ c = 46 ∨ c = 45 ∨ c = 95 := by simpa [okI] using h
theorem okI_no {c : Int} (h : okI c = false) : c < 45 ∨ c = 47 ∨ (57 < c ∧ c < 65) ∨ (90 < c ∧ c < 95) ∨ c = 96 ∨ 122 < c := by
  have : ¬ ((97 ≤ c ∧ c ≤ 122) ∨ (65 ≤ c ∧ c ≤ 90) ∨ (48 ≤ c ∧ c ≤ 57) ∨ c = 46 ∨ c = 45 ∨ c = 95) := by simpa only [okI, decide_eq_false_iff_not] using h
  omega

set_option maxHeartbeats 1000000 in
theorem validId_long (s : ByteArray) (w : World) (h : ¬ (1 ≤ s.size ∧ s.size ≤ 253)) (hm : s.size ≤ 9223372036854775807) :
    Calls Try.prog 11 #[.string s] w fun e w' => e = .returned (.bool false) ∧ Below w.heap.size w w' := by
  by_cases h0 : s.size < 1
  · have hd : decide ((s.size : Int) < 1) = true := by simp; omega
    go_enter Try.func11, Try.ntmps11
    go_wp2_with fail
    go_ret
    exact ⟨rfl, Below.refl _ _⟩
  · have hd : decide ((s.size : Int) < 1) = false := by simp; omega
    have hd2 : decide (253 < (s.size : Int)) = true := by simp; omega
    go_enter Try.func11, Try.ntmps11
    go_wp2_with fail
    go_ret
    exact ⟨rfl, Below.refl _ _⟩

set_option maxRecDepth 10000 in
set_option maxHeartbeats 2000000 in
theorem validId_in (s : ByteArray) (w : World) (h1 : 1 ≤ s.size) (h2 : s.size ≤ 253) :
    Calls Try.prog 11 #[.string s] w fun e w' => e = .returned (.bool (vId s)) ∧ Below w.heap.size w w' := by
  have hd : decide ((s.size : Int) < 1) = false := by simp; omega
  have hd2 : decide (253 < (s.size : Int)) = false := by simp; omega
  obtain ⟨R, hR⟩ : ∃ R, vId s = R := ⟨_, rfl⟩
  rw [hR]
  have HR : Hid (vId s = R) := hR
  clear hR
  go_enter Try.func11, Try.ntmps11
  go_wp2_with (refine wpList_bytes_of _ rfl _ rfl s rfl ?_)
  intro w1 cap hc hb
  have HC : Hid (∀ i, i < s.size → w1.cell? ⟨w.heap.size, i, none⟩ = some (.int .u8 (byteAt s i))) := hc
  clear hc
  obtain ⟨B, hB⟩ : ∃ B, w.heap.size = B := ⟨_, rfl⟩
  have HW : Hid (Below w.heap.size w w1) := hb
  rw [hB] at HC ⊢
  clear hB hb
  obtain ⟨n, hn⟩ : ∃ n, s.size = n := ⟨_, rfl⟩
  rw [hn] at HC h1 h2 hd hd2 ⊢
  have HN : Hid (s.size = n) := hn
  clear hn
  go_wp2_with fail
  go_loop [16] (fun i => ∃ k : Nat, k ≤ n ∧ i = .int .i64 k ∧ Hid (∀ j, j < k → okI (byteAt s j) = true)) (fun i => n - (intOf i).toNat)
  case atStart => exact ⟨0, Nat.zero_le _, rfl, fun j hj => absurd hj (Nat.not_lt_zero _)⟩
  case round =>
    obtain ⟨k, hk, rfl, hs⟩ := hrel
    by_cases hlt : k < n
    · have c1 := HC.out k hlt
      have hr := byteAt_range s k
      cases ho : okI (byteAt s k)
      · have hv : vId s = false := vId_no (by rw [HN.out]; exact hlt) ho
        have HF := HR.out.symm.trans hv
        subst HF
        have hi := okI_no ho
        clear HR hs HC ho hv
        generalize byteAt s k = c at c1 hi hr
        have e45 : (c == 45) = false := beq_eq_false_iff_ne.2 (by omega)
        have e46 : (c == 46) = false := beq_eq_false_iff_ne.2 (by omega)
        have e95 : (c == 95) = false := beq_eq_false_iff_ne.2 (by omega)
        rcases hi with hi | hi | hi | hi | hi | hi
        · go_wp2_with fail
          go_ret
          exact ⟨rfl, HW.out⟩
        · subst hi
          go_wp2_with fail
          go_ret
          exact ⟨rfl, HW.out⟩
        · have d57 : decide (c ≤ 57) = false := decide_eq_false (by omega)
          go_wp2_with fail
          go_ret
          exact ⟨rfl, HW.out⟩
        · have d57 : decide (c ≤ 57) = false := decide_eq_false (by omega)
          have d90 : decide (c ≤ 90) = false := decide_eq_false (by omega)
          go_wp2_with fail
          go_ret
          exact ⟨rfl, HW.out⟩
        · subst hi
          go_wp2_with fail
          go_ret
          exact ⟨rfl, HW.out⟩
        · have d57 : decide (c ≤ 57) = false := decide_eq_false (by omega)
          have d90 : decide (c ≤ 90) = false := decide_eq_false (by omega)
          have d122 : decide (c ≤ 122) = false := decide_eq_false (by omega)
          go_wp2_with fail
          go_ret
          exact ⟨rfl, HW.out⟩
      · have hi := okI_yes ho
        have HO : Hid (okI (byteAt s k) = true) := ho
        clear ho
        generalize hc : byteAt s k = c at c1 hi hr
        clear hc
        rcases hi with hi | hi | hi | hi | hi | hi
        all_goals
          go_wp2_with fail
          go_round
          case rel =>
            refine ⟨k + 1, by omega, by go_num, ?_⟩
            intro j hj
            by_cases e : j = k
            · subst e; exact HO.out
            · exact hs.out j (by omega)
          case measure => simp [intOf]; omega
    · have hv : vId s = true := vId_yes (by rw [HN.out]; omega) (fun i hi => hs.out i (by rw [HN.out] at hi; omega))
      have HF := HR.out.symm.trans hv
      subst HF
      clear HR hs HC hv
      go_wp2_with fail
      go_ret
      exact ⟨rfl, HW.out⟩

/-- ValidInstanceID answers vId. -/
theorem validId_any (s : ByteArray) (w : World) (hm : s.size ≤ 9223372036854775807) :
    Calls Try.prog 11 #[.string s] w fun e w' => e = .returned (.bool (vId s)) ∧ Below w.heap.size w w' := by
  by_cases h : 1 ≤ s.size ∧ s.size ≤ 253
  · exact validId_in s w h.1 h.2
  · rw [vId_len h]
    exact validId_long s w h hm
end Go.Proofs.Qxb6617200a
