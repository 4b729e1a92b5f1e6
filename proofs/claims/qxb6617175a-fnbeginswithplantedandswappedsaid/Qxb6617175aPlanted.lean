import Derived.Test.Qxb6617175aJoined
namespace Go.Proofs.Qxb6617175a
open Go.ChangeShapes Go.WideShapes Go.ChangeAt Go.RowKit

set_option maxHeartbeats 400000 in
theorem zzBytes16_yes (p0 p1 p2 : Option Addr) (n0 c0 n1 c1 n2 c2 : Nat) (r : Bool) (w : World) (h0 : n0 ≤ 1048576) (h1 : n1 ≤ 1048576) (h2 : n2 ≤ 1048576) (h : n0 + n1 + n2 ≤ 1048576) :
    Calls Try.prog 16 #[.slice p0 n0 c0, .slice p1 n1 c1, .slice p2 n2 c2, .bool r] w fun e w' => e = .returned (.bool true) ∧ w = w' := by
  go_enter Try.func16, Try.ntmps16
  go_wp2
  go_ret
  exact ⟨rfl, rfl⟩

/-- zzBytes: one of the two answers, and it turns nothing: some sum is too great. -/
theorem zzBytes16_some (p0 p1 p2 : Option Addr) (n0 c0 n1 c1 n2 c2 : Nat) (r : Bool) (w : World) (h : ¬ n0 + n1 + n2 ≤ 1048576) (hm : n0 ≤ 9223372036854775807 ∧ n1 ≤ 9223372036854775807 ∧ n2 ≤ 9223372036854775807) :
    Calls Try.prog 16 #[.slice p0 n0 c0, .slice p1 n1 c1, .slice p2 n2 c2, .bool r] w fun e w' => e = .returned (.bool false) ∧ w = w' := by
  by_cases a0 : 1048576 < n0
  · go_enter Try.func16, Try.ntmps16
    go_wp2
    go_ret
    exact ⟨rfl, rfl⟩
  · by_cases a1 : 1048576 < n1
    · go_enter Try.func16, Try.ntmps16
      go_wp2
      go_ret
      exact ⟨rfl, rfl⟩
    · by_cases a01 : 1048576 < n0 + n1
      · go_enter Try.func16, Try.ntmps16
        go_wp2
        go_ret
        exact ⟨rfl, rfl⟩
      · by_cases a2 : 1048576 < n2
        · go_enter Try.func16, Try.ntmps16
          go_wp2
          go_ret
          exact ⟨rfl, rfl⟩
        · go_enter Try.func16, Try.ntmps16
          go_wp2
          go_ret
          exact ⟨rfl, rfl⟩

theorem pref_cat (n m : Nat) (f g : Nat → Int) : prefB (n + m) (catF n f g) n f = true :=
  prefB_yes (by omega) (fun i hi => by unfold catF; rw [if_pos hi])
theorem cat_byte {n m : Nat} {f g : Nat → Int} (hf : ∀ i, i < n → 0 ≤ f i ∧ f i < 256) (hg : ∀ i, i < m → 0 ≤ g i ∧ g i < 256) : ∀ i, i < n + m → 0 ≤ catF n f g i ∧ catF n f g i < 256 := by
  intro i hi
  unfold catF
  by_cases h : i < n
  · rw [if_pos h]; exact hf i h
  · rw [if_neg h]; exact hg _ (by omega)

set_option maxRecDepth 10000 in
set_option maxHeartbeats 1000000 in
theorem planted_first (p0 p1 p2 : Option Addr) (n0 c0 n1 c1 n2 c2 : Nat) (f0 f1 f2 : Nat → Int) (w : World) (h0 : Vw w p0 n0 f0) (h1 : Vw w p1 n1 f1) (h2 : Vw w p2 n2 f2) (l0 : n0 ≤ 65536) (l1 : n1 ≤ 65536) (l2 : n2 ≤ 65536)
    (b0 : ∀ i, i < n0 → 0 ≤ f0 i ∧ f0 i < 256) (b1 : ∀ i, i < n1 → 0 ≤ f1 i ∧ f1 i < 256) (b2 : ∀ i, i < n2 → 0 ≤ f2 i ∧ f2 i < 256) :
    Calls Try.prog 6 #[.slice p0 n0 c0, .slice p1 n1 c1, .slice p2 n2 c2, .bool false] w fun e w' => e = .returned (.bool true) ∧ Below w.heap.size w w' := by
  have J := join_any p0 p2 n0 c0 n2 c2 f0 f2 w h0 h2 (by omega) l2
  have hpl := pref_cat n0 n2 f0 f2
  have bT := cat_byte (n := n0) (m := n2) b0 b2
  obtain ⟨N, hN⟩ : ∃ N, n0 + n2 = N := ⟨_, rfl⟩
  obtain ⟨T, hT⟩ : ∃ T, catF n0 f0 f2 = T := ⟨_, rfl⟩
  rw [hN, hT] at J hpl
  rw [hN, hT] at bT
  have hNl : N ≤ 131072 := by omega
  clear hN hT
  have K1 : Hid (∀ w', BRow w' w.heap.size N T → Below w.heap.size w w' → Calls Try.prog 15 #[.slice (some ⟨w.heap.size, 0, none⟩) N N, .agg #[.slice p0 n0 c0, .slice p1 n1 c1]] w' fun e w'' => e = .returned (.int .i64 (whichI (prefB N T n0 f0))) ∧ Below w'.heap.size w' w'') :=
    fun w' hr hb => zzBegins w.heap.size N p0 p1 n0 c0 n1 c1 T f0 f1 w' hr (h0.later hb) (h1.later hb) bT b0 b1 (.inl hpl)
  have K2 : Hid (∀ w', BRow w' w.heap.size N T → Below w.heap.size w w' → Calls Try.prog 15 #[.slice (some ⟨w.heap.size, 0, none⟩) N N, .agg #[.slice p1 n1 c1, .slice p0 n0 c0]] w' fun e w'' => e = .returned (.int .i64 (whichI (prefB N T n1 f1))) ∧ Below w'.heap.size w' w'') :=
    fun w' hr hb => zzBegins w.heap.size N p1 p0 n1 c1 n0 c0 T f1 f0 w' hr (h1.later hb) (h0.later hb) bT b1 b0 (.inr hpl)
  have M1 : Hid (∀ w', BRow w' w.heap.size N T → Below w.heap.size w w' → Calls Try.prog 11 #[.slice (some ⟨w.heap.size, 0, none⟩) N N, .int .i64 0, .slice p0 n0 c0] w' fun e w'' => e = .returned (.bool (prefB N T n0 f0)) ∧ Below w'.heap.size w' w'') :=
    fun w' hr hb => match_any w.heap.size N p0 n0 c0 T f0 w' hr (h0.later hb) (by omega)
  have M2 : Hid (∀ w', BRow w' w.heap.size N T → Below w.heap.size w w' → Calls Try.prog 11 #[.slice (some ⟨w.heap.size, 0, none⟩) N N, .int .i64 0, .slice p1 n1 c1] w' fun e w'' => e = .returned (.bool (prefB N T n1 f1)) ∧ Below w'.heap.size w' w'') :=
    fun w' hr hb => match_any w.heap.size N p1 n1 c1 T f1 w' hr (h1.later hb) (by omega)
  have JH : Hid (Calls Try.prog 13 #[.slice p0 n0 c0, .slice p2 n2 c2] w fun e w' => e = .returned (.slice (some ⟨w.heap.size, 0, none⟩) N N) ∧ BRow w' w.heap.size N T ∧ Below w.heap.size w w') := J
  have hd0 : decide ((65536 : Int) < (n0 : Int)) = false := by simp; omega
  have hd1 : decide ((65536 : Int) < (n1 : Int)) = false := by simp; omega
  have hd2 : decide ((65536 : Int) < (n2 : Int)) = false := by simp; omega
  clear J h0 h1 h2 b0 b1 b2 bT hpl
  generalize prefB N T n0 f0 = r0 at K1 M1
  generalize prefB N T n1 f1 = r1 at K2 M2
  obtain ⟨k0, hk0⟩ : ∃ k0, whichI r0 = k0 := ⟨_, rfl⟩
  obtain ⟨k1, hk1⟩ : ∃ k1, whichI r1 = k1 := ⟨_, rfl⟩
  rw [hk0] at K1
  rw [hk1] at K2
  have o0 : (r0 = true ∧ k0 = 0) ∨ (r0 = false ∧ k0 = 1) := by cases r0 <;> simp_all [whichI]
  have o1 : (r1 = true ∧ k1 = 0) ∨ (r1 = false ∧ k1 = 1) := by cases r1 <;> simp_all [whichI]
  clear hk0 hk1
  rcases o0 with ⟨rfl, rfl⟩ | ⟨rfl, rfl⟩ <;> rcases o1 with ⟨rfl, rfl⟩ | ⟨rfl, rfl⟩
  all_goals
    go_enter Try.func6, Try.ntmps6
    go_wp2_with (go_at_call 16; refine (zzBytes16_yes _ _ _ _ _ _ _ _ _ _ _ (by omega) (by omega) (by omega) (by omega)).mono ?_; rintro e w' ⟨rfl, rfl⟩)
    refine JH.out.mono ?_
    rintro e w1 ⟨rfl, R1, hb1⟩
    go_wp2_with fail
    refine (K1.out _ R1 hb1).mono ?_
    rintro e w2 ⟨rfl, hb⟩
    have R2 := R1.below hb R1.lt
    have hb2 := hb1.trans (hb.mono (Nat.le_of_lt R1.lt))
    clear R1 hb1 hb
    go_wp2_with fail
    refine (K2.out _ R2 hb2).mono ?_
    rintro e w3 ⟨rfl, hb⟩
    have R3 := R2.below hb R2.lt
    have hb3 := hb2.trans (hb.mono (Nat.le_of_lt R2.lt))
    clear R2 hb2 hb
    go_wp2_with fail
    refine (M1.out _ R3 hb3).mono ?_
    rintro e w4 ⟨rfl, hb⟩
    have R4 := R3.below hb R3.lt
    have hb4 := hb3.trans (hb.mono (Nat.le_of_lt R3.lt))
    clear R3 hb3 hb
    go_wp2_with fail
    refine (M2.out _ R4 hb4).mono ?_
    rintro e w5 ⟨rfl, hb⟩
    have hb5 := hb4.trans (hb.mono (Nat.le_of_lt R4.lt))
    clear R4 hb4 hb
    go_wp2_with fail
    go_ret
    exact ⟨rfl, hb5⟩

set_option maxRecDepth 10000 in
set_option maxHeartbeats 1000000 in
theorem planted_second (p0 p1 p2 : Option Addr) (n0 c0 n1 c1 n2 c2 : Nat) (f0 f1 f2 : Nat → Int) (w : World) (h0 : Vw w p0 n0 f0) (h1 : Vw w p1 n1 f1) (h2 : Vw w p2 n2 f2) (l0 : n0 ≤ 65536) (l1 : n1 ≤ 65536) (l2 : n2 ≤ 65536)
    (b0 : ∀ i, i < n0 → 0 ≤ f0 i ∧ f0 i < 256) (b1 : ∀ i, i < n1 → 0 ≤ f1 i ∧ f1 i < 256) (b2 : ∀ i, i < n2 → 0 ≤ f2 i ∧ f2 i < 256) :
    Calls Try.prog 6 #[.slice p0 n0 c0, .slice p1 n1 c1, .slice p2 n2 c2, .bool true] w fun e w' => e = .returned (.bool true) ∧ Below w.heap.size w w' := by
  have J := join_any p1 p2 n1 c1 n2 c2 f1 f2 w h1 h2 (by omega) l2
  have hpl := pref_cat n1 n2 f1 f2
  have bT := cat_byte (n := n1) (m := n2) b1 b2
  obtain ⟨N, hN⟩ : ∃ N, n1 + n2 = N := ⟨_, rfl⟩
  obtain ⟨T, hT⟩ : ∃ T, catF n1 f1 f2 = T := ⟨_, rfl⟩
  rw [hN, hT] at J hpl
  rw [hN, hT] at bT
  have hNl : N ≤ 131072 := by omega
  clear hN hT
  have K1 : Hid (∀ w', BRow w' w.heap.size N T → Below w.heap.size w w' → Calls Try.prog 15 #[.slice (some ⟨w.heap.size, 0, none⟩) N N, .agg #[.slice p0 n0 c0, .slice p1 n1 c1]] w' fun e w'' => e = .returned (.int .i64 (whichI (prefB N T n0 f0))) ∧ Below w'.heap.size w' w'') :=
    fun w' hr hb => zzBegins w.heap.size N p0 p1 n0 c0 n1 c1 T f0 f1 w' hr (h0.later hb) (h1.later hb) bT b0 b1 (.inr hpl)
  have K2 : Hid (∀ w', BRow w' w.heap.size N T → Below w.heap.size w w' → Calls Try.prog 15 #[.slice (some ⟨w.heap.size, 0, none⟩) N N, .agg #[.slice p1 n1 c1, .slice p0 n0 c0]] w' fun e w'' => e = .returned (.int .i64 (whichI (prefB N T n1 f1))) ∧ Below w'.heap.size w' w'') :=
    fun w' hr hb => zzBegins w.heap.size N p1 p0 n1 c1 n0 c0 T f1 f0 w' hr (h1.later hb) (h0.later hb) bT b1 b0 (.inl hpl)
  have M1 : Hid (∀ w', BRow w' w.heap.size N T → Below w.heap.size w w' → Calls Try.prog 11 #[.slice (some ⟨w.heap.size, 0, none⟩) N N, .int .i64 0, .slice p0 n0 c0] w' fun e w'' => e = .returned (.bool (prefB N T n0 f0)) ∧ Below w'.heap.size w' w'') :=
    fun w' hr hb => match_any w.heap.size N p0 n0 c0 T f0 w' hr (h0.later hb) (by omega)
  have M2 : Hid (∀ w', BRow w' w.heap.size N T → Below w.heap.size w w' → Calls Try.prog 11 #[.slice (some ⟨w.heap.size, 0, none⟩) N N, .int .i64 0, .slice p1 n1 c1] w' fun e w'' => e = .returned (.bool (prefB N T n1 f1)) ∧ Below w'.heap.size w' w'') :=
    fun w' hr hb => match_any w.heap.size N p1 n1 c1 T f1 w' hr (h1.later hb) (by omega)
  have JH : Hid (Calls Try.prog 13 #[.slice p1 n1 c1, .slice p2 n2 c2] w fun e w' => e = .returned (.slice (some ⟨w.heap.size, 0, none⟩) N N) ∧ BRow w' w.heap.size N T ∧ Below w.heap.size w w') := J
  have hd0 : decide ((65536 : Int) < (n0 : Int)) = false := by simp; omega
  have hd1 : decide ((65536 : Int) < (n1 : Int)) = false := by simp; omega
  have hd2 : decide ((65536 : Int) < (n2 : Int)) = false := by simp; omega
  clear J h0 h1 h2 b0 b1 b2 bT hpl
  generalize prefB N T n0 f0 = r0 at K1 M1
  generalize prefB N T n1 f1 = r1 at K2 M2
  obtain ⟨k0, hk0⟩ : ∃ k0, whichI r0 = k0 := ⟨_, rfl⟩
  obtain ⟨k1, hk1⟩ : ∃ k1, whichI r1 = k1 := ⟨_, rfl⟩
  rw [hk0] at K1
  rw [hk1] at K2
  have o0 : (r0 = true ∧ k0 = 0) ∨ (r0 = false ∧ k0 = 1) := by cases r0 <;> simp_all [whichI]
  have o1 : (r1 = true ∧ k1 = 0) ∨ (r1 = false ∧ k1 = 1) := by cases r1 <;> simp_all [whichI]
  clear hk0 hk1
  rcases o0 with ⟨rfl, rfl⟩ | ⟨rfl, rfl⟩ <;> rcases o1 with ⟨rfl, rfl⟩ | ⟨rfl, rfl⟩
  all_goals
    go_enter Try.func6, Try.ntmps6
    go_wp2_with (go_at_call 16; refine (zzBytes16_yes _ _ _ _ _ _ _ _ _ _ _ (by omega) (by omega) (by omega) (by omega)).mono ?_; rintro e w' ⟨rfl, rfl⟩)
    refine JH.out.mono ?_
    rintro e w1 ⟨rfl, R1, hb1⟩
    go_wp2_with fail
    refine (K1.out _ R1 hb1).mono ?_
    rintro e w2 ⟨rfl, hb⟩
    have R2 := R1.below hb R1.lt
    have hb2 := hb1.trans (hb.mono (Nat.le_of_lt R1.lt))
    clear R1 hb1 hb
    go_wp2_with fail
    refine (K2.out _ R2 hb2).mono ?_
    rintro e w3 ⟨rfl, hb⟩
    have R3 := R2.below hb R2.lt
    have hb3 := hb2.trans (hb.mono (Nat.le_of_lt R2.lt))
    clear R2 hb2 hb
    go_wp2_with fail
    refine (M1.out _ R3 hb3).mono ?_
    rintro e w4 ⟨rfl, hb⟩
    have R4 := R3.below hb R3.lt
    have hb4 := hb3.trans (hb.mono (Nat.le_of_lt R3.lt))
    clear R3 hb3 hb
    go_wp2_with fail
    refine (M2.out _ R4 hb4).mono ?_
    rintro e w5 ⟨rfl, hb⟩
    have hb5 := hb4.trans (hb.mono (Nat.le_of_lt R4.lt))
    clear R4 hb4 hb
    go_wp2_with fail
    go_ret
    exact ⟨rfl, hb5⟩

/-! ### The short ways -/
set_option maxHeartbeats 400000 in
theorem planted_big (p0 p1 p2 : Option Addr) (n0 c0 n1 c1 n2 c2 : Nat) (r : Bool) (w : World) (h : ¬ n0 + n1 + n2 ≤ 1048576) (hm : n0 ≤ 9223372036854775807 ∧ n1 ≤ 9223372036854775807 ∧ n2 ≤ 9223372036854775807) :
    Calls Try.prog 6 #[.slice p0 n0 c0, .slice p1 n1 c1, .slice p2 n2 c2, .bool r] w fun e w' => e = .returned (.bool true) ∧ Below w.heap.size w w' := by
  go_enter Try.func6, Try.ntmps6
  go_wp2_with (go_at_call 16; refine (zzBytes16_some _ _ _ _ _ _ _ _ _ _ _ h hm).mono ?_; rintro e w' ⟨rfl, rfl⟩)
  go_ret
  exact ⟨rfl, Below.refl _ _⟩
set_option maxHeartbeats 400000 in
theorem planted_long (p0 p1 p2 : Option Addr) (n0 c0 n1 c1 n2 c2 : Nat) (r : Bool) (w : World) (h : n0 + n1 + n2 ≤ 1048576) (hl : 65536 < n0 ∨ 65536 < n1 ∨ 65536 < n2) :
    Calls Try.prog 6 #[.slice p0 n0 c0, .slice p1 n1 c1, .slice p2 n2 c2, .bool r] w fun e w' => e = .returned (.bool true) ∧ Below w.heap.size w w' := by
  by_cases a0 : 65536 < n0
  · clear hl
    have hd0 : decide ((65536 : Int) < (n0 : Int)) = true := by simp; omega
    go_enter Try.func6, Try.ntmps6
    go_wp2_with (go_at_call 16; refine (zzBytes16_yes _ _ _ _ _ _ _ _ _ _ _ (by omega) (by omega) (by omega) (by omega)).mono ?_; rintro e w' ⟨rfl, rfl⟩)
    go_ret
    exact ⟨rfl, Below.refl _ _⟩
  · have hd0 : decide ((65536 : Int) < (n0 : Int)) = false := by simp; omega
    by_cases a1 : 65536 < n1
    · clear hl
      have hd1 : decide ((65536 : Int) < (n1 : Int)) = true := by simp; omega
      go_enter Try.func6, Try.ntmps6
      go_wp2_with (go_at_call 16; refine (zzBytes16_yes _ _ _ _ _ _ _ _ _ _ _ (by omega) (by omega) (by omega) (by omega)).mono ?_; rintro e w' ⟨rfl, rfl⟩)
      go_ret
      exact ⟨rfl, Below.refl _ _⟩
    · have hd1 : decide ((65536 : Int) < (n1 : Int)) = false := by simp; omega
      have hd2 : decide ((65536 : Int) < (n2 : Int)) = true := by simp; omega
      clear hl
      go_enter Try.func6, Try.ntmps6
      go_wp2_with (go_at_call 16; refine (zzBytes16_yes _ _ _ _ _ _ _ _ _ _ _ (by omega) (by omega) (by omega) (by omega)).mono ?_; rintro e w' ⟨rfl, rfl⟩)
      go_ret
      exact ⟨rfl, Below.refl _ _⟩
end Go.Proofs.Qxb6617175a
