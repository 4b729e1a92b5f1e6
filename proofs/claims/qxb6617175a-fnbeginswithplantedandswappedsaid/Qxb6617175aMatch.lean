import Derived.Test.Qxb6617175aBegins
namespace Go.Proofs.Qxb6617175a
open Go.ChangeShapes Go.WideShapes Go.ChangeAt Go.RowKit

set_option maxHeartbeats 1000000 in
/-- matchAt(text, 0, sep): sep is longer than text. -/
theorem match_long (p1 p2 : Option Addr) (n c m d : Nat) (w : World) (hn : n ≤ 1048576) (h : n < m) :
    Calls Try.prog 11 #[.slice p1 n c, .int .i64 0, .slice p2 m d] w fun e w' => e = .returned (.bool false) ∧ Below w.heap.size w w' := by
  have hd1 : decide ((n : Int) < 0) = false := by simp
  have hd2 : decide ((n : Int) < (m : Int)) = true := by simp; omega
  go_enter Try.func11, Try.ntmps11
  go_wp2_with fail
  go_ret
  exact ⟨rfl, Below.refl _ _⟩

set_option maxHeartbeats 1000000 in
/-- matchAt(text, 0, sep), sep of no byte. -/
theorem match_none (p1 p2 : Option Addr) (n c d : Nat) (w : World) (hn : n ≤ 1048576) :
    Calls Try.prog 11 #[.slice p1 n c, .int .i64 0, .slice p2 0 d] w fun e w' => e = .returned (.bool true) ∧ Below w.heap.size w w' := by
  have hd1 : decide ((n : Int) < 0) = false := by simp
  go_enter Try.func11, Try.ntmps11
  go_wp2_with fail
  refine wp_loop_rounds 1 ?_
  rw [rounds_succ]
  go_wp2_with fail
  go_ret
  exact ⟨rfl, Below.refl _ _⟩

theorem prefB_no {n m k : Nat} {f g : Nat → Int} (hk : k < m) (h : f k ≠ g k) : prefB n f m g = false := by
  have : ¬ ∀ i, i < m → f i = g i := fun h2 => h (h2 k hk)
  simp only [prefB, this, decide_false, Bool.and_false]
theorem prefB_yes {n m : Nat} {f g : Nat → Int} (hm : m ≤ n) (h : ∀ i, i < m → f i = g i) : prefB n f m g = true := by
  simp only [prefB, hm, decide_true, Bool.true_and, decide_eq_true_eq]
  exact h

set_option maxHeartbeats 1000000 in
/-- matchAt(text, 0, sep), sep of a byte or more and no longer than text. -/
theorem match_in (b n : Nat) (b2 o2 m d : Nat) (f g : Nat → Int) (w : World) (h1 : BRow w b n f) (hc2 : ∀ i, i < m → w.cell? ⟨b2, o2 + i, none⟩ = some (.int .u8 (g i))) (hn : n ≤ 1048576) (h : m ≤ n) :
    Calls Try.prog 11 #[.slice (some ⟨b, 0, none⟩) n n, .int .i64 0, .slice (some ⟨b2, o2, none⟩) m d] w fun e w' => e = .returned (.bool (prefB n f m g)) ∧ Below w.heap.size w w' := by
  have hd1 : decide ((n : Int) < 0) = false := by simp
  have hd2 : decide ((n : Int) < (m : Int)) = false := by simp; omega
  have H1 : Hid (BRow w b n f) := h1
  have H2 : Hid (∀ i, i < m → w.cell? ⟨b2, o2 + i, none⟩ = some (.int .u8 (g i))) := hc2
  clear h1 hc2
  obtain ⟨R, hR⟩ : ∃ R, prefB n f m g = R := ⟨_, rfl⟩
  rw [hR]
  have HR : Hid (prefB n f m g = R) := hR
  clear hR
  go_enter Try.func11, Try.ntmps11
  go_wp2_with fail
  go_loopw [7] (fun i wr => ∃ k : Nat, k ≤ m ∧ i = .int .i64 k ∧ Hid (∀ j, j < k → f j = g j) ∧ ∃ q, wr = w.drewN q) (fun i _ => m - (intOf i).toNat)
  case atStart => exact ⟨0, Nat.zero_le _, rfl, fun j hj => absurd hj (Nat.not_lt_zero _), 0, rfl⟩
  case round =>
    obtain ⟨k, hk, rfl, hs, q, rfl⟩ := hrel
    by_cases hlt : k < m
    · have c1 := H1.out.cell k (by omega)
      have c2 := H2.out k hlt
      have hb1 : (k : Int) < (n : Int) := by omega
      have hb2 : (k : Int) < (m : Int) := by omega
      have hw : IntKind.i64.wrap (k : Int) = k := by rw [IntKind.wrap_i64]; omega
      by_cases he : f k = g k
      · rw [← he] at c2
        have HE : Hid (f k = g k) := he
        clear he
        generalize hu : f k = u at c1 c2
        clear hu
        go_wp2_with fail
        go_quiet (fail)
        go_wp2_with fail
        go_roundw
        case rel =>
          refine ⟨k + 1, by omega, by go_num, ?_, _, rfl⟩
          intro j hj
          by_cases e : j = k
          · subst e; exact HE.out
          · exact hs.out j (by omega)
        case measure => simp [intOf]; omega
      · have hne : (f k != g k) = true := by rw [bne_iff_ne]; exact he
        have HF := HR.out.symm.trans (prefB_no (n := n) hlt he)
        subst HF
        clear he HR hs H1 H2
        generalize f k = u at c1 hne
        generalize g k = v at c2 hne
        go_wp2_with fail
        go_quiet (fail)
        go_wp2_with fail
        go_ret
        exact ⟨rfl, below_drewN (below_drewN (Below.refl _ _) _) _⟩
    · have HF := HR.out.symm.trans (prefB_yes h (fun i hi => hs.out i (by omega)))
      subst HF
      clear HR hs H1 H2
      go_wp2_with fail
      go_ret
      exact ⟨rfl, below_drewN (Below.refl _ _) _⟩

/-- matchAt(text, 0, sep): is sep a prefix of text? -/
theorem match_any (b n : Nat) (p : Option Addr) (m d : Nat) (f g : Nat → Int) (w : World) (h1 : BRow w b n f) (h2 : Vw w p m g) (hn : n ≤ 1048576) :
    Calls Try.prog 11 #[.slice (some ⟨b, 0, none⟩) n n, .int .i64 0, .slice p m d] w fun e w' => e = .returned (.bool (prefB n f m g)) ∧ Below w.heap.size w w' := by
  by_cases hl : n < m
  · have : prefB n f m g = false := by simp [prefB]; omega
    rw [this]
    exact match_long _ _ n n m d w hn hl
  · by_cases h0 : m = 0
    · subst h0
      rw [prefB_yes (by omega) (fun i hi => absurd hi (Nat.not_lt_zero _))]
      exact match_none _ _ n n d w hn
    · obtain ⟨b2, o2, rfl, _, hc2⟩ := h2 (by omega)
      exact match_in b n b2 o2 m d f g w h1 hc2 hn (by omega)
end Go.Proofs.Qxb6617175a
