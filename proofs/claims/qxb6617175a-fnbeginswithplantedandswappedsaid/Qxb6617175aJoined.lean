import Derived.Test.Qxb6617175aMatch
namespace Go.Proofs.Qxb6617175a
open Go.ChangeShapes Go.WideShapes Go.ChangeAt Go.RowKit

/-- a and then b. -/
def catF (n : Nat) (f g : Nat → Int) (i : Nat) : Int := if i < n then f i else g (i - n)
/-- What joinBytes has laid after k bytes. -/
def catK (n k : Nat) (f g : Nat → Int) (i : Nat) : Int := if i < k then catF n f g i else 0

theorem catK_succ (n k : Nat) (f g : Nat → Int) (v : Int) (hv : v = catF n f g k) (i : Nat) : (if i = k then v else catK n k f g i) = catK n (k + 1) f g i := by
  unfold catK
  by_cases h : i = k
  · subst h; simp [hv]
  · rw [if_neg h]
    by_cases h2 : i < k
    · rw [if_pos h2, if_pos (by omega)]
    · rw [if_neg h2, if_neg (by omega)]

theorem catF_past (n k : Nat) (f g : Nat → Int) : g k = catF n f g (n + k) := by
  unfold catF; rw [if_neg (by omega), Nat.add_sub_cancel_left]

theorem vw_at {w wr : World} {p : Option Addr} {n : Nat} {f : Nat → Int} (h : Vw w p n f) (hb : Below w.heap.size w wr) (hn : 0 < n) :
    ∃ b o, p = some ⟨b, o, none⟩ ∧ b < w.heap.size ∧ ∀ i, i < n → wr.cell? ⟨b, o + i, none⟩ = some (.int .u8 (f i)) := by
  obtain ⟨b, o, hp, hlt, hc⟩ := h hn
  exact ⟨b, o, hp, hlt, fun i hi => (hb.cell (p := ⟨b, o + i, none⟩) hlt).trans (hc i hi)⟩

/-- 'make([]byte, L)', L a number that was reckoned. -/
theorem wpList_make_sum {ops : Array Oper} {rest : List Oper} {o : Oper} {a : Act} {Q : Exit → Act → World → Prop} (w : World)
    (hg : o.guard = none) (l c : Operand) (hop : o.op = Op.makeSlice 22 l c) (kl kc : IntKind) (L : Int) (n : Nat) (hl : a.eval l = .int kl L) (hc : a.eval c = .int kc L) (hL : L = (n : Int)) (hn : n ≤ 281474976710656)
    (hK : ∀ w', BRow w' w.heap.size n (fun _ => 0) → Below w.heap.size w w' → w'.heap.size = w.heap.size + 1 → wpList Try.prog ops Q rest (a.put o.dst (.slice (some ⟨w.heap.size, 0, none⟩) n n)) w') :
    wpList Try.prog ops Q (o :: rest) a w := by
  subst hL
  exact wpList_make_bytes w hg l c hop kl kc n hl hc hn hK

set_option maxRecDepth 10000 in
set_option maxHeartbeats 1000000 in
theorem join_any (p1 p2 : Option Addr) (n c m d : Nat) (f g : Nat → Int) (w : World) (h1 : Vw w p1 n f) (h2 : Vw w p2 m g) (hn : n ≤ 65536) (hm : m ≤ 65536) :
    Calls Try.prog 13 #[.slice p1 n c, .slice p2 m d] w fun e w' => e = .returned (.slice (some ⟨w.heap.size, 0, none⟩) (n + m) (n + m)) ∧ BRow w' w.heap.size (n + m) (catF n f g) ∧ Below w.heap.size w w' := by
  have H1 : Hid (Vw w p1 n f) := h1
  have H2 : Hid (Vw w p2 m g) := h2
  clear h1 h2
  go_enter Try.func13, Try.ntmps13
  go_wp2_with (at_make; refine wpList_make_sum _ rfl _ _ rfl _ _ _ (n + m) rfl rfl (by omega) (by omega) ?_)
  intro w1 hr1 hb1 hs1
  clear hs1
  obtain ⟨B, hB⟩ : ∃ B, w.heap.size = B := ⟨_, rfl⟩
  rw [hB] at hr1 hb1 ⊢
  have HB : Hid (w.heap.size = B) := hB
  clear hB
  have R0 : BRow w1 B (n + m) (catK n 0 f g) := hr1.congr (fun i _ => by simp [catK])
  clear hr1
  go_wp2_with fail
  go_loopw [6] (fun i wr => ∃ k : Nat, k ≤ n ∧ i = .int .i64 k ∧ BRow wr B (n + m) (catK n k f g) ∧ Below B w wr) (fun i _ => n - (intOf i).toNat)
  case atStart => exact ⟨0, Nat.zero_le _, rfl, R0, hb1⟩
  case round =>
    clear R0 hb1
    obtain ⟨k, hk, rfl, R, hbel⟩ := hrel
    by_cases hlt : k < n
    · obtain ⟨b, o, hp, hbl, hc⟩ := vw_at H1.out (by rw [HB.out]; exact hbel) (by omega)
      subst hp
      have c1 := hc k hlt
      have c2 := R.cell k (by omega)
      have f2 := R.frozen k
      have R2 : BRow (wr.setCell ⟨B, k, none⟩ (.int .u8 (f k))) B (n + m) (catK n (k + 1) f g) := (R.set k (f k)).congr (fun i _ => catK_succ n k f g (f k) (by simp [catF, hlt]) i)
      have b2 : Below B w (wr.setCell ⟨B, k, none⟩ (.int .u8 (f k))) := hbel.setCell (Nat.le_refl _) _
      clear R hbel hc hbl
      generalize f k = u at c1 R2 b2
      go_wp2_with fail
      go_roundw
      case rel => exact ⟨k + 1, by omega, by go_num, R2, b2⟩
      case measure => simp [intOf]; omega
    · obtain rfl : n = k := by omega
      clear hlt hk
      go_wp2_with fail
      go_loopw [7] (fun i wr => ∃ k : Nat, k ≤ m ∧ i = .int .i64 k ∧ BRow wr B (n + m) (catK n (n + k) f g) ∧ Below B w wr) (fun i _ => m - (intOf i).toNat)
      case atStart => exact ⟨0, Nat.zero_le _, rfl, R, hbel⟩
      case round =>
        clear R hbel
        obtain ⟨k, hk, rfl, R, hbel⟩ := hrel
        by_cases hlt : k < m
        · obtain ⟨b, o, hp, hbl, hc⟩ := vw_at H2.out (by rw [HB.out]; exact hbel) (by omega)
          subst hp
          have c1 := hc k hlt
          have c2 := R.cell (n + k) (by omega)
          have f2 := R.frozen (n + k)
          have R2 : BRow _ B (n + m) (catK n (n + k + 1) f g) := (R.set (n + k) (g k)).congr (fun i _ => catK_succ n (n + k) f g (g k) (catF_past n k f g) i)
          have b2 : Below B w _ := hbel.setCell (p := ⟨B, n + k, none⟩) (Nat.le_refl _) (.int .u8 (g k))
          clear R hbel hc hbl
          generalize g k = u at c1 R2 b2
          go_wp2_with fail
          go_roundw
          case rel => exact ⟨k + 1, by omega, by go_num, R2, b2⟩
          case measure => simp [intOf]; omega
        · obtain rfl : m = k := by omega
          clear hlt hk
          go_wp2_with fail
          go_ret
          exact ⟨by rw [HB.out]; rfl, by rw [HB.out]; exact R.congr (fun i hi => if_pos hi), by rw [HB.out]; exact hbel⟩
end Go.Proofs.Qxb6617175a
