import Derived.Test.Qxb6617175aBits
import Derived.Test.Qxb6617175aMem
namespace Go.Proofs.Qxb6617175a
open Go.ChangeShapes Go.WideShapes Go.ChangeAt Go.RowKit

/-- The three rows of the law, of which the second and the third hold g and h. -/
structure Three (w0 wr : World) (B len : Nat) (f g h : Nat → Int) : Prop where
  a : BRow wr B len f
  b : BRow wr (B + 1) len g
  c : BRow wr (B + 1 + 1) len h
  bel : Below B w0 wr

theorem Three.start {w w1 w2 w3 w4 : World} {len : Nat} {f : Nat → Int} (hb1 : Below w.heap.size w w1) (hr2 : BRow w2 w.heap.size len f) (hb2 : Below w.heap.size w1 w2)
    (hr3 : BRow w3 (w.heap.size + 1) len fun _ => 0) (hb3 : Below (w.heap.size + 1) w2 w3) (hr4 : BRow w4 (w.heap.size + 1 + 1) len fun _ => 0) (hb4 : Below (w.heap.size + 1 + 1) w3 w4) :
    Three w w4 w.heap.size len f (fun _ => 0) (fun _ => 0) :=
  ⟨(hr2.below hb3 (by omega)).below hb4 (by omega), hr3.below hb4 (by omega), hr4, ((hb1.trans hb2).trans (hb3.mono (by omega))).trans (hb4.mono (by omega))⟩
theorem Three.step {w0 wr : World} {B len : Nat} {f g h : Nat → Int} (t : Three w0 wr B len f g h) (i j : Nat) (u v : Int) :
    Three w0 ((wr.setCell ⟨B + 1, i, none⟩ (.int .u8 u)).setCell ⟨B + 1 + 1, j, none⟩ (.int .u8 v)) B len f (fun x => if x = i then u else g x) (fun x => if x = j then v else h x) :=
  ⟨(t.a.other (by show B ≠ B + 1; omega) _).other (by show B ≠ B + 1 + 1; omega) _, (t.b.set i u).other (by show B + 1 ≠ B + 1 + 1; omega) _, (t.c.other (by show B + 1 + 1 ≠ B + 1; omega) _).set j v, (t.bel.setCell (by show B ≤ B + 1; omega) _).setCell (by show B ≤ B + 1 + 1; omega) _⟩
theorem Three.congr {w0 wr : World} {B len : Nat} {f g h g' h' : Nat → Int} (t : Three w0 wr B len f g h) (e : ∀ i, i < len → g i = g' i) (e' : ∀ i, i < len → h i = h' i) : Three w0 wr B len f g' h' :=
  ⟨t.a, t.b.congr e, t.c.congr e', t.bel⟩
theorem Three.later {w0 wr w' : World} {B len : Nat} {f g h : Nat → Int} (t : Three w0 wr B len f g h) (hb : Below wr.heap.size wr w') : Three w0 w' B len f g h :=
  ⟨t.a.below hb t.a.lt, t.b.below hb t.b.lt, t.c.below hb t.c.lt, t.bel.trans (hb.mono (Nat.le_of_lt t.a.lt))⟩

theorem fill_succ (f : Nat → Int) (k i : Nat) : (if i = k then f k else if i < k then f i else 0) = if i < k + 1 then f i else 0 := by
  by_cases h : i = k
  · subst h; simp
  · rw [if_neg h]
    by_cases h2 : i < k
    · rw [if_pos h2, if_pos (by omega)]
    · rw [if_neg h2, if_neg (by omega)]

set_option maxRecDepth 10000 in
set_option maxHeartbeats 1000000 in
theorem sees_in (named : Bool) (b off len cap n : Nat) (f : Nat → Int) (w : World) (hl : len ≤ 4096) (hn : n < 8 * len) (hcell : ∀ i, i < len → w.cell? ⟨b, off + i, none⟩ = some (.int .u8 (f i))) (hf : ∀ i, i < len → 0 ≤ f i ∧ f i < 256) :
    Calls Try.prog 8 #[.bool named, .slice (some ⟨b, off, none⟩) len cap, .int .i64 n] w fun e w' => e = .returned (.bool true) ∧ Below w.heap.size w w' := by
  have q22 : ∀ (w : World) (a : Option Addr) (n c n' c' : Nat), (binOp .neq 22 (.slice a n c) (.slice none n' c')).run Try.prog w = .ok (.bool (!a.isNone)) w := fun w a n c n' c' => run_neq_slice_nil_any w _ _ a n c n' c' Try.underlying22
  have hnl : (n : Int) < 8 * (len : Int) := by omega
  have hd1 : decide ((4096 : Int) < (len : Int)) = false := by simp; omega
  have hd2 : decide ((n : Int) < 0) = false := by simp
  have hd3 : decide (8 * (len : Int) ≤ (n : Int)) = false := by simp; omega
  have HC : Hid (∀ i, i < len → w.cell? ⟨b, off + i, none⟩ = some (.int .u8 (f i))) := hcell
  have HF : Hid (∀ i, i < len → 0 ≤ f i ∧ f i < 256) := hf
  clear hcell hf
  go_enter Try.func8, Try.ntmps8
  go_wp2_with (first | (go_at_call 20; refine (zzBytes20_yes _ _ _ _ _ _ (by omega)).mono ?_; rintro e w' ⟨rfl, rfl⟩) | (at_make; refine wpList_make_bytes _ rfl _ _ rfl _ _ len rfl rfl (by omega) ?_))
  intro w1 hr1 hb1 hs1
  go_wp2_with (refine wpList_copy_bytes _ rfl _ _ rfl w.heap.size len len cap ⟨b, off, none⟩ _ f rfl rfl hr1 (fun j hj => ?_) ?_)
  · rw [Addr.add_lit]
    exact (hb1.cell (lt_of_cell (HC.out j hj))).trans (HC.out j hj)
  intro w2 hr2 hb2 hs2
  clear hr1
  go_wp2_with (at_make; refine wpList_make_bytes _ rfl _ _ rfl _ _ len rfl rfl (by omega) ?_)
  intro w3 hr3 hb3 hs3
  go_wp2_with (at_make; refine wpList_make_bytes _ rfl _ _ rfl _ _ len rfl rfl (by omega) ?_)
  intro w4 hr4 hb4 hs4
  have T0 := Three.start hb1 hr2 hb2 hr3 hb3 hr4 hb4
  clear hb1 hr2 hb2 hr3 hb3 hr4 hb4 hs1 hs2 hs3 hs4
  obtain ⟨B, hB⟩ : ∃ B, w.heap.size = B := ⟨_, rfl⟩
  rw [hB] at T0 ⊢
  have HB : Hid (w.heap.size = B) := hB
  clear hB
  go_wp2_with fail
  go_loopw [11] (fun i wr => ∃ k : Nat, k ≤ len ∧ i = .int .i64 k ∧ Three w wr B len f (fun j => if j < k then f j else 0) (fun j => if j < k then f j else 0)) (fun i _ => len - (intOf i).toNat)
  case atStart => exact ⟨0, Nat.zero_le _, rfl, T0.congr (fun i _ => by simp) (fun i _ => by simp)⟩
  case round =>
    obtain ⟨k, hk, rfl, T⟩ := hrel
    by_cases hlt : k < len
    · have c1 := T.a.cell k hlt
      have c2 := T.b.cell k hlt
      have c3 := T.c.cell k hlt
      have f2 := T.b.frozen k
      have f3 := T.c.frozen k
      have T1 := T.step k k (f k) (f k)
      clear T T0
      go_wp2
      go_roundw
      case rel => exact ⟨k + 1, by omega, by go_num, T1.congr (fun i _ => fill_succ f k i) (fun i _ => fill_succ f k i)⟩
      case measure => simp [intOf]; omega
    · have T1 : Three w wr B len f f f := T.congr (fun i hi => if_pos (by omega)) (fun i hi => if_pos (by omega))
      obtain rfl : len = k := by omega
      clear T T0 hlt hk
      have hq : n / 8 < len := by omega
      have c2 := T1.b.cell (n / 8) hq
      have c3 := T1.c.cell (n / 8) hq
      have f2 := T1.b.frozen (n / 8)
      have f3 := T1.c.frozen (n / 8)
      have hfn : 0 ≤ f (n / 8) ∧ f (n / 8) < 256 := HF.out _ hq
      have T2 : Three w _ B len f (setF f n) (clrF f n) := (T1.step (n / 8) (n / 8) (bits .or .u8 (f (n / 8)) (128 / 2 ^ (n % 8))) (bits .andNot .u8 (f (n / 8)) (128 / 2 ^ (n % 8)))).congr (fun _ _ => rfl) (fun _ _ => rfl)
      clear T1
      go_wp2_with fail
      have C1 := mark_own named (B + 1) len len n (setF f n) _ (by omega) T2.b.cell
      rw [mark_set_hit hfn hq] at C1
      refine C1.mono ?_
      clear C1
      rintro e w5 ⟨rfl, hb5⟩
      have T3 := T2.later hb5
      clear T2 hb5 c2 c3 f2 f3
      go_wp2_with fail
      have C1 := mark_own named (B + 1 + 1) len len n (clrF f n) _ (by omega) T3.c.cell
      rw [mark_clr_hit hfn hq] at C1
      refine C1.mono ?_
      clear C1
      rintro e w6 ⟨rfl, hb6⟩
      have T4 := T3.later hb6
      clear T3 hb6
      go_wp2_with fail
      go_loopw [12] (fun i wr => ∃ k : Nat, k ≤ 8 * len ∧ i = .int .i64 k ∧ Three w wr B len f (setF f n) (clrF f n)) (fun i _ => 8 * len - (intOf i).toNat)
      case atStart => exact ⟨0, Nat.zero_le _, rfl, T4⟩
      case round =>
        clear T4
        obtain ⟨k, hk, rfl, T⟩ := hrel
        by_cases hlt : k < 8 * len
        · by_cases hkn : k = n
          · subst hkn
            go_wp2
            go_roundw
            case rel => exact ⟨k + 1, by omega, by go_num, T⟩
            case measure => simp [intOf]; omega
          · have hne : ((k : Int) != (n : Int)) = true := by rw [bne_iff_ne]; omega
            obtain ⟨r, hr⟩ : ∃ r, markB named len f k = r := ⟨_, rfl⟩
            go_wp2_with fail
            have C1 := mark_own named B len len k f _ (by omega) T.a.cell
            rw [hr] at C1
            refine C1.mono ?_
            clear C1
            rintro e w7 ⟨rfl, hb7⟩
            have T5 := T.later hb7
            clear T hb7
            go_wp2_with fail
            have C1 := mark_own named (B + 1) len len k (setF f n) _ (by omega) T5.b.cell
            rw [mark_set_miss hfn hkn, hr] at C1
            refine C1.mono ?_
            clear C1
            rintro e w8 ⟨rfl, hb8⟩
            have T6 := T5.later hb8
            clear T5 hb8
            go_wp2_with fail
            have C1 := mark_own named (B + 1 + 1) len len k (clrF f n) _ (by omega) T6.c.cell
            rw [mark_clr_miss hfn hkn, hr] at C1
            refine C1.mono ?_
            clear C1
            rintro e w9 ⟨rfl, hb9⟩
            have T7 := T6.later hb9
            clear T6 hb9
            go_wp2_with fail
            go_roundw
            case rel => exact ⟨k + 1, by omega, by go_num, T7⟩
            case measure => simp [intOf]; omega
        · obtain rfl : k = 8 * len := by omega
          go_wp2_with fail
          have C1 := mark_own named B len len n f _ (by omega) T.a.cell
          have hlt8 : (n : Int) / 8 < (len : Int) := by omega
          have h08 : 0 ≤ (n : Int) / 8 := by omega
          have hwr : IntKind.i64.wrap ((n : Int) / 8) = (n : Int) / 8 := by rw [IntKind.wrap_i64]; omega
          have htn : ((n : Int) / 8).toNat = n / 8 := by omega
          by_cases heq : f (n / 8) = setF f n (n / 8)
          · rw [mark_same hfn hq heq] at C1
            refine C1.mono ?_
            clear C1
            rintro e w7 ⟨rfl, hb7⟩
            have T5 := T.later hb7
            clear T hb7
            have c1 := T5.a.cell (n / 8) hq
            have c2 := T5.b.cell (n / 8) hq
            rw [← heq] at c2
            have bel := T5.bel
            clear T5 heq hfn
            generalize f (n / 8) = u at c1 c2
            go_wp2_with fail
            go_quiet (fail)
            go_wp2
            go_ret
            exact ⟨by simp, below_drewN (by rw [HB.out]; exact bel) _⟩
          · rw [mark_other hfn heq] at C1
            refine C1.mono ?_
            clear C1
            rintro e w7 ⟨rfl, hb7⟩
            have T5 := T.later hb7
            clear T hb7
            have c1 := T5.a.cell (n / 8) hq
            have c2 := T5.b.cell (n / 8) hq
            have bel := T5.bel
            clear T5 hfn
            have hne : (f (n / 8) == setF f n (n / 8)) = false := beq_eq_false_iff_ne.2 heq
            clear heq
            generalize f (n / 8) = u at c1 hne
            generalize setF f n (n / 8) = v at c2 hne
            go_wp2_with fail
            go_quiet (fail)
            go_wp2
            go_ret
            exact ⟨by simp, below_drewN (by rw [HB.out]; exact bel) _⟩
end Go.Proofs.Qxb6617175a
