import Derived.Test.Qxb6616707aFit
import Derived.Deep.RegionWith
import Derived.Deep.CutRange
namespace Go.Proofs.Qxb6616707a
open Go.ChangeShapes Go.WideShapes Go.ChangeAt Go.RowKit

variable {N K : Nat → ByteArray} {H : Nat → Bool}

set_option maxRecDepth 10000 in
set_option maxHeartbeats 2000000 in
theorem child_law (p : Option Addr) (n c : Nat) (w : World) (hn : n ≤ 9223372036854775807) (hnc : n ≤ c) (hs : Steps w p n N K H) :
    Calls Try.prog 4 #[.slice p n c] w fun e w' => e = .returned (.bool true) ∧ Below w.heap.size w w' := by
  have HS : Hid (Steps w p n N K H) := hs
  clear hs
  go_enter Try.func4, Try.ntmps4
  go_wp2_with fail
  refine (zzBytes9_any p n c w hn HS.out).mono ?_
  rintro e w' ⟨⟨r, rfl⟩, rfl⟩
  cases r
  · go_wp2_with fail
    go_ret
    exact ⟨rfl, Below.refl _ _⟩
  go_wp2_with fail
  refine (fit_any p n c _ w hn HS.out).mono ?_
  rintro e w1 ⟨⟨r, rfl⟩, hb1⟩
  cases r
  · go_wp2_with fail
    go_ret
    exact ⟨rfl, hb1⟩
  by_cases hl : 1024 < n
  · go_wp2_with fail
    go_ret
    exact ⟨rfl, hb1⟩
  have hd : decide (1024 < (n : Int)) = false := decide_eq_false (by omega)
  have HS1 : Hid (Steps w1 p n N K H) := HS.out.later hb1 (Nat.le_refl _)
  clear HS
  go_wp2_with fail
  go_loopw [3, 4] (fun v i wr => ∃ (k : Nat) (pm : Option Addr) (cm : Nat), k ≤ n ∧ v = .slice pm k cm ∧ i = .int .i64 k ∧ Hid (Mods wr w1.heap.size pm k cm N K H) ∧ Below w1.heap.size w1 wr) (fun _ i _ => n - (intOf i).toNat)
  case atStart => exact ⟨0, none, 0, Nat.zero_le _, rfl, rfl, World.ownsRow_nil _ _ _ _, Below.refl _ _⟩
  case round =>
    obtain ⟨k, pm, cm, hk, rfl, rfl, HM, bel⟩ := hrel
    by_cases hlt : k < n
    · obtain ⟨b, o, hp, hbl, hcs⟩ := (HS1.out.later bel (Nat.le_refl _)) (by omega)
      subst hp
      obtain ⟨s0, s1, s2⟩ := hcs k hlt
      clear hcs
      have CZ : Hid (∀ w', Below wr.heap.size wr w' → Calls Try.prog 11 #[.slice pm k cm, .string (N k), .string (K k), .bool (H k)] w' fun e w'' => e = .returned (.slice (some ⟨w'.heap.size, 0, none⟩) (k + 1) (k + 1)) ∧ Hid (Mods w'' w1.heap.size (some ⟨w'.heap.size, 0, none⟩) (k + 1) (k + 1) N K H) ∧ Below w'.heap.size w' w'') :=
        fun w' hb => zzchild_any w1.heap.size pm k cm (modCells N K H k) (N k) (K k) (H k) w' (Nat.le_trans bel.size hb.size) (by omega) (HM.out.later hb (Nat.le_refl _)) (modCells_one k)
      have CS : Hid (∀ wx g, Mods wx w1.heap.size (some ⟨g, 0, none⟩) (k + 1) (k + 1) N K H → Calls Try.prog 12 #[.slice (some ⟨g, 0, none⟩) (k + 1) (k + 1), .int .i64 k, .agg #[.string (N k), .string (K k), .bool (H k)]] wx fun e w' => e = .returned (.bool true) ∧ Below wx.heap.size wx w') := by
        intro wx g hm
        obtain ⟨g', hg, _, hc⟩ := hm.cells (Nat.succ_pos k)
        cases hg
        exact stepIs_any g (k + 1) (k + 1) k (N k) (K k) (H k) wx (by omega) (hc k (by omega)).1 (hc k (by omega)).2
      have CP : Hid (∀ wx, Below wr.heap.size wr wx → Calls Try.prog 13 #[.slice pm k cm, .slice (some ⟨b, o, none⟩) k c] wx fun e w' => e = .returned (.bool true) ∧ Below wx.heap.size wx w') :=
        fun wx hb => prefix_any w1.heap.size pm (some ⟨b, o, none⟩) k cm c wx (by omega) (HM.out.later hb (Nat.le_refl _)) (((HS1.out.later bel (Nat.le_refl _)).later hb (Nat.le_refl _)).less (by omega))
      generalize N k = nm at s0 CZ CS
      generalize K k = ky at s1 CZ CS
      generalize H k = hs at s2 CZ CS
      clear HM
      have hil : (k : Int) < (n : Int) := by omega
      have hkc : (k : Int) ≤ (c : Int) := by omega
      go_upto_region 12 with fail
      go_cut [3] from 15 to 65 (fun v wx => ∃ g, v = .slice (some ⟨g, 0, none⟩) (k + 1) (k + 1) ∧ Hid (Mods wx w1.heap.size (some ⟨g, 0, none⟩) (k + 1) (k + 1) N K H) ∧ Below wr.heap.size wr wx)
      case first =>
        go_region_with (go_at_call 11; refine (CZ.out _ ?_).mono ?_; (exact (Below.refl _ _).drew); rintro e w2 ⟨rfl, ho2, hb2⟩)
        all_goals go_wp2_with fail
        all_goals go_meet
        all_goals exact ⟨_, rfl, ho2, (Below.refl _ _).drew.trans hb2⟩
      case rest =>
        obtain ⟨g, rfl, HM2, hb2⟩ := hcut
        have belc : Below w1.heap.size w1 wc := bel.trans (hb2.mono bel.size)
        have t0 := (hb2.cell (p := ⟨b, o + k * 3, none⟩) hbl).trans s0
        have t1 := (hb2.cell (p := ⟨b, o + k * 3 + 1, none⟩) hbl).trans s1
        have t2 := (hb2.cell (p := ⟨b, o + k * 3 + 2, none⟩) hbl).trans s2
        clear s0 s1 s2 CZ
        go_wp2_with fail
        refine (CS.out wc g HM2.out).mono ?_
        rintro e w3 ⟨rfl, hb3⟩
        clear t0 t1 t2 CS
        go_wp2_with fail
        refine (CP.out w3 (hb2.trans (hb3.mono hb2.size))).mono ?_
        rintro e w4 ⟨rfl, hb4⟩
        have bel4 : Below w1.heap.size w1 w4 := (belc.trans (hb3.mono belc.size)).trans (hb4.mono (Nat.le_trans belc.size hb3.size))
        have HM4 : Hid (Mods w4 w1.heap.size (some ⟨g, 0, none⟩) (k + 1) (k + 1) N K H) := (HM2.out.later hb3 (Nat.le_refl _)).later hb4 (Nat.le_refl _)
        clear HM2 hb2 hb3 hb4 belc CP bel
        go_wp2_with fail
        go_roundw
        case rel => exact ⟨k + 1, _, _, by omega, rfl, by go_num, HM4, bel4⟩
        case measure => simp [intOf]; omega
    · obtain rfl : k = n := by omega
      have C : Hid (Calls Try.prog 13 #[.slice pm k cm, .slice p k c] wr fun e w' => e = .returned (.bool true) ∧ Below wr.heap.size wr w') := prefix_any w1.heap.size pm p k cm c wr (by omega) HM.out (HS1.out.later bel (Nat.le_refl _))
      clear HM HS1
      go_wp2_with fail
      refine (show Calls _ _ _ _ _ from C.out).mono ?_
      rintro e w3 ⟨rfl, hb3⟩
      have bel3 : Below w.heap.size w w3 := hb1.trans ((bel.trans (hb3.mono bel.size)).mono hb1.size)
      clear hb1 bel hb3 C
      go_wp2_with fail
      go_ret
      exact ⟨rfl, bel3⟩
end Go.Proofs.Qxb6616707a
