import Derived.Test.Qxb6617175aJoin
namespace Go.Proofs.Qxb6617175a
open Go.ChangeShapes Go.WideShapes Go.ChangeAt Go.RowKit

set_option maxHeartbeats 400000 in
/-- bytes.HasPrefix over a row of the call's own and a slice that came in. -/
theorem hasPrefix_any (b n : Nat) (p : Option Addr) (m d : Nat) (f g : Nat → Int) (w : World) (h1 : BRow w b n f) (h2 : Vw w p m g) (hf : ∀ i, i < n → 0 ≤ f i ∧ f i < 256) (hg : ∀ i, i < m → 0 ≤ g i ∧ g i < 256) :
    Calls Try.prog 25 #[.slice (some ⟨b, 0, none⟩) n n, .slice p m d] w fun e w' => e = .returned (.bool (prefB n f m g)) ∧ w = w' := by
  by_cases hmn : m ≤ n
  · have HP : Hid (prefB n f m g = decide (∀ i, i < m → f i = g i)) := by simp [Hid, prefB, hmn]
    have HC := fun c => equal_any (some ⟨b, 0, none⟩) p m c d f g w (h1.vw_less hmn) h2 (fun i hi => hf i (by omega)) hg
    have hd : decide ((m : Int) ≤ (n : Int)) = true := by simp; omega
    clear h1 h2 hf hg
    generalize decide (∀ i, i < m → f i = g i) = r at HP HC
    generalize prefB n f m g = q at HP ⊢
    go_enter Try.func25, Try.ntmps25
    go_wp2_with fail
    refine (HC _).mono ?_
    rintro e w' ⟨rfl, rfl⟩
    go_wp2_with fail
    go_ret
    exact ⟨by rw [HP.out]; rfl, rfl⟩
  · have HP : Hid (prefB n f m g = false) := by simp [Hid, prefB, hmn]
    have hd : decide ((m : Int) ≤ (n : Int)) = false := by simp; omega
    clear h1 h2 hf hg
    generalize prefB n f m g = q at HP ⊢
    go_enter Try.func25, Try.ntmps25
    go_wp2_with fail
    go_ret
    exact ⟨by rw [HP.out]; rfl, rfl⟩

theorem index0 (x0 x1 : Value) (w : World) : (Instr.index 27 (.agg #[x0, x1]) (.int .i64 0)).run Try.prog w = .ok x0 w := by kernel_rfl
theorem index1 (x0 x1 : Value) (w : World) : (Instr.index 27 (.agg #[x0, x1]) (.int .i64 1)).run Try.prog w = .ok x1 w := by kernel_rfl

set_option maxHeartbeats 400000 in
/-- beginsWith: the first is a prefix. -/
theorem begins_first (b n : Nat) (p q : Option Addr) (m d m' d' : Nat) (f g : Nat → Int) (w : World) (h1 : BRow w b n f) (h2 : Vw w p m g) (hf : ∀ i, i < n → 0 ≤ f i ∧ f i < 256) (hg : ∀ i, i < m → 0 ≤ g i ∧ g i < 256) (hp : prefB n f m g = true) :
    Calls Try.prog 22 #[.slice (some ⟨b, 0, none⟩) n n, .agg #[.slice p m d, .slice q m' d']] w fun e w' => e = .returned (.int .i64 0) ∧ Below w.heap.size w w' := by
  have i0 := index0
  have i1 := index1
  have HC := fun w' (hb : Below w.heap.size w w') => hasPrefix_any b n p m d f g w' (h1.below hb h1.lt) (h2.later hb) hf hg
  rw [hp] at HC
  have HC' : Hid (∀ w', Below w.heap.size w w' → Calls Try.prog 25 #[.slice (some ⟨b, 0, none⟩) n n, .slice p m d] w' fun e w'' => e = .returned (.bool true) ∧ w' = w'') := HC
  clear h1 h2 hf hg hp HC
  go_enter Try.func22, Try.ntmps22
  go_wp2_with fail
  refine wp_loop_rounds 1 ?_
  rw [rounds_succ]
  go_wp2_with fail
  refine (HC'.out _ ((Below.refl _ _).alloc (Nat.le_refl _) _)).mono ?_
  rintro e w' ⟨rfl, rfl⟩
  go_wp2_with fail
  go_ret
  exact ⟨rfl, (Below.refl _ _).alloc (Nat.le_refl _) _⟩

set_option maxHeartbeats 400000 in
/-- beginsWith: the second is a prefix, the first is none. -/
theorem begins_second (b n : Nat) (p q : Option Addr) (m d m' d' : Nat) (f g g' : Nat → Int) (w : World) (h1 : BRow w b n f) (h2 : Vw w p m g) (h3 : Vw w q m' g') (hf : ∀ i, i < n → 0 ≤ f i ∧ f i < 256) (hg : ∀ i, i < m → 0 ≤ g i ∧ g i < 256) (hg' : ∀ i, i < m' → 0 ≤ g' i ∧ g' i < 256) (hp : prefB n f m g = false) (hq : prefB n f m' g' = true) :
    Calls Try.prog 22 #[.slice (some ⟨b, 0, none⟩) n n, .agg #[.slice p m d, .slice q m' d']] w fun e w' => e = .returned (.int .i64 1) ∧ Below w.heap.size w w' := by
  have i0 := index0
  have i1 := index1
  have HC := fun w' (hb : Below w.heap.size w w') => hasPrefix_any b n p m d f g w' (h1.below hb h1.lt) (h2.later hb) hf hg
  have HD := fun w' (hb : Below w.heap.size w w') => hasPrefix_any b n q m' d' f g' w' (h1.below hb h1.lt) (h3.later hb) hf hg'
  rw [hp] at HC
  rw [hq] at HD
  have HC' : Hid (∀ w', Below w.heap.size w w' → Calls Try.prog 25 #[.slice (some ⟨b, 0, none⟩) n n, .slice p m d] w' fun e w'' => e = .returned (.bool false) ∧ w' = w'') := HC
  have HD' : Hid (∀ w', Below w.heap.size w w' → Calls Try.prog 25 #[.slice (some ⟨b, 0, none⟩) n n, .slice q m' d'] w' fun e w'' => e = .returned (.bool true) ∧ w' = w'') := HD
  clear h1 h2 h3 hf hg hg' hp hq HC HD
  go_enter Try.func22, Try.ntmps22
  go_wp2_with fail
  refine wp_loop_rounds 2 ?_
  rw [rounds_succ]
  go_wp2_with fail
  refine (HC'.out _ ((Below.refl _ _).alloc (Nat.le_refl _) _)).mono ?_
  rintro e w' ⟨rfl, rfl⟩
  go_wp2_with fail
  rw [rounds_succ]
  go_wp2_with fail
  refine (HD'.out _ ((Below.refl _ _).alloc (Nat.le_refl _) _)).mono ?_
  rintro e w' ⟨rfl, rfl⟩
  go_wp2_with fail
  go_ret
  exact ⟨rfl, (Below.refl _ _).alloc (Nat.le_refl _) _⟩

/-- What beginsWith answers where one of the two is a prefix. -/
def whichI (r : Bool) : Int := if r then 0 else 1

set_option maxHeartbeats 400000 in
/-- ZZbeginsWith where one of the two is a prefix. -/
theorem zzBegins (b n : Nat) (p q : Option Addr) (m d m' d' : Nat) (f g g' : Nat → Int) (w : World) (h1 : BRow w b n f) (h2 : Vw w p m g) (h3 : Vw w q m' g') (hf : ∀ i, i < n → 0 ≤ f i ∧ f i < 256) (hg : ∀ i, i < m → 0 ≤ g i ∧ g i < 256) (hg' : ∀ i, i < m' → 0 ≤ g' i ∧ g' i < 256) (hq : prefB n f m g = true ∨ prefB n f m' g' = true) :
    Calls Try.prog 15 #[.slice (some ⟨b, 0, none⟩) n n, .agg #[.slice p m d, .slice q m' d']] w fun e w' => e = .returned (.int .i64 (whichI (prefB n f m g))) ∧ Below w.heap.size w w' := by
  have HC : Hid (∀ w', Below w.heap.size w w' → Calls Try.prog 22 #[.slice (some ⟨b, 0, none⟩) n n, .agg #[.slice p m d, .slice q m' d']] w' fun e w'' => e = .returned (.int .i64 (whichI (prefB n f m g))) ∧ Below w'.heap.size w' w'') := by
    intro w' hb
    cases hp : prefB n f m g with
    | true => exact begins_first b n p q m d m' d' f g w' (h1.below hb h1.lt) (h2.later hb) hf hg hp
    | false => exact begins_second b n p q m d m' d' f g g' w' (h1.below hb h1.lt) (h2.later hb) (h3.later hb) hf hg hg' hp (hq.resolve_left (by rw [hp]; decide))
  clear h1 h2 h3 hf hg hg' hq
  generalize whichI (prefB n f m g) = r at HC ⊢
  go_enter Try.func15, Try.ntmps15
  go_wp2_with fail
  refine (HC.out _ ((Below.refl _ _).alloc (Nat.le_refl _) _)).mono ?_
  rintro e w' ⟨rfl, hb⟩
  go_wp2_with fail
  go_ret
  exact ⟨rfl, ((Below.refl _ _).alloc (Nat.le_refl _) _).trans (hb.mono (by simp))⟩
end Go.Proofs.Qxb6617175a
