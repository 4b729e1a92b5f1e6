import Derived.Test.Qxb6617200aIdent
namespace Go.Proofs.Qxb6617200a

/-- Every byte of s is one that ok takes. -/
def AllB (ok : Int → Bool) (s : ByteArray) : Prop := ∀ i, i < s.size → ok (byteAt s i) = true
/-- The two tests in one form. -/
def vG (ok : Int → Bool) (L : Nat) (s : ByteArray) : Bool := decide (1 ≤ s.size ∧ s.size ≤ L) && decide (∀ i, i < s.size → ok (byteAt s i) = true)
theorem vName_eq (s : ByteArray) : vName s = vG okN 63 s := rfl
theorem vId_eq (s : ByteArray) : vId s = vG okI 253 s := rfl
theorem vG_iff {ok : Int → Bool} {L : Nat} {s : ByteArray} : vG ok L s = true ↔ 1 ≤ s.size ∧ s.size ≤ L ∧ AllB ok s := by
  simp only [vG, AllB, Bool.and_eq_true, decide_eq_true_eq, and_assoc]

theorem byteAt_append (a b : ByteArray) (i : Nat) : byteAt (a ++ b) i = if i < a.size then byteAt a i else byteAt b (i - a.size) := by
  have e : (a ++ b).data = a.data ++ b.data := ByteArray.data_append
  unfold byteAt
  rw [e, Array.getElem?_append]
  have hs : a.data.size = a.size := rfl
  rw [hs]
  split <;> rfl
theorem all_append {ok : Int → Bool} {a b : ByteArray} : AllB ok (a ++ b) ↔ AllB ok a ∧ AllB ok b := by
  have hsz : (a ++ b).size = a.size + b.size := ByteArray.size_append
  constructor
  · intro h
    refine ⟨fun i hi => ?_, fun i hi => ?_⟩
    · have := h i (by omega)
      rwa [byteAt_append, if_pos hi] at this
    · have := h (a.size + i) (by omega)
      rwa [byteAt_append, if_neg (by omega), Nat.add_sub_cancel_left] at this
  · intro h i hi
    rw [byteAt_append]
    by_cases c : i < a.size
    · rw [if_pos c]; exact h.1 i c
    · rw [if_neg c]; exact h.2 _ (by omega)

/-- A numeral passes. -/
theorem vG_digits {ok : Int → Bool} {L : Nat} {D : ByteArray} (hok : ∀ c, 48 ≤ c → c ≤ 57 → ok c = true) (h1 : 1 ≤ D.size) (h2 : D.size ≤ 20) (hL : 20 ≤ L) (hd : ∀ i, i < D.size → 48 ≤ byteAt D i ∧ byteAt D i ≤ 57) : vG ok L D = true :=
  vG_iff.2 ⟨h1, by omega, fun i hi => hok _ (hd i hi).1 (hd i hi).2⟩

/-- s, a separator that passes, and a numeral. -/
theorem vG_suffix {ok : Int → Bool} {L : Nat} {s p D : ByteArray} (hok : ∀ c, 48 ≤ c → c ≤ 57 → ok c = true) (hp : AllB ok p) (hp1 : p.size = 1) (h1 : 1 ≤ D.size) (hd : ∀ i, i < D.size → 48 ≤ byteAt D i ∧ byteAt D i ≤ 57) :
    vG ok L (s ++ p ++ D) = (decide (s.size + 1 + D.size ≤ L) && (decide (s.size = 0) || vG ok L s)) := by
  have hsz : (s ++ p ++ D).size = s.size + 1 + D.size := by rw [ByteArray.size_append, ByteArray.size_append, hp1]
  have hD : AllB ok D := fun i hi => hok _ (hd i hi).1 (hd i hi).2
  rw [Bool.eq_iff_iff, vG_iff, hsz, all_append, all_append]
  simp only [Bool.and_eq_true, Bool.or_eq_true, decide_eq_true_eq, vG_iff]
  constructor
  · rintro ⟨_, h, ⟨ha, _⟩, _⟩
    exact ⟨h, by by_cases e : s.size = 0; exact .inl e; exact .inr ⟨by omega, by omega, ha⟩⟩
  · rintro ⟨h, h2⟩
    refine ⟨by omega, h, ⟨?_, hp⟩, hD⟩
    rcases h2 with e | ⟨_, _, ha⟩
    · intro i hi; omega
    · exact ha

/-- Cut at place i. -/
theorem vG_pieces {ok : Int → Bool} {L : Nat} {s a b : ByteArray} (e : s = a ++ b) :
    vG ok L s = (decide (1 ≤ s.size) && decide (s.size ≤ L) && (decide (a.size = 0) || vG ok L a) && (decide (b.size = 0) || vG ok L b)) := by
  have hsz : s.size = a.size + b.size := by rw [e]; exact ByteArray.size_append
  rw [Bool.eq_iff_iff, vG_iff]
  simp only [Bool.and_eq_true, Bool.or_eq_true, decide_eq_true_eq, vG_iff]
  constructor
  · rintro ⟨h1, h2, h3⟩
    rw [e, all_append] at h3
    refine ⟨⟨⟨h1, h2⟩, ?_⟩, ?_⟩
    · by_cases c : a.size = 0
      · exact .inl c
      · exact .inr ⟨by omega, by omega, h3.1⟩
    · by_cases c : b.size = 0
      · exact .inl c
      · exact .inr ⟨by omega, by omega, h3.2⟩
  · rintro ⟨⟨⟨h1, h2⟩, h3⟩, h4⟩
    refine ⟨h1, h2, ?_⟩
    rw [e, all_append]
    refine ⟨?_, ?_⟩
    · rcases h3 with c | c
      · intro i hi; omega
      · exact c.2.2
    · rcases h4 with c | c
      · intro i hi; omega
      · exact c.2.2

theorem okN_dig (c : Int) (h1 : 48 ≤ c) (h2 : c ≤ 57) : okN c = true := decide_eq_true (.inr (.inl ⟨h1, h2⟩))
theorem okI_dig (c : Int) (h1 : 48 ≤ c) (h2 : c ≤ 57) : okI c = true := decide_eq_true (.inr (.inr (.inl ⟨h1, h2⟩)))
theorem dashN : AllB okN ⟨#[45]⟩ := by
  intro i hi
  obtain rfl : i = 0 := by have : i < 1 := hi; omega
  rfl
theorem dashI : AllB okI ⟨#[45]⟩ := by
  intro i hi
  obtain rfl : i = 0 := by have : i < 1 := hi; omega
  rfl
theorem dotI : AllB okI ⟨#[46]⟩ := by
  intro i hi
  obtain rfl : i = 0 := by have : i < 1 := hi; omega
  rfl
theorem lineI : AllB okI ⟨#[95]⟩ := by
  intro i hi
  obtain rfl : i = 0 := by have : i < 1 := hi; omega
  rfl
end Go.Proofs.Qxb6617200a
