/-
  THE PLAIN LAWS of seat b6001167a, 2.
-/
import Derived.Test.Qxb6001167aPlain
namespace Go.Proofs.Qxb6001167a.Plain

/-! ### the literal holds no byte that an escape stands for; its quotes come in pairs -/

theorem L6_plain (j : Nat) : j < 6 → ixE (L6.getD j 0) < 0 ∧ L6.getD j 0 ≠ 39 ∧ L6.getD j 0 ≠ 92 ∧ ixL (L6.getD j 0) = j ∧ L6.getD j 0 ∈ L6 := by
  intro h
  rcases (show j = 0 ∨ j = 1 ∨ j = 2 ∨ j = 3 ∨ j = 4 ∨ j = 5 from by omega) with rfl | rfl | rfl | rfl | rfl | rfl <;> decide
theorem E6_back (c : UInt8) (h : 0 ≤ ixE c) : E6.getD (ixE c).toNat 0 = c := by
  rcases ixE_cases c with ⟨e, _⟩ | ⟨rfl, e⟩ | ⟨rfl, e⟩ | ⟨rfl, e⟩ | ⟨rfl, e⟩ | ⟨rfl, e⟩ | ⟨rfl, e⟩
  · omega
  all_goals (rw [e]; rfl)

theorem esc_no (c : UInt8) : ∀ b ∈ esc c, ixE b < 0 := by
  intro b hb
  by_cases h1 : c = 39
  · subst h1
    have : b = 39 := by simpa [esc] using hb
    subst this; decide
  by_cases h2 : c = 92
  · subst h2
    have : b = 92 := by simpa [esc] using hb
    subst this; decide
  by_cases h3 : 0 ≤ ixE c
  · rw [esc_ctl h1 h2 h3] at hb
    have hbd := ixE_bd c
    rcases List.mem_cons.1 hb with rfl | hb
    · decide
    · have : b = L6.getD (ixE c).toNat 0 := by simpa using hb
      rw [this]
      exact (L6_plain _ (by omega)).1
  · rw [esc_plain h1 h2 (by omega)] at hb
    have : b = c := by simpa using hb
    subst this; omega
theorem quote_no (l : List UInt8) : ∀ b ∈ quoteL l, ixE b < 0 := by
  intro b hb
  simp only [quoteL, List.mem_cons, List.mem_append, List.not_mem_nil, or_false] at hb
  rcases hb with rfl | hb | rfl
  · decide
  · simp only [body, List.mem_flatMap] at hb
    obtain ⟨c, _, hb⟩ := hb
    exact esc_no c b hb
  · decide

/-- Does every quote come with a second one right behind it? -/
def pairs : List UInt8 → Bool
  | [] => true
  | [b] => b != 39
  | b :: d :: r => if b = 39 then (d == 39 && pairs r) else pairs (d :: r)

theorem pairs_cons {b : UInt8} (h : b ≠ 39) (r : List UInt8) : pairs (b :: r) = pairs r := by
  cases r with
  | nil => simp [pairs, h]
  | cons d r => rw [pairs, if_neg h]
theorem pairs_two (r : List UInt8) : pairs (39 :: 39 :: r) = pairs r := by rw [pairs, if_pos rfl]; simp
theorem pairs_head {r : List UInt8} (h : pairs (39 :: r) = true) : ∃ t, r = 39 :: t ∧ pairs t = true := by
  cases r with
  | nil => exact absurd h (by decide)
  | cons d t =>
    rw [pairs, if_pos rfl] at h
    simp only [Bool.and_eq_true, beq_iff_eq] at h
    exact ⟨t, by rw [h.1], h.2⟩

theorem pairs_body : ∀ l : List UInt8, pairs (body l) = true
  | [] => rfl
  | c :: l => by
    have ih := pairs_body l
    have e : body (c :: l) = esc c ++ body l := by simp [body]
    rw [e]
    by_cases h1 : c = 39
    · subst h1
      show pairs (39 :: 39 :: body l) = true
      rw [pairs_two, ih]
    by_cases h2 : c = 92
    · subst h2
      show pairs (92 :: 92 :: body l) = true
      rw [pairs_cons (by decide), pairs_cons (by decide), ih]
    by_cases h3 : 0 ≤ ixE c
    · rw [esc_ctl h1 h2 h3]
      have hbd := ixE_bd c
      show pairs (92 :: L6.getD (ixE c).toNat 0 :: body l) = true
      rw [pairs_cons (by decide), pairs_cons (L6_plain _ (by omega)).2.1, ih]
    · rw [esc_plain h1 h2 (by omega)]
      show pairs (c :: body l) = true
      rw [pairs_cons h1, ih]

theorem esc_special (c : UInt8) : (esc c).length = if c = 39 ∨ c = 92 ∨ 0 ≤ ixE c then 2 else 1 := by
  unfold esc
  by_cases h1 : c = 39
  · simp [h1]
  by_cases h2 : c = 92
  · simp [h2]
  by_cases h3 : 0 ≤ ixE c
  · simp [h1, h2, h3]
  · simp [h1, h2, h3]
theorem body_ge : ∀ l : List UInt8, l.length ≤ (body l).length
  | [] => Nat.le_refl _
  | c :: l => by
    have h := body_ge l
    have e : body (c :: l) = esc c ++ body l := by simp [body]
    have h1 := esc_special c
    rw [e, List.length_append, List.length_cons]
    split at h1 <;> omega

end Go.Proofs.Qxb6001167a.Plain
