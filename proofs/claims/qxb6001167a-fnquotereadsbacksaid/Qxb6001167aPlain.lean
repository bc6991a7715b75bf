/-
  THE PLAIN LAWS of seat b6001167a: the literal that 'Quote' writes, and its reader. Lists of bytes, no Go in sight.
-/
import Derived.Lib.Bytealg
namespace Go.Proofs.Qxb6001167a.Plain

def E6 : List UInt8 := [0, 8, 10, 13, 9, 26]
def L6 : List UInt8 := [48, 98, 110, 114, 116, 90]
def ixE (c : UInt8) : Int := Lib.indexByte E6 c
def ixL (c : UInt8) : Int := Lib.indexByte L6 c

/-- How one byte is written. -/
def esc (c : UInt8) : List UInt8 :=
  if c = 39 then [39, 39] else if c = 92 then [92, 92] else if 0 ≤ ixE c then [92, L6.getD (ixE c).toNat 0] else [c]

/-- The bytes between the two quotes. -/
def body (l : List UInt8) : List UInt8 := l.flatMap esc
def quoteL (l : List UInt8) : List UInt8 := 39 :: (body l ++ [39])

theorem ixE_cases (c : UInt8) : (ixE c = -1 ∧ c ≠ 0 ∧ c ≠ 8 ∧ c ≠ 10 ∧ c ≠ 13 ∧ c ≠ 9 ∧ c ≠ 26) ∨ (c = 0 ∧ ixE c = 0) ∨ (c = 8 ∧ ixE c = 1) ∨ (c = 10 ∧ ixE c = 2) ∨ (c = 13 ∧ ixE c = 3) ∨ (c = 9 ∧ ixE c = 4) ∨ (c = 26 ∧ ixE c = 5) := by
  by_cases h0 : c = 0
  · subst h0; exact Or.inr (Or.inl ⟨rfl, rfl⟩)
  by_cases h1 : c = 8
  · subst h1; exact Or.inr (Or.inr (Or.inl ⟨rfl, rfl⟩))
  by_cases h2 : c = 10
  · subst h2; exact Or.inr (Or.inr (Or.inr (Or.inl ⟨rfl, rfl⟩)))
  by_cases h3 : c = 13
  · subst h3; exact Or.inr (Or.inr (Or.inr (Or.inr (Or.inl ⟨rfl, rfl⟩))))
  by_cases h4 : c = 9
  · subst h4; exact Or.inr (Or.inr (Or.inr (Or.inr (Or.inr (Or.inl ⟨rfl, rfl⟩)))))
  by_cases h5 : c = 26
  · subst h5; exact Or.inr (Or.inr (Or.inr (Or.inr (Or.inr (Or.inr ⟨rfl, rfl⟩)))))
  left
  refine ⟨?_, h0, h1, h2, h3, h4, h5⟩
  have e0 : ((0 : UInt8) == c) = false := by simpa using fun e => h0 e.symm
  have e1 : ((8 : UInt8) == c) = false := by simpa using fun e => h1 e.symm
  have e2 : ((10 : UInt8) == c) = false := by simpa using fun e => h2 e.symm
  have e3 : ((13 : UInt8) == c) = false := by simpa using fun e => h3 e.symm
  have e4 : ((9 : UInt8) == c) = false := by simpa using fun e => h4 e.symm
  have e5 : ((26 : UInt8) == c) = false := by simpa using fun e => h5 e.symm
  simp [ixE, E6, Lib.indexByte, e0, e1, e2, e3, e4, e5]

theorem ixE_bd (c : UInt8) : -1 ≤ ixE c ∧ ixE c ≤ 5 := by
  rcases ixE_cases c with ⟨h, _⟩ | ⟨_, h⟩ | ⟨_, h⟩ | ⟨_, h⟩ | ⟨_, h⟩ | ⟨_, h⟩ | ⟨_, h⟩ <;> omega

theorem esc_plain {c : UInt8} (h1 : c ≠ 39) (h2 : c ≠ 92) (h3 : ixE c < 0) : esc c = [c] := by
  unfold esc; rw [if_neg h1, if_neg h2, if_neg (by omega)]
theorem esc_ctl {c : UInt8} (h1 : c ≠ 39) (h2 : c ≠ 92) (h3 : 0 ≤ ixE c) : esc c = [92, L6.getD (ixE c).toNat 0] := by
  unfold esc; rw [if_neg h1, if_neg h2, if_pos h3]
theorem esc_len (c : UInt8) : (esc c).length ≤ 2 := by
  unfold esc; split <;> (try split) <;> (try split) <;> simp

theorem body_nil : body [] = [] := rfl
theorem body_append (a b : List UInt8) : body (a ++ b) = body a ++ body b := by simp [body]
theorem body_snoc (a : List UInt8) (c : UInt8) : body (a ++ [c]) = body a ++ esc c := by simp [body]
theorem body_len : ∀ l : List UInt8, (body l).length ≤ 2 * l.length
  | [] => Nat.le_refl _
  | c :: l => by
    have h1 := esc_len c
    have h2 := body_len l
    have : body (c :: l) = esc c ++ body l := by simp [body]
    rw [this, List.length_append, List.length_cons]
    omega
theorem body_same : ∀ {l : List UInt8}, (∀ c ∈ l, esc c = [c]) → body l = l
  | [], _ => rfl
  | c :: l, h => by
    have : body (c :: l) = esc c ++ body l := by simp [body]
    rw [this, h c (List.mem_cons_self ..), body_same fun x hx => h x (List.mem_cons_of_mem _ hx)]
    rfl

/-- The literal of two texts behind one another. -/
theorem quote_concat (a b : List UInt8) : quoteL (a ++ b) = (quoteL a).take ((quoteL a).length - 1) ++ (quoteL b).drop 1 := by
  unfold quoteL
  have h : (39 :: (body a ++ [39])).take ((39 :: (body a ++ [39])).length - 1) = 39 :: body a := by
    rw [← List.cons_append, List.length_append, List.length_singleton, Nat.add_sub_cancel, List.take_left]
  rw [h, body_append]
  simp

end Go.Proofs.Qxb6001167a.Plain
