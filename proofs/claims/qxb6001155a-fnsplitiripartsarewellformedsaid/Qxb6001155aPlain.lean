/-
  THE PLAIN LAWS of seat b6001155a: lists of bytes, no Go in sight.
-/
import Derived.Lib.Bytealg
namespace Go.Proofs.Qxb6001155a.Plain

/-! ### the first place of a byte -/

theorem indexByte_spec (c : UInt8) : ∀ l : List UInt8, (Lib.indexByte l c = -1 ∧ c ∉ l) ∨ (∃ p r, l = p ++ c :: r ∧ c ∉ p ∧ Lib.indexByte l c = p.length)
  | [] => Or.inl ⟨rfl, by simp⟩
  | b :: l => by
    unfold Lib.indexByte
    by_cases hb : b = c
    · subst hb
      exact Or.inr ⟨[], l, rfl, by simp, by simp⟩
    · have hb' : (b == c) = false := by simpa using hb
      rcases indexByte_spec c l with ⟨h1, h2⟩ | ⟨p, r, h1, h2, h3⟩
      · refine Or.inl ⟨by simp [hb', h1], ?_⟩
        simp only [List.mem_cons, not_or]
        exact ⟨fun h => hb h.symm, h2⟩
      · refine Or.inr ⟨b :: p, r, by rw [h1]; rfl, ?_, ?_⟩
        · simp only [List.mem_cons, not_or]
          exact ⟨fun h => hb h.symm, h2⟩
        · have hne : ((p.length : Int) == -1) = false := by
            rw [beq_eq_false_iff_ne]; omega
          rw [h3]
          simp [hb', hne]

/-- Two cuts at the first place of one byte are one cut. -/
theorem cut_unique {c : UInt8} : ∀ {x y f g : List UInt8}, c ∉ x → c ∉ y → (f = [] ∨ ∃ r, f = c :: r) → (g = [] ∨ ∃ r, g = c :: r) → x ++ f = y ++ g → x = y ∧ f = g
  | [], [], _, _, _, _, _, _, h => ⟨rfl, by simpa using h⟩
  | [], b :: y, f, g, _, hy, hf, _, h => by
    simp at h
    rcases hf with rfl | ⟨r, rfl⟩
    · simp at h
    · simp at h
      simp [h.1] at hy
  | a :: x, [], f, g, hx, _, _, hg, h => by
    simp at h
    rcases hg with rfl | ⟨r, rfl⟩
    · simp at h
    · simp at h
      simp [h.1] at hx
  | a :: x, b :: y, f, g, hx, hy, hf, hg, h => by
    simp at h
    simp at hx hy
    obtain ⟨rfl, h⟩ := h
    obtain ⟨rfl, rfl⟩ := cut_unique hx.2 hy.2 hf hg h
    exact ⟨rfl, rfl⟩

/-! ### the scheme -/

def isLetter (c : UInt8) : Bool := (decide (65 ≤ c.toNat) && decide (c.toNat ≤ 90)) || (decide (97 ≤ c.toNat) && decide (c.toNat ≤ 122))
def isDigit (c : UInt8) : Bool := decide (48 ≤ c.toNat) && decide (c.toNat ≤ 57)
def other (c : UInt8) : Bool := !isDigit c && c != 43 && c != 45 && c != 46
def schemeByte (c : UInt8) : Bool := isLetter c || !other c

/-- What is left of the loop at place j. -/
def seFrom : List UInt8 → Nat → Int
  | [], _ => -1
  | c :: l, j => if isLetter c then seFrom l (j + 1) else if 0 < j ∧ c = 58 then j else if j = 0 ∨ other c = true then -1 else seFrom l (j + 1)

def schemeEnd (l : List UInt8) : Int := seFrom l 0

theorem schemeByte_no {c : UInt8} (h : schemeByte c = true) : c ≠ 35 ∧ c ≠ 47 ∧ c ≠ 58 ∧ c ≠ 63 := by
  refine ⟨?_, ?_, ?_, ?_⟩ <;> (rintro rfl; revert h; decide)

theorem seFrom_spec : ∀ (l : List UInt8) (j : Nat), seFrom l j = -1 ∨ ∃ p r, l = p ++ 58 :: r ∧ (∀ c ∈ p, schemeByte c = true) ∧ 0 < j + p.length ∧ ∀ r', seFrom (p ++ 58 :: r') j = ((j + p.length : Nat) : Int)
  | [], _ => Or.inl rfl
  | c :: l, j => by
    by_cases h1 : isLetter c = true
    · rcases seFrom_spec l (j + 1) with h | ⟨p, r, e, hp, _, hr⟩
      · refine Or.inl ?_
        rw [seFrom, if_pos h1, h]
      · refine Or.inr ⟨c :: p, r, by rw [e]; rfl, ?_, by simp; omega, ?_⟩
        · intro d hd
          rcases List.mem_cons.1 hd with rfl | hd
          · simp [schemeByte, h1]
          · exact hp d hd
        · intro r'
          rw [List.cons_append, seFrom, if_pos h1, hr r']
          simp; omega
    · by_cases h2 : 0 < j ∧ c = 58
      · obtain ⟨h2, rfl⟩ := h2
        refine Or.inr ⟨[], l, rfl, by simp, by simpa using h2, ?_⟩
        intro r'
        rw [List.nil_append, seFrom, if_neg h1, if_pos ⟨h2, rfl⟩]
        simp
      · by_cases h3 : j = 0 ∨ other c = true
        · refine Or.inl ?_
          rw [seFrom, if_neg h1, if_neg h2, if_pos h3]
        · rcases seFrom_spec l (j + 1) with h | ⟨p, r, e, hp, _, hr⟩
          · refine Or.inl ?_
            rw [seFrom, if_neg h1, if_neg h2, if_neg h3, h]
          · refine Or.inr ⟨c :: p, r, by rw [e]; rfl, ?_, by simp; omega, ?_⟩
            · intro d hd
              rcases List.mem_cons.1 hd with rfl | hd
              · have : other d = false := by
                  cases hh : other d
                  · rfl
                  · exact absurd (Or.inr hh) h3
                simp [schemeByte, this]
              · exact hp d hd
            · intro r'
              rw [List.cons_append, seFrom, if_neg h1, if_neg h2, if_neg h3, hr r']
              simp; omega

theorem schemeEnd_spec (l : List UInt8) : schemeEnd l = -1 ∨ ∃ p r, l = p ++ 58 :: r ∧ (∀ c ∈ p, schemeByte c = true) ∧ p ≠ [] ∧ schemeEnd l = p.length ∧ ∀ r', schemeEnd (p ++ 58 :: r') = p.length := by
  rcases seFrom_spec l 0 with h | ⟨p, r, e, hp, h0, hr⟩
  · exact Or.inl h
  · refine Or.inr ⟨p, r, e, hp, ?_, ?_, ?_⟩
    · rintro rfl
      simp at h0
    · have := hr r
      rw [← e] at this
      simpa [schemeEnd] using this
    · intro r'
      simpa [schemeEnd] using hr r'

theorem schemeEnd_nil : schemeEnd [] = -1 := rfl
theorem schemeEnd_hash (l : List UInt8) : schemeEnd (35 :: l) = -1 := by
  rw [schemeEnd, seFrom, if_neg (by decide), if_neg (by simp), if_pos (Or.inl rfl)]
theorem schemeEnd_slash (l : List UInt8) : schemeEnd (47 :: l) = -1 := by
  rw [schemeEnd, seFrom, if_neg (by decide), if_neg (by simp), if_pos (Or.inl rfl)]

/-! ### the five parts -/

/-- What 'splitIRI' says of its five parts. -/
structure Parts (l s a p q f : List UInt8) : Prop where
  sch : (schemeEnd l = -1 ∧ s = []) ∨ (∃ t, s = t ++ [58] ∧ (∀ c ∈ t, schemeByte c = true) ∧ t ≠ [] ∧ schemeEnd l = t.length ∧ ∀ r', schemeEnd (s ++ r') = t.length)
  all : l = s ++ (a ++ (p ++ (q ++ f)))
  frag : f = [] ∨ ∃ r, f = 35 :: r
  na : (35 : UInt8) ∉ a
  np : (35 : UInt8) ∉ p
  nq : (35 : UInt8) ∉ q
  query : q = [] ∨ ∃ r, q = 63 :: r
  ma : (63 : UInt8) ∉ a
  mp : (63 : UInt8) ∉ p
  auth : (a = [] ∧ ¬ (∃ r, p = 47 :: 47 :: r)) ∨ (∃ r, a = 47 :: 47 :: r ∧ (47 : UInt8) ∉ r ∧ (p = [] ∨ ∃ t, p = 47 :: t))

theorem Parts.join {l s a p q f : List UInt8} (h : Parts l s a p q f) : ((s ++ a) ++ p) ++ q ++ f = l := by
  rw [h.all]; simp

/-- The scheme holds none of the later delimiters. -/
theorem Parts.sch_no {l s a p q f : List UInt8} (h : Parts l s a p q f) : (35 : UInt8) ∉ s := by
  rcases h.sch with ⟨_, rfl⟩ | ⟨t, rfl, ht, _⟩
  · simp
  · intro hm
    rcases List.mem_append.1 hm with hm | hm
    · exact (schemeByte_no (ht _ hm)).1 rfl
    · simp at hm

/-- A text that begins with the scheme of l has that scheme. -/
theorem Parts.sch_same {l s a p q f : List UInt8} (h : Parts l s a p q f) (hs : 0 ≤ schemeEnd l) (r : List UInt8) : schemeEnd (s ++ r) = schemeEnd l ∧ s ≠ [] ∧ (s.length : Int) = schemeEnd l + 1 := by
  rcases h.sch with ⟨h1, _⟩ | ⟨t, rfl, _, _, h1, h2⟩
  · omega
  · exact ⟨by rw [h1, h2 r], by simp, by rw [h1]; simp⟩

/-- TWO SPLITS OF ONE SCHEME, one of them known to begin so: the schemes are one, and the rests. -/
theorem Parts.len {l s a p q f : List UInt8} (h : Parts l s a p q f) (hs : 0 ≤ schemeEnd l) : (s.length : Int) = schemeEnd l + 1 := (h.sch_same hs []).2.2

/-! ### the four steps of 'splitIRI' -/

/-- The text is cut before its first c: what stands before holds no c, what stands behind is empty or begins with c. -/
def Cut (c : UInt8) (l x f : List UInt8) : Prop := l = x ++ f ∧ c ∉ x ∧ (f = [] ∨ ∃ r, f = c :: r)
def CutS (l s r : List UInt8) : Prop :=
  l = s ++ r ∧ ((schemeEnd l = -1 ∧ s = []) ∨ (∃ t, s = t ++ [58] ∧ (∀ c ∈ t, schemeByte c = true) ∧ t ≠ [] ∧ schemeEnd l = t.length ∧ ∀ r', schemeEnd (s ++ r') = t.length))
def CutA (l a p : List UInt8) : Prop :=
  l = a ++ p ∧ ((a = [] ∧ ¬ (∃ r, p = 47 :: 47 :: r)) ∨ (∃ r, a = 47 :: 47 :: r ∧ (47 : UInt8) ∉ r ∧ (p = [] ∨ ∃ t, p = 47 :: t)))

theorem cutS_no {l : List UInt8} (h : schemeEnd l = -1) : CutS l [] l := ⟨rfl, Or.inl ⟨h, rfl⟩⟩
theorem cutS_yes {l : List UInt8} (h : ¬ schemeEnd l = -1) : ∃ k : Nat, schemeEnd l = k ∧ k + 1 ≤ l.length ∧ CutS l (l.take (k + 1)) (l.drop (k + 1)) := by
  rcases schemeEnd_spec l with h' | ⟨p, r, e, hp, h0, h1, h2⟩
  · exact absurd h' h
  · refine ⟨p.length, h1, by rw [e]; simp, (List.take_append_drop _ _).symm, Or.inr ⟨p, ?_, hp, h0, h1, ?_⟩⟩
    · rw [e]; simp [List.take_append, List.take_of_length_le]
    · intro r'
      have : List.take (p.length + 1) l ++ r' = p ++ 58 :: r' := by rw [e]; simp [List.take_append, List.take_of_length_le]
      rw [this]; exact h2 r'

theorem cut_no {c : UInt8} {l : List UInt8} (h : c ∉ l) : Cut c l l [] := ⟨by simp, h, Or.inl rfl⟩
theorem cut_yes {c : UInt8} {l p r : List UInt8} (h : l = p ++ c :: r) (hp : c ∉ p) : Cut c l (l.take p.length) (l.drop p.length) := by
  refine ⟨(List.take_append_drop _ _).symm, ?_, Or.inr ⟨r, ?_⟩⟩
  · rw [h]; simpa using hp
  · rw [h]; simp

theorem cutA_no {l : List UInt8} (h : Lib.hasPrefix l [47, 47] = false) : CutA l [] l := by
  refine ⟨rfl, Or.inl ⟨rfl, ?_⟩⟩
  rintro ⟨r, rfl⟩
  simp [Lib.hasPrefix] at h
theorem prefix2 {l : List UInt8} (h : Lib.hasPrefix l [47, 47] = true) : ∃ r, l = 47 :: 47 :: r := by
  simp only [Lib.hasPrefix, List.isPrefixOf_iff_prefix] at h
  obtain ⟨r, h⟩ := h
  exact ⟨r, by rw [← h]; rfl⟩
theorem cutA_all {l r : List UInt8} (h : l = 47 :: 47 :: r) (h2 : (47 : UInt8) ∉ r) : CutA l l [] := ⟨by simp, Or.inr ⟨r, h, h2, Or.inl rfl⟩⟩
theorem cutA_at {l r p t : List UInt8} (h : l = 47 :: 47 :: r) (h2 : r = p ++ 47 :: t) (h3 : (47 : UInt8) ∉ p) : CutA l (l.take (2 + p.length)) (l.drop (2 + p.length)) := by
  refine ⟨(List.take_append_drop _ _).symm, Or.inr ⟨p, ?_, h3, Or.inr ⟨t, ?_⟩⟩⟩
  · rw [h, h2, Nat.add_comm]; simp
  · rw [h, h2, Nat.add_comm]; simp

theorem Parts.mk' {l s r f r2 q r3 a p : List UInt8} (h1 : CutS l s r) (h2 : Cut 35 r r2 f) (h3 : Cut 63 r2 r3 q) (h4 : CutA r3 a p) : Parts l s a p q f := by
  obtain ⟨e1, s1⟩ := h1
  obtain ⟨e2, n2, f2⟩ := h2
  obtain ⟨e3, n3, f3⟩ := h3
  obtain ⟨e4, s4⟩ := h4
  subst e4; subst e3; subst e2
  simp only [List.mem_append, not_or] at n2 n3
  exact ⟨s1, by rw [e1]; simp, f2, n2.1.1, n2.1.2, n2.2, f3, n3.1, n3.2, s4⟩

end Go.Proofs.Qxb6001155a.Plain
