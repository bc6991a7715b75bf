/-
  THE PLAIN LAWS of seat b6001155a, 2: dot segments; what a resolved reference is made of. Lists of bytes, no Go in sight.
-/
import Derived.Test.Qxb6001155aPlain
namespace Go.Proofs.Qxb6001155a.Plain

def isDot (l : List UInt8) : Bool := l == [46] || l == [46, 46]

/-- Is one of the segments '.' or '..'? 'cur': what has been read of the segment at hand. -/
def dotFrom : List UInt8 → List UInt8 → Bool
  | cur, [] => isDot cur
  | cur, c :: l => if c = 47 then isDot cur || dotFrom [] l else dotFrom (cur ++ [c]) l

def hasDot (l : List UInt8) : Bool := dotFrom [] l

/-- A rooted path with no dot segment. -/
def Clean (l : List UInt8) : Prop := ∃ r, l = 47 :: r ∧ hasDot r = false

theorem dotFrom_seg : ∀ (p cur r : List UInt8), (47 : UInt8) ∉ p → dotFrom cur (p ++ r) = dotFrom (cur ++ p) r
  | [], cur, r, _ => by simp
  | c :: p, cur, r, h => by
    simp only [List.mem_cons, not_or] at h
    have hc : ¬ c = 47 := fun e => h.1 e.symm
    rw [List.cons_append, dotFrom, if_neg hc, dotFrom_seg p (cur ++ [c]) r h.2]
    simp
theorem dotFrom_slash (cur r : List UInt8) : dotFrom cur (47 :: r) = (isDot cur || dotFrom [] r) := by rw [dotFrom, if_pos rfl]

theorem clean_of_hasDot {r : List UInt8} (h : hasDot (47 :: r) = false) : Clean (47 :: r) := by
  rw [hasDot, dotFrom_slash] at h
  exact ⟨r, rfl, by rw [hasDot]; simpa [isDot] using h⟩

/-- What a round of 'removeDotSegments' keeps: l the path that came in, r what is left of it, o what has been written. -/
structure Inv (l r o : List UInt8) : Prop where
  len : o.length + r.length ≤ l.length
  no : (35 : UInt8) ∉ l → (35 : UInt8) ∉ r ∧ (35 : UInt8) ∉ o
  clean : Clean l → o ++ r = l ∧ (r = [] ∨ Clean r)

theorem Inv.start (l : List UInt8) : Inv l l [] := ⟨by simp, fun h => ⟨h, by simp⟩, fun h => ⟨rfl, Or.inr h⟩⟩

theorem not_clean_of {l r o : List UInt8} (h : Inv l r o) (h0 : r ≠ []) (hn : ¬ Clean r) : ¬ Clean l := fun hc => by
  rcases (h.clean hc).2 with h1 | h1
  · exact h0 h1
  · exact hn h1

/-- A round that drops the head of what is left, where what is left is not a clean path. -/
theorem Inv.drop {l r o : List UInt8} (h : Inv l r o) (h0 : r ≠ []) (hn : ¬ Clean r) (k : Nat) : Inv l (r.drop k) o :=
  ⟨by have := h.len; simp; omega, fun hl => ⟨fun hm => (h.no hl).1 (List.mem_of_mem_drop hm), (h.no hl).2⟩, fun hc => absurd hc (not_clean_of h h0 hn)⟩
/-- A round that leaves a slash and a part of what was left; what has been written may be cut. -/
theorem Inv.slash {l r o : List UInt8} (h : Inv l r o) (h0 : r ≠ []) (hn : ¬ Clean r) (k j : Nat) (hk : 1 ≤ k) (hk2 : k ≤ r.length) : Inv l (47 :: r.drop k) (o.take j) := by
  refine ⟨?_, fun hl => ⟨?_, fun hm => (h.no hl).2 (List.mem_of_mem_take hm)⟩, fun hc => absurd hc (not_clean_of h h0 hn)⟩
  · have := h.len
    simp only [List.length_take, List.length_cons, List.length_drop]
    omega
  · simp only [List.mem_cons, not_or]
    exact ⟨by decide, fun hm => (h.no hl).1 (List.mem_of_mem_drop hm)⟩
theorem Inv.slash0 {l r o : List UInt8} (h : Inv l r o) (h0 : r ≠ []) (hn : ¬ Clean r) : Inv l [47] o := by
  refine ⟨?_, fun hl => ⟨by decide, (h.no hl).2⟩, fun hc => absurd hc (not_clean_of h h0 hn)⟩
  have := h.len
  have : 1 ≤ r.length := by cases r with | nil => exact absurd rfl h0 | cons a t => simp
  simp only [List.length_singleton]
  omega
theorem Inv.empty {l r o : List UInt8} (h : Inv l r o) (h0 : r ≠ []) (hn : ¬ Clean r) : Inv l [] o :=
  ⟨by have := h.len; simp; omega, fun hl => ⟨by simp, (h.no hl).2⟩, fun hc => absurd hc (not_clean_of h h0 hn)⟩

/-- THE ROUND THAT MOVES A SEGMENT. -/
theorem Inv.move {l r o : List UInt8} (h : Inv l r o) (k : Nat) (hk : k ≤ r.length) (hc : Clean r → r.drop k = [] ∨ Clean (r.drop k)) (h0 : r ≠ []) : Inv l (r.drop k) (o ++ r.take k) := by
  refine ⟨?_, fun hl => ⟨fun hm => (h.no hl).1 (List.mem_of_mem_drop hm), ?_⟩, fun hl => ?_⟩
  · have := h.len
    simp; omega
  · simp only [List.mem_append, not_or]
    exact ⟨(h.no hl).2, fun hm => (h.no hl).1 (List.mem_of_mem_take hm)⟩
  · obtain ⟨h1, h2⟩ := h.clean hl
    refine ⟨by rw [List.append_assoc, List.take_append_drop, h1], ?_⟩
    rcases h2 with h2 | h2
    · exact absurd h2 h0
    · exact hc h2

/-- The next slash behind the first byte. -/
theorem clean_next {c : UInt8} {r p t : List UInt8} (h : r = p ++ 47 :: t) (hp : (47 : UInt8) ∉ p) (hc : Clean (c :: r)) : Clean ((c :: r).drop (p.length + 1)) := by
  obtain ⟨r', e, hd⟩ := hc
  simp only [List.cons.injEq] at e
  obtain ⟨rfl, rfl⟩ := e
  rw [hasDot, h, dotFrom_seg p [] _ hp, dotFrom_slash] at hd
  simp only [Bool.or_eq_false_iff] at hd
  rw [List.drop_succ_cons, h, List.drop_left]
  exact ⟨t, rfl, hd.2⟩

theorem not_clean_head {c : UInt8} {r : List UInt8} (h : c ≠ 47) : ¬ Clean (c :: r) := by
  rintro ⟨r', e, _⟩
  simp only [List.cons.injEq] at e
  exact h e.1
theorem not_clean_dot (r : List UInt8) : ¬ Clean (47 :: 46 :: 47 :: r) := by
  rintro ⟨r', e, h⟩
  simp only [List.cons.injEq, true_and] at e
  subst e
  simp [hasDot, dotFrom, isDot] at h
theorem not_clean_dot' : ¬ Clean [47, 46] := by
  rintro ⟨r', e, h⟩
  simp only [List.cons.injEq, true_and] at e
  subst e
  simp [hasDot, dotFrom, isDot] at h
theorem not_clean_dots (r : List UInt8) : ¬ Clean (47 :: 46 :: 46 :: 47 :: r) := by
  rintro ⟨r', e, h⟩
  simp only [List.cons.injEq, true_and] at e
  subst e
  simp [hasDot, dotFrom, isDot] at h
theorem not_clean_dots' : ¬ Clean [47, 46, 46] := by
  rintro ⟨r', e, h⟩
  simp only [List.cons.injEq, true_and] at e
  subst e
  simp [hasDot, dotFrom, isDot] at h

/-! ### one text, one split -/

theorem Parts.unique {l s a p q f s' a' p' q' f' : List UInt8} (h : Parts l s a p q f) (h' : Parts l s' a' p' q' f') : s = s' ∧ a = a' ∧ p = p' ∧ q = q' ∧ f = f' := by
  have e := h.all.symm.trans h'.all
  have es : s = s' := by
    rcases h.sch with ⟨h1, h2⟩ | ⟨t, h2, _, _, h1, _⟩ <;> rcases h'.sch with ⟨k1, k2⟩ | ⟨t', k2, _, _, k1, _⟩
    · rw [h2, k2]
    · omega
    · omega
    · have hl : s.length = s'.length := by rw [h2, k2]; simp; omega
      exact (List.append_inj e hl).1
  subst es
  have e2 := List.append_cancel_left e
  have c1 := cut_unique (c := 35) (x := a ++ (p ++ q)) (y := a' ++ (p' ++ q')) (f := f) (g := f') (by simp [h.na, h.np, h.nq]) (by simp [h'.na, h'.np, h'.nq]) h.frag h'.frag (by simpa using e2)
  have c2 := cut_unique (c := 63) (x := a ++ p) (y := a' ++ p') (f := q) (g := q') (by simp [h.ma, h.mp]) (by simp [h'.ma, h'.mp]) h.query h'.query (by simpa using c1.1)
  have c3 : a = a' ∧ p = p' := by
    have e3 := c2.1
    rcases h.auth with ⟨rfl, h1⟩ | ⟨r, rfl, h1, h2⟩ <;> rcases h'.auth with ⟨rfl, k1⟩ | ⟨r', rfl, k1, k2⟩
    · exact ⟨rfl, by simpa using e3⟩
    · exact absurd ⟨_, by simpa using e3⟩ h1
    · exact absurd ⟨_, by simpa using e3.symm⟩ k1
    · have := cut_unique (c := 47) h1 k1 h2 k2 (by simpa using e3)
      exact ⟨by rw [this.1], this.2⟩
  exact ⟨rfl, c3.1, c3.2, c2.2, c1.2⟩

end Go.Proofs.Qxb6001155a.Plain
