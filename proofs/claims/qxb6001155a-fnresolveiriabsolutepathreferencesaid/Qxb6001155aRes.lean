/-
  THE PLAIN LAWS of seat b6001155a, 3: what a resolved reference is made of. Lists of bytes, no Go in sight.
-/
import Derived.Test.Qxb6001155aDots
namespace Go.Proofs.Qxb6001155a.Plain

/-- What 'ResolveIRI' says of its answer, where the reference bears no scheme. -/
def Res (b r res : List UInt8) : Prop :=
  ∃ bs ba bp bq bf ra rp rq rf ta tp tq : List UInt8, Parts b bs ba bp bq bf ∧ Parts r [] ra rp rq rf ∧ res = bs ++ ta ++ tp ++ tq ++ rf ∧
    (35 : UInt8) ∉ ta ∧ (35 : UInt8) ∉ tp ∧ (35 : UInt8) ∉ tq ∧ (ra = [] → rp = [] → rq = [] → ta = ba ∧ tp = bp ∧ tq = bq) ∧ (ra = [] → Clean rp → ta = ba ∧ tp = rp ∧ tq = rq)

theorem Parts.rel {l s a p q f : List UInt8} (h : Parts l s a p q f) (hs : schemeEnd l = -1) : s = [] := by
  rcases h.sch with ⟨_, h1⟩ | ⟨t, _, _, _, h1, _⟩
  · exact h1
  · omega

theorem clean_nil : ¬ Clean [] := by rintro ⟨r, e, _⟩; cases e

section
variable {b r bs ba bp bq bf rs ra rp rq rf tp : List UInt8}

theorem res_auth (hs : schemeEnd r = -1) (hb : Parts b bs ba bp bq bf) (hr : Parts r rs ra rp rq rf) (h1 : ra ≠ []) (hi : Inv rp [] tp) : Res b r (bs ++ ra ++ tp ++ rq ++ rf) := by
  obtain rfl := hr.rel hs
  exact ⟨bs, ba, bp, bq, bf, ra, rp, rq, rf, ra, tp, rq, hb, hr, rfl, hr.na, (hi.no hr.np).2, hr.nq, fun h => absurd h h1, fun h => absurd h h1⟩
theorem res_same (hs : schemeEnd r = -1) (hb : Parts b bs ba bp bq bf) (hr : Parts r rs ra rp rq rf) (h2 : rp = []) (h3 : rq = []) : Res b r (bs ++ ba ++ bp ++ bq ++ rf) := by
  obtain rfl := hr.rel hs
  subst h2 h3
  exact ⟨bs, ba, bp, bq, bf, ra, [], [], rf, ba, bp, bq, hb, hr, rfl, hb.na, hb.np, hb.nq, fun _ _ _ => ⟨rfl, rfl, rfl⟩, fun _ h => absurd h clean_nil⟩
theorem res_query (hs : schemeEnd r = -1) (hb : Parts b bs ba bp bq bf) (hr : Parts r rs ra rp rq rf) (h2 : rp = []) (h3 : rq ≠ []) : Res b r (bs ++ ba ++ bp ++ rq ++ rf) := by
  obtain rfl := hr.rel hs
  subst h2
  exact ⟨bs, ba, bp, bq, bf, ra, [], rq, rf, ba, bp, rq, hb, hr, rfl, hb.na, hb.np, hr.nq, fun _ _ h => absurd h h3, fun _ h => absurd h clean_nil⟩
theorem res_root (hs : schemeEnd r = -1) (hb : Parts b bs ba bp bq bf) (hr : Parts r rs ra rp rq rf) (h2 : rp ≠ []) (hi : Inv rp [] tp) : Res b r (bs ++ ba ++ tp ++ rq ++ rf) := by
  obtain rfl := hr.rel hs
  exact ⟨bs, ba, bp, bq, bf, ra, rp, rq, rf, ba, tp, rq, hb, hr, rfl, hb.na, (hi.no hr.np).2, hr.nq, fun _ h => absurd h h2, fun _ h => ⟨rfl, by simpa using (hi.clean h).1, rfl⟩⟩
theorem res_rel (hs : schemeEnd r = -1) (hb : Parts b bs ba bp bq bf) (hr : Parts r rs ra rp rq rf) (h2 : rp ≠ []) (h3 : ¬ Clean rp) (d : List UInt8) (hd : (35 : UInt8) ∉ d) (hi : Inv (d ++ rp) [] tp) : Res b r (bs ++ ba ++ tp ++ rq ++ rf) := by
  obtain rfl := hr.rel hs
  exact ⟨bs, ba, bp, bq, bf, ra, rp, rq, rf, ba, tp, rq, hb, hr, rfl, hb.na, (hi.no (by simp [hd, hr.np])).2, hr.nq, fun _ h => absurd h h2, fun _ h => absurd h h3⟩
end

/-! ### the three laws -/

/-- The answer has the base's scheme, and the reference's fragment. -/
theorem Res.scheme {b r res s a p q f : List UInt8} (h : Res b r res) (hb : 0 ≤ schemeEnd b) (hp : Parts b s a p q f) : 0 ≤ schemeEnd res ∧ ∀ s' a' p' q' f', Parts res s' a' p' q' f' → s' = s ∧ ∀ s2 a2 p2 q2 f2, Parts r s2 a2 p2 q2 f2 → f' = f2 := by
  obtain ⟨bs, ba, bp, bq, bf, ra, rp, rq, rf, ta, tp, tq, h1, h2, rfl, na, np, nq, _, _⟩ := h
  have e0 := (hp.unique h1).1
  subst e0
  have es : schemeEnd (s ++ ta ++ tp ++ tq ++ rf) = schemeEnd b := by
    have := (h1.sch_same hb (ta ++ tp ++ tq ++ rf)).1
    simpa using this
  refine ⟨by omega, fun s' a' p' q' f' h' => ?_⟩
  have hl' := h'.len (by omega)
  have hl := h1.len hb
  have hll : s.length = s'.length := by omega
  have e := h'.all
  have e' : s ++ (ta ++ tp ++ tq ++ rf) = s' ++ (a' ++ (p' ++ (q' ++ f'))) := by rw [← e]; simp
  obtain ⟨e1, e2⟩ := List.append_inj e' hll
  refine ⟨e1.symm, fun s2 a2 p2 q2 f2 hr => ?_⟩
  have e3 := (h2.unique hr).2.2.2.2
  have := cut_unique (c := 35) (x := ta ++ tp ++ tq) (y := a' ++ (p' ++ q')) (f := rf) (g := f') (by simp [na, np, nq]) (by simp [h'.na, h'.np, h'.nq]) h2.frag h'.frag (by simpa using e2)
  rw [← this.2, e3]

theorem parts_nil {s a p q f : List UInt8} (h : Parts [] s a p q f) : s = [] ∧ a = [] ∧ p = [] ∧ q = [] ∧ f = [] := by
  have := h.all
  simpa using this.symm

/-- A reference that is a fragment alone. -/
theorem parts_hash {t s a p q f : List UInt8} (h : Parts (35 :: t) s a p q f) : s = [] ∧ a = [] ∧ p = [] ∧ q = [] ∧ f = 35 :: t := by
  have hs := h.rel (schemeEnd_hash t)
  subst hs
  have e := h.all
  have c := cut_unique (c := 35) (x := []) (y := a ++ (p ++ q)) (f := 35 :: t) (g := f) (by simp) (by simp [h.na, h.np, h.nq]) (Or.inr ⟨t, rfl⟩) h.frag (by simpa using e)
  have c1 := c.1.symm
  simp at c1
  exact ⟨rfl, c1.1, c1.2.1, c1.2.2, c.2.symm⟩

/-- The text before the first '#'. -/
theorem doc_of {b d f0 s a p q f : List UInt8} (hd : Cut 35 b d f0) (h : Parts b s a p q f) : d = s ++ a ++ p ++ q := by
  obtain ⟨e, hn, hf⟩ := hd
  have := cut_unique (c := 35) (x := d) (y := s ++ a ++ p ++ q) (f := f0) (g := f) hn (by simp [h.sch_no, h.na, h.np, h.nq]) hf h.frag (by rw [← e, h.all]; simp)
  exact this.1

theorem Res.empty {b res d f0 : List UInt8} (h : Res b [] res) (hd : Cut 35 b d f0) : res = d := by
  obtain ⟨bs, ba, bp, bq, bf, ra, rp, rq, rf, ta, tp, tq, h1, h2, rfl, _, _, _, k, _⟩ := h
  obtain ⟨_, rfl, rfl, rfl, rfl⟩ := parts_nil h2
  obtain ⟨rfl, rfl, rfl⟩ := k rfl rfl rfl
  rw [doc_of hd h1]; simp

theorem Res.hash {b t res d f0 : List UInt8} (h : Res b (35 :: t) res) (hd : Cut 35 b d f0) : res = d ++ 35 :: t := by
  obtain ⟨bs, ba, bp, bq, bf, ra, rp, rq, rf, ta, tp, tq, h1, h2, rfl, _, _, _, k, _⟩ := h
  obtain ⟨_, rfl, rfl, rfl, rfl⟩ := parts_hash h2
  obtain ⟨rfl, rfl, rfl⟩ := k rfl rfl rfl
  rw [doc_of hd h1]

/-- A clean rooted path alone. -/
theorem parts_path {t s a p q f : List UInt8} (h : Parts (47 :: t) s a p q f) (h1 : (63 : UInt8) ∉ t) (h2 : (35 : UInt8) ∉ t) (h3 : ∀ u, t ≠ 47 :: u) : a = [] ∧ p = 47 :: t ∧ q = [] ∧ f = [] := by
  have hs := h.rel (schemeEnd_slash t)
  subst hs
  have e := h.all
  have c := cut_unique (c := 35) (x := 47 :: t) (y := a ++ (p ++ q)) (f := []) (g := f) (by simp [h2]) (by simp [h.na, h.np, h.nq]) (Or.inl rfl) h.frag (by simpa using e)
  have c2 := cut_unique (c := 63) (x := 47 :: t) (y := a ++ p) (f := []) (g := q) (by simp [h1]) (by simp [h.ma, h.mp]) (Or.inl rfl) h.query (by simpa using c.1)
  rcases h.auth with ⟨rfl, _⟩ | ⟨r, rfl, _, _⟩
  · exact ⟨rfl, by simpa using c2.1.symm, c2.2.symm, c.2.symm⟩
  · have := c2.1
    simp at this
    exact absurd this (h3 _)

theorem Res.path {b t res s a p q f : List UInt8} (h : Res b (47 :: t) res) (h1 : (63 : UInt8) ∉ t) (h2 : (35 : UInt8) ∉ t) (h3 : ∀ u, t ≠ 47 :: u) (hc : Clean (47 :: t)) (hb : Parts b s a p q f) : res = s ++ a ++ 47 :: t := by
  obtain ⟨bs, ba, bp, bq, bf, ra, rp, rq, rf, ta, tp, tq, k1, k2, rfl, _, _, _, _, k⟩ := h
  obtain ⟨rfl, rfl, rfl, rfl⟩ := parts_path k2 h1 h2 h3
  obtain ⟨rfl, rfl, rfl⟩ := k rfl hc
  obtain ⟨rfl, rfl, _⟩ := hb.unique k1
  simp

end Go.Proofs.Qxb6001155a.Plain
