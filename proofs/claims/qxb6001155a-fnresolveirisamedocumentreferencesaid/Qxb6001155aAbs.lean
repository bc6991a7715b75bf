import Derived.Test.Qxb6001155aResolve
namespace Go.Proofs.Qxb6001155a
open Go.RowKit
open Plain (schemeEnd Parts Inv Res)

theorem se_or (l : List UInt8) : schemeEnd l = -1 ∨ 0 ≤ schemeEnd l := by
  rcases Plain.schemeEnd_spec l with h | ⟨p, _, _, _, _, h, _⟩
  · exact Or.inl h
  · right; omega
theorem bne_lists {a b : ByteArray} (h : a.data.toList = b.data.toList) : (a.toList == b.toList) = true := beq_lists h

set_option maxHeartbeats 1000000 in
set_option maxRecDepth 100000 in
theorem abs_walk (a0 a1 : ByteArray) (w : World) (hb0 : a0.size ≤ 65536) (hb1 : a1.size ≤ 65536) :
    Calls Try.prog 8 #[.string a0, .string a1] w fun e w' => e = .returned (.bool true) ∧ Below w.heap.size w w' := by
  have m0 : a0.size ≤ maxLen := by unfold maxLen; omega
  have m1 : a1.size ≤ maxLen := by unfold maxLen; omega
  have i0 : (a0.size : Int) ≤ 65536 := by omega
  have i1 : (a1.size : Int) ≤ 65536 := by omega
  rcases se_or a0.data.toList with h0 | h0
  · go_enter Try.func8, Try.ntmps8
    go_wp2_with (first | (go_at_call 22; go_in) | (go_at_call 14; refine (hasScheme_any _ _ m0).mono ?_; rintro e w' ⟨rfl, rfl⟩))
    go_ret
    exact ⟨rfl, Below.refl _ _⟩
  · rcases se_or a1.data.toList with h1 | h1
    · have H1 : Hid (schemeEnd a1.data.toList = -1) := h1
      go_enter Try.func8, Try.ntmps8
      go_wp2_with (first | (go_at_call 22; go_in) | (go_at_call 14; refine (hasScheme_any _ _ m0).mono ?_; rintro e w' ⟨rfl, rfl⟩) | (go_at_call 23; refine (resolve_no a0 a1 _ (by omega) (by omega) H1.out).mono ?_))
      rintro e w1 ⟨⟨res, rfl, hres, hsz⟩, hb⟩
      have m2 : res.size ≤ maxLen := by unfold maxLen; omega
      have HR : Hid (Res a0.data.toList a1.data.toList res.data.toList) := hres
      have HB : Hid (Below w'.heap.size w' w1) := hb
      obtain ⟨pbs, pba, pbp, pbq, pbf, hpp⟩ : ∃ s a p q f, Parts a0.data.toList s a p q f := by
        obtain ⟨bs, ba, bp, bq, bf, _, _, _, _, _, _, _, k, _⟩ := hres
        exact ⟨bs, ba, bp, bq, bf, k⟩
      have h2 : 0 ≤ schemeEnd res.data.toList := (hres.scheme h0 hpp).1
      clear hres hb hpp
      go_wp2_with fail
      refine (hasScheme_any res _ m2).mono ?_
      rintro e w2 ⟨rfl, rfl⟩
      go_wp2_with fail
      refine (resolve_yes a0 res _ m2 h2).mono ?_
      rintro e w3 ⟨rfl, rfl⟩
      go_wp2_with fail
      refine (hasScheme_any a1 _ m1).mono ?_
      rintro e w4 ⟨rfl, rfl⟩
      go_wp2_with fail
      refine (zzSplit_any a0 _ m0).mono ?_
      rintro e w5 ⟨bs, ba, bp, bq, bf, rfl, hp1, hb5⟩
      have P1 : Hid (Parts a0.data.toList bs.data.toList ba.data.toList bp.data.toList bq.data.toList bf.data.toList) := hp1
      have HB5 : Hid (Below w4.heap.size w4 w5) := hb5
      clear hp1 hb5
      go_wp2_with fail
      refine (zzSplit_any res _ m2).mono ?_
      rintro e w6 ⟨rs, ra, rp, rq, rf, rfl, hp1, hb5⟩
      have P2 : Hid (Parts res.data.toList rs.data.toList ra.data.toList rp.data.toList rq.data.toList rf.data.toList) := hp1
      have HB6 : Hid (Below w5.heap.size w5 w6) := hb5
      clear hp1 hb5
      go_wp2_with fail
      refine (zzSplit_any a1 _ m1).mono ?_
      rintro e w7 ⟨fs, fa, fp, fq, ff, rfl, hp1, hb5⟩
      have P3 : Hid (Parts a1.data.toList fs.data.toList fa.data.toList fp.data.toList fq.data.toList ff.data.toList) := hp1
      have HB7 : Hid (Below w6.heap.size w6 w7) := hb5
      clear hp1 hb5
      have k1 := (HR.out.scheme h0 P1.out).2 _ _ _ _ _ P2.out
      have k2 : (rs.toList == bs.toList) = true := beq_lists k1.1
      have k3 : (rf.toList == ff.toList) = true := beq_lists (k1.2 _ _ _ _ _ P3.out)
      clear k1
      go_wp2_with fail
      go_ret
      have z4 := HB.out.size
      have z5 := HB5.out.size
      have z6 := HB6.out.size
      exact ⟨rfl, ((HB.out.trans (HB5.out.mono z4)).trans (HB6.out.mono (by omega))).trans (HB7.out.mono (by omega))⟩
    · go_enter Try.func8, Try.ntmps8
      go_wp2_with (first | (go_at_call 22; go_in) | (go_at_call_of 14 (Value.string a0); refine (hasScheme_any _ _ m0).mono ?_; rintro e w' ⟨rfl, rfl⟩) | (go_at_call_of 14 (Value.string a1); refine (hasScheme_any _ _ m1).mono ?_; rintro e w' ⟨rfl, rfl⟩) | (go_at_call 23; refine (resolve_yes a0 a1 _ m1 h1).mono ?_; rintro e w' ⟨rfl, rfl⟩))
      go_ret
      exact ⟨rfl, Below.refl _ _⟩
end Go.Proofs.Qxb6001155a
