import Derived.Test.Qxb6001155aRemove
import Derived.Test.Qxb6001155aRes
import Derived.BigQuiet
import Derived.Deep.QuietTactic
import Derived.Deep.RegionWith
namespace Go.Proofs.Qxb6001155a
open Go.RowKit
open Plain (schemeEnd Parts Inv Res)

/-- Among the first k bytes: the last place of c, or -1. -/
def lastIx (s : ByteArray) (c : Int) : Nat → Int
  | 0 => -1
  | k + 1 => if ((s.data.toList.getD k 0).toNat : Int) = c then (k : Int) else lastIx s c k
theorem lastIx_bd (s : ByteArray) (c : Int) : ∀ k, -1 ≤ lastIx s c k ∧ lastIx s c k < k
  | 0 => ⟨Int.le_refl _, by unfold lastIx; omega⟩
  | k + 1 => by
    have := lastIx_bd s c k
    unfold lastIx
    split <;> omega
theorem getD_at (s : ByteArray) (k : Nat) (h : k < s.size) : s.data.toList.getD k 0 = s[k] := by
  have hl : k < s.data.toList.length := by rw [len_size]; exact h
  rw [List.getD, List.getElem?_eq_getElem hl]
  rfl
theorem lastIx_hit (s : ByteArray) (c : Int) (k : Nat) (h : k < s.size) (hc : ((s[k].toNat : Int) == c) = true) : lastIx s c (k + 1) = k := by
  unfold lastIx
  rw [getD_at s k h, if_pos (by simpa using hc)]
theorem lastIx_miss (s : ByteArray) (c : Int) (k : Nat) (h : k < s.size) (hc : ((s[k].toNat : Int) == c) = false) : lastIx s c (k + 1) = lastIx s c k := by
  rw [lastIx, getD_at s k h, if_neg (by simpa using hc)]

set_option maxHeartbeats 400000 in
theorem lastIx_any (s : ByteArray) (c : Int) (w : World) (hs : s.size ≤ maxLen) :
    Calls Try.prog 30 #[.string s, .int .u8 c] w fun e w' => e = .returned (.int .i64 (lastIx s c s.size)) ∧ w' = w := by
  unfold maxLen at hs
  go_enter Try.func30, Try.ntmps30
  go_wp2
  go_loop [5] (fun i => ∃ k : Nat, k ≤ s.size ∧ i = .int .i64 ((k : Int) - 1) ∧ lastIx s c k = lastIx s c s.size) (fun i => (intOf i + 1).toNat)
  case atStart => exact ⟨s.size, Nat.le_refl _, rfl, rfl⟩
  case round =>
    obtain ⟨k, hk, rfl, hl⟩ := hrel
    have HL : Hid (lastIx s c k = lastIx s c s.size) := hl
    clear hl
    by_cases h0 : k = 0
    · have h0' : ¬ (0 : Int) ≤ (k : Int) - 1 := by omega
      have H0 : Hid (k = 0) := h0
      clear h0
      go_wp2
      go_ret
      exact ⟨ret_int (by rw [← HL.out, H0.out]; rfl), rfl⟩
    · obtain ⟨j, rfl⟩ : ∃ j, k = j + 1 := ⟨k - 1, by omega⟩
      have e1 : (((j + 1 : Nat) : Int) - 1) = (j : Int) := by omega
      rw [e1]
      clear h0 e1
      have hj : j < s.size := by omega
      cases he : ((s[j].toNat : Int) == c)
      · go_wp2
        go_round
        case rel => exact ⟨j, by omega, rfl, by rw [← HL.out, lastIx_miss s c j hj he]⟩
        case measure => simp [intOf]
      · go_wp2
        go_ret
        exact ⟨ret_int (by rw [← HL.out, lastIx_hit s c j hj he]), rfl⟩

theorem li47 (s : ByteArray) (m : Int) (w : World) (hs : s.size ≤ 1000000) (hm : Hid (lastIx s 47 s.size = m)) : Calls Try.prog 30 #[.string s, .int .u8 47] w fun e w' => e = .returned (.int .i64 m) ∧ w' = w := by
  rw [← hm.out]
  exact lastIx_any s 47 w (by unfold maxLen; omega)

theorem rd (s : ByteArray) (n : Nat) (w : World) (hs : s.size ≤ n) (hn : n ≤ 140737488355328) :
    Calls Try.prog 29 #[.string s] w fun e w' => ∃ o : ByteArray, e = .returned (.string o) ∧ Hid (Inv s.data.toList [] o.data.toList) ∧ o.size ≤ n ∧ Below w.heap.size w w' := by
  refine (removeDot_any s w (by omega)).mono ?_
  rintro e w' ⟨⟨o, rfl, hi⟩, hb⟩
  refine ⟨o, rfl, hi, ?_, hb⟩
  have := hi.len
  rw [len_size, len_size] at this
  simp at this
  omega

theorem isE_yes {s : ByteArray} (h : s.toList.isEmpty = true) : s.data.toList = [] := by rw [Lib.toList_data] at h; simpa using h

theorem join_data (a b c d e : ByteArray) : (a ++ b ++ c ++ d ++ e).data.toList = a.data.toList ++ b.data.toList ++ c.data.toList ++ d.data.toList ++ e.data.toList := by
  rw [append_data, append_data, append_data, append_data]

theorem not_clean_ne {s : ByteArray} (h : 0 < s.size) (hc : ((s[0].toNat : Int) == 47) = false) : ¬ Plain.Clean s.data.toList := by
  rintro ⟨t, e, _⟩
  have : s[0] = s.data.toList[0]'(by simpa using h) := rfl
  have h2 : s[0] = 47 := by rw [this]; simp [e]
  rw [h2] at hc
  exact absurd hc (by decide)

set_option maxHeartbeats 1000000 in
set_option maxRecDepth 100000 in
theorem resolve_no (b r : ByteArray) (w : World) (hb : b.size ≤ 1000000) (hr : r.size ≤ 1000000) (hs : schemeEnd r.data.toList = -1) :
    Calls Try.prog 23 #[.string b, .string r] w fun e w' => (∃ res : ByteArray, e = .returned (.string res) ∧ Res b.data.toList r.data.toList res.data.toList ∧ res.size ≤ 4000000) ∧ Below w.heap.size w w' := by
  have mb : b.size ≤ maxLen := by unfold maxLen; omega
  have mr : r.size ≤ maxLen := by unfold maxLen; omega
  have HS : Hid (schemeEnd r.data.toList = -1) := hs
  go_enter Try.func23, Try.ntmps23
  go_wp2_with (go_at_call 14; refine (hasScheme_any _ _ mr).mono ?_; rintro e w' ⟨rfl, rfl⟩)
  refine (splitIRI_any b _ mb).mono ?_
  rintro e w1 ⟨bs, ba, bp, bq, bf, rfl, hpb, hb1⟩
  have sb := parts_size hpb hb
  go_wp2_with fail
  refine (splitIRI_any r _ mr).mono ?_
  rintro e w2 ⟨rs, ra, rp, rq, rf, rfl, hpr, hb2⟩
  have sr := parts_size hpr hr
  have HPB : Hid (Parts b.data.toList bs.data.toList ba.data.toList bp.data.toList bq.data.toList bf.data.toList) := hpb
  have HPR : Hid (Parts r.data.toList rs.data.toList ra.data.toList rp.data.toList rq.data.toList rf.data.toList) := hpr
  have HW : Hid (Below w'.heap.size w' w2) := hb1.trans (hb2.mono hb1.size)
  have hz0 : w'.heap.size ≤ w2.heap.size := Nat.le_trans hb1.size hb2.size
  have HW3 : Hid (Below w'.heap.size w' (((w2.alloc (B31 bs ba bp bq bf)).alloc (B31 rs ra rp rq rf)).alloc (B31 bs ba ⟨#[]⟩ rq rf))) :=
    (((HW.out.alloc (by omega) _).alloc (by simp; omega) _).alloc (by simp; omega) _)
  clear hpb hpr hb1 hb2 hs
  cases h1 : ra.toList.isEmpty
  case false =>
    go_wp2_with fail
    go_region_with (go_at_call 29; refine (rd _ 1000000 _ (by omega) (by omega)).mono ?_; rintro e w3 ⟨tp, rfl, hinv, hts, hb3⟩; obtain ⟨hc, hf⟩ := bcell hb3)
    all_goals
      go_wp2
      go_ret
      refine ⟨⟨_, rfl, by rw [join_data]; exact Plain.res_auth HS.out HPB.out HPR.out (ne_of_isEmpty h1) hinv.out, by simp; omega⟩, ?_⟩
      first
        | exact (((HW3.out.trans (hb3.mono (by simp; omega))).setCell (by simp; omega) _).setCell (by simp; omega) _)
        | exact (((HW3.out.drew.trans (hb3.mono (by simp; omega))).setCell (by simp; omega) _).setCell (by simp; omega) _)
        | exact (((HW3.out.drew.trans (hb3.mono (by simp; omega))).setCell (by simp; omega) _).setCell (by simp; omega) _).drew
        | exact (((HW3.out.trans (hb3.mono (by simp; omega))).setCell (by simp; omega) _).setCell (by simp; omega) _).drew
  case true =>
    have HA : Hid (ra.data.toList = []) := isE_yes h1
    cases h2 : rp.toList.isEmpty
    case true =>
      have HP : Hid (rp.data.toList = []) := isE_yes h2
      cases h3 : rq.toList.isEmpty
      case true =>
        go_wp2_with fail
        go_ret
        refine ⟨⟨_, rfl, by rw [join_data]; exact Plain.res_same HS.out HPB.out HPR.out HP.out (isE_yes h3), by simp; omega⟩, ?_⟩
        exact (((HW.out.alloc (by omega) _).alloc (by simp; omega) _).alloc (by simp; omega) _)
      case false =>
        go_wp2_with fail
        go_ret
        refine ⟨⟨_, rfl, by rw [join_data]; exact Plain.res_query HS.out HPB.out HPR.out HP.out (ne_of_isEmpty h3), by simp; omega⟩, ?_⟩
        exact (((HW.out.alloc (by omega) _).alloc (by simp; omega) _).alloc (by simp; omega) _)
    case false =>
      have HP : Hid (rp.data.toList ≠ []) := ne_of_isEmpty h2
      have hp1 : 0 < rp.size := by rw [← len_size]; exact List.length_pos_iff.2 HP.out
      cases h3 : ((rp[0].toNat : Int) == 47)
      case true =>
        go_wp2_with (go_at_call 29; refine (rd _ 1000000 _ (by omega) (by omega)).mono ?_; rintro e w3 ⟨tp, rfl, hinv, hts, hb3⟩; obtain ⟨hc, hf⟩ := bcell hb3)
        go_ret
        refine ⟨⟨_, rfl, by rw [join_data]; exact Plain.res_root HS.out HPB.out HPR.out HP.out hinv.out, by simp; omega⟩, ?_⟩
        exact ((HW3.out.trans (hb3.mono (by simp; omega))).setCell (by simp; omega) _)
      case false =>
        have HC := not_clean_ne hp1 h3
        have HC2 : Hid (¬ Plain.Clean rp.data.toList) := HC
        clear HC
        cases h4 : ba.toList.isEmpty
        case true =>
          have mbp : bp.size ≤ 1000000 := by omega
          obtain ⟨m, hm⟩ : ∃ m, m = lastIx bp 47 bp.size := ⟨_, rfl⟩
          have HM : Hid (lastIx bp 47 bp.size = m) := hm.symm
          have hbd := lastIx_bd bp 47 bp.size
          rw [← hm] at hbd
          clear hm
          have hm1 : -1 ≤ m := hbd.1
          have hm2 : m + 1 ≤ bp.size := by omega
          have hm3 : 0 ≤ m + 1 := by omega
          have hm4 : m ≤ 1000000 := by omega
          clear hbd
          go_wp2_with fail
          go_quiet ((go_at_call 30; exact Calls.quiet_of_same (li47 _ _ _ mbp HM)))
          go_wp2_with (go_at_call 29; refine (rd _ 2000000 _ (by rw [ByteArray.size_append, ByteArray.size_extract]; omega) (by omega)).mono ?_; rintro e w3 ⟨tp, rfl, hinv, hts, hb3⟩; obtain ⟨hc, hf⟩ := bcell hb3)
          go_ret
          refine ⟨⟨_, rfl, by rw [join_data]; exact Plain.res_rel HS.out HPB.out HPR.out HP.out HC2.out (bp.extract 0 (m + 1).toNat).data.toList (by rw [ext0_data]; exact fun hm => HPB.out.np (List.mem_of_mem_take hm)) (by have := hinv.out; rw [append_data] at this; exact this), by simp; omega⟩, ?_⟩
          exact (((below_drewN HW3.out _).trans (hb3.mono (by simp; omega))).setCell (by simp; omega) _)
        case false =>
          cases h5 : bp.toList.isEmpty
          case true =>
            go_wp2_with (go_at_call 29; refine (rd _ 2000000 _ (by rw [ByteArray.size_append, one47]; omega) (by omega)).mono ?_; rintro e w3 ⟨tp, rfl, hinv, hts, hb3⟩; obtain ⟨hc, hf⟩ := bcell hb3)
            go_ret
            refine ⟨⟨_, rfl, by rw [join_data]; exact Plain.res_rel HS.out HPB.out HPR.out HP.out HC2.out [47] (by decide) (by have := hinv.out; rw [append_data] at this; exact this), by simp; omega⟩, ?_⟩
            exact ((HW3.out.trans (hb3.mono (by simp; omega))).setCell (by simp; omega) _)
          case false =>
            have mbp : bp.size ≤ 1000000 := by omega
            obtain ⟨m, hm⟩ : ∃ m, m = lastIx bp 47 bp.size := ⟨_, rfl⟩
            have HM : Hid (lastIx bp 47 bp.size = m) := hm.symm
            have hbd := lastIx_bd bp 47 bp.size
            rw [← hm] at hbd
            clear hm
            have hm1 : -1 ≤ m := hbd.1
            have hm2 : m + 1 ≤ bp.size := by omega
            have hm3 : 0 ≤ m + 1 := by omega
            have hm4 : m ≤ 1000000 := by omega
            clear hbd
            go_wp2_with fail
            go_quiet ((go_at_call 30; exact Calls.quiet_of_same (li47 _ _ _ mbp HM)))
            go_wp2_with (go_at_call 29; refine (rd _ 2000000 _ (by rw [ByteArray.size_append, ByteArray.size_extract]; omega) (by omega)).mono ?_; rintro e w3 ⟨tp, rfl, hinv, hts, hb3⟩; obtain ⟨hc, hf⟩ := bcell hb3)
            go_ret
            refine ⟨⟨_, rfl, by rw [join_data]; exact Plain.res_rel HS.out HPB.out HPR.out HP.out HC2.out (bp.extract 0 (m + 1).toNat).data.toList (by rw [ext0_data]; exact fun hm => HPB.out.np (List.mem_of_mem_take hm)) (by have := hinv.out; rw [append_data] at this; exact this), by simp; omega⟩, ?_⟩
            exact (((below_drewN HW3.out _).trans (hb3.mono (by simp; omega))).setCell (by simp; omega) _)

theorem resolve_yes (b r : ByteArray) (w : World) (hr : r.size ≤ maxLen) (hs : 0 ≤ schemeEnd r.data.toList) :
    Calls Try.prog 23 #[.string b, .string r] w fun e w' => e = .returned (.string r) ∧ w' = w := by
  go_enter Try.func23, Try.ntmps23
  go_wp2_with (go_at_call 14; refine (hasScheme_any _ _ hr).mono ?_; rintro e w' ⟨rfl, rfl⟩)
  go_ret
  exact ⟨rfl, rfl⟩

end Go.Proofs.Qxb6001155a
