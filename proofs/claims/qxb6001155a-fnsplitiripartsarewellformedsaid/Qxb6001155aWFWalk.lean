import Derived.Test.Qxb6001155aSmall
import Derived.Deep.DeepCutAuto
import Derived.Deep.RegionWith
namespace Go.Proofs.Qxb6001155a
open Go.RowKit
open Plain (schemeEnd Parts)

theorem isEmpty_of {s : ByteArray} (h : s.data.toList = []) : s.toList.isEmpty = true := by rw [Lib.toList_data, h]; rfl
theorem isEmpty_not {s : ByteArray} {c : UInt8} {l : List UInt8} (h : s.data.toList = c :: l) : s.toList.isEmpty = false := by rw [Lib.toList_data, h]; rfl
theorem isEmpty_not' {s : ByteArray} (h : s.data.toList ≠ []) : s.toList.isEmpty = false := by rw [Lib.toList_data]; simpa using h
theorem at0 {s : ByteArray} {c : UInt8} {l : List UInt8} (h : s.data.toList = c :: l) (hs : 0 < s.size) : s[0] = c := by
  have : s[0] = s.data.toList[0]'(by simpa using hs) := rfl
  rw [this]; simp [h]
theorem at1 {s : ByteArray} {c d : UInt8} {l : List UInt8} (h : s.data.toList = c :: d :: l) (hs : 1 < s.size) : s[1] = d := by
  have : s[1] = s.data.toList[1]'(by simpa using hs) := rfl
  rw [this]; simp [h]
theorem size_of {s : ByteArray} {l : List UInt8} (h : s.data.toList = l) : s.size = l.length := by rw [← len_size, h]

theorem idx_colon {t : List UInt8} (ht : ∀ c ∈ t, Plain.schemeByte c = true) : Lib.indexByte (t ++ [58]) 58 = t.length := by
  have hn : (58 : UInt8) ∉ t := fun h => (Plain.schemeByte_no (ht _ h)).2.2.1 rfl
  rcases Plain.indexByte_spec 58 (t ++ [58]) with ⟨_, h2⟩ | ⟨p, r, h1, h2, h3⟩
  · exact absurd (by simp) h2
  · rw [h3, (Plain.cut_unique h2 hn (Or.inr ⟨r, rfl⟩) (Or.inr ⟨[], rfl⟩) h1.symm).1]

set_option maxHeartbeats 1000000 in
set_option maxRecDepth 100000 in
theorem wf_walk (a0 : ByteArray) (w0 : a0.size ≤ maxLen) (w : World) (hb : a0.size ≤ 65536) :
    Calls Try.prog 4 #[.string a0] w fun e w' => e = .returned (.bool true) ∧ Below w.heap.size w w' := by
  have hb1 : ¬ (1048576 : Int) < a0.size := by omega
  have hb2 : ¬ (65536 : Int) < a0.size := by omega
  go_enter Try.func4, Try.ntmps4
  go_upto_if 26 with (first | (go_at_call 13; go_in) | (go_at_call 12; refine (zzSplit_any _ _ w0).mono ?_; rintro e w' ⟨sc, a, p, q, f, rfl, hp, hbel⟩; have hsz := parts_size hp hb) | (go_at_call 14; refine (hasScheme_any _ _ w0).mono ?_; rintro e w' ⟨rfl, rfl⟩))
  have HP : Hid (Parts a0.data.toList sc.data.toList a.data.toList p.data.toList q.data.toList f.data.toList) := hp
  clear hp
  have HB : Hid (Below w.heap.size w w') := hbel
  clear hbel
  have ms : sc.size ≤ maxLen := by unfold maxLen; omega
  have ma : a.size ≤ maxLen := by unfold maxLen; omega
  have mp : p.size ≤ maxLen := by unfold maxLen; omega
  have mq : q.size ≤ maxLen := by unfold maxLen; omega
  go_cut [] (fun wx => wx = w')
  case first =>
    rcases HP.out.sch with ⟨h1, h2⟩ | ⟨t, h2, _, _, h1, _⟩
    · have h3 := isEmpty_of h2
      have h4 : decide (0 ≤ schemeEnd a0.data.toList) = false := by rw [h1]; rfl
      clear h2
      simp only [h3, h4, Bool.not_true, beq_self_eq_true]
      go_wp2
      go_meet
      case rel => rfl
    · have h3 : sc.toList.isEmpty = false := isEmpty_not' (by rw [h2]; simp)
      have h4 : decide (0 ≤ schemeEnd a0.data.toList) = true := by rw [h1]; simp
      clear h2 h1
      simp only [h3, h4, Bool.not_true, Bool.not_false, beq_self_eq_true]
      go_wp2
      go_meet
      case rel => rfl
  case rest =>
  subst hcut
  go_upto_if 28 with fail
  go_cut [] (fun wx => wx = wc)
  case first =>
    rcases HP.out.sch with ⟨h1, h2⟩ | ⟨t, h2, h5, _, h1, h6⟩
    · have h3 := isEmpty_of h2
      clear h2
      simp only [h3, Bool.not_true]
      go_wp2
      go_meet
      case rel => rfl
    · have h3 : sc.toList.isEmpty = false := isEmpty_not' (by rw [h2]; simp)
      have h4 : Lib.indexByte sc.data.toList 58 = (sc.size : Int) - 1 := by rw [h2, idx_colon h5, size_of h2]; simp
      have h7 : 0 ≤ schemeEnd sc.data.toList := by have := h6 []; rw [List.append_nil] at this; omega
      have h8 : 1 ≤ sc.size := by rw [size_of h2]; simp
      clear h2 h1 h5 h6
      simp only [h3, Bool.not_false]
      go_wp2_with (first | (go_at_call 15; refine (fi58 _ _ ms).mono ?_; rintro e w' ⟨rfl, rfl⟩) | (go_at_call 14; refine (hasScheme_any _ _ ms).mono ?_; rintro e w' ⟨rfl, rfl⟩))
      go_meet
      case rel => rfl
  case rest =>
  subst hcut
  go_upto_if 41 with fail
  go_cut [] (fun wx => wx = wc)
  case first =>
    rcases HP.out.auth with ⟨h1, h2⟩ | ⟨r, h1, h2, h3⟩
    · have h3 := isEmpty_of h1
      clear h1
      simp only [h3, Bool.not_true]
      by_cases hl : 2 ≤ p.size
      · have hl' : decide ((2 : Int) ≤ p.size) = true := by simp; omega
        by_cases hz : (p[0].toNat : Int) = 47
        · have hz' : ((p[0].toNat : Int) == 47) = true := by simpa using hz
          have ho : ((p[1].toNat : Int) == 47) = false := by
            have hz2 : p[0] = 47 := (byte_eq _ 47).1 hz
            have hd := drop_cons p 0 (by omega)
            have hd1 := drop_cons p 1 (by omega)
            rw [List.drop_zero] at hd
            rw [hd1] at hd
            rw [beq_eq_false_iff_ne]
            intro he
            have he2 : p[1] = 47 := (byte_eq _ 47).1 he
            exact h2 ⟨_, by rw [hd, hz2, he2]⟩
          clear h2 hz
          go_wp2
          go_meet
          case rel => rfl
        · have hz' : ((p[0].toNat : Int) == 47) = false := by simpa using hz
          clear h2 hz
          go_wp2
          go_meet
          case rel => rfl
      · have hl' : decide ((2 : Int) ≤ p.size) = false := by simp; omega
        clear h2
        go_wp2
        go_meet
        case rel => rfl
    · have h4 := isEmpty_not h1
      have h5 : 2 ≤ a.size := by rw [size_of h1]; simp
      have h6 := at0 h1 (by omega)
      have h7 := at1 h1 (by omega)
      have h8 : hasB (List.take (a.size - 2) (List.drop 2 a.data.toList)) 47 = false := by
        rw [List.take_of_length_le (by simp), h1]; exact hasB_no h2
      have h9 := hasB_no HP.out.na
      have h10 := hasB_no HP.out.ma
      have m2 : (a.extract 2 a.size).size ≤ maxLen := by unfold maxLen; simp; omega
      clear h1 h2
      simp only [h4, Bool.not_false]
      have h3' : (p.toList.isEmpty = true) ∨ (p.toList.isEmpty = false ∧ ∃ hp : 0 < p.size, p[0] = 47) := by
        rcases h3 with h3 | ⟨t, h3⟩
        · exact Or.inl (isEmpty_of h3)
        · have hp : 0 < p.size := by rw [size_of h3]; simp
          exact Or.inr ⟨isEmpty_not h3, hp, at0 h3 hp⟩
      clear h3
      rcases h3' with h3 | ⟨h3, hps, hp0⟩
      · go_wp2_with (first | (go_at_call_of 16 (Value.int .u8 47); refine (hb47 _ _ m2).mono ?_; rintro e w' ⟨rfl, rfl⟩) | (go_at_call_of 16 (Value.int .u8 63); refine (hb63 _ _ ma).mono ?_; rintro e w' ⟨rfl, rfl⟩) | (go_at_call_of 16 (Value.int .u8 35); refine (hb35 _ _ ma).mono ?_; rintro e w' ⟨rfl, rfl⟩))
        go_meet
        case rel => rfl
      · go_wp2_with (first | (go_at_call_of 16 (Value.int .u8 47); refine (hb47 _ _ m2).mono ?_; rintro e w' ⟨rfl, rfl⟩) | (go_at_call_of 16 (Value.int .u8 63); refine (hb63 _ _ ma).mono ?_; rintro e w' ⟨rfl, rfl⟩) | (go_at_call_of 16 (Value.int .u8 35); refine (hb35 _ _ ma).mono ?_; rintro e w' ⟨rfl, rfl⟩))
        go_meet
        case rel => rfl
  case rest =>
  subst hcut
  have k1 := hasB_no HP.out.mp
  have k2 := hasB_no HP.out.np
  go_upto_if 93 with (first | (go_at_call_of 16 (Value.int .u8 63); refine (hb63 _ _ mp).mono ?_; rintro e w' ⟨rfl, rfl⟩) | (go_at_call_of 16 (Value.int .u8 35); refine (hb35 _ _ mp).mono ?_; rintro e w' ⟨rfl, rfl⟩))
  clear k1 k2
  go_cut [] (fun wx => wx = w')
  case first =>
    rcases HP.out.query with h1 | ⟨r, h1⟩
    · have h3 := isEmpty_of h1
      simp only [h3, Bool.not_true]
      clear h1
      go_wp2
      go_meet
      case rel => rfl
    · have h3 := isEmpty_not h1
      have h5 : 1 ≤ q.size := by rw [size_of h1]; simp
      have h6 := at0 h1 (by omega)
      have h7 := hasB_no HP.out.nq
      simp only [h3, Bool.not_false]
      clear h1
      go_wp2_with (go_at_call_of 16 (Value.int .u8 35); refine (hb35 _ _ mq).mono ?_; rintro e w' ⟨rfl, rfl⟩)
      go_meet
      case rel => rfl
  case rest =>
  subst hcut
  rcases HP.out.frag with h1 | ⟨r, h1⟩
  · have h3 := isEmpty_of h1
    clear h1
    go_wp2
    go_ret
    exact ⟨rfl, HB.out⟩
  · have h3 := isEmpty_not h1
    have h5 : 1 ≤ f.size := by rw [size_of h1]; simp
    have h6 := at0 h1 (by omega)
    clear h1
    go_wp2
    go_ret
    exact ⟨rfl, HB.out⟩
end Go.Proofs.Qxb6001155a
