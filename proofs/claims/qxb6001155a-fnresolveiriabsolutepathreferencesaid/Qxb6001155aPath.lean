import Derived.Test.Qxb6001155aAbs
namespace Go.Proofs.Qxb6001155a
open Go.RowKit
open Plain (schemeEnd Parts Inv Res)

theorem slash1_data (f : ByteArray) : ((⟨#[47]⟩ : ByteArray) ++ f).data.toList = 47 :: f.data.toList := by rw [append_data]; rfl
theorem hasB_not {l : List UInt8} {c : UInt8} (h : hasB l c = false) : c ∉ l := by simpa [hasB] using h
theorem join3 (a b c : ByteArray) : (a ++ b ++ c).data.toList = a.data.toList ++ b.data.toList ++ c.data.toList := by rw [append_data, append_data]

/-- Behind the premises. -/
def Fits (p : ByteArray) : Prop := p.toList.isEmpty = true ∨ (p.toList.isEmpty = false ∧ ∃ h : 0 < p.size, ((p[0].toNat : Int) == 47) = false)
theorem Fits.no {p : ByteArray} (h : Fits p) : ∀ u, p.data.toList ≠ 47 :: u := by
  intro u e
  rcases h with h | ⟨_, h, h2⟩
  · have := isE_yes h
    rw [this] at e; cases e
  · have h1 : p[0] = p.data.toList[0]'(by simpa using h) := rfl
    have h3 : p[0] = 47 := by rw [h1]; simp [e]
    rw [h3] at h2
    exact absurd h2 (by decide)

set_option maxHeartbeats 400000 in
set_option maxRecDepth 100000 in
theorem path_rest (a0 a1 : ByteArray) (w : World) (hb0 : a0.size ≤ 65536) (hb1 : a1.size ≤ 65536) (k1 : hasB a1.data.toList 63 = false) (k2 : hasB a1.data.toList 35 = false) (hf : Fits a1) :
    Calls Try.prog 10 #[.string a0, .string a1] w fun e w' => e = .returned (.bool true) ∧ Below w.heap.size w w' := by
  have m0 : a0.size ≤ maxLen := by unfold maxLen; omega
  have m1 : a1.size ≤ maxLen := by unfold maxLen; omega
  have i0 : (a0.size : Int) ≤ 65536 := by omega
  have i1 : (a1.size : Int) ≤ 65536 := by omega
  have o47 := one47
  have HF : Hid (∀ u, a1.data.toList ≠ 47 :: u) := hf.no
  have mm : ((⟨#[47]⟩ : ByteArray) ++ a1).size < 9223372036854775807 := by rw [ByteArray.size_append, one47]; omega
  rcases hf with h1 | ⟨h1, h2, h3⟩
  all_goals
    go_enter Try.func10, Try.ntmps10
    go_wp2_with (first | (go_at_call 26; go_in) | (go_at_call_of 16 (Value.int .u8 63); refine (hb63 _ _ m1).mono ?_; rintro e w' ⟨rfl, rfl⟩) | (go_at_call_of 16 (Value.int .u8 35); refine (hb35 _ _ m1).mono ?_; rintro e w' ⟨rfl, rfl⟩) | (go_at_call 18; refine (hasDot_any _ _ mm).mono ?_; rintro e w' ⟨rfl, rfl⟩))
    · go_ret
      exact ⟨rfl, Below.refl _ _⟩
    · have hd : Plain.hasDot (47 :: a1.data.toList) = false := by first | assumption | simpa using ‹Plain.hasDot _ = false›
      have HC : Hid (Plain.Clean (47 :: a1.data.toList)) := Plain.clean_of_hasDot hd
      clear hd
      refine (zzSplit_any a0 _ m0).mono ?_
      rintro e w1 ⟨bs, ba, bp, bq, bf, rfl, hp, hbel⟩
      have sb := parts_size hp hb0
      have HP : Hid (Parts a0.data.toList bs.data.toList ba.data.toList bp.data.toList bq.data.toList bf.data.toList) := hp
      have HB : Hid (Below w'.heap.size w' w1) := hbel
      clear hp hbel
      go_wp2_with fail
      refine (resolve_no a0 ((⟨#[47]⟩ : ByteArray) ++ a1) _ (by omega) (by rw [ByteArray.size_append, one47]; omega) (by rw [slash1_data]; exact Plain.schemeEnd_slash _)).mono ?_
      rintro e w2 ⟨⟨res, rfl, hres, hsz⟩, hbel⟩
      have k3 : (res.toList == (bs ++ ba ++ ((⟨#[47]⟩ : ByteArray) ++ a1)).toList) = true := beq_lists (by
        rw [slash1_data] at hres
        rw [join3, slash1_data]
        exact hres.path (hasB_not k1) (hasB_not k2) HF.out HC.out HP.out)
      have HB2 : Hid (Below w1.heap.size w1 w2) := hbel
      clear hres hbel
      go_wp2_with fail
      go_ret
      exact ⟨rfl, HB.out.trans (HB2.out.mono HB.out.size)⟩

set_option maxHeartbeats 400000 in
set_option maxRecDepth 100000 in
theorem path_walk (a0 a1 : ByteArray) (w : World) (hb0 : a0.size ≤ 65536) (hb1 : a1.size ≤ 65536) :
    Calls Try.prog 10 #[.string a0, .string a1] w fun e w' => e = .returned (.bool true) ∧ Below w.heap.size w w' := by
  have m1 : a1.size ≤ maxLen := by unfold maxLen; omega
  have i0 : (a0.size : Int) ≤ 65536 := by omega
  have i1 : (a1.size : Int) ≤ 65536 := by omega
  cases k1 : hasB a1.data.toList 63
  case true =>
    go_enter Try.func10, Try.ntmps10
    go_wp2_with (first | (go_at_call 26; go_in) | (go_at_call_of 16 (Value.int .u8 63); refine (hb63 _ _ m1).mono ?_; rintro e w' ⟨rfl, rfl⟩) | (go_at_call_of 16 (Value.int .u8 35); refine (hb35 _ _ m1).mono ?_; rintro e w' ⟨rfl, rfl⟩))
    go_ret
    exact ⟨rfl, Below.refl _ _⟩
  case false =>
    cases k2 : hasB a1.data.toList 35
    case true =>
      go_enter Try.func10, Try.ntmps10
      go_wp2_with (first | (go_at_call 26; go_in) | (go_at_call_of 16 (Value.int .u8 63); refine (hb63 _ _ m1).mono ?_; rintro e w' ⟨rfl, rfl⟩) | (go_at_call_of 16 (Value.int .u8 35); refine (hb35 _ _ m1).mono ?_; rintro e w' ⟨rfl, rfl⟩))
      go_ret
      exact ⟨rfl, Below.refl _ _⟩
    case false =>
      cases h1 : a1.toList.isEmpty
      case true => exact path_rest a0 a1 w hb0 hb1 k1 k2 (Or.inl h1)
      case false =>
        have hp1 : 0 < a1.size := by rw [← len_size]; exact List.length_pos_iff.2 (ne_of_isEmpty h1)
        cases h2 : ((a1[0].toNat : Int) == 47)
        case false => exact path_rest a0 a1 w hb0 hb1 k1 k2 (Or.inr ⟨h1, hp1, h2⟩)
        case true =>
          go_enter Try.func10, Try.ntmps10
          go_wp2_with (first | (go_at_call 26; go_in) | (go_at_call_of 16 (Value.int .u8 63); refine (hb63 _ _ m1).mono ?_; rintro e w' ⟨rfl, rfl⟩) | (go_at_call_of 16 (Value.int .u8 35); refine (hb35 _ _ m1).mono ?_; rintro e w' ⟨rfl, rfl⟩))
          go_ret
          exact ⟨rfl, Below.refl _ _⟩
end Go.Proofs.Qxb6001155a
