import Derived.Test.Qxb6001155aZZ
namespace Go.Proofs.Qxb6001155a
open Go.RowKit
open Plain (schemeEnd Parts)

/-- Does the byte stand in the text? -/
def hasB (l : List UInt8) (c : UInt8) : Bool := decide (c ∈ l)
theorem hasB_no {l : List UInt8} {c : UInt8} (h : c ∉ l) : hasB l c = false := by simp [hasB, h]

theorem indexByte_take (l : List UInt8) (c : UInt8) (k : Nat) (h : c ∉ l.take k) (hk : k < l.length) (hc : l[k] = c) : Lib.indexByte l c = k := by
  have e : l = l.take k ++ c :: l.drop (k + 1) := by
    rw [← hc]; simp
  rcases Plain.indexByte_spec c l with ⟨_, h2⟩ | ⟨p, r, h1, h2, h3⟩
  · exact absurd (by rw [← hc]; exact List.getElem_mem hk) h2
  · rw [h3]
    have := Plain.cut_unique h2 h (Or.inr ⟨r, rfl⟩) (Or.inr ⟨l.drop (k + 1), rfl⟩) (h1.symm.trans e)
    rw [this.1, List.length_take]
    omega
theorem indexByte_none {l : List UInt8} {c : UInt8} (h : c ∉ l) : Lib.indexByte l c = -1 := by
  rcases Plain.indexByte_spec c l with ⟨h1, _⟩ | ⟨p, r, h1, _, _⟩
  · exact h1
  · exact absurd (by rw [h1]; simp) h

theorem take_snoc (s : ByteArray) (k : Nat) (h : k < s.size) : s.data.toList.take (k + 1) = s.data.toList.take k ++ [s[k]] := by
  rw [List.take_succ_eq_append_getElem (by simpa using h)]; rfl
theorem not_mem_snoc {s : ByteArray} {k : Nat} {c : UInt8} (h : k < s.size) (h1 : c ∉ s.data.toList.take k) (h2 : ¬ (s[k].toNat : Int) = c.toNat) : c ∉ s.data.toList.take (k + 1) := by
  rw [take_snoc s k h]
  simp only [List.mem_append, List.mem_singleton, not_or]
  exact ⟨h1, fun e => h2 (by rw [e])⟩
theorem mem_at {s : ByteArray} {k : Nat} {c : UInt8} (h : k < s.size) (h2 : (s[k].toNat : Int) = c.toNat) : c ∈ s.data.toList := by
  rw [← (byte_eq _ _).1 h2]
  exact List.getElem_mem (l := s.data.toList) (by simpa using h)

set_option maxHeartbeats 400000 in
theorem hasByte_any (s : ByteArray) (c : UInt8) (w : World) (hs : s.size ≤ maxLen) :
    Calls Try.prog 16 #[.string s, .int .u8 c.toNat] w fun e w' => e = .returned (.bool (hasB s.data.toList c)) ∧ w' = w := by
  unfold maxLen at hs
  go_enter Try.func16, Try.ntmps16
  go_wp2
  go_loop [5] (fun i => ∃ k : Nat, k ≤ s.size ∧ i = .int .i64 k ∧ c ∉ s.data.toList.take k) (fun i => s.size - (intOf i).toNat)
  case atStart => exact ⟨0, Nat.zero_le _, rfl, by simp⟩
  case round =>
    obtain ⟨k, hk, rfl, hn⟩ := hrel
    have HN : Hid (c ∉ s.data.toList.take k) := hn
    clear hn
    by_cases hlt : k < s.size
    · by_cases he : (s[k].toNat : Int) = c.toNat
      · have he' : ((s[k].toNat : Int) == c.toNat) = true := by simp [he]
        have HE : Hid ((s[k].toNat : Int) = c.toNat) := he
        clear he
        go_wp2
        go_ret
        exact ⟨ret_bool (by simp [hasB, mem_at hlt HE.out]), rfl⟩
      · have he' : ((s[k].toNat : Int) == c.toNat) = false := by simpa using he
        have HE : Hid (¬ (s[k].toNat : Int) = c.toNat) := he
        clear he
        go_wp2
        go_round
        case rel => exact ⟨k + 1, by omega, by go_num, not_mem_snoc hlt HN.out HE.out⟩
        case measure => simp [intOf]; omega
    · go_wp2
      go_ret
      refine ⟨ret_bool ?_, rfl⟩
      have := HN.out
      rw [List.take_of_length_le (by rw [len_size]; omega)] at this
      exact (hasB_no this).symm

set_option maxHeartbeats 400000 in
theorem firstIndex_any (s : ByteArray) (c : UInt8) (w : World) (hs : s.size ≤ maxLen) :
    Calls Try.prog 15 #[.string s, .int .u8 c.toNat] w fun e w' => e = .returned (.int .i64 (Lib.indexByte s.data.toList c)) ∧ w' = w := by
  unfold maxLen at hs
  go_enter Try.func15, Try.ntmps15
  go_wp2
  go_loop [5] (fun i => ∃ k : Nat, k ≤ s.size ∧ i = .int .i64 k ∧ c ∉ s.data.toList.take k) (fun i => s.size - (intOf i).toNat)
  case atStart => exact ⟨0, Nat.zero_le _, rfl, by simp⟩
  case round =>
    obtain ⟨k, hk, rfl, hn⟩ := hrel
    have HN : Hid (c ∉ s.data.toList.take k) := hn
    clear hn
    by_cases hlt : k < s.size
    · by_cases he : (s[k].toNat : Int) = c.toNat
      · have he' : ((s[k].toNat : Int) == c.toNat) = true := by simp [he]
        have HE : Hid ((s[k].toNat : Int) = c.toNat) := he
        clear he
        go_wp2
        go_ret
        exact ⟨ret_int (indexByte_take s.data.toList c k HN.out (by simpa using hlt) ((byte_eq _ _).1 HE.out)).symm, rfl⟩
      · have he' : ((s[k].toNat : Int) == c.toNat) = false := by simpa using he
        have HE : Hid (¬ (s[k].toNat : Int) = c.toNat) := he
        clear he
        go_wp2
        go_round
        case rel => exact ⟨k + 1, by omega, by go_num, not_mem_snoc hlt HN.out HE.out⟩
        case measure => simp [intOf]; omega
    · go_wp2
      go_ret
      refine ⟨ret_int ?_, rfl⟩
      have := HN.out
      rw [List.take_of_length_le (by rw [len_size]; omega)] at this
      exact (indexByte_none this).symm

theorem hasScheme_any (s : ByteArray) (w : World) (hs : s.size ≤ maxLen) :
    Calls Try.prog 14 #[.string s] w fun e w' => e = .returned (.bool (decide (0 ≤ schemeEnd s.data.toList))) ∧ w' = w := by
  go_enter Try.func14, Try.ntmps14
  go_wp2_with (go_at_call 28; refine (schemeEnd_any _ _ hs).mono ?_; rintro e w' ⟨rfl, rfl⟩)
  go_ret
  exact ⟨rfl, rfl⟩

theorem hb35 (s : ByteArray) (w : World) (hs : s.size ≤ maxLen) : Calls Try.prog 16 #[.string s, .int .u8 35] w fun e w' => e = .returned (.bool (hasB s.data.toList 35)) ∧ w' = w := hasByte_any s 35 w hs
theorem hb63 (s : ByteArray) (w : World) (hs : s.size ≤ maxLen) : Calls Try.prog 16 #[.string s, .int .u8 63] w fun e w' => e = .returned (.bool (hasB s.data.toList 63)) ∧ w' = w := hasByte_any s 63 w hs
theorem hb47 (s : ByteArray) (w : World) (hs : s.size ≤ maxLen) : Calls Try.prog 16 #[.string s, .int .u8 47] w fun e w' => e = .returned (.bool (hasB s.data.toList 47)) ∧ w' = w := hasByte_any s 47 w hs
theorem fi58 (s : ByteArray) (w : World) (hs : s.size ≤ maxLen) : Calls Try.prog 15 #[.string s, .int .u8 58] w fun e w' => e = .returned (.int .i64 (Lib.indexByte s.data.toList 58)) ∧ w' = w := firstIndex_any s 58 w hs
theorem fi35 (s : ByteArray) (w : World) (hs : s.size ≤ maxLen) : Calls Try.prog 15 #[.string s, .int .u8 35] w fun e w' => e = .returned (.int .i64 (Lib.indexByte s.data.toList 35)) ∧ w' = w := firstIndex_any s 35 w hs

end Go.Proofs.Qxb6001155a
