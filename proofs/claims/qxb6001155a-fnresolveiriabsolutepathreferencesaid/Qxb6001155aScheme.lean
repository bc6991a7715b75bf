import Derived.Test.Qxb6001155aProg
import Derived.WalkKit
import Derived.WalkSpells
import Derived.Test.Qxb6001155aPlain
namespace Go.Proofs.Qxb6001155a
open Go.RowKit
open Plain (isLetter isDigit other seFrom schemeEnd)

theorem ret_bool {a b : Bool} (h : a = b) : Ending.returned (.bool a) = .returned (.bool b) := by rw [h]

theorem isLetter_any (c : UInt8) (w : World) :
    Calls Try.prog 33 #[.int .u8 c.toNat] w fun e w' => e = .returned (.bool (isLetter c)) ∧ w' = w := by
  go_enter Try.func33, Try.ntmps33
  go_wp2
  all_goals
    go_ret
    refine ⟨ret_bool ?_, rfl⟩
    unfold isLetter
    rw [Bool.eq_iff_iff]; simp; try omega
theorem isDigit_any (c : UInt8) (w : World) :
    Calls Try.prog 34 #[.int .u8 c.toNat] w fun e w' => e = .returned (.bool (isDigit c)) ∧ w' = w := by
  go_enter Try.func34, Try.ntmps34
  go_wp2
  all_goals
    go_ret
    refine ⟨ret_bool ?_, rfl⟩
    unfold isDigit
    rw [Bool.eq_iff_iff]; simp; try omega

theorem byte_eq (c d : UInt8) : (((c.toNat : Int)) = (d.toNat : Int)) ↔ c = d := by
  constructor
  · intro h
    exact UInt8.toNat_inj.1 (by omega)
  · rintro rfl; rfl

theorem drop_cons (s : ByteArray) (k : Nat) (h : k < s.size) : s.data.toList.drop k = s[k] :: s.data.toList.drop (k + 1) := by
  rw [List.drop_eq_getElem_cons (by simpa using h)]; rfl


theorem se_next {c : UInt8} {l : List UInt8} {k : Nat} (h : isLetter c = true ∨ (¬ (0 < k ∧ (c.toNat : Int) = 58) ∧ 0 < k ∧ (isDigit c = true ∨ (c.toNat : Int) = 43 ∨ (c.toNat : Int) = 45 ∨ (c.toNat : Int) = 46))) :
    seFrom (c :: l) k = seFrom l (k + 1) := by
  rw [seFrom]
  rcases h with h | ⟨h1, h2, h3⟩
  · rw [if_pos h]
  · by_cases h : isLetter c = true
    · rw [if_pos h]
    · rw [if_neg h, if_neg (by rintro ⟨_, rfl⟩; exact h1 ⟨h2, rfl⟩), if_neg]
      rintro (h4 | h4)
      · omega
      · simp only [other, Bool.and_eq_true, Bool.not_eq_true', bne_iff_ne] at h4
        obtain ⟨⟨⟨a1, a2⟩, a3⟩, a4⟩ := h4
        rcases h3 with h3 | h3 | h3 | h3
        · rw [h3] at a1; exact absurd a1 (by decide)
        · exact a2 ((byte_eq c 43).1 h3)
        · exact a3 ((byte_eq c 45).1 h3)
        · exact a4 ((byte_eq c 46).1 h3)
theorem se_colon {c : UInt8} {l : List UInt8} {k : Nat} (h : isLetter c = false) (hk : 0 < k) (hc : (c.toNat : Int) = 58) : seFrom (c :: l) k = k := by
  rw [seFrom, if_neg (by simp [h]), if_pos ⟨hk, (byte_eq c 58).1 hc⟩]
theorem se_stop {c : UInt8} {l : List UInt8} {k : Nat} (h : isLetter c = false) (hn : ¬ (0 < k ∧ (c.toNat : Int) = 58)) (ho : k = 0 ∨ (¬ isDigit c = true ∧ ¬ (c.toNat : Int) = 43 ∧ ¬ (c.toNat : Int) = 45 ∧ ¬ (c.toNat : Int) = 46)) : seFrom (c :: l) k = -1 := by
  rw [seFrom, if_neg (by simp [h]), if_neg (by rintro ⟨h1, rfl⟩; exact hn ⟨h1, rfl⟩), if_pos]
  rcases ho with ho | ⟨h1, h2, h3, h4⟩
  · exact Or.inl ho
  · refine Or.inr ?_
    simp only [other, Bool.and_eq_true, Bool.not_eq_true', bne_iff_ne]
    exact ⟨⟨⟨by simpa using h1, fun e => h2 (by rw [e]; rfl)⟩, fun e => h3 (by rw [e]; rfl)⟩, fun e => h4 (by rw [e]; rfl)⟩
theorem ret_int {k : IntKind} {a b : Int} (h : a = b) : Ending.returned (.int k a) = .returned (.int k b) := by rw [h]

set_option maxHeartbeats 400000 in
theorem schemeEnd_any (s : ByteArray) (w : World) (hs : s.size ≤ maxLen) :
    Calls Try.prog 28 #[.string s] w fun e w' => e = .returned (.int .i64 (schemeEnd s.data.toList)) ∧ w' = w := by
  unfold maxLen at hs
  go_enter Try.func28, Try.ntmps28
  go_wp2
  go_loop [3] (fun i => ∃ k : Nat, k ≤ s.size ∧ i = .int .i64 k ∧ seFrom (s.data.toList.drop k) k = schemeEnd s.data.toList) (fun i => s.size - (intOf i).toNat)
  case atStart => exact ⟨0, Nat.zero_le _, rfl, rfl⟩
  case round =>
    obtain ⟨k, hk, rfl, hse⟩ := hrel
    have HS : Hid (seFrom (s.data.toList.drop k) k = schemeEnd s.data.toList) := hse
    clear hse
    by_cases hlt : k < s.size
    · have HD : Hid (s.data.toList.drop k = s[k] :: s.data.toList.drop (k + 1)) := drop_cons s k hlt
      go_wp2_with (first | (go_at_call 33; refine (isLetter_any _ _).mono ?_; rintro e w' ⟨rfl, rfl⟩) | (go_at_call 34; refine (isDigit_any _ _).mono ?_; rintro e w' ⟨rfl, rfl⟩))
      all_goals (try simp only [beq_iff_eq, beq_eq_false_iff_ne, bne_iff_ne, ne_eq, bne_eq_false_iff_eq] at *)
      all_goals (have hs1 := HS.out; rw [HD.out] at hs1)
      any_goals (go_ret; refine ⟨ret_int ?_, rfl⟩; rw [← hs1]; first | exact (se_colon ‹_› ‹_› ‹_›).symm | (refine (se_stop ‹_› ?_ ?_).symm <;> first | omega | exact Or.inr ⟨‹_›, by omega, by omega, by omega⟩))
      all_goals
        go_round
        case rel => exact ⟨k + 1, by omega, by go_num, by rw [← hs1]; exact (se_next (by first | exact Or.inl ‹_› | (refine Or.inr ⟨by omega, by omega, ?_⟩; first | exact Or.inl ‹_› | (refine Or.inr ?_; omega)))).symm⟩
        case measure => simp [intOf]; omega
    · go_wp2
      go_ret
      refine ⟨ret_int ?_, rfl⟩
      rw [← HS.out, List.drop_of_length_le (by simp; omega)]
      rfl
end Go.Proofs.Qxb6001155a
