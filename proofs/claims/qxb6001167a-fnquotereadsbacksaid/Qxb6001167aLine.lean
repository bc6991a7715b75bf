import Derived.Test.Qxb6001167aConcat
import Derived.Test.Qxb6001167aPlain2
namespace Go.Proofs.Qxb6001167a
open Go.RowKit
open Plain (esc body quoteL ixE ixL pairs)

theorem indexByte_take (l : List UInt8) (c : UInt8) : ∀ (k : Nat), c ∉ l.take k → ∀ (hk : k < l.length), l[k] = c → Lib.indexByte l c = k := by
  induction l with
  | nil => intro k _ hk; exact absurd hk (Nat.not_lt_zero _)
  | cons b l ih =>
    intro k h hk hc
    cases k with
    | zero =>
      have : b = c := hc
      subst this
      simp [Lib.indexByte]
    | succ k =>
      simp only [List.take_succ_cons, List.mem_cons, not_or] at h
      have hb : (b == c) = false := by simpa using fun e => h.1 e.symm
      have := ih k h.2 (by simpa using hk) (by simpa using hc)
      unfold Lib.indexByte
      rw [this]
      have hne : (((k : Nat) : Int) == -1) = false := by rw [beq_eq_false_iff_ne]; omega
      simp [hb, hne]

theorem not_mem_snoc {s : ByteArray} {k : Nat} {c : UInt8} (h : k < s.size) (h1 : c ∉ s.data.toList.take k) (h2 : ¬ (s[k].toNat : Int) = c.toNat) : c ∉ s.data.toList.take (k + 1) := by
  rw [take_snoc s k h]
  simp only [List.mem_append, List.mem_singleton, not_or]
  exact ⟨h1, fun e => h2 (by rw [e])⟩

set_option maxHeartbeats 400000 in
theorem indexIn_any (s : ByteArray) (c : UInt8) (w : World) (hs : s.size ≤ maxLen) :
    Calls Try.prog 14 #[.string s, .int .u8 c.toNat] w fun e w' => e = .returned (.int .i64 (Lib.indexByte s.data.toList c)) ∧ w' = w := by
  unfold maxLen at hs
  go_enter Try.func14, Try.ntmps14
  go_wp2
  go_loop [5] (fun i => ∃ k : Nat, k ≤ s.size ∧ i = .int .i64 k ∧ c ∉ s.data.toList.take k) (fun i => s.size - (intOf i).toNat)
  case atStart => exact ⟨0, Nat.zero_le _, rfl, by simp⟩
  case round =>
    obtain ⟨k, hk, rfl, hn⟩ := hrel
    have HN : Hid (c ∉ s.data.toList.take k) := hn
    clear hn
    by_cases hlt : k < s.size
    · by_cases he : (s[k].toNat : Int) = c.toNat
      · have he' : ((s[k].toNat : Int) == c.toNat) = true := by simp [he]
        have HE : Hid ((s[k].toNat : Int) = c.toNat) := he
        clear he
        go_wp2
        go_ret
        exact ⟨ret_int (indexByte_take s.data.toList c k HN.out (by simpa using hlt) ((byte_eq _ _).1 HE.out)).symm, rfl⟩
      · have he' : ((s[k].toNat : Int) == c.toNat) = false := by simpa using he
        have HE : Hid (¬ (s[k].toNat : Int) = c.toNat) := he
        clear he
        go_wp2
        go_round
        case rel => exact ⟨k + 1, by omega, by go_num, not_mem_snoc hlt HN.out HE.out⟩
        case measure => simp [intOf]; omega
    · go_wp2
      go_ret
      refine ⟨ret_int ?_, rfl⟩
      have := HN.out
      rw [List.take_of_length_le (by rw [len_size]; omega)] at this
      exact (indexByte_no this).symm

theorem zi (c : UInt8) (w : World) : Calls Try.prog 14 #[.string ⟨#[0, 8, 10, 13, 9, 26]⟩, .int .u8 (c.toNat : Int)] w fun e w' => e = .returned (.int .i64 (ixE c)) ∧ w' = w :=
  indexIn_any ⟨#[0, 8, 10, 13, 9, 26]⟩ c w (by show 6 ≤ _; unfold maxLen; omega)
theorem zl (c : UInt8) (w : World) : Calls Try.prog 14 #[.string ⟨#[48, 98, 110, 114, 116, 90]⟩, .int .u8 (c.toNat : Int)] w fun e w' => e = .returned (.int .i64 (ixL c)) ∧ w' = w :=
  indexIn_any ⟨#[48, 98, 110, 114, 116, 90]⟩ c w (by show 6 ≤ _; unfold maxLen; omega)

def spc' (s : ByteArray) : Int := ((body s.data.toList).length : Int) - s.size
theorem q_parts {q s : ByteArray} (h : q.data.toList = quoteL s.data.toList) : (q.size : Int) = s.size + 2 + spc' s ∧ (∃ h0 : 0 < q.size, q[0]'h0 = 39) ∧ (∃ h1 : q.size - 1 < q.size, q[q.size - 1]'h1 = 39) := by
  have hl := congrArg List.length h
  rw [len_size] at hl
  simp only [quoteL, List.length_cons, List.length_append, List.length_nil] at hl
  have h0 : 0 < q.size := by omega
  have h1 : q.size - 1 < q.size := by omega
  refine ⟨by unfold spc'; omega, ⟨h0, ?_⟩, ⟨h1, ?_⟩⟩
  · have e : q[0] = q.data.toList[0]'(by rw [len_size]; exact h0) := rfl
    rw [e]; simp [h, quoteL]
  · have e : q[q.size - 1] = q.data.toList[q.size - 1]'(by rw [len_size]; exact h1) := rfl
    have e2 : q.size - 1 = (body s.data.toList).length + 1 := by omega
    rw [e]
    simp only [h, quoteL, e2]
    simp
/-- How many bytes of the first k are written as two. -/
def spc (s : ByteArray) (k : Nat) : Int := ((body (s.data.toList.take k)).length : Int) - k
theorem spc_bd (s : ByteArray) (k : Nat) (h : k ≤ s.size) : 0 ≤ spc s k ∧ spc s k ≤ k := by
  have h1 := Plain.body_ge (s.data.toList.take k)
  have h2 := Plain.body_len (s.data.toList.take k)
  have h3 : (s.data.toList.take k).length = k := by rw [List.length_take, len_size]; omega
  unfold spc
  omega
theorem spc_yes {s : ByteArray} {k : Nat} (hlt : k < s.size) {x : UInt8} (hx : s[k] = x) (h : x = 39 ∨ x = 92 ∨ 0 ≤ ixE x) : spc s (k + 1) = spc s k + 1 := by
  unfold spc
  rw [take_snoc s k hlt, Plain.body_snoc, hx, List.length_append, Plain.esc_special, if_pos h]
  omega
theorem spc_no {s : ByteArray} {k : Nat} (hlt : k < s.size) {x : UInt8} (hx : s[k] = x) (h : ¬ (x = 39 ∨ x = 92 ∨ 0 ≤ ixE x)) : spc s (k + 1) = spc s k := by
  unfold spc
  rw [take_snoc s k hlt, Plain.body_snoc, hx, List.length_append, Plain.esc_special, if_neg h]
  omega

theorem q_no {q s : ByteArray} (h : q.data.toList = quoteL s.data.toList) (i : Nat) (hi : i < q.size) : ixE (q[i]'hi) < 0 := by
  refine Plain.quote_no s.data.toList _ ?_
  rw [← h]
  exact List.getElem_mem (l := q.data.toList) (by rw [len_size]; exact hi)
/-- The byte of the literal at place m + 1 is the body's at place m. -/
theorem q_at {q s : ByteArray} (h : q.data.toList = quoteL s.data.toList) (m : Nat) (hm : m < (body s.data.toList).length) : ∃ hi : m + 1 < q.size, q[m + 1]'hi = (body s.data.toList)[m] := by
  have hl := congrArg List.length h
  rw [len_size] at hl
  simp only [quoteL, List.length_cons, List.length_append, List.length_nil] at hl
  have hi : m + 1 < q.size := by omega
  refine ⟨hi, ?_⟩
  have e : q[m + 1] = q.data.toList[m + 1]'(by rw [len_size]; exact hi) := rfl
  rw [e]
  simp only [h, quoteL, List.getElem_cons_succ]
  rw [List.getElem_append_left hm]
theorem pairs_step {l : List UInt8} {m : Nat} (h : pairs (l.drop m) = true) (hm : m < l.length) :
    (l[m] ≠ 39 ∧ pairs (l.drop (m + 1)) = true) ∨ (l[m] = 39 ∧ ∃ h2 : m + 1 < l.length, l[m + 1] = 39 ∧ pairs (l.drop (m + 2)) = true) := by
  rw [List.drop_eq_getElem_cons hm] at h
  by_cases hc : l[m] = 39
  · rw [hc] at h
    obtain ⟨t, ht, hp⟩ := Plain.pairs_head h
    have h2 : m + 1 < l.length := by
      have := congrArg List.length ht
      rw [List.length_drop, List.length_cons] at this
      omega
    rw [List.drop_eq_getElem_cons h2] at ht
    simp only [List.cons.injEq] at ht
    exact Or.inr ⟨hc, h2, ht.1, by rw [ht.2]; exact hp⟩
  · rw [Plain.pairs_cons hc] at h
    exact Or.inl ⟨hc, h⟩

set_option maxHeartbeats 1000000 in
set_option maxRecDepth 100000 in
theorem line_walk (a0 : ByteArray) (w : World) (hb0 : a0.size ≤ 1048576) :
    Calls Try.prog 4 #[.string a0] w fun e w' => e = .returned (.bool true) ∧ Below w.heap.size w w' := by
  have i0 : (a0.size : Int) ≤ 1048576 := by omega
  go_enter Try.func4, Try.ntmps4
  go_wp2_with (go_at_call 13; go_in)
  refine (quote_any a0 _ (by omega)).mono ?_
  rintro e w1 ⟨⟨q, rfl, hq⟩, hb1⟩
  have sa := quote_size hq
  have HQ : Hid (q.data.toList = quoteL a0.data.toList) := hq
  have HB1 : Hid (Below w.heap.size w w1) := hb1
  clear hq hb1
  go_wp2_with fail
  go_loop [4, 5, 6] (fun n i _ => ∃ k : Nat, k ≤ a0.size ∧ i = .int .i64 k ∧ n = .int .i64 (spc a0 k)) (fun _ i _ => a0.size - (intOf i).toNat)
  case atStart => exact ⟨0, Nat.zero_le _, rfl, rfl⟩
  case round =>
    obtain ⟨k, hk, rfl, rfl⟩ := hrel
    have hbd := spc_bd a0 k hk
    by_cases hlt : k < a0.size
    · obtain ⟨x, hx⟩ : ∃ x : UInt8, a0[k]'hlt = x := ⟨_, rfl⟩
      by_cases c1 : x = 39
      · have t1 : ((x.toNat : Int) == 39) = true := by rw [c1]; rfl
        have HS : Hid (spc a0 (k + 1) = spc a0 k + 1) := spc_yes hlt hx (Or.inl c1)
        clear c1
        go_wp2_with (go_at_call 14; refine (zi _ _).mono ?_; rintro e w' ⟨rfl, rfl⟩)
        go_round
        case rel => exact ⟨k + 1, by omega, by go_num, by rw [HS.out]⟩
        case measure => simp [intOf]; omega
      · have t1 : ((x.toNat : Int) == 39) = false := by rw [beq_eq_false_iff_ne]; exact fun e => c1 ((byte_eq x 39).1 e)
        by_cases c2 : x = 92
        · have t2 : ((x.toNat : Int) == 92) = true := by rw [c2]; rfl
          have HS : Hid (spc a0 (k + 1) = spc a0 k + 1) := spc_yes hlt hx (Or.inr (Or.inl c2))
          clear c1 c2
          go_wp2_with (go_at_call 14; refine (zi _ _).mono ?_; rintro e w' ⟨rfl, rfl⟩)
          go_round
          case rel => exact ⟨k + 1, by omega, by go_num, by rw [HS.out]⟩
          case measure => simp [intOf]; omega
        · have t2 : ((x.toNat : Int) == 92) = false := by rw [beq_eq_false_iff_ne]; exact fun e => c2 ((byte_eq x 92).1 e)
          by_cases c3 : 0 ≤ ixE x
          · have HS : Hid (spc a0 (k + 1) = spc a0 k + 1) := spc_yes hlt hx (Or.inr (Or.inr c3))
            clear c1 c2
            go_wp2_with (go_at_call 14; refine (zi _ _).mono ?_; rintro e w' ⟨rfl, rfl⟩)
            go_round
            case rel => exact ⟨k + 1, by omega, by go_num, by rw [HS.out]⟩
            case measure => simp [intOf]; omega
          · have HS : Hid (spc a0 (k + 1) = spc a0 k) := spc_no hlt hx (by rintro (h | h | h); exact c1 h; exact c2 h; exact c3 h)
            clear c1 c2
            go_wp2_with (go_at_call 14; refine (zi _ _).mono ?_; rintro e w' ⟨rfl, rfl⟩)
            go_round
            case rel => exact ⟨k + 1, by omega, by go_num, by rw [HS.out]⟩
            case measure => simp [intOf]; omega
    · have hke : k = a0.size := by omega
      obtain ⟨p1, ⟨p2, p3⟩, ⟨p4, p5⟩⟩ := q_parts HQ.out
      have hsp : spc a0 k = spc' a0 := by unfold spc spc'; rw [List.take_of_length_le (by rw [len_size]; omega), hke]
      have hlen : ((q.size : Int) != (a0.size : Int) + 2 + spc a0 k) = false := by rw [bne_eq_false_iff_eq, hsp]; exact p1
      have p6 : (0 : Int) < q.size := by omega
      clear hsp hke p1
      go_wp2_with fail
      clear hlen p3 p5 p2 p4 hbd
      go_loop [7] (fun i => ∃ m : Nat, m ≤ q.size ∧ i = .int .i64 m) (fun i => q.size - (intOf i).toNat)
      case atStart => exact ⟨0, Nat.zero_le _, rfl⟩
      case round =>
        obtain ⟨m, hm, rfl⟩ := hrel
        by_cases hlm : m < q.size
        · have hno := q_no HQ.out m hlm
          go_wp2_with (go_at_call 14; refine (zi _ _).mono ?_; rintro e w' ⟨rfl, rfl⟩)
          go_round
          case rel => exact ⟨m + 1, by omega, by go_num⟩
          case measure => simp [intOf]; omega
        · obtain ⟨bl, hbl⟩ : ∃ n, (body a0.data.toList).length = n := ⟨_, rfl⟩
          have hqs : q.size = bl + 2 := by
            have hl := congrArg List.length HQ.out
            rw [len_size] at hl
            simp only [quoteL, List.length_cons, List.length_append, List.length_nil] at hl
            omega
          have HBL : Hid ((body a0.data.toList).length = bl) := hbl
          have HQS : Hid (q.size = bl + 2) := hqs
          have q1 : (q.size : Int) ≤ bl + 2 := by omega
          have q2 : (bl : Int) + 2 ≤ q.size := by omega
          clear hbl hqs
          go_wp2_with fail
          go_loop [8] (fun i => ∃ m : Nat, m ≤ bl ∧ i = .int .i64 ((m : Int) + 1) ∧ pairs ((body a0.data.toList).drop m) = true) (fun i => q.size - (intOf i).toNat)
          case atStart => exact ⟨0, Nat.zero_le _, rfl, Plain.pairs_body _⟩
          case round =>
            obtain ⟨j, hj, rfl, hp⟩ := hrel
            have HP : Hid (pairs ((body a0.data.toList).drop j) = true) := hp
            clear hp
            by_cases hlj : j < bl
            · have hjb : j < (body a0.data.toList).length := by rw [HBL.out]; exact hlj
              obtain ⟨hi1, hq1⟩ := q_at HQ.out j hjb
              rcases pairs_step HP.out hjb with ⟨r1, r2⟩ | ⟨r1, h2, r2, r3⟩
              · have t1 : (((q[j + 1]'hi1).toNat : Int) == 39) = false := by
                  rw [beq_eq_false_iff_ne]
                  exact fun e => r1 (by rw [← hq1]; exact (byte_eq _ 39).1 e)
                clear hq1 r1
                go_wp2_with fail
                go_round
                case rel => exact ⟨j + 1, by omega, by go_num, r2⟩
                case measure => simp [intOf]; omega
              · obtain ⟨hi2, hq2⟩ := q_at HQ.out (j + 1) h2
                have t1 : (q[j + 1]'hi1) = 39 := by rw [hq1, r1]
                have t2 : (q[j + 1 + 1]'hi2) = 39 := by rw [hq2, r2]
                have hlj2 : j + 1 < bl := by rw [← HBL.out]; exact h2
                clear hq1 hq2 r1 r2
                go_wp2_with fail
                go_round
                case rel => exact ⟨j + 2, by omega, by go_num, r3⟩
                case measure => simp [intOf]; omega
            · go_wp2_with fail
              go_ret
              exact ⟨rfl, HB1.out⟩
end Go.Proofs.Qxb6001167a
