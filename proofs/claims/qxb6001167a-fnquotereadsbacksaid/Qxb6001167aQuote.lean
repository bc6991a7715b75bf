import Derived.Test.Qxb6001167aAny
import Derived.Test.Qxb6001167aPlain
namespace Go.Proofs.Qxb6001167a
open Go.RowKit
open Plain (esc body quoteL ixE)

theorem len_size (s : ByteArray) : s.data.toList.length = s.size := (Lib.size_eq s).symm
theorem byte_eq (c d : UInt8) : (((c.toNat : Int)) = (d.toNat : Int)) ↔ c = d := by
  constructor
  · intro h
    exact UInt8.toNat_inj.1 (by omega)
  · rintro rfl; rfl
theorem append_data (a b : ByteArray) : (a ++ b).data.toList = a.data.toList ++ b.data.toList := by simp
theorem beq_lists {a b : ByteArray} (h : a.data.toList = b.data.toList) : (a.toList == b.toList) = true := by
  rw [Lib.toList_data, Lib.toList_data, h]; simp
theorem take_snoc (s : ByteArray) (k : Nat) (h : k < s.size) : s.data.toList.take (k + 1) = s.data.toList.take k ++ [s[k]] := by
  rw [List.take_succ_eq_append_getElem (by simpa using h)]; rfl

theorem one39 : (⟨#[39]⟩ : ByteArray).size = 1 := rfl

theorem esc_not {c : UInt8} (h : isSp c = false) : esc c = [c] := by
  have hm : c ∉ C8.data.toList := by simpa [isSp] using h
  simp only [List.mem_cons, List.not_mem_nil, or_false, not_or] at hm
  obtain ⟨h1, h2, h3, h4, h5, h6, h7, h8⟩ := hm
  refine Plain.esc_plain h1 h2 ?_
  rcases Plain.ixE_cases c with ⟨h, _⟩ | ⟨e, _⟩ | ⟨e, _⟩ | ⟨e, _⟩ | ⟨e, _⟩ | ⟨e, _⟩ | ⟨e, _⟩
  · omega
  · exact absurd e h3
  · exact absurd e h4
  · exact absurd e h5
  · exact absurd e h6
  · exact absurd e h7
  · exact absurd e h8

/-- 'IndexByte(escapedChars, c)'. -/
theorem ix_any (c : UInt8) (w : World) : Calls Try.prog 29 #[.string ⟨#[0, 8, 10, 13, 9, 26]⟩, .int .u8 (c.toNat : Int)] w fun e w' => e = .returned (.int .i64 (ixE c)) ∧ w' = w := by
  refine (indexByte_any _ _ w).mono ?_
  rintro e w' ⟨rfl, rfl⟩
  have hb : ((c.toNat : Int)).toNat.toUInt8 = c := by simp
  exact ⟨ret_int (by rw [hb]; rfl), rfl⟩

theorem bc_snoc (l m : List UInt8) : Lib.byteCells l ++ Lib.byteCells m = Lib.byteCells (l ++ m) := by simp [Lib.byteCells]
theorem bc_len (l : List UInt8) : (Lib.byteCells l).length = l.length := by simp [Lib.byteCells]
theorem L6_at (j : Nat) (h : j < 6) : ((⟨#[48, 98, 110, 114, 116, 90]⟩ : ByteArray)[j]'h) = Plain.L6.getD j 0 := by
  rcases (show j = 0 ∨ j = 1 ∨ j = 2 ∨ j = 3 ∨ j = 4 ∨ j = 5 from by omega) with rfl | rfl | rfl | rfl | rfl | rfl <;> rfl

set_option maxHeartbeats 2000000 in
set_option maxRecDepth 100000 in
theorem quote_any (s : ByteArray) (w : World) (hs : s.size ≤ 1100000) :
    Calls Try.prog 12 #[.string s] w fun e w' => (∃ q : ByteArray, e = .returned (.string q) ∧ q.data.toList = quoteL s.data.toList) ∧ Below w.heap.size w w' := by
  have o39 := one39
  go_enter Try.func12, Try.ntmps12
  go_wp2_with (first | (go_at_call 26; refine (containsAny_all _ _ (by omega)).mono ?_; rintro e w0 ⟨⟨b, rfl, hn⟩, hb0⟩; have HN : Hid (b = false → ∀ b ∈ s.data.toList, isSp b = false) := hn; have HB0 : Hid (Below w.heap.size w w0) := hb0; clear hn hb0))
  · have hbf : b = false := by first | assumption | simpa using ‹(!b) = true›
    go_ret
    refine ⟨⟨_, rfl, ?_⟩, HB0.out⟩
    have h1 := Plain.body_same fun c hc => esc_not (HN.out hbf c hc)
    rw [append_data, append_data]
    unfold quoteL
    rw [h1]
    rfl
  · have e : (2 * (s.size : Int) + 2) = ((2 * s.size + 2 : Nat) : Int) := by omega
    rw [e]
    refine (Try.Builder_Grow_fresh w0.heap.size w0.heap.size (2 * s.size + 2) _ (Nat.le_refl _) (heap_alloc_new _ _) (by simp) (by omega)).mono ?_
    rintro e w1 ⟨rfl, hbd, hb1⟩
    have HB1 : Hid (Below w0.heap.size w0 w1) := ((Below.refl _ _).alloc (Nat.le_refl _) _).trans hb1
    have HW1 : w0.heap.size ≤ w1.heap.size := HB1.out.size
    clear e hb1
    go_wp2_with fail
    refine (Try.Builder_WriteByte w0.heap.size w0.heap.size [] 39 _ (Or.inr hbd) (by simp) HW1).mono ?_
    rintro e w2 ⟨rfl, hbd2, hb2⟩
    have HB2 : Hid (Below w0.heap.size w0 w2) := HB1.out.trans hb2
    have HD2 : Hid (Lib.BuilderAt 41 5 w0.heap.size w0.heap.size (.pointer (some ⟨w0.heap.size, 0, none⟩)) (Lib.byteCells (39 :: body (s.data.toList.take 0))) w2) := by
      show Lib.BuilderAt _ _ _ _ _ _ _
      rw [List.take_zero]; exact hbd2
    clear hbd hbd2 hb2 HB1 HW1
    go_wp2_with fail
    go_loopw [21] (fun i wr => ∃ k : Nat, k ≤ s.size ∧ i = .int .i64 k ∧ Lib.BuilderAt 41 5 w0.heap.size w0.heap.size (.pointer (some ⟨w0.heap.size, 0, none⟩)) (Lib.byteCells (39 :: body (s.data.toList.take k))) wr ∧ Below w0.heap.size w0 wr) (fun i _ => s.size - (intOf i).toNat)
    case atStart => exact ⟨0, Nat.zero_le _, rfl, HD2.out, HB2.out⟩
    case round =>
      clear HB2 HD2
      obtain ⟨k, hk, rfl, hD, hB⟩ := hrel
      have HD : Hid (Lib.BuilderAt 41 5 w0.heap.size w0.heap.size (.pointer (some ⟨w0.heap.size, 0, none⟩)) (Lib.byteCells (39 :: body (s.data.toList.take k))) wr) := hD
      have HB : Hid (Below w0.heap.size w0 wr) := hB
      have hW : w0.heap.size ≤ wr.heap.size := hB.size
      have hlen : (39 :: body (s.data.toList.take k)).length ≤ 2 * s.size + 1 := by
        have := Plain.body_len (s.data.toList.take k)
        rw [List.length_take, len_size] at this
        simp only [List.length_cons]
        omega
      have HL : Hid ((39 :: body (s.data.toList.take k)).length ≤ 2 * s.size + 1) := hlen
      clear hD hB hlen
      by_cases hlt : k < s.size
      · obtain ⟨x, hx⟩ : ∃ x : UInt8, s[k]'hlt = x := ⟨_, rfl⟩
        have hki : (k : Int) < s.size := by omega
        have HX : Hid (s[k]'hlt = x) := hx
        have HT : Hid (body (s.data.toList.take (k + 1)) = body (s.data.toList.take k) ++ esc x) := by
          show _ = _
          rw [take_snoc s k hlt, Plain.body_snoc, hx]
        have hbd := Plain.ixE_bd x
        go_wp2_with fail
        go_quiet ((go_at_call 29; exact Calls.quiet_of_same (ix_any _ _)))
        clear hx
        generalize hw1 : wr.drewN nq = w1
        have HD1 : Hid (Lib.BuilderAt 41 5 w0.heap.size w0.heap.size (.pointer (some ⟨w0.heap.size, 0, none⟩)) (Lib.byteCells (39 :: body (s.data.toList.take k))) w1) := by
          rw [← hw1]; exact HD.out
        have HB1 : Hid (Below w0.heap.size w0 w1) := by rw [← hw1]; exact below_drewN HB.out _
        have hW1 : w0.heap.size ≤ w1.heap.size := HB1.out.size
        clear hw1 HD HB hW
        by_cases c1 : x = 39
        · have t1 : ((x.toNat : Int) == 39) = true := by rw [c1]; rfl
          have HE : Hid (esc x = [39, 39]) := by show _ = _; rw [c1]; rfl
          clear c1
          go_wp2_with (go_at_call 30; refine (Try.Builder_WriteString _ _ _ _ _ (Or.inr HD1.out) (by rw [bc_len]; have := HL.out; show _ + 2 ≤ _; omega) hW1).mono ?_; rintro e w2 ⟨rfl, hd2, hb2⟩)
          go_roundw
          case rel => exact ⟨k + 1, by omega, by go_num, by rw [HT.out, HE.out, ← List.cons_append, ← bc_snoc]; exact hd2, HB1.out.trans hb2⟩
          case measure => simp [intOf]; omega
        · have t1 : ((x.toNat : Int) == 39) = false := by rw [beq_eq_false_iff_ne]; exact fun e => c1 ((byte_eq x 39).1 e)
          by_cases c2 : x = 92
          · have t2 : ((x.toNat : Int) == 92) = true := by rw [c2]; rfl
            have HE : Hid (esc x = [92, 92]) := by show _ = _; rw [c2]; rfl
            clear c1 c2
            go_wp2_with (go_at_call 30; refine (Try.Builder_WriteString _ _ _ _ _ (Or.inr HD1.out) (by rw [bc_len]; have := HL.out; show _ + 2 ≤ _; omega) hW1).mono ?_; rintro e w2 ⟨rfl, hd2, hb2⟩)
            go_roundw
            case rel => exact ⟨k + 1, by omega, by go_num, by rw [HT.out, HE.out, ← List.cons_append, ← bc_snoc]; exact hd2, HB1.out.trans hb2⟩
            case measure => simp [intOf]; omega
          · have t2 : ((x.toNat : Int) == 92) = false := by rw [beq_eq_false_iff_ne]; exact fun e => c2 ((byte_eq x 92).1 e)
            by_cases c3 : 0 ≤ ixE x
            · obtain ⟨j, hj⟩ : ∃ j : Nat, ixE x = j := ⟨(ixE x).toNat, by omega⟩
              have hj6 : j < 6 := by omega
              have hj6' : (j : Int) < 6 := by omega
              have HE : Hid (esc x = [92, Plain.L6.getD j 0]) := by
                show _ = _
                rw [Plain.esc_ctl c1 c2 c3, hj]; rfl
              clear c1 c2 c3 hbd
              go_wp2_with fail
              refine (Try.Builder_WriteByte _ _ _ _ _ (Or.inr HD1.out) (by rw [bc_len]; have := HL.out; omega) hW1).mono ?_
              rintro e w2 ⟨rfl, hd2, hb2⟩
              have HD2 : Hid (Lib.BuilderAt 41 5 w0.heap.size w0.heap.size (.pointer (some ⟨w0.heap.size, 0, none⟩)) (Lib.byteCells (39 :: body (s.data.toList.take k) ++ [92])) w2) := by
                show Lib.BuilderAt _ _ _ _ _ _ _
                rw [← bc_snoc]; exact hd2
              have HB2 : Hid (Below w0.heap.size w0 w2) := HB1.out.trans hb2
              have hW2 : w0.heap.size ≤ w2.heap.size := HB2.out.size
              clear hd2 hb2 HB1 hW1 HD1
              go_wp2_with fail
              refine (Try.Builder_WriteByte _ _ _ _ _ (Or.inr HD2.out) (by rw [bc_len, List.length_append]; have := HL.out; simp only [List.length_singleton]; omega) hW2).mono ?_
              rintro e w3 ⟨rfl, hd3, hb3⟩
              go_wp2_with fail
              go_roundw
              case rel => exact ⟨k + 1, by omega, by go_num, by
                rw [HT.out, HE.out, ← List.cons_append]
                have e1 : 39 :: body (s.data.toList.take k) ++ [92, Plain.L6.getD j 0] = (39 :: body (s.data.toList.take k) ++ [92]) ++ [Plain.L6.getD j 0] := by simp
                rw [e1, ← bc_snoc, ← L6_at j hj6]
                exact hd3, HB2.out.trans hb3⟩
              case measure => simp [intOf]; omega
            · have HE : Hid (esc x = [x]) := Plain.esc_plain c1 c2 (by omega)
              clear c1 c2
              go_wp2_with (go_at_call 28; refine (Try.Builder_WriteByte _ _ _ _ _ (Or.inr HD1.out) (by rw [bc_len]; have := HL.out; omega) hW1).mono ?_; rintro e w2 ⟨rfl, hd2, hb2⟩)
              go_roundw
              case rel => exact ⟨k + 1, by omega, by go_num, by rw [HT.out, HE.out, ← List.cons_append, ← bc_snoc]; exact hd2, HB1.out.trans hb2⟩
              case measure => simp [intOf]; omega
      · have hke : k = s.size := by omega
        have HK : Hid (k = s.size) := hke
        clear hke
        go_wp2_with fail
        refine (Try.Builder_WriteByte _ _ _ _ _ (Or.inr HD.out) (by rw [bc_len]; have := HL.out; omega) hW).mono ?_
        rintro e w2 ⟨rfl, hd2, hb2⟩
        have HB2 : Hid (Below w0.heap.size w0 w2) := HB.out.trans hb2
        have hW2 : w0.heap.size ≤ w2.heap.size := HB2.out.size
        have HD2 : Hid (Lib.BuilderAt 41 5 w0.heap.size w0.heap.size (.pointer (some ⟨w0.heap.size, 0, none⟩)) (Lib.byteCells (quoteL s.data.toList)) w2) := by
          have h1 : s.data.toList.take k = s.data.toList := List.take_of_length_le (by rw [len_size, HK.out]; exact Nat.le_refl _)
          rw [h1] at hd2
          have e : Lib.byteCells (quoteL s.data.toList) = Lib.byteCells (39 :: body s.data.toList) ++ [Value.int .u8 39] := (bc_snoc (39 :: body s.data.toList) [39]).symm
          show Lib.BuilderAt _ _ _ _ _ _ _
          rw [e]
          exact hd2
        clear hd2 hb2
        go_wp2_with fail
        refine (Try.Builder_String_any _ _ _ _ (Or.inr HD2.out) hW2).mono ?_
        rintro e w3 ⟨rfl, hb3⟩
        go_wp2_with fail
        go_ret
        exact ⟨⟨_, rfl, rfl⟩, HB0.out.trans ((HB2.out.trans hb3).mono HB0.out.size)⟩
end Go.Proofs.Qxb6001167a
