import Derived.Test.Qxb6001167aQuote
namespace Go.Proofs.Qxb6001167a
open Go.RowKit
open Plain (esc body quoteL ixE)

theorem ext_data (s : ByteArray) (k : Nat) : (s.extract k s.size).data.toList = s.data.toList.drop k := by
  rw [Lib.extract_data, List.take_of_length_le]
  simp
theorem ext0_data (s : ByteArray) (k : Nat) : (s.extract 0 k).data.toList = s.data.toList.take k := by
  rw [Lib.extract_data]; simp

theorem quote_size {q s : ByteArray} (h : q.data.toList = quoteL s.data.toList) : 2 ≤ q.size ∧ q.size ≤ 2 * s.size + 2 := by
  have h1 := congrArg List.length h
  rw [len_size] at h1
  have h2 := Plain.body_len s.data.toList
  rw [len_size] at h2
  simp only [quoteL, List.length_cons, List.length_append, List.length_nil] at h1
  omega

set_option maxHeartbeats 1000000 in
set_option maxRecDepth 100000 in
theorem concat_walk (a0 a1 : ByteArray) (w : World) (hb0 : a0.size ≤ 524288) (hb1 : a1.size ≤ 524288) :
    Calls Try.prog 5 #[.string a0, .string a1] w fun e w' => e = .returned (.bool true) ∧ Below w.heap.size w w' := by
  have i0 : (a0.size : Int) ≤ 524288 := by omega
  have i1 : (a1.size : Int) ≤ 524288 := by omega
  go_enter Try.func5, Try.ntmps5
  go_wp2_with (go_at_call 15; go_in)
  refine (quote_any a0 _ (by omega)).mono ?_
  rintro e w1 ⟨⟨qa, rfl, ha⟩, hb1⟩
  have sa := quote_size ha
  have HA : Hid (qa.data.toList = quoteL a0.data.toList) := ha
  have HB1 : Hid (Below w.heap.size w w1) := hb1
  clear ha hb1
  go_wp2_with fail
  refine (quote_any a1 _ (by omega)).mono ?_
  rintro e w2 ⟨⟨qb, rfl, hbq⟩, hb2⟩
  have sb := quote_size hbq
  have HQ : Hid (qb.data.toList = quoteL a1.data.toList) := hbq
  have HB2 : Hid (Below w1.heap.size w1 w2) := hb2
  clear hbq hb2
  go_wp2_with fail
  refine (quote_any (a0 ++ a1) _ (by rw [ByteArray.size_append]; omega)).mono ?_
  rintro e w3 ⟨⟨qc, rfl, hc⟩, hb3⟩
  have HC : Hid (qc.data.toList = quoteL (a0 ++ a1).data.toList) := hc
  have HB3 : Hid (Below w2.heap.size w2 w3) := hb3
  have z1 := HB1.out.size
  have z2 := HB2.out.size
  have HBB : Hid (Below w.heap.size w w3) := (HB1.out.trans (HB2.out.mono z1)).trans (hb3.mono (by omega))
  have sa1 : (2 : Int) ≤ qa.size := by omega
  have sa2 : (qa.size : Int) ≤ 1048578 := by omega
  have sb1 : (1 : Int) ≤ qb.size := by omega
  have sb2 : (qb.size : Int) ≤ 1048578 := by omega
  clear hc hb3 z1 z2 HB1 HB2 HB3
  go_wp2_with fail
  go_quiet (fail)
  go_wp2
  go_ret
  refine ⟨ret_bool (beq_lists ?_), below_drewN HBB.out _⟩
  rw [append_data, ext0_data, ext_data, HC.out, HA.out, HQ.out, append_data, Plain.quote_concat, ← len_size, HA.out]
end Go.Proofs.Qxb6001167a
