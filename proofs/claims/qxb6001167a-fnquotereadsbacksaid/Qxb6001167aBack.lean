import Derived.Test.Qxb6001167aDecode
namespace Go.Proofs.Qxb6001167a
open Go.RowKit
open Plain (quoteL)

set_option maxHeartbeats 1000000 in
set_option maxRecDepth 100000 in
theorem back_walk (a0 : ByteArray) (w : World) (hb0 : a0.size ≤ 1048576) :
    Calls Try.prog 3 #[.string a0] w fun e w' => e = .returned (.bool true) ∧ Below w.heap.size w w' := by
  have i0 : (a0.size : Int) ≤ 1048576 := by omega
  go_enter Try.func3, Try.ntmps3
  go_wp2_with (go_at_call 10; go_in)
  refine (quote_any a0 _ (by omega)).mono ?_
  rintro e w1 ⟨⟨q, rfl, hq⟩, hb1⟩
  have sa := quote_size hq
  have HQ : Hid (q.data.toList = quoteL a0.data.toList) := hq
  have HB1 : Hid (Below w.heap.size w w1) := hb1
  clear hq hb1
  go_wp2_with fail
  refine (decode_any q a0.data.toList _ HQ.out (by omega)).mono ?_
  rintro e w2 ⟨⟨d, rfl, hd⟩, hb2⟩
  have HB2 : Hid (Below w.heap.size w w2) := HB1.out.trans (hb2.mono HB1.out.size)
  have k1 : (d.toList == a0.toList) = true := beq_lists hd
  clear hd hb2 HB1
  go_wp2_with fail
  go_ret
  exact ⟨rfl, HB2.out⟩
end Go.Proofs.Qxb6001167a
