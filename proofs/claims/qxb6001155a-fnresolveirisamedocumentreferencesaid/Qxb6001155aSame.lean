import Derived.Test.Qxb6001155aAbs
namespace Go.Proofs.Qxb6001155a
open Go.RowKit
open Plain (schemeEnd Parts Inv Res)

theorem hash_data (f : ByteArray) : ((⟨#[35]⟩ : ByteArray) ++ f).data.toList = 35 :: f.data.toList := by rw [append_data]; rfl
theorem one35 : (⟨#[35]⟩ : ByteArray).size = 1 := rfl

set_option maxHeartbeats 400000 in
set_option maxRecDepth 100000 in
theorem same_walk (a0 a1 : ByteArray) (w : World) (hb0 : a0.size ≤ 65536) (hb1 : a1.size ≤ 65536) :
    Calls Try.prog 9 #[.string a0, .string a1] w fun e w' => e = .returned (.bool true) ∧ Below w.heap.size w w' := by
  have m0 : a0.size ≤ maxLen := by unfold maxLen; omega
  have i0 : (a0.size : Int) ≤ 65536 := by omega
  have i1 : (a1.size : Int) ≤ 65536 := by omega
  have o35 := one35
  go_enter Try.func9, Try.ntmps9
  go_wp2_with (first | (go_at_call 24; go_in) | (go_at_call 25; refine (cutFragment_any _ _ m0).mono ?_; rintro e w' ⟨⟨d, f0, rfl, hcut⟩, rfl⟩))
  refine (resolve_no a0 ⟨#[]⟩ _ (by omega) (by simp [zero0]) rfl).mono ?_
  rintro e w1 ⟨⟨res, rfl, hres, hsz⟩, hbel⟩
  have k1 : (res.toList == d.toList) = true := beq_lists (hres.empty hcut)
  have hd : d.size ≤ 65536 := by
    have := congrArg List.length hcut.1
    rw [List.length_append, len_size, len_size, len_size] at this
    omega
  have HC : Hid (Plain.Cut 35 a0.data.toList d.data.toList f0.data.toList) := hcut
  have HB : Hid (Below w'.heap.size w' w1) := hbel
  clear hcut hbel hres
  go_wp2_with fail
  refine (resolve_no a0 ((⟨#[35]⟩ : ByteArray) ++ a1) _ (by omega) (by rw [ByteArray.size_append, one35]; omega) (by rw [hash_data]; exact Plain.schemeEnd_hash _)).mono ?_
  rintro e w2 ⟨⟨res2, rfl, hres2, hsz2⟩, hbel2⟩
  have k2 : (res2.toList == (d ++ ((⟨#[35]⟩ : ByteArray) ++ a1)).toList) = true := beq_lists (by
    rw [hash_data] at hres2
    rw [append_data, hash_data]
    exact hres2.hash HC.out)
  have HB2 : Hid (Below w1.heap.size w1 w2) := hbel2
  clear hres2 hbel2
  go_wp2_with fail
  go_ret
  exact ⟨rfl, HB.out.trans (HB2.out.mono HB.out.size)⟩
end Go.Proofs.Qxb6001155a
