import Derived.Test.Qxb6001155aSplit
import Derived.BigQuiet
import Derived.Deep.QuietTactic
namespace Go.Proofs.Qxb6001155a
open Go.RowKit
open Plain (schemeEnd Parts)

theorem bcell {W w1 : World} (hb : Below W.heap.size W w1) : (∀ b o, b < W.heap.size → w1.cell? ⟨b, o, none⟩ = W.cell? ⟨b, o, none⟩) ∧ (∀ b o, b < W.heap.size → w1.frozen? ⟨b, o, none⟩ = W.frozen? ⟨b, o, none⟩) :=
  ⟨fun b o h => hb.cell (p := ⟨b, o, none⟩) h, fun b o h => hb.frozen (p := ⟨b, o, none⟩) h⟩

set_option maxHeartbeats 1000000 in
theorem zzSplit_any (s : ByteArray) (w : World) (hs : s.size ≤ maxLen) :
    Calls Try.prog 12 #[.string s] w fun e w' => ∃ sc a p q f : ByteArray, e = .returned (.tuple #[.string sc, .string a, .string p, .string q, .string f]) ∧
      Parts s.data.toList sc.data.toList a.data.toList p.data.toList q.data.toList f.data.toList ∧ Below w.heap.size w w' := by
  go_enter Try.func12, Try.ntmps12
  go_wp2_with (go_at_call 27; refine (splitIRI_any _ _ hs).mono ?_; rintro e w' ⟨sc, a, p, q, f, rfl, hp, hb⟩)
  have HP : Hid (Parts s.data.toList sc.data.toList a.data.toList p.data.toList q.data.toList f.data.toList) := hp
  clear hp
  go_quiet (fail)
  go_wp2
  refine bodyPost_ret (v := .tuple #[.string sc, .string a, .string p, .string q, .string f]) (by simp [results, Try.results12, go_sem]) rfl ⟨sc, a, p, q, f, rfl, HP.out, ?_⟩
  exact below_drewN ((hb.alloc hb.size _)) _
theorem parts_size {s sc a p q f : ByteArray} {n : Nat} (h : Parts s.data.toList sc.data.toList a.data.toList p.data.toList q.data.toList f.data.toList) (hn : s.size ≤ n) : sc.size + a.size + p.size + q.size + f.size ≤ n := by
  have := congrArg List.length h.all
  simp only [List.length_append, len_size] at this
  omega

theorem append_data (a b : ByteArray) : (a ++ b).data.toList = a.data.toList ++ b.data.toList := by simp
theorem beq_lists {a b : ByteArray} (h : a.data.toList = b.data.toList) : (a.toList == b.toList) = true := by
  rw [Lib.toList_data, Lib.toList_data, h]; simp

end Go.Proofs.Qxb6001155a
