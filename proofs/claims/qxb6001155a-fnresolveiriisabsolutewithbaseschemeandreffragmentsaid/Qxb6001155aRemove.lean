import Derived.Test.Qxb6001155aSmall2
import Derived.Laws.IdiomStrings
import Derived.OwnWalk
namespace Go.Proofs.Qxb6001155a
open Go.RowKit
open Plain (Inv Clean)

theorem info5 : (Try.prog.info? 5).map (fun i => (i.zero, i.size, i.bytes)) = some (some (.int .u8 0), 1, 1) := by kernel_rfl
def strLen : Value → Nat | .string b => b.size | _ => 0

theorem sz_of {s : ByteArray} {l : List UInt8} (h : s.data.toList = l) : s.size = l.length := by rw [← len_size, h]
theorem owns_take {w : World} {base g cap : Nat} {o : List UInt8} (h : w.ownsRow base 5 1 (.slice (some ⟨g, 0, none⟩) o.length cap) o.length (bc o)) (m : Nat) (hm : m ≤ o.length) :
    w.ownsRow base 5 1 (.slice (some ⟨g, 0, none⟩) m cap) (o.take m).length (bc (o.take m)) := by
  have hl : (o.take m).length = m := by rw [List.length_take]; omega
  rcases h.2 with ⟨hv, _⟩ | ⟨g', cap', cur, hv, hbg, hg, hnc, hcm, hcs, htake⟩
  · cases hv
  · cases hv
    refine ⟨by rw [bc_length, Nat.mul_one], Or.inr ⟨g, cap, cur, by rw [hl], hbg, hg, by omega, hcm, hcs, ?_⟩⟩
    have h3 : (cur.toList.take (o.length * 1)).take m = (bc o).take m := by rw [htake]
    rw [List.take_take, Nat.mul_one, Nat.min_eq_left hm] at h3
    rw [hl, Nat.mul_one, h3]
    simp [bc]
theorem owns_nil (w : World) (base : Nat) : w.ownsRow base 5 1 (.slice none 0 0) ([] : List UInt8).length (bc []) := World.ownsRow_nil _ _ _ _
theorem slash_data (r : ByteArray) (k : Nat) : ((⟨#[47]⟩ : ByteArray) ++ r.extract k r.size).data.toList = 47 :: r.data.toList.drop k := by
  rw [append_data, ext_data]; rfl
theorem one47 : (⟨#[47]⟩ : ByteArray).size = 1 := rfl
theorem zero0 : (⟨#[]⟩ : ByteArray).size = 0 := rfl
theorem inv_dots {l r o : List UInt8} (h : Inv l r o) (e : r = [47, 46, 46]) (j : Nat) : Inv l [47] (o.take j) := by
  subst e
  exact h.slash (by simp) Plain.not_clean_dots' 3 j (by omega) (by simp)
theorem bc_append (o : List UInt8) (s : ByteArray) : bc o ++ Lib.strCells s = bc (o ++ s.data.toList) := by simp [bc, Lib.strCells]
theorem pre_of {l p : List UInt8} (h : Lib.hasPrefix l p = true) : ∃ t, l = p ++ t := by
  simp only [Lib.hasPrefix, List.isPrefixOf_iff_prefix] at h
  obtain ⟨t, h⟩ := h
  exact ⟨t, h.symm⟩
theorem ne_of_isEmpty {r : ByteArray} (h0 : r.toList.isEmpty = false) : r.data.toList ≠ [] := by
  rw [Lib.toList_data] at h0
  intro h
  rw [h] at h0
  exact absurd h0 (by decide)
theorem eq_of_beq {r : ByteArray} {l : List UInt8} (h : (r.toList == l) = true) : r.data.toList = l := by
  rw [Lib.toList_data] at h
  simpa using h
theorem size_pre {r : ByteArray} {l t : List UInt8} (h : r.data.toList = l ++ t) : l.length ≤ r.size := by rw [sz_of h]; simp

theorem ret_str {a b : ByteArray} (h : a = b) : Ending.returned (.string a) = .returned (.string b) := by rw [h]
theorem conv_nil (w : World) : (convert 35 9 (.slice none 0 0)).run Try.prog w = .ok (.string ByteArray.empty) w := by kernel_rfl
theorem conv_row (w : World) (base g cap : Nat) (o : List UInt8) (h : w.ownsRow base 5 1 (.slice (some ⟨g, 0, none⟩) o.length cap) o.length (bc o)) :
    (convert 35 9 (.slice (some ⟨g, 0, none⟩) o.length cap)).run Try.prog w = .ok (.string ⟨o.toArray⟩) w := by
  refine run_convert_bytes_back w 35 9 5 ⟨g, 0, none⟩ cap o Try.underlying35 Try.underlying5 Try.underlying9 ?_
  intro j hj
  have := h.cells (g := g) rfl j _ (bc_get o j hj)
  rw [this]
  simp [List.getD, List.getElem?_eq_getElem hj]

set_option maxHeartbeats 2000000 in
set_option maxRecDepth 100000 in
theorem removeDot_any (s : ByteArray) (w : World) (hs : s.size ≤ 140737488355328) :
    Calls Try.prog 29 #[.string s] w fun e w' => (∃ o : ByteArray, e = .returned (.string o) ∧ Inv s.data.toList [] o.data.toList) ∧ Below w.heap.size w w' := by
  obtain ⟨i0, hi, hz0, hz1, hz2⟩ := info_parts info5
  go_enter Try.func29, Try.ntmps29
  go_wp2
  go_loopw [0, 3] (fun a v wr => ∃ (r : ByteArray) (o : List UInt8), a = .string r ∧ wr.ownsRow w.heap.size 5 1 v o.length (bc o) ∧ Below w.heap.size w wr ∧ Inv s.data.toList r.data.toList o) (fun a _ _ => strLen a)
  case atStart => exact ⟨s, [], rfl, World.ownsRow_nil _ _ _ _, Below.refl _ _, Inv.start _⟩
  case round =>
    obtain ⟨r, o, rfl, hown, hbel, hinv⟩ := hrel
    have HI : Hid (Inv s.data.toList r.data.toList o) := hinv
    clear hinv
    have HB : Hid (Below w.heap.size w wr) := hbel
    have hsz : o.length + r.size ≤ s.size := by have := HI.out.len; rw [len_size, len_size] at this; exact this
    clear hbel
    cases h0 : r.toList.isEmpty
    case true =>
      have hl : r.data.toList = [] := by rw [Lib.toList_data] at h0; simpa using h0
      have HI2 : Hid (Inv s.data.toList [] o) := by have := HI.out; rw [hl] at this; exact this
      clear hl HI
      rcases hown.2 with ⟨hv, hn⟩ | ⟨g, cap, cur, hv, _⟩
      · have hc := conv_nil
        have ho : o = [] := List.eq_nil_of_length_eq_zero hn
        have HO : Hid (o = []) := ho
        clear ho hn
        subst hv
        go_wp2
        go_ret
        exact ⟨⟨ByteArray.empty, rfl, by have := HI2.out; rw [HO.out] at this; exact this⟩, HB.out⟩
      · subst hv
        have hc := conv_row wr w.heap.size g cap o hown
        go_wp2
        go_ret
        exact ⟨⟨⟨o.toArray⟩, rfl, by simpa using HI2.out⟩, HB.out⟩
    case false =>
      have hne := ne_of_isEmpty h0
      have HN : Hid (r.data.toList ≠ []) := hne
      clear hne
      have hr1 : 1 ≤ r.size := by
        rw [← len_size]
        exact List.length_pos_iff.2 HN.out
      cases h1 : Lib.hasPrefix r.data.toList [46, 46, 47]
      case true =>
        obtain ⟨t, ht⟩ := pre_of h1
        have h3 : (3 : Nat) ≤ r.size := size_pre ht
        have h3' : (3 : Int) ≤ r.size := by omega
        have HT : Hid (r.data.toList = 46 :: 46 :: 47 :: t) := ht
        clear ht
        go_wp2_with (go_at_call 32; refine (hasPrefix_any _ _ _).mono ?_; rintro e w' ⟨rfl, rfl⟩)
        go_roundw
        case rel => exact ⟨r.extract 3 r.size, o, rfl, hown, HB.out, by rw [ext_data]; exact HI.out.drop HN.out (by rw [HT.out]; exact Plain.not_clean_head (by decide)) 3⟩
        case measure => simp [strLen]; omega
      case false =>
        cases h2 : Lib.hasPrefix r.data.toList [46, 47]
        case true =>
          obtain ⟨t, ht⟩ := pre_of h2
          have h3 : (2 : Nat) ≤ r.size := size_pre ht
          have h3' : (2 : Int) ≤ r.size := by omega
          have HT : Hid (r.data.toList = 46 :: 47 :: t) := ht
          clear ht
          go_wp2_with (go_at_call 32; refine (hasPrefix_any _ _ _).mono ?_; rintro e w' ⟨rfl, rfl⟩)
          go_roundw
          case rel => exact ⟨r.extract 2 r.size, o, rfl, hown, HB.out, by rw [ext_data]; exact HI.out.drop HN.out (by rw [HT.out]; exact Plain.not_clean_head (by decide)) 2⟩
          case measure => simp [strLen]; omega
        case false =>
          cases h3 : Lib.hasPrefix r.data.toList [47, 46, 47]
          case true =>
            obtain ⟨t, ht⟩ := pre_of h3
            have h4 : (3 : Nat) ≤ r.size := size_pre ht
            have h4' : (2 : Int) ≤ r.size := by omega
            have HT : Hid (r.data.toList = 47 :: 46 :: 47 :: t) := ht
            clear ht
            go_wp2_with (go_at_call 32; refine (hasPrefix_any _ _ _).mono ?_; rintro e w' ⟨rfl, rfl⟩)
            go_roundw
            case rel => exact ⟨r.extract 2 r.size, o, rfl, hown, HB.out, by rw [ext_data]; exact HI.out.drop HN.out (by rw [HT.out]; exact Plain.not_clean_dot _) 2⟩
            case measure => simp [strLen]; omega
          case false =>
            cases h4 : (r.toList == [47, 46])
            case true =>
              have HT : Hid (r.data.toList = [47, 46]) := eq_of_beq h4
              have hsz2 : 2 ≤ r.size := by rw [sz_of HT.out]; simp
              go_wp2_with (go_at_call 32; refine (hasPrefix_any _ _ _).mono ?_; rintro e w' ⟨rfl, rfl⟩)
              go_roundw
              case rel => exact ⟨⟨#[47]⟩, o, rfl, hown, HB.out, HI.out.slash0 HN.out (by rw [HT.out]; exact Plain.not_clean_dot')⟩
              case measure => simp [strLen]; exact hsz2
            case false =>
              cases h5 : Lib.hasPrefix r.data.toList [47, 46, 46, 47]
              case true =>
                obtain ⟨t, ht⟩ := pre_of h5
                have h6 : (4 : Nat) ≤ r.size := size_pre ht
                have h6' : (4 : Int) ≤ r.size := by omega
                have HT : Hid (r.data.toList = 47 :: 46 :: 46 :: 47 :: t) := ht
                clear ht
                rcases hown.2 with ⟨hv, hn⟩ | ⟨g, cap, cur, hv, _⟩
                · subst hv
                  go_wp2_with (first | (go_at_call 32; refine (hasPrefix_any _ _ _).mono ?_; rintro e w' ⟨rfl, rfl⟩) | (go_at_call 35; refine (lastIndexB_any _ _ _ _ _ hown (by unfold maxLen; omega)).mono ?_; rintro e w' ⟨⟨j, hj, rfl⟩, rfl⟩))
                  go_roundw
                  case rel => exact ⟨_, [], rfl, owns_nil _ _, HB.out, by rw [slash_data]; exact HI.out.slash HN.out (by rw [HT.out]; exact Plain.not_clean_dots _) 4 0 (by omega) (by rw [len_size]; omega)⟩
                  case measure => simp [strLen, one47]; omega
                · subst hv
                  go_wp2_with (first | (go_at_call 32; refine (hasPrefix_any _ _ _).mono ?_; rintro e w' ⟨rfl, rfl⟩) | (go_at_call 35; refine (lastIndexB_any _ _ _ _ _ hown (by unfold maxLen; omega)).mono ?_; rintro e w' ⟨⟨j, hj, rfl⟩, rfl⟩))
                  go_roundw
                  case rel => exact ⟨_, _, rfl, owns_take hown _ (by split <;> omega), HB.out, by rw [slash_data]; exact HI.out.slash HN.out (by rw [HT.out]; exact Plain.not_clean_dots _) 4 _ (by omega) (by rw [len_size]; omega)⟩
                  case measure => simp [strLen, one47]; omega
              case false =>
                cases h6 : (r.toList == [47, 46, 46])
                case true =>
                  have HT : Hid (r.data.toList = [47, 46, 46]) := eq_of_beq h6
                  have hsz3 : r.size = 3 := by rw [sz_of HT.out]; rfl
                  rcases hown.2 with ⟨hv, hn⟩ | ⟨g, cap, cur, hv, _⟩
                  · subst hv
                    go_wp2_with (first | (go_at_call 32; refine (hasPrefix_any _ _ _).mono ?_; rintro e w' ⟨rfl, rfl⟩) | (go_at_call 35; refine (lastIndexB_any _ _ _ _ _ hown (by unfold maxLen; omega)).mono ?_; rintro e w' ⟨⟨j, hj, rfl⟩, rfl⟩))
                    go_roundw
                    case rel => exact ⟨_, [], rfl, owns_nil _ _, HB.out, inv_dots HI.out HT.out 0⟩
                    case measure => simp [strLen, one47]; omega
                  · subst hv
                    go_wp2_with (first | (go_at_call 32; refine (hasPrefix_any _ _ _).mono ?_; rintro e w' ⟨rfl, rfl⟩) | (go_at_call 35; refine (lastIndexB_any _ _ _ _ _ hown (by unfold maxLen; omega)).mono ?_; rintro e w' ⟨⟨j, hj, rfl⟩, rfl⟩))
                    go_roundw
                    case rel => exact ⟨_, _, rfl, owns_take hown _ (by split <;> omega), HB.out, inv_dots HI.out HT.out _⟩
                    case measure => simp [strLen, one47]; omega
                case false =>
                  cases h7 : (r.toList == [46])
                  case true =>
                    have HT : Hid (r.data.toList = [46]) := eq_of_beq h7
                    go_wp2_with (go_at_call 32; refine (hasPrefix_any _ _ _).mono ?_; rintro e w' ⟨rfl, rfl⟩)
                    go_roundw
                    case rel => exact ⟨⟨#[]⟩, o, rfl, hown, HB.out, HI.out.empty HN.out (by rw [HT.out]; exact Plain.not_clean_head (by decide))⟩
                    case measure => simp [strLen, zero0]; omega
                  case false =>
                    cases h8 : (r.toList == [46, 46])
                    case true =>
                      have HT : Hid (r.data.toList = [46, 46]) := eq_of_beq h8
                      go_wp2_with (go_at_call 32; refine (hasPrefix_any _ _ _).mono ?_; rintro e w' ⟨rfl, rfl⟩)
                      go_roundw
                      case rel => exact ⟨⟨#[]⟩, o, rfl, hown, HB.out, HI.out.empty HN.out (by rw [HT.out]; exact Plain.not_clean_head (by decide))⟩
                      case measure => simp [strLen, zero0]; omega
                    case false =>
                      have h1' : (1 : Int) ≤ r.size := by omega
                      have hbs : w.heap.size ≤ wr.heap.size := HB.out.size
                      obtain ⟨c0, l0, hl0⟩ : ∃ c0 l0, r.data.toList = c0 :: l0 := List.exists_cons_of_ne_nil HN.out
                      have HL : Hid (r.data.toList = c0 :: l0) := hl0
                      have ht0 : List.take (r.size - 1) r.data.toList.tail = l0 := by
                        rw [hl0, List.tail_cons, List.take_of_length_le]
                        rw [sz_of hl0]; simp
                      clear hl0
                      rcases Plain.indexByte_spec 47 l0 with ⟨k1, k2⟩ | ⟨p, t, k1, k2, k3⟩
                      · have k1' : Lib.indexByte (List.take (r.size - 1) r.data.toList.tail) 47 = -1 := by rw [ht0]; exact k1
                        clear ht0 k1
                        go_wp2_with (first | (go_at_call 32; refine (hasPrefix_any _ _ _).mono ?_; rintro e w' ⟨rfl, rfl⟩) | (go_at_call 31; refine (ib47 _ _).mono ?_; rintro e w' ⟨rfl, rfl⟩) | (at_builtin; refine Lib.wpList_append_own_string _ rfl _ _ 35 9 rfl w.heap.size 5 i0 Try.underlying35 Try.underlying9 hi hz0 hz1 hz2 _ _ _ rfl hown r rfl ?c3 ?c4 ?c5 ?_))
                        case c3 => unfold maxLen; omega
                        case c4 => omega
                        case c5 => exact hbs
                        intro v' w3 hown' hgrow _
                        go_wp2
                        go_roundw
                        case rel => exact ⟨ByteArray.empty, o ++ r.data.toList, rfl, by rw [List.length_append, len_size, ← bc_append]; exact hown', HB.out.grown hgrow hbs (fun q hq => (hown.lt q hq).1), by
                          have := HI.out.move r.size (by rw [len_size]; omega) (fun _ => Or.inl (List.drop_of_length_le (by rw [len_size]; omega))) HN.out
                          rw [List.take_of_length_le (by rw [len_size]; omega), List.drop_of_length_le (by rw [len_size]; omega)] at this
                          exact this⟩
                        case measure => simp [strLen]; omega
                      · have k3' : Lib.indexByte (List.take (r.size - 1) r.data.toList.tail) 47 = p.length := by rw [ht0]; exact k3
                        have hk : p.length + 1 < r.size := by rw [sz_of HL.out, k1]; simp
                        have hk3 : (p.length : Int) + 1 ≤ r.size := by omega
                        have K1 : Hid (l0 = p ++ 47 :: t) := k1
                        have K2 : Hid ((47 : UInt8) ∉ p) := k2
                        clear ht0 k1 k2 k3
                        go_wp2_with (first | (go_at_call 32; refine (hasPrefix_any _ _ _).mono ?_; rintro e w' ⟨rfl, rfl⟩) | (go_at_call 31; refine (ib47 _ _).mono ?_; rintro e w' ⟨rfl, rfl⟩) | (at_builtin; refine Lib.wpList_append_own_string _ rfl _ _ 35 9 rfl w.heap.size 5 i0 Try.underlying35 Try.underlying9 hi hz0 hz1 hz2 _ _ _ rfl hown _ rfl ?c3 ?c4 ?c5 ?_))
                        case c3 => unfold maxLen; simp; omega
                        case c4 => simp; omega
                        case c5 => exact hbs
                        have hmin : min (p.length + 1) r.size = p.length + 1 := by omega
                        have HM : Hid (min (p.length + 1) r.size = p.length + 1) := hmin
                        clear hmin
                        intro v' w3 hown' hgrow _
                        rw [HM.out] at hown'
                        go_wp2
                        go_roundw
                        case rel => exact ⟨r.extract (p.length + 1) r.size, o ++ (r.extract 0 (p.length + 1)).data.toList, rfl, by rw [List.length_append, len_size, ByteArray.size_extract, HM.out, ← bc_append]; exact hown', HB.out.grown hgrow hbs (fun q hq => (hown.lt q hq).1), by
                          rw [ext0_data, ext_data]
                          exact HI.out.move (p.length + 1) (by rw [len_size]; omega) (fun hc => Or.inr (by rw [HL.out] at hc ⊢; exact Plain.clean_next K1.out K2.out hc)) HN.out⟩
                        case measure => simp [strLen]; omega
end Go.Proofs.Qxb6001155a
