import Derived.Test.Qxb6001155aLibs
import Derived.Deep.DeepCutAuto
import Derived.Deep.Draws
import Derived.RegionTactic
import Derived.ChangeAlike
import Derived.WalkSmall
namespace Go.Proofs.Qxb6001155a
open Go.RowKit
open Plain (schemeEnd Parts Cut CutS CutA)

theorem setCell_drewN (w : World) (n : Nat) (a : Addr) (v : Value) : (w.drewN n).setCell a v = (w.setCell a v).drewN n := rfl
attribute [local go_sem] setCell_drewN

theorem ext_data (s : ByteArray) (k : Nat) : (s.extract k s.size).data.toList = s.data.toList.drop k := by
  rw [Lib.extract_data, List.take_of_length_le]
  simp
theorem ext0_data (s : ByteArray) (k : Nat) : (s.extract 0 k).data.toList = s.data.toList.take k := by
  rw [Lib.extract_data]; simp
theorem len_size (s : ByteArray) : s.data.toList.length = s.size := (Lib.size_eq s).symm

theorem ib35 (s : ByteArray) (w : World) : Calls Try.prog 31 #[.string s, .int .u8 35] w fun e w' => e = .returned (.int .i64 (Lib.indexByte s.data.toList 35)) ∧ w' = w := indexByte_any s 35 w
theorem ib63 (s : ByteArray) (w : World) : Calls Try.prog 31 #[.string s, .int .u8 63] w fun e w' => e = .returned (.int .i64 (Lib.indexByte s.data.toList 63)) ∧ w' = w := indexByte_any s 63 w
theorem ib47 (s : ByteArray) (w : World) : Calls Try.prog 31 #[.string s, .int .u8 47] w fun e w' => e = .returned (.int .i64 (Lib.indexByte s.data.toList 47)) ∧ w' = w := indexByte_any s 47 w

/-- The two blocks of 'splitIRI': the result's, and the variable p's. -/
abbrev Z31 : Obj := .cells #[.string ⟨#[]⟩, .string ⟨#[]⟩, .string ⟨#[]⟩, .string ⟨#[]⟩, .string ⟨#[]⟩] 31
abbrev B31 (sc a p q f : ByteArray) : Obj := .cells #[.string sc, .string a, .string p, .string q, .string f] 31

set_option maxHeartbeats 1000000 in
theorem splitIRI_any (s : ByteArray) (w : World) (hs : s.size ≤ maxLen) :
    Calls Try.prog 27 #[.string s] w fun e w' => ∃ sc a p q f : ByteArray, e = .returned (.agg #[.string sc, .string a, .string p, .string q, .string f]) ∧
      Parts s.data.toList sc.data.toList a.data.toList p.data.toList q.data.toList f.data.toList ∧ Below w.heap.size w w' := by
  have hs0 := hs
  unfold maxLen at hs
  go_enter Try.func27, Try.ntmps27
  go_upto_if 12 with (go_at_call 28; refine (schemeEnd_any _ _ hs0).mono ?_; rintro e w' ⟨rfl, rfl⟩)
  go_cut [0, 4] (fun s0 _ wx => ∃ (sc r : ByteArray) (n : Nat), s0 = .string r ∧ CutS s.data.toList sc.data.toList r.data.toList ∧ r.size ≤ s.size ∧ wx = ((w.alloc Z31).alloc (B31 sc ⟨#[]⟩ ⟨#[]⟩ ⟨#[]⟩ ⟨#[]⟩)).drewN n)
  case first =>
    by_cases h : schemeEnd s.data.toList = -1
    · go_wp2
      go_meet
      case rel => exact ⟨⟨#[]⟩, s, 0, rfl, Plain.cutS_no h, Nat.le_refl _, rfl⟩
    · obtain ⟨k, hk, hk2, hc⟩ := Plain.cutS_yes h
      rw [len_size] at hk2
      have hk3 : (k : Int) + 1 ≤ s.size := by omega
      have HC : Hid (CutS s.data.toList (s.data.toList.take (k + 1)) (s.data.toList.drop (k + 1))) := hc
      clear hc h
      go_wp2
      go_region
      all_goals
        go_wp2
        go_meet
        case rel => exact ⟨s.extract 0 (k + 1), s.extract (k + 1) s.size, 1, rfl, by rw [ext0_data, ext_data]; exact HC.out, by simp, rfl⟩
  case rest =>
    obtain ⟨sc, r, n, rfl, h1, hr, rfl⟩ := hcut
    have H1 : Hid (CutS s.data.toList sc.data.toList r.data.toList) := h1
    clear h1
    go_upto_if 25 with (go_at_call 31; refine (ib35 _ _).mono ?_; rintro e w' ⟨rfl, rfl⟩)
    go_cut [0, 5] (fun s0 _ wx => ∃ (r2 f : ByteArray) (n : Nat), s0 = .string r2 ∧ Cut 35 r.data.toList r2.data.toList f.data.toList ∧ r2.size ≤ s.size ∧ wx = ((w.alloc Z31).alloc (B31 sc ⟨#[]⟩ ⟨#[]⟩ ⟨#[]⟩ f)).drewN n)
    case first =>
      rcases Plain.indexByte_spec 35 r.data.toList with ⟨h1, h2⟩ | ⟨p, t, h1, h2, h3⟩
      · go_wp2
        go_meet
        case rel => exact ⟨r, ⟨#[]⟩, n, rfl, Plain.cut_no h2, hr, rfl⟩
      · have hc := Plain.cut_yes h1 h2
        have hk : p.length < r.size := by rw [← len_size, h1]; simp
        have HC : Hid (Cut 35 r.data.toList (r.data.toList.take p.length) (r.data.toList.drop p.length)) := hc
        have hk3 : (p.length : Int) ≤ r.size := by omega
        clear hc h1 h2
        go_wp2
        go_region
        all_goals
          go_wp2
          go_meet
          case rel => exact ⟨r.extract 0 p.length, r.extract p.length r.size, n + 1, rfl, by rw [ext0_data, ext_data]; exact HC.out, by simp; omega, rfl⟩
    case rest =>
      clear hr
      obtain ⟨r2, f, n2, rfl, h1, hr, rfl⟩ := hcut
      have H2 : Hid (Cut 35 r.data.toList r2.data.toList f.data.toList) := h1
      clear h1
      go_upto_if 36 with (go_at_call 31; refine (ib63 _ _).mono ?_; rintro e w' ⟨rfl, rfl⟩)
      go_cut [0, 6] (fun s0 _ wx => ∃ (r3 q : ByteArray) (n : Nat), s0 = .string r3 ∧ Cut 63 r2.data.toList r3.data.toList q.data.toList ∧ r3.size ≤ s.size ∧ wx = ((w.alloc Z31).alloc (B31 sc ⟨#[]⟩ ⟨#[]⟩ q f)).drewN n)
      case first =>
        rcases Plain.indexByte_spec 63 r2.data.toList with ⟨h1, h2⟩ | ⟨p, t, h1, h2, h3⟩
        · go_wp2
          go_meet
          case rel => exact ⟨r2, ⟨#[]⟩, n2, rfl, Plain.cut_no h2, hr, rfl⟩
        · have hc := Plain.cut_yes h1 h2
          have hk : p.length < r2.size := by rw [← len_size, h1]; simp
          have HC : Hid (Cut 63 r2.data.toList (r2.data.toList.take p.length) (r2.data.toList.drop p.length)) := hc
          have hk3 : (p.length : Int) ≤ r2.size := by omega
          clear hc h1 h2
          go_wp2
          go_region
          all_goals
            go_wp2
            go_meet
            case rel => exact ⟨r2.extract 0 p.length, r2.extract p.length r2.size, n2 + 1, rfl, by rw [ext0_data, ext_data]; exact HC.out, by simp; omega, rfl⟩
      case rest =>
        clear hr
        obtain ⟨r3, q, n3, rfl, h1, hr, rfl⟩ := hcut
        have H3 : Hid (Cut 63 r2.data.toList r3.data.toList q.data.toList) := h1
        clear h1
        go_upto_if 45 with (go_at_call 32; refine (hasPrefix_any _ _ _).mono ?_; rintro e w' ⟨rfl, rfl⟩)
        go_cut [0, 7, 8] (fun s0 _ _ wx => ∃ (p a : ByteArray) (n : Nat), s0 = .string p ∧ CutA r3.data.toList a.data.toList p.data.toList ∧ wx = ((w.alloc Z31).alloc (B31 sc a ⟨#[]⟩ q f)).drewN n)
        case first =>
          cases hp : Lib.hasPrefix r3.data.toList [47, 47]
          case false =>
            go_wp2
            go_meet
            case rel => exact ⟨r3, ⟨#[]⟩, n3, rfl, Plain.cutA_no hp, rfl⟩
          case true =>
            obtain ⟨t0, ht0⟩ := Plain.prefix2 hp
            clear hp
            have h2le : 2 ≤ r3.size := by rw [← len_size, ht0]; simp
            have hd : r3.data.toList.drop 2 = t0 := by rw [ht0]; rfl
            have HT : Hid (r3.data.toList = 47 :: 47 :: t0) := ht0
            clear ht0
            have HD : Hid ((r3.extract 2 r3.size).data.toList = t0) := by show _ = _; rw [ext_data, hd]
            clear hd
            rcases Plain.indexByte_spec 47 t0 with ⟨h1, h2⟩ | ⟨p, t, h1, h2, h3⟩
            · have h1' : Lib.indexByte (List.take (r3.size - 2) (List.drop 2 r3.data.toList)) 47 = -1 := by rw [← Lib.extract_data, HD.out]; exact h1
              clear h1
              go_wp2_with (go_at_call 31; refine (ib47 _ _).mono ?_; rintro e w' ⟨rfl, rfl⟩)
              go_region
              all_goals
                go_wp2
                go_meet
                case rel => exact ⟨ByteArray.empty, r3, n3 + 1, rfl, Plain.cutA_all HT.out h2, rfl⟩
            · have h3' : Lib.indexByte (List.take (r3.size - 2) (List.drop 2 r3.data.toList)) 47 = p.length := by rw [← Lib.extract_data, HD.out]; exact h3
              have hk : 2 + p.length < r3.size := by rw [← len_size, HT.out, h1]; simp; omega
              have hk3 : 2 + (p.length : Int) ≤ r3.size := by omega
              have HC : Hid (CutA r3.data.toList (r3.data.toList.take (2 + p.length)) (r3.data.toList.drop (2 + p.length))) := Plain.cutA_at HT.out h1 h2
              clear h1 h2 h3
              go_wp2_with (go_at_call 31; refine (ib47 _ _).mono ?_; rintro e w' ⟨rfl, rfl⟩)
              go_region
              all_goals
                go_wp2
                go_meet
                case rel => exact ⟨r3.extract (2 + p.length) r3.size, r3.extract 0 (2 + p.length), n3 + 1, rfl, by rw [ext0_data, ext_data]; exact HC.out, rfl⟩
        case rest =>
          obtain ⟨p, a, n4, rfl, h1, rfl⟩ := hcut
          have H4 : Hid (CutA r3.data.toList a.data.toList p.data.toList) := h1
          clear h1
          go_wp2
          refine bodyPost_ret (v := .agg #[.string sc, .string a, .string p, .string q, .string f]) (by simp [results, Try.results27, go_sem]) rfl ⟨sc, a, p, q, f, rfl, Plain.Parts.mk' H1.out H2.out H3.out H4.out, ?_⟩
          exact below_drewN (((Below.refl _ _).alloc (Nat.le_refl _) _).alloc (by simp) _) _
end Go.Proofs.Qxb6001155a
