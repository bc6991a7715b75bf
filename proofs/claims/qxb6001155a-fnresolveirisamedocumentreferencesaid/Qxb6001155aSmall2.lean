import Derived.Test.Qxb6001155aSmall
import Derived.Test.Qxb6001155aDots
import Derived.Lib.AppendStr
namespace Go.Proofs.Qxb6001155a
open Go.RowKit
open Plain (hasDot dotFrom isDot)

set_option maxHeartbeats 400000 in
theorem lastIndex_any (s : ByteArray) (c : Int) (w : World) (hs : s.size ≤ maxLen) :
    Calls Try.prog 30 #[.string s, .int .u8 c] w fun e w' => (∃ r : Nat, r ≤ s.size ∧ e = .returned (.int .i64 ((r : Int) - 1))) ∧ w' = w := by
  unfold maxLen at hs
  go_enter Try.func30, Try.ntmps30
  go_wp2
  go_loop [5] (fun i => ∃ k : Nat, k ≤ s.size ∧ i = .int .i64 ((k : Int) - 1)) (fun i => (intOf i + 1).toNat)
  case atStart => exact ⟨s.size, Nat.le_refl _, rfl⟩
  case round =>
    obtain ⟨k, hk, rfl⟩ := hrel
    by_cases h0 : k = 0
    · have h0' : ¬ (0 : Int) ≤ (k : Int) - 1 := by omega
      have H0 : Hid (k = 0) := h0
      clear h0
      go_wp2
      go_ret
      exact ⟨⟨0, Nat.zero_le _, rfl⟩, rfl⟩
    · obtain ⟨j, rfl⟩ : ∃ j, k = j + 1 := ⟨k - 1, by omega⟩
      have e1 : (((j + 1 : Nat) : Int) - 1) = (j : Int) := by omega
      rw [e1]
      clear h0 e1
      have hj : j < s.size := by omega
      cases he : ((s[j].toNat : Int) == c)
      · go_wp2
        go_round
        case rel => exact ⟨j, by omega, rfl⟩
        case measure => simp [intOf]
      · go_wp2
        go_ret
        exact ⟨⟨j + 1, by omega, ret_int (by omega)⟩, rfl⟩

/-- A text as cells. -/
def bc (l : List UInt8) : List Value := l.map fun b => Value.int .u8 b.toNat
theorem bc_length (l : List UInt8) : (bc l).length = l.length := by simp [bc]
theorem bc_get (l : List UInt8) (j : Nat) (h : j < l.length) : (bc l)[j]? = some (.int .u8 (l.getD j 0).toNat) := by
  simp [bc, List.getElem?_eq_getElem h, List.getD]

set_option maxHeartbeats 400000 in
theorem lastIndexB_any (v : Value) (base n : Nat) (o : List UInt8) (w : World) (hown : w.ownsRow base 5 1 v n (bc o)) (hn : n ≤ maxLen) :
    Calls Try.prog 35 #[v, .int .u8 47] w fun e w' => (∃ r : Nat, r ≤ n ∧ e = .returned (.int .i64 ((r : Int) - 1))) ∧ w' = w := by
  unfold maxLen at hn
  have hxl : n = o.length := by have := hown.1; rw [bc_length] at this; omega
  have hown2 := hown
  rcases hown.2 with ⟨rfl, hn0⟩ | ⟨g, cap, cur, rfl, hbg, hg, hnc, hcm, hcs, htake⟩
  · clear hown hown2 hxl hn0
    go_enter Try.func35, Try.ntmps35
    go_wp2
    go_loop [5] (fun i => i = .int .i64 (-1)) (fun _ => 0)
    case atStart => rfl
    case round =>
      subst hrel
      go_wp2
      go_ret
      exact ⟨⟨0, Nat.zero_le _, rfl⟩, rfl⟩
  · have hcell : ∀ j, j < n → ∃ x : Int, w.cell? ⟨g, j, none⟩ = some (.int .u8 x) := by
      intro j hj
      have := hown2.cells (g := g) rfl j _ (bc_get o j (by omega))
      rw [Addr.add_lit, Nat.zero_add] at this
      exact ⟨_, this⟩
    clear hown hown2 hg hcs htake hbg hxl
    go_enter Try.func35, Try.ntmps35
    go_wp2
    go_loop [5] (fun i => ∃ k : Nat, k ≤ n ∧ i = .int .i64 ((k : Int) - 1)) (fun i => (intOf i + 1).toNat)
    case atStart => exact ⟨n, Nat.le_refl _, rfl⟩
    case round =>
      obtain ⟨k, hk, rfl⟩ := hrel
      by_cases h0 : k = 0
      · have h0' : ¬ (0 : Int) ≤ (k : Int) - 1 := by omega
        have H0 : Hid (k = 0) := h0
        clear h0 hcell
        go_wp2
        go_ret
        exact ⟨⟨0, Nat.zero_le _, rfl⟩, rfl⟩
      · obtain ⟨j, rfl⟩ : ∃ j, k = j + 1 := ⟨k - 1, by omega⟩
        have e1 : (((j + 1 : Nat) : Int) - 1) = (j : Int) := by omega
        rw [e1]
        clear h0 e1
        have hj : j < n := by omega
        obtain ⟨x, hc⟩ := hcell j hj
        clear hcell
        cases he : (x == 47)
        · go_wp2
          go_round
          case rel => exact ⟨j, by omega, rfl⟩
          case measure => simp [intOf]
        · go_wp2
          go_ret
          exact ⟨⟨j + 1, by omega, ret_int (by omega)⟩, rfl⟩

def DotAt (s : ByteArray) (k st : Nat) : Prop :=
  (k ≤ s.size ∧ st ≤ k ∧ dotFrom (s.extract st k).data.toList (s.data.toList.drop k) = hasDot s.data.toList) ∨ (k = s.size + 1 ∧ hasDot s.data.toList = false)

theorem isDot_yes {x : ByteArray} (h : x.toList = [46] ∨ ((x.toList == [46]) = true ∨ (x.toList == [46, 46]) = true)) : isDot x.data.toList = true := by
  rw [Lib.toList_data] at h
  unfold isDot
  rcases h with h | h | h <;> simp_all
theorem isDot_no {x : ByteArray} (h : (x.toList == [46]) = false ∧ (x.toList == [46, 46]) = false) : isDot x.data.toList = false := by
  rw [Lib.toList_data] at h
  unfold isDot
  simp [h.1, h.2]
theorem ext_self (s : ByteArray) (k : Nat) : (s.extract k k).data.toList = [] := by rw [Lib.extract_data]; simp
theorem ext_snoc (s : ByteArray) (st k : Nat) (h : k < s.size) (hst : st ≤ k) : (s.extract st (k + 1)).data.toList = (s.extract st k).data.toList ++ [s[k]] := by
  have hl : k - st < (s.data.toList.drop st).length := by rw [List.length_drop, len_size]; omega
  rw [Lib.extract_data, Lib.extract_data, Nat.sub_add_comm hst, List.take_succ_eq_append_getElem hl]
  congr 2
  rw [List.getElem_drop]
  have : st + (k - st) = k := by omega
  simp only [this]
  rfl

/-- The rounds, plainly. -/
theorem dot_end {s : ByteArray} {k st : Nat} (H : dotFrom (s.extract st k).data.toList (s.data.toList.drop k) = hasDot s.data.toList) (hk : ¬ k < s.size) : isDot (s.extract st k).data.toList = hasDot s.data.toList := by
  rw [← H, List.drop_of_length_le (by rw [len_size]; omega), dotFrom]
theorem dot_slash {s : ByteArray} {k st : Nat} (H : dotFrom (s.extract st k).data.toList (s.data.toList.drop k) = hasDot s.data.toList) (hk : k < s.size) (hc : ((s[k].toNat : Int) == 47) = true) :
    (isDot (s.extract st k).data.toList || dotFrom [] (s.data.toList.drop (k + 1))) = hasDot s.data.toList := by
  rw [← H, drop_cons s k hk, (byte_eq s[k] 47).1 (by simpa using hc), Plain.dotFrom_slash]
theorem dot_other {s : ByteArray} {k st : Nat} (H : dotFrom (s.extract st k).data.toList (s.data.toList.drop k) = hasDot s.data.toList) (hk : k < s.size) (hst : st ≤ k) (hc : ((s[k].toNat : Int) == 47) = false) :
    DotAt s (k + 1) st := by
  refine Or.inl ⟨by omega, by omega, ?_⟩
  have hne : ¬ s[k] = 47 := fun e => by rw [e] at hc; exact absurd hc (by decide)
  rw [← H, drop_cons s k hk, dotFrom, if_neg hne, ext_snoc s st k hk hst]

set_option maxHeartbeats 400000 in
theorem hasDot_any (s : ByteArray) (w : World) (hs : s.size < 9223372036854775807) :
    Calls Try.prog 18 #[.string s] w fun e w' => e = .returned (.bool (hasDot s.data.toList)) ∧ w' = w := by
  go_enter Try.func18, Try.ntmps18
  go_wp2
  go_loop [3, 4] (fun a i => ∃ k st : Nat, i = .int .i64 k ∧ a = .int .i64 st ∧ DotAt s k st) (fun _ i => s.size + 1 - (intOf i).toNat)
  case atStart => exact ⟨0, 0, rfl, rfl, Or.inl ⟨Nat.zero_le _, Nat.le_refl _, by rw [ext_self, List.drop_zero]; rfl⟩⟩
  case round =>
    obtain ⟨k, st, rfl, rfl, hd⟩ := hrel
    rcases hd with ⟨hk, hst, hd⟩ | ⟨rfl, hd⟩
    · have HD : Hid (dotFrom (s.extract st k).data.toList (s.data.toList.drop k) = hasDot s.data.toList) := hd
      clear hd
      by_cases hlt : k < s.size
      · have hne : ((k : Int) == (s.size : Int)) = false := by rw [beq_eq_false_iff_ne]; omega
        cases hc : ((s[k].toNat : Int) == 47)
        · go_wp2
          go_round
          case rel => exact ⟨k + 1, st, by go_num, rfl, dot_other HD.out hlt hst hc⟩
          case measure => simp [intOf]; omega
        · go_wp2
          · go_ret
            exact ⟨ret_bool (by rw [← dot_slash HD.out hlt hc, isDot_yes (Or.inl ‹_›)]; rfl), rfl⟩
          · go_ret
            exact ⟨ret_bool (by rw [← dot_slash HD.out hlt hc, isDot_yes (Or.inr ‹_›)]; rfl), rfl⟩
          · have hn := isDot_no (x := s.extract st k) ‹_›
            go_round
            case rel => exact ⟨k + 1, k + 1, by go_num, by go_num, Or.inl ⟨by omega, Nat.le_refl _, by rw [ext_self, ← dot_slash HD.out hlt hc, hn]; rfl⟩⟩
            case measure => simp [intOf]; omega
      · have he : ((k : Int) == (s.size : Int)) = true := by rw [beq_iff_eq]; omega
        go_wp2
        · go_ret
          exact ⟨ret_bool (by rw [← dot_end HD.out hlt, isDot_yes (Or.inl ‹_›)]), rfl⟩
        · go_ret
          exact ⟨ret_bool (by rw [← dot_end HD.out hlt, isDot_yes (Or.inr ‹_›)]), rfl⟩
        · have hn := isDot_no (x := s.extract st k) ‹_›
          go_round
          case rel => exact ⟨k + 1, k + 1, by go_num, by go_num, Or.inr ⟨by omega, by rw [← dot_end HD.out hlt, hn]⟩⟩
          case measure => simp [intOf]; omega
    · go_wp2
      go_ret
      exact ⟨rfl, rfl⟩

set_option maxHeartbeats 400000 in
theorem cutFragment_any (s : ByteArray) (w : World) (hs : s.size ≤ maxLen) :
    Calls Try.prog 25 #[.string s] w fun e w' => (∃ d f : ByteArray, e = .returned (.string d) ∧ Plain.Cut 35 s.data.toList d.data.toList f.data.toList) ∧ w' = w := by
  rcases Plain.indexByte_spec 35 s.data.toList with ⟨h1, h2⟩ | ⟨p, t, h1, h2, h3⟩
  · have H2 : Hid ((35 : UInt8) ∉ s.data.toList) := h2
    clear h2
    go_enter Try.func25, Try.ntmps25
    go_wp2_with (go_at_call 15; refine (fi35 _ _ hs).mono ?_; rintro e w' ⟨rfl, rfl⟩)
    go_ret
    exact ⟨⟨s, ⟨#[]⟩, rfl, Plain.cut_no H2.out⟩, rfl⟩
  · have hk : p.length < s.size := by rw [← len_size, h1]; simp
    have HC : Hid (Plain.Cut 35 s.data.toList (s.data.toList.take p.length) (s.data.toList.drop p.length)) := Plain.cut_yes h1 h2
    have hk3 : (p.length : Int) ≤ s.size := by omega
    clear h1 h2
    go_enter Try.func25, Try.ntmps25
    go_wp2_with (go_at_call 15; refine (fi35 _ _ hs).mono ?_; rintro e w' ⟨rfl, rfl⟩)
    go_ret
    exact ⟨⟨s.extract 0 p.length, s.extract p.length s.size, rfl, by rw [ext0_data, ext_data]; exact HC.out⟩, rfl⟩
end Go.Proofs.Qxb6001155a
