import Derived.Test.Qxb6001167aRune
import Derived.Test.Qxb6001167aShelf
import Derived.Lib.OthersKept
import Derived.Laws.RangeAny
import Derived.WalkSmall
namespace Go.Proofs.Qxb6001167a
open Go.RowKit

/-! ### plain: what a step of 'range s' passes over -/

theorem get_bang (s : ByteArray) (i : Nat) (h : i < s.size) : s.get! i = s[i] := by
  simp [ByteArray.get!, getElem!_pos, h]
  rfl

theorem decode_valid (s : ByteArray) (pos : Nat) : Utf8.valid ((Utf8.decode s pos).1 : Int) = true := by
  have hb : ∀ k, (s.get! (pos + k)).toNat < 256 := fun k => (s.get! (pos + k)).toNat_lt
  have h0 := hb 0; have h1 := hb 1
  simp only [Utf8.decode]
  repeat' split
  all_goals simp_all [Utf8.runeError, Utf8.valid]
  all_goals omega

theorem decode_span (s : ByteArray) (pos : Nat) (h : pos < s.size) (ha : 128 ≤ (s[pos]'h).toNat) :
    pos + (Utf8.decode s pos).2 ≤ s.size ∧ ∀ j, pos ≤ j → j < pos + (Utf8.decode s pos).2 → 128 ≤ (s.get! j).toNat := by
  have hn : ¬ (s[pos]'h).toNat < 128 := by omega
  have hp : 128 ≤ (s.get! pos).toNat := by rw [get_bang s pos h]; exact ha
  simp only [Utf8.decode, get_at s pos h, hn, if_false]
  repeat' split
  all_goals simp_all
  all_goals
    refine ⟨by omega, fun j h1 h2 => ?_⟩
    rcases (show j = pos ∨ j = pos + 1 ∨ j = pos + 2 ∨ j = pos + 3 from by omega) with rfl | rfl | rfl | rfl
    all_goals omega

theorem indexAny_neg : ∀ (l chars : List UInt8), Lib.indexAny l chars < 0 → ∀ b ∈ l, chars.contains b = false
  | [], _, _ => by simp
  | b :: l, chars, h => by
    unfold Lib.indexAny at h
    intro c hc
    by_cases hb : chars.contains b = true
    · rw [if_pos hb] at h; omega
    · rw [if_neg hb] at h
      have hb' : chars.contains b = false := by simpa using hb
      have ih := indexAny_neg l chars (by
        by_cases he : (Lib.indexAny l chars == -1) = true
        · have := beq_iff_eq.1 he; omega
        · rw [if_neg he] at h; omega)
      rcases List.mem_cons.1 hc with rfl | hc
      · exact hb'
      · exact ih c hc

/-- 'IndexRune(chars, r)' at a rune that stands in no ASCII text. -/
theorem indexRune_no (r : Nat) (w : World) (h128 : 128 ≤ r) (hv : Utf8.valid (r : Int) = true) :
    Calls Try.prog 42 #[.string C8, .int .i32 (r : Int)] w fun e w' => e = .returned (.int .i64 (-1)) ∧ Below w.heap.size w w' := by
  by_cases hne : (r : Int) = 65533
  · rw [hne]
    refine (indexRune_err C8 w C8_ascii).mono ?_
    rintro e w' ⟨rfl, pos, rfl⟩
    exact ⟨rfl, (Below.refl _ _).alloc (Nat.le_refl _) _⟩
  · refine (indexRune_high C8 r w (by rw [C8_size]; omega) (by rw [C8_size]; omega) C8_ascii (by omega) hne hv).mono ?_
    rintro e w' ⟨rfl, n, rfl⟩
    exact ⟨rfl, below_drewN (Below.refl _ _) _⟩

set_option maxHeartbeats 400000 in
set_option maxRecDepth 1000000 in
theorem indexRune_ascii (s : ByteArray) (x : UInt8) (w : World) (h : x.toNat < 128) :
    Calls Try.prog 42 #[.string s, .int .i32 (x.toNat : Int)] w fun e w' => e = .returned (.int .i64 (Lib.indexByte s.data.toList x)) ∧ w' = w := by
  have h0 : (0 : Int) ≤ x.toNat := by omega
  have h1 : (x.toNat : Int) < 128 := by omega
  have hb : ((x.toNat : Int)).toNat.toUInt8 = x := by simp
  go_enter Try.func42, Try.ntmps42
  go_wp2_with (go_at_call 29; refine (indexByte_any _ _ _).mono ?_; rintro e w' ⟨rfl, rfl⟩)
  go_ret
  first | exact ⟨rfl, rfl⟩ | exact ⟨ret_int (by rw [hb]), rfl⟩

/-- Is the byte one of those that 'Quote' asks for? -/
def isSp (b : UInt8) : Bool := C8.data.toList.contains b
theorem isSp_idx {x : UInt8} (h : Lib.indexByte C8.data.toList x < 0) : isSp x = false := by
  cases hc : isSp x
  · rfl
  · exfalso
    have hm : x ∈ C8.data.toList := by simpa [isSp] using hc
    revert h
    simp only [List.mem_cons, List.not_mem_nil, or_false] at hm
    rcases hm with rfl | rfl | rfl | rfl | rfl | rfl | rfl | rfl <;> decide
theorem isSp_high {x : UInt8} (h : 128 ≤ x.toNat) : isSp x = false := by
  cases hc : isSp x
  · rfl
  · exfalso
    have hm : x ∈ C8.data.toList := by simpa [isSp] using hc
    have := C8_ascii x hm
    omega

/-- None of the first i bytes is one of them. -/
def NoSp (s : ByteArray) (i : Nat) : Prop := ∀ j, j < i → isSp (s.get! j) = false
theorem NoSp.succ {s : ByteArray} {i : Nat} (h : NoSp s i) (h2 : isSp (s.get! i) = false) : NoSp s (i + 1) := fun j hj => by
  by_cases e : j = i
  · subst e; exact h2
  · exact h j (by omega)
theorem NoSp.all {s : ByteArray} (h : NoSp s s.size) : ∀ b ∈ s.data.toList, isSp b = false := by
  intro b hb
  obtain ⟨j, hj, rfl⟩ := List.getElem_of_mem hb
  have hj' : j < s.size := by simpa using hj
  have := h j hj'
  rw [get_bang s j hj'] at this
  exact this

theorem zero65 (w : World) : (zeroValue 65).run Try.prog w = .ok (.agg (Array.replicate 256 (.bool false))) w := by kernel_rfl

theorem indexAny_long (s : ByteArray) (w : World) (h8 : 8 < s.size) (hs : s.size ≤ 3000000) :
    Calls Try.prog 34 #[.string s, .string C8] w fun e w' => (∃ n : Int, e = .returned (.int .i64 n) ∧ (n < 0 → ∀ b ∈ s.data.toList, isSp b = false)) ∧ Below w.heap.size w w' := by
  refine (Try.strings_IndexAny_long zero65 s C8 w (by rw [C8_size]; omega) h8 (by omega) (by rw [C8_size]; omega) (fun j b hb => C8_ascii b (List.mem_of_getElem? hb))).mono ?_
  rintro e w' ⟨rfl, rfl⟩
  exact ⟨⟨_, rfl, fun h => indexAny_neg _ _ h⟩, ((Below.refl _ _).alloc (Nat.le_refl _) _).alloc (by simp) _⟩

set_option maxHeartbeats 2000000 in
set_option maxRecDepth 1000000 in
theorem indexAny_short (s : ByteArray) (w : World) (h8 : s.size ≤ 8) :
    Calls Try.prog 34 #[.string s, .string C8] w fun e w' => (∃ n : Int, e = .returned (.int .i64 n) ∧ (n < 0 → ∀ b ∈ s.data.toList, isSp b = false)) ∧ Below w.heap.size w w' := by
  have hemp : C8.toList.isEmpty = false := by rw [Lib.toList_data]; rfl
  have h8z : ¬ (8 : Int) < (s.size : Int) := by omega
  go_enter Try.func34, Try.ntmps34
  go_wp2_with (go_at_call 43; go_in)
  go_loopg [9, 10] s.size (fun g _ _ wx => ∃ i : Nat, i ≤ s.size ∧ s.size ≤ i + g ∧ wx.heap[w.heap.size]? = some (.stringIter s i) ∧ Below w.heap.size w wx ∧ NoSp s i)
  case atStart => exact ⟨0, Nat.zero_le _, by omega, World.iter_heap w s 0, (Below.refl _ _).alloc (Nat.le_refl _) _, fun j hj => absurd hj (Nat.not_lt_zero _)⟩
  case round =>
    obtain ⟨i, hi, hig, hit, hbel, hno⟩ := hrel
    have HN : Hid (NoSp s i) := hno
    have HB : Hid (Below w.heap.size w wr) := hbel
    have HI : Hid (wr.heap[w.heap.size]? = some (.stringIter s i)) := hit
    have hlt0 : w.heap.size < wr.heap.size := (Array.getElem?_eq_some_iff.1 hit).1
    clear hno hbel hit
    by_cases hlt : i < s.size
    · obtain ⟨g, rfl⟩ : ∃ g, gk = g + 1 := ⟨gk - 1, by omega⟩
      by_cases hx : (s[i]'hlt).toNat < 128
      · have hnx := fun ty => Lib.run_next_ascii_at (P := Try.prog) wr w.heap.size s i ty HI.out hlt hx
        obtain ⟨x, hxe⟩ : ∃ x : UInt8, s[i]'hlt = x := ⟨_, rfl⟩
        rw [hxe] at hx hnx
        have HX : Hid (s.get! i = x) := by show _ = _; rw [get_bang s i hlt]; exact hxe
        clear hxe
        by_cases hge : 0 ≤ Lib.indexByte C8.data.toList x
        · go_wp2_with (go_at_call 42; refine (indexRune_ascii _ _ _ hx).mono ?_; rintro e w' ⟨rfl, rfl⟩)
          go_ret
          exact ⟨⟨(i : Int), rfl, fun h => absurd h (by omega)⟩, Lib.below_iterAt HB.out (Nat.le_refl _) _ _⟩
        · have hlt2 : ¬ 0 ≤ Lib.indexByte C8.data.toList x := hge
          go_wp2_with (go_at_call 42; refine (indexRune_ascii _ _ _ hx).mono ?_; rintro e w' ⟨rfl, rfl⟩)
          go_roundg g
          case measure => omega
          case rel => exact ⟨i + 1, by omega, by omega, Lib.iterAt_heap wr w.heap.size s i (i + 1) HI.out, Lib.below_iterAt HB.out (Nat.le_refl _) _ _, HN.out.succ (by rw [HX.out]; exact isSp_idx (by omega))⟩
      · have hnx := fun ty => Lib.run_next_any_at (P := Try.prog) wr w.heap.size s i ty HI.out hlt
        have hh := decode_high s i hlt (by omega)
        have hv := decode_valid s i
        have hsp := decode_span s i hlt (by omega)
        obtain ⟨R, hR⟩ : ∃ R, (Utf8.decode s i).1 = R := ⟨_, rfl⟩
        obtain ⟨D, hD⟩ : ∃ D, (Utf8.decode s i).2 = D := ⟨_, rfl⟩
        rw [hR, hD] at hnx hh
        rw [hR] at hv
        rw [hD] at hsp
        clear hR hD hx
        obtain ⟨h128, hd1⟩ := hh
        obtain ⟨hsz, hbytes⟩ := hsp
        have HS : Hid (∀ j, i ≤ j → j < i + D → 128 ≤ (s.get! j).toNat) := hbytes
        have HV : Hid (Utf8.valid (R : Int) = true) := hv
        clear hbytes hv
        go_wp2_with (go_at_call 42; refine (indexRune_no R _ h128 HV.out).mono ?_; rintro e w' ⟨rfl, hb⟩)
        go_roundg g
        case measure => omega
        case rel => exact ⟨i + D, by omega, by omega, by rw [hb.block _ (by rw [Lib.iterAt_size]; exact hlt0)]; exact Lib.iterAt_heap wr w.heap.size s i (i + D) HI.out, (Lib.below_iterAt HB.out (Nat.le_refl _) _ _).trans (hb.mono (by rw [Lib.iterAt_size]; omega)), fun j hj => by
          by_cases hji : j < i
          · exact HN.out j hji
          · exact isSp_high (HS.out j (by omega) hj)⟩
    · have hnx := fun ty => Lib.run_next_end_at (P := Try.prog) wr w.heap.size s i ty HI.out hlt
      go_wp2
      go_ret
      have : i = s.size := by omega
      exact ⟨⟨-1, rfl, fun _ => by have := HN.out; rw [‹i = s.size›] at this; exact this.all⟩, HB.out⟩

theorem indexAny_all (s : ByteArray) (w : World) (hs : s.size ≤ 3000000) :
    Calls Try.prog 34 #[.string s, .string C8] w fun e w' => (∃ n : Int, e = .returned (.int .i64 n) ∧ (n < 0 → ∀ b ∈ s.data.toList, isSp b = false)) ∧ Below w.heap.size w w' := by
  by_cases h8 : 8 < s.size
  · exact indexAny_long s w h8 hs
  · exact indexAny_short s w (by omega)

/-- 'ContainsAny(s, chars)': where it says no, none of the bytes of s is one of chars. -/
theorem containsAny_all (s : ByteArray) (w : World) (hs : s.size ≤ 3000000) :
    Calls Try.prog 26 #[.string s, .string C8] w fun e w' => (∃ b : Bool, e = .returned (.bool b) ∧ (b = false → ∀ b ∈ s.data.toList, isSp b = false)) ∧ Below w.heap.size w w' := by
  go_enter Try.func26, Try.ntmps26
  go_wp2_with (go_at_call 34; refine (indexAny_all _ _ hs).mono ?_; rintro e w' ⟨⟨n, rfl, hn⟩, hb⟩)
  go_ret
  exact ⟨⟨decide (0 ≤ n), rfl, fun h => hn (by have := of_decide_eq_false h; omega)⟩, hb⟩

end Go.Proofs.Qxb6001167a
