import Derived.Test.Qxb6001167aProg
import Derived.WalkKit
import Derived.WalkSpells
import Derived.Lib.Bytealg
import Derived.Laws.Runes
import Derived.Laws.RangeString
import Derived.Deep.LoopGhost
import Derived.Deep.QuietTactic
import Derived.WalkMore
import Derived.Deep.RegionWith
import Derived.BigQuiet
namespace Go.Proofs.Qxb6001167a
open Go.RowKit

/-- The characters that 'Quote' asks for. -/
abbrev C8 : ByteArray := ⟨#[39, 92, 0, 8, 10, 13, 9, 26]⟩
theorem C8_size : C8.size = 8 := rfl
theorem C8_ascii : ∀ b ∈ C8.data.toList, b.toNat < 128 := by decide

theorem ret_bool {a b : Bool} (h : a = b) : Ending.returned (.bool a) = .returned (.bool b) := by rw [h]
theorem ret_int {k : IntKind} {a b : Int} (h : a = b) : Ending.returned (.int k a) = .returned (.int k b) := by rw [h]

set_option maxHeartbeats 400000 in
theorem indexByte_any (s : ByteArray) (c : Int) (w : World) :
    Calls Try.prog 29 #[.string s, .int .u8 c] w fun e w' => e = .returned (.int .i64 (Lib.indexByte s.data.toList c.toNat.toUInt8)) ∧ w' = w := by
  go_enter Try.func29, Try.ntmps29
  go_wp2
  rw [run_callFunc_extern Try.func48 (by kernel_rfl) (by kernel_rfl) (by kernel_rfl) (e := Extern.BytealgIndexByte.indexByte) (by kernel_rfl), Lib.run_indexByteString]
  simp only [Result.andThen]
  rw [Oper.upon_value]
  go_wp2
  go_ret
  exact ⟨rfl, rfl⟩

set_option maxHeartbeats 2000000 in
set_option maxRecDepth 1000000 in
theorem indexRune_err (s : ByteArray) (w : World) (hascii : ∀ b ∈ s.data.toList, b.toNat < 128) :
    Calls Try.prog 42 #[.string s, .int .i32 65533] w fun e w' => e = .returned (.int .i64 (-1)) ∧ ∃ pos, w' = w.iter s pos := by
  have HA : Hid (∀ b ∈ s.data.toList, b.toNat < 128) := hascii
  clear hascii
  go_enter Try.func42, Try.ntmps42
  go_wp2
  go_loopg [5, 6] s.size (fun g _ _ wx => ∃ i : Nat, i + g = s.size ∧ wx = w.iter s i)
  case atStart => exact ⟨0, by omega, rfl⟩
  case round =>
    obtain ⟨i, hig, rfl⟩ := hrel
    cases gk with
    | zero =>
      obtain rfl : i = s.size := by omega
      have hnx := run_next_end (P := Try.prog) w s s.size
      go_wp2
      go_ret
      exact ⟨rfl, _, rfl⟩
    | succ g =>
      have hi : i < s.size := by omega
      obtain ⟨x, hx⟩ : ∃ x : UInt8, s[i]'hi = x := ⟨_, rfl⟩
      have hx128 : x.toNat < 128 := HA.out x (by rw [← hx]; exact Array.getElem_mem_toList (xs := s.data) hi)
      have hnx := fun ty => run_next_ascii (P := Try.prog) w s i ty hi (by rw [hx]; exact hx128)
      rw [hx] at hnx
      clear hx
      have hne : ((x.toNat : Int) == 65533) = false := by rw [beq_eq_false_iff_ne]; omega
      go_wp2
      go_roundg g
      case measure => omega
      case rel => exact ⟨i + 1, by omega, rfl⟩

theorem indexByte_no {l : List UInt8} {c : UInt8} (h : c ∉ l) : Lib.indexByte l c = -1 := by
  induction l with
  | nil => rfl
  | cons b l ih =>
    simp only [List.mem_cons, not_or] at h
    have hb : (b == c) = false := by simpa using fun e => h.1 e.symm
    unfold Lib.indexByte
    simp [hb, ih h.2]

theorem indexByte_high (s : ByteArray) (a e : Nat) (c : UInt8) (hs : ∀ b ∈ s.data.toList, b.toNat < 128) (hc : 128 ≤ c.toNat) : Lib.indexByte (s.extract a e).data.toList c = -1 :=
  indexByte_no fun hb => by have := hs _ (mem_extract hb); omega

theorem indexByte_m1 (s : ByteArray) (a e : Nat) (c : UInt8) (w : World) (hs : ∀ b ∈ s.data.toList, b.toNat < 128) (hc : 128 ≤ c.toNat) :
    Calls Try.prog 29 #[.string (s.extract a e), .int .u8 (c.toNat : Int)] w fun e w' => e = .returned (.int .i64 (-1)) ∧ w' = w := by
  refine (indexByte_any (s.extract a e) c.toNat w).mono ?_
  rintro e w' ⟨rfl, rfl⟩
  refine ⟨ret_int ?_, rfl⟩
  have : ((c.toNat : Int)).toNat.toUInt8 = c := by simp
  rw [this]
  exact indexByte_high s a _ c hs hc

theorem ascii_at {s : ByteArray} (hs : ∀ b ∈ s.data.toList, b.toNat < 128) (i : Nat) (h : i < s.size) : (s[i]'h).toNat < 128 :=
  hs _ (Array.getElem_mem_toList (xs := s.data) h)

set_option maxHeartbeats 2000000 in
set_option maxRecDepth 1000000 in
theorem indexRune_high (s : ByteArray) (r : Int) (w : World) (hs1 : 4 ≤ s.size) (hs2 : s.size ≤ 1000) (hascii : ∀ b ∈ s.data.toList, b.toNat < 128) (h128 : 128 ≤ r) (hne : ¬ r = 65533) (hv : Utf8.valid r = true) :
    Calls Try.prog 42 #[.string s, .int .i32 r] w fun e w' => e = .returned (.int .i64 (-1)) ∧ ∃ n, w' = w.drewN n := by
  obtain ⟨f1, f2, f3⟩ := encode_facts r hv h128
  have hne' : (r == 65533) = false := by rw [beq_eq_false_iff_ne]; exact hne
  have h0 : ¬ r < 128 := by omega
  rw [validRune_eq] at hv
  have hv2 : (0 ≤ r ∧ r < 55296) ∨ (57343 < r ∧ r ≤ 1114111) := by simpa [validRune] using hv
  clear hv hne
  obtain ⟨E, hE⟩ : ∃ E, Utf8.encode r = E := ⟨_, rfl⟩
  rw [hE] at f1 f2 f3
  have hsz : E.size = 2 ∨ E.size = 3 ∨ E.size = 4 := by omega
  have HA : Hid (∀ b ∈ s.data.toList, b.toNat < 128) := hascii
  rcases hsz with hsz | hsz | hsz
  · have hc : ∃ h : 1 < E.size, 128 ≤ (E[1]'h).toNat := ⟨by omega, by have := f3 (by omega); simpa [hsz] using this⟩
    obtain ⟨hh, hc⟩ := hc
    have HC : Hid (128 ≤ (E[1]'hh).toNat) := hc
    have hx := ascii_at hascii 1 (by omega)
    have hci : (((s[1]'(by omega)).toNat : Int) != ((E[1]'hh).toNat : Int)) = true := by rw [bne_iff_ne]; omega
    have b1 : (2 : Int) ≤ s.size := by omega
    clear f1 f2 f3 hascii
    rcases hv2 with ⟨v1, v2⟩ | ⟨v1, v2⟩
    all_goals
      go_enter Try.func42, Try.ntmps42
      go_wp2_with (go_at_call 52; go_in)
      go_step3
      go_wp2
      refine wp_loop_rounds 1 ?_
      rw [rounds_succ]
      go_wp2
      go_step3
      go_wp2
      go_quiet (fail)
      go_wp2
      generalize hw1 : w.drewN nq = w1
      have HW : Hid (w.drewN nq = w1) := hw1
      clear hw1
      go_quiet ((go_at_call 29; exact Calls.quiet_of_same (indexByte_m1 _ _ _ _ _ HA.out HC.out)))
      go_wp2
      rw [Exit.noGoto_ret]
      go_wp2
      rw [Exit.noGoto_ret]
      go_wp2
      go_ret
      refine ⟨rfl, ?_⟩
      rw [← HW.out]
      exact ⟨_, World.drewN_drewN _ _ _⟩
  · have hc : ∃ h : 2 < E.size, 128 ≤ (E[2]'h).toNat := ⟨by omega, by have := f3 (by omega); simpa [hsz] using this⟩
    obtain ⟨hh, hc⟩ := hc
    have HC : Hid (128 ≤ (E[2]'hh).toNat) := hc
    have hx := ascii_at hascii 2 (by omega)
    have hci : (((s[2]'(by omega)).toNat : Int) != ((E[2]'hh).toNat : Int)) = true := by rw [bne_iff_ne]; omega
    have b1 : (3 : Int) ≤ s.size := by omega
    clear f1 f2 f3 hascii
    rcases hv2 with ⟨v1, v2⟩ | ⟨v1, v2⟩
    all_goals
      go_enter Try.func42, Try.ntmps42
      go_wp2_with (go_at_call 52; go_in)
      go_step3
      go_wp2
      refine wp_loop_rounds 1 ?_
      rw [rounds_succ]
      go_wp2
      go_step3
      go_wp2
      go_quiet (fail)
      go_wp2
      generalize hw1 : w.drewN nq = w1
      have HW : Hid (w.drewN nq = w1) := hw1
      clear hw1
      go_quiet ((go_at_call 29; exact Calls.quiet_of_same (indexByte_m1 _ _ _ _ _ HA.out HC.out)))
      go_wp2
      rw [Exit.noGoto_ret]
      go_wp2
      rw [Exit.noGoto_ret]
      go_wp2
      go_ret
      refine ⟨rfl, ?_⟩
      rw [← HW.out]
      exact ⟨_, World.drewN_drewN _ _ _⟩
  · have hc : ∃ h : 3 < E.size, 128 ≤ (E[3]'h).toNat := ⟨by omega, by have := f3 (by omega); simpa [hsz] using this⟩
    obtain ⟨hh, hc⟩ := hc
    have HC : Hid (128 ≤ (E[3]'hh).toNat) := hc
    have hx := ascii_at hascii 3 (by omega)
    have hci : (((s[3]'(by omega)).toNat : Int) != ((E[3]'hh).toNat : Int)) = true := by rw [bne_iff_ne]; omega
    have b1 : (4 : Int) ≤ s.size := by omega
    clear f1 f2 f3 hascii
    rcases hv2 with ⟨v1, v2⟩ | ⟨v1, v2⟩
    all_goals
      go_enter Try.func42, Try.ntmps42
      go_wp2_with (go_at_call 52; go_in)
      go_step3
      go_wp2
      refine wp_loop_rounds 1 ?_
      rw [rounds_succ]
      go_wp2
      go_step3
      go_wp2
      go_quiet (fail)
      go_wp2
      generalize hw1 : w.drewN nq = w1
      have HW : Hid (w.drewN nq = w1) := hw1
      clear hw1
      go_quiet ((go_at_call 29; exact Calls.quiet_of_same (indexByte_m1 _ _ _ _ _ HA.out HC.out)))
      go_wp2
      rw [Exit.noGoto_ret]
      go_wp2
      rw [Exit.noGoto_ret]
      go_wp2
      go_ret
      refine ⟨rfl, ?_⟩
      rw [← HW.out]
      exact ⟨_, World.drewN_drewN _ _ _⟩
end Go.Proofs.Qxb6001167a
