import Derived.Test.Qxb6001167aLine
import Derived.Laws.IdiomStrings
import Derived.OwnWalk
namespace Go.Proofs.Qxb6001167a
open Go.RowKit
open Plain (esc body quoteL ixE ixL pairs)

theorem info5 : (Try.prog.info? 5).map (fun i => (i.zero, i.size, i.bytes)) = some (some (.int .u8 0), 1, 1) := by kernel_rfl
theorem bc_get (l : List UInt8) (j : Nat) (h : j < l.length) : (Lib.byteCells l)[j]? = some (.int .u8 (l[j]).toNat) := by
  simp [Lib.byteCells, List.getElem?_eq_getElem h]
theorem conv_nil (w : World) : (convert 38 9 (.slice none 0 0)).run Try.prog w = .ok (.string ByteArray.empty) w := by kernel_rfl
theorem conv_row (w : World) (base g cap : Nat) (o : List UInt8) (h : w.ownsRow base 5 1 (.slice (some ⟨g, 0, none⟩) o.length cap) o.length (Lib.byteCells o)) :
    (convert 38 9 (.slice (some ⟨g, 0, none⟩) o.length cap)).run Try.prog w = .ok (.string ⟨o.toArray⟩) w := by
  refine run_convert_bytes_back w 38 9 5 ⟨g, 0, none⟩ cap o Try.underlying38 Try.underlying5 Try.underlying9 ?_
  intro j hj
  exact h.cells (g := g) rfl j _ (bc_get o j hj)

theorem E6_at (j : Nat) (h : j < 6) : ((⟨#[0, 8, 10, 13, 9, 26]⟩ : ByteArray)[j]'h) = Plain.E6.getD j 0 := by
  rcases (show j = 0 ∨ j = 1 ∨ j = 2 ∨ j = 3 ∨ j = 4 ∨ j = 5 from by omega) with rfl | rfl | rfl | rfl | rfl | rfl <;> rfl

theorem body_cons (c : UInt8) (l : List UInt8) : body (c :: l) = esc c ++ body l := by simp [body]
/-- The body at the place where byte m of the text is written. -/
theorem body_cut (l : List UInt8) (m : Nat) (h : m < l.length) : body l = body (l.take m) ++ (esc l[m] ++ body (l.drop (m + 1))) := by
  have e : l = l.take m ++ (l[m] :: l.drop (m + 1)) := by simp
  rw [← body_cons, ← Plain.body_append, ← e]
theorem body_next (l : List UInt8) (m : Nat) (h : m < l.length) : body (l.take (m + 1)) = body (l.take m) ++ esc l[m] := by
  rw [List.take_succ_eq_append_getElem h, Plain.body_snoc]

theorem at_one {bd : ByteArray} {l : List UInt8} (hb : bd.data.toList = body l) {m : Nat} (h : m < l.length) {a : UInt8} {r : List UInt8} (he : esc l[m] = a :: r) :
    ∃ h0 : (body (l.take m)).length < bd.size, bd[(body (l.take m)).length]'h0 = a := by
  have hc := body_cut l m h
  rw [he] at hc
  have hl := congrArg List.length hc
  rw [← hb, len_size, List.length_append, List.length_append, List.length_cons] at hl
  have h0 : (body (l.take m)).length < bd.size := by omega
  refine ⟨h0, ?_⟩
  have e : bd[(body (l.take m)).length] = bd.data.toList[(body (l.take m)).length]'(by rw [len_size]; exact h0) := rfl
  rw [e]
  simp [hb, hc]
theorem at_two {bd : ByteArray} {l : List UInt8} (hb : bd.data.toList = body l) {m : Nat} (h : m < l.length) {a b : UInt8} {r : List UInt8} (he : esc l[m] = a :: b :: r) :
    ∃ h0 : (body (l.take m)).length + 1 < bd.size, bd[(body (l.take m)).length + 1]'h0 = b := by
  have hc := body_cut l m h
  rw [he] at hc
  have hl := congrArg List.length hc
  rw [← hb, len_size, List.length_append, List.length_append, List.length_cons, List.length_cons] at hl
  have h0 : (body (l.take m)).length + 1 < bd.size := by omega
  refine ⟨h0, ?_⟩
  have e : bd[(body (l.take m)).length + 1] = bd.data.toList[(body (l.take m)).length + 1]'(by rw [len_size]; exact h0) := rfl
  rw [e]
  simp only [hb, hc]
  rw [List.getElem_append_right (by omega)]
  simp

set_option maxHeartbeats 2000000 in
set_option maxRecDepth 100000 in
theorem decode_any (q : ByteArray) (l : List UInt8) (w : World) (hq : q.data.toList = quoteL l) (hs : q.size ≤ 3000000) :
    Calls Try.prog 11 #[.string q] w fun e w' => (∃ d : ByteArray, e = .returned (.tuple #[.string d, .bool true]) ∧ d.data.toList = l) ∧ Below w.heap.size w w' := by
  obtain ⟨i0, hi, hz0, hz1, hz2⟩ := info_parts info5
  obtain ⟨p1, ⟨p2, p3⟩, ⟨p4, p5⟩⟩ := q_parts (q := q) (s := ⟨l.toArray⟩) (by simpa using hq)
  clear p1
  have hql : q.size = (body l).length + 2 := by
    have hl := congrArg List.length hq
    rw [len_size] at hl
    simp only [quoteL, List.length_cons, List.length_append, List.length_nil] at hl
    omega
  have s1 : (2 : Int) ≤ q.size := by omega
  have s2 : (q.size : Int) ≤ 3000000 := by omega
  obtain ⟨bd, hE⟩ : ∃ bd, q.extract 1 (q.size - 1) = bd := ⟨_, rfl⟩
  have hbd : bd.data.toList = body l := by
    rw [← hE, Lib.extract_data, hq, hql]
    simp [quoteL]
  have hbs : bd.size = (body l).length := by rw [← len_size, hbd]
  have HBD : Hid (bd.data.toList = body l) := hbd
  have HBS : Hid (bd.size = (body l).length) := hbs
  have s3 : (bd.size : Int) ≤ 3000000 := by omega
  clear hbd hbs hql hq
  go_enter Try.func11, Try.ntmps11
  go_wp2_with (at_make; refine wpList_make_own _ rfl _ _ 38 rfl w.heap.size 5 i0 (.int .u8 0) 1 Try.underlying38 hi hz0 hz1 .i64 .i64 _ bd.size rfl rfl rfl (by rw [hz2]; omega) (by unfold maxLen; omega) (Nat.le_refl _) ?_; intro w0 hown0 hgrow0)
  have HB0 : Hid (Below w.heap.size w w0) := (Below.refl _ _).grown hgrow0 (Nat.le_refl _) (fun k hk => by cases hk)
  clear hgrow0 hE
  go_loopw [5, 6] (fun v i wr => ∃ m : Nat, m ≤ l.length ∧ i = .int .i64 ((body (l.take m)).length : Int) ∧ wr.ownsRow w.heap.size 5 1 v m (Lib.byteCells (l.take m)) ∧ Below w.heap.size w wr) (fun _ i _ => bd.size - (intOf i).toNat)
  case atStart => exact ⟨0, Nat.zero_le _, rfl, hown0, HB0.out⟩
  case round =>
    obtain ⟨m, hm, rfl, hown, hbel⟩ := hrel
    clear hown0 HB0
    have HB : Hid (Below w.heap.size w wr) := hbel
    have hW : w.heap.size ≤ wr.heap.size := hbel.size
    clear hbel
    by_cases hlt : m < l.length
    · obtain ⟨p, hp⟩ : ∃ p, (body (l.take m)).length = p := ⟨_, rfl⟩
      have hnext := congrArg List.length (body_next l m hlt)
      rw [List.length_append, hp] at hnext
      have hmle : m ≤ bd.size := by
        have h1 := Plain.body_ge l
        have := HBS.out
        omega
      have e1 : ∀ {a r}, esc l[m] = a :: r → ∃ h0 : p < bd.size, bd[p]'h0 = a := by rw [← hp]; exact fun he => at_one HBD.out hlt he
      have e2 : ∀ {a b r}, esc l[m] = a :: b :: r → ∃ h0 : p + 1 < bd.size, bd[p + 1]'h0 = b := by rw [← hp]; exact fun he => at_two HBD.out hlt he
      have HT : Hid (l.take (m + 1) = l.take m ++ [l[m]]) := List.take_succ_eq_append_getElem hlt
      rw [hp]
      clear hp
      obtain ⟨x, hx⟩ : ∃ x : UInt8, l[m] = x := ⟨_, rfl⟩
      rw [hx] at hnext e1 e2
      have HTx : Hid (l.take (m + 1) = l.take m ++ [x]) := by rw [← hx]; exact HT.out
      clear hx HT
      have HNX : Hid ((body (l.take (m + 1))).length = p + (esc x).length) := hnext
      clear hnext
      by_cases c1 : x = 39
      · subst c1
        have HE : Hid (esc 39 = [39, 39]) := rfl
        obtain ⟨g1, b1⟩ := e1 HE.out
        obtain ⟨g2, b2⟩ := e2 HE.out
        have g3 : (p : Int) + 1 < bd.size := by omega
        clear e1 e2
        go_wp2_with (first | (at_builtin; refine wpList_append_own _ rfl _ _ 38 rfl w.heap.size 5 i0 (.int .u8 0) 1 1 Try.underlying38 hi hz0 hz1 hz2 rfl (by decide) _ _ _ rfl (hown.alloc _) _ 1 1 [.int .u8 39] rfl rfl ?c1 ?c2 ?c3 ?c4 ?c5 ?_))
        case c1 =>
          intro j u hj
          match j, hj with
          | 0, hj => simp at hj; subst hj; simp [Addr.add]
        case c2 => intro u hu; simp at hu; subst hu; rfl
        case c3 => unfold maxLen; omega
        case c4 => omega
        case c5 => simp; omega
        intro v' w3 hown' hgrow hnil
        clear hnil
        go_wp2
        go_roundw
        case rel => exact ⟨m + 1, by omega, by rw [HNX.out, HE.out]; go_num, by rw [HTx.out, ← bc_snoc]; exact hown', (HB.out.alloc hW _).grown hgrow (by simp; omega) (fun k hk => (hown.lt k hk).1)⟩
        case measure => simp [intOf]; omega
      · by_cases c2 : x = 92
        · subst c2
          have HE : Hid (esc 92 = [92, 92]) := rfl
          obtain ⟨g1, b1⟩ := e1 HE.out
          obtain ⟨g2, b2⟩ := e2 HE.out
          have g3 : (p : Int) + 1 < bd.size := by omega
          clear e1 e2 c1
          go_wp2_with (first | (at_builtin; refine wpList_append_own _ rfl _ _ 38 rfl w.heap.size 5 i0 (.int .u8 0) 1 1 Try.underlying38 hi hz0 hz1 hz2 rfl (by decide) _ _ _ rfl (hown.alloc _) _ 1 1 [.int .u8 92] rfl rfl ?c1 ?c2 ?c3 ?c4 ?c5 ?_))
          case c1 =>
            intro j u hj
            match j, hj with
            | 0, hj => simp at hj; subst hj; simp [Addr.add]
          case c2 => intro u hu; simp at hu; subst hu; rfl
          case c3 => unfold maxLen; omega
          case c4 => omega
          case c5 => simp; omega
          intro v' w3 hown' hgrow hnil
          clear hnil
          go_wp2
          go_roundw
          case rel => exact ⟨m + 1, by omega, by rw [HNX.out, HE.out]; go_num, by rw [HTx.out, ← bc_snoc]; exact hown', (HB.out.alloc hW _).grown hgrow (by simp; omega) (fun k hk => (hown.lt k hk).1)⟩
          case measure => simp [intOf]; omega
        · have hbdx := Plain.ixE_bd x
          by_cases c3 : 0 ≤ ixE x
          · obtain ⟨j, hj⟩ : ∃ j : Nat, ixE x = j := ⟨(ixE x).toNat, by omega⟩
            have hj6 : j < 6 := by omega
            have hj6' : (j : Int) < 6 := by omega
            obtain ⟨y, hy⟩ : ∃ y, Plain.L6.getD j 0 = y := ⟨_, rfl⟩
            have HE : Hid (esc x = [92, y]) := by
              show _ = _
              rw [Plain.esc_ctl c1 c2 c3, hj, ← hy]; rfl
            have hL := Plain.L6_plain j hj6
            rw [hy] at hL
            have HX : Hid ((⟨#[0, 8, 10, 13, 9, 26]⟩ : ByteArray)[j]'hj6 = x) := by
              show _ = _
              rw [E6_at j hj6]
              have := Plain.E6_back x c3
              rw [hj] at this
              exact this
            obtain ⟨g1, b1⟩ := e1 HE.out
            obtain ⟨g2, b2⟩ := e2 HE.out
            have g3 : (p : Int) + 1 < bd.size := by omega
            have t1 : ((y.toNat : Int) == 92) = false := by rw [beq_eq_false_iff_ne]; exact fun e => hL.2.2.1 ((byte_eq y 92).1 e)
            have t2 : ixL y = j := hL.2.2.2.1
            clear e1 e2 c1 c2 c3 hbdx hL hy hj
            go_wp2_with (first | (go_at_call 14; refine (zl _ _).mono ?_; rintro e w' ⟨rfl, rfl⟩) | (at_builtin; refine wpList_append_own _ rfl _ _ 38 rfl w.heap.size 5 i0 (.int .u8 0) 1 1 Try.underlying38 hi hz0 hz1 hz2 rfl (by decide) _ _ _ rfl (hown.alloc _) _ 1 1 [.int .u8 ((((⟨#[0, 8, 10, 13, 9, 26]⟩ : ByteArray)[j]'hj6).toNat : Nat) : Int)] rfl rfl ?c1 ?c2 ?c3 ?c4 ?c5 ?_))
            case c1 =>
              intro j u hj
              match j, hj with
              | 0, hj => simp at hj; subst hj; simp [Addr.add]
            case c2 => intro u hu; simp at hu; subst hu; rfl
            case c3 => unfold maxLen; omega
            case c4 => omega
            case c5 => simp; omega
            intro v' w3 hown' hgrow hnil
            clear hnil
            rw [HX.out] at hown'
            go_wp2
            go_roundw
            case rel => exact ⟨m + 1, by omega, by rw [HNX.out, HE.out]; go_num, by rw [HTx.out, ← bc_snoc]; exact hown', (HB.out.alloc hW _).grown hgrow (by simp; omega) (fun k hk => (hown.lt k hk).1)⟩
            case measure => simp [intOf]; omega
          · have HE : Hid (esc x = [x]) := Plain.esc_plain c1 c2 (by omega)
            obtain ⟨g1, b1⟩ := e1 HE.out
            have g3 : (p : Int) < bd.size := by omega
            have t1 : ((x.toNat : Int) == 39) = false := by rw [beq_eq_false_iff_ne]; exact fun e => c1 ((byte_eq x 39).1 e)
            have t2 : ((x.toNat : Int) == 92) = false := by rw [beq_eq_false_iff_ne]; exact fun e => c2 ((byte_eq x 92).1 e)
            clear e1 e2 c1 c2 c3 hbdx
            go_wp2_with (first | (at_builtin; refine wpList_append_own _ rfl _ _ 38 rfl w.heap.size 5 i0 (.int .u8 0) 1 1 Try.underlying38 hi hz0 hz1 hz2 rfl (by decide) _ _ _ rfl (hown.alloc _) _ 1 1 [.int .u8 (x.toNat : Int)] rfl rfl ?c1 ?c2 ?c3 ?c4 ?c5 ?_))
            case c1 =>
              intro j u hj
              match j, hj with
              | 0, hj => simp at hj; subst hj; simp [Addr.add]
            case c2 => intro u hu; simp at hu; subst hu; rfl
            case c3 => unfold maxLen; omega
            case c4 => omega
            case c5 => simp; omega
            intro v' w3 hown' hgrow hnil
            clear hnil
            go_wp2
            go_roundw
            case rel => exact ⟨m + 1, by omega, by rw [HNX.out, HE.out]; go_num, by rw [HTx.out, ← bc_snoc]; exact hown', (HB.out.alloc hW _).grown hgrow (by simp; omega) (fun k hk => (hown.lt k hk).1)⟩
            case measure => simp [intOf]; omega
    · have hme : m = l.length := by omega
      have HT : Hid (l.take m = l) := List.take_of_length_le (by omega)
      have hpe : ((body (l.take m)).length : Int) = bd.size := by rw [HT.out, HBS.out]
      have hown1 : wr.ownsRow w.heap.size 5 1 u5 l.length (Lib.byteCells l) := by rw [HT.out, hme] at hown; exact hown
      clear hown hme
      rw [hpe]
      clear hpe
      rcases hown1.2 with ⟨hv, hn⟩ | ⟨g, cap, cur, hv, _⟩
      · have hc := conv_nil
        have ho : l = [] := List.eq_nil_of_length_eq_zero hn
        have HO : Hid (l = []) := ho
        clear ho hn
        subst hv
        go_wp2
        go_ret2
        exact ⟨⟨ByteArray.empty, rfl, by rw [HO.out]; rfl⟩, HB.out⟩
      · subst hv
        have hc := conv_row wr w.heap.size g cap l hown1
        go_wp2
        go_ret2
        exact ⟨⟨⟨l.toArray⟩, rfl, rfl⟩, HB.out⟩
end Go.Proofs.Qxb6001167a
