/-
  THE ROW's CLOSED FACTS THAT ASK THE DUMP's HEAD: proved by way of the head's signs as numbers, so that the kernel does not take the head's text apart by itself (that costs it 10 GB and 80 seconds a row).
-/
import Derived.Test.Qxb6001167aChecked
import Derived.ProofKit
namespace Go.Proofs.Qxb6001167a
set_option maxRecDepth 1000000

/-- The signs of the dump's head, as numbers. -/
def headNums : List Nat := [104, 97, 114, 110, 101, 115, 115, 32, 99, 99, 51, 49, 97, 101, 97, 55, 97, 49, 98, 57, 101, 102, 53, 51, 99, 51, 54, 98, 54, 99, 51, 102, 54, 54, 97, 101, 57, 102, 49, 97, 100, 99, 52, 55, 48, 100, 102, 100, 102, 101, 98, 53, 55, 98, 53, 55, 99, 102, 53, 50, 55, 57, 57, 55, 48, 52, 100, 57, 100, 97, 53, 102, 32, 99, 117, 116, 32, 97, 116, 32, 101, 120, 97, 109, 112, 108, 101, 46, 99, 111, 109, 47, 108, 111, 99, 107, 115, 112, 101, 108, 108, 47, 108, 111, 99, 107, 115, 112, 101, 108, 108, 47, 122, 122, 108, 97, 119, 115, 95, 115, 99, 101, 110, 97, 114, 105, 111, 95, 98, 49, 46, 70, 110, 81, 117, 111, 116, 101, 82, 101, 97, 100, 115, 66, 97, 99, 107, 32, 101, 120, 97, 109, 112, 108, 101, 46, 99, 111, 109, 47, 108, 111, 99, 107, 115, 112, 101, 108, 108, 47, 108, 111, 99, 107, 115, 112, 101, 108, 108, 47, 122, 122, 108, 97, 119, 115, 95, 115, 99, 101, 110, 97, 114, 105, 111, 95, 98, 49, 46, 70, 110, 81, 117, 111, 116, 101, 79, 110, 101, 76, 105, 110, 101, 76, 105, 116, 101, 114, 97, 108, 32, 101, 120, 97, 109, 112, 108, 101, 46, 99, 111, 109, 47, 108, 111, 99, 107, 115, 112, 101, 108, 108, 47, 108, 111, 99, 107, 115, 112, 101, 108, 108, 47, 122, 122, 108, 97, 119, 115, 95, 115, 99, 101, 110, 97, 114, 105, 111, 95, 98, 49, 46, 70, 110, 81, 117, 111, 116, 101, 67, 111, 110, 99, 97, 116, 32, 101, 120, 97, 109, 112, 108, 101, 46, 99, 111, 109, 47, 108, 111, 99, 107, 115, 112, 101, 108, 108, 47, 108, 111, 99, 107, 115, 112, 101, 108, 108, 47, 122, 122, 108, 97, 119, 115, 95, 115, 99, 101, 110, 97, 114, 105, 111, 95, 98, 49, 46, 70, 110, 66, 108, 111, 99, 107, 67, 111, 109, 109, 101, 110, 116, 73, 103, 110, 111, 114, 101, 115, 83, 117, 114, 114, 111, 117, 110, 100, 105, 110, 103, 115, 32, 101, 120, 97, 109, 112, 108, 101, 46, 99, 111, 109, 47, 108, 111, 99, 107, 115, 112, 101, 108, 108, 47, 108, 111, 99, 107, 115, 112, 101, 108, 108, 47, 122, 122, 108, 97, 119, 115, 95, 115, 99, 101, 110, 97, 114, 105, 111, 95, 98, 49, 46, 70, 110, 78, 117, 109, 98, 101, 114, 84, 111, 107, 101, 110, 83, 104, 97, 112, 101, 32, 101, 120, 97, 109, 112, 108, 101, 46, 99, 111, 109, 47, 108, 111, 99, 107, 115, 112, 101, 108, 108, 47, 108, 111, 99, 107, 115, 112, 101, 108, 108, 47, 122, 122, 108, 97, 119, 115, 95, 115, 99, 101, 110, 97, 114, 105, 111, 95, 98, 49, 46, 70, 110, 78, 117, 109, 98, 101, 114, 68, 101, 99, 105, 109, 97, 108, 65, 110, 100, 70, 114, 97, 99, 116, 105, 111, 110, 32, 101, 120, 97, 109, 112, 108, 101, 46, 99, 111, 109, 47, 108, 111, 99, 107, 115, 112, 101, 108, 108, 47, 108, 111, 99, 107, 115, 112, 101, 108, 108, 47, 122, 122, 108, 97, 119, 115, 95, 115, 99, 101, 110, 97, 114, 105, 111, 95, 98, 49, 46, 70, 110, 78, 117, 109, 98, 101, 114, 76, 111, 99, 97, 108]
/-- Its words behind the harness's sum. -/
def cutNums : List (List Nat) := [[99, 117, 116], [97, 116], [101, 120, 97, 109, 112, 108, 101, 46, 99, 111, 109, 47, 108, 111, 99, 107, 115, 112, 101, 108, 108, 47, 108, 111, 99, 107, 115, 112, 101, 108, 108, 47, 122, 122, 108, 97, 119, 115, 95, 115, 99, 101, 110, 97, 114, 105, 111, 95, 98, 49, 46, 70, 110, 81, 117, 111, 116, 101, 82, 101, 97, 100, 115, 66, 97, 99, 107], [101, 120, 97, 109, 112, 108, 101, 46, 99, 111, 109, 47, 108, 111, 99, 107, 115, 112, 101, 108, 108, 47, 108, 111, 99, 107, 115, 112, 101, 108, 108, 47, 122, 122, 108, 97, 119, 115, 95, 115, 99, 101, 110, 97, 114, 105, 111, 95, 98, 49, 46, 70, 110, 81, 117, 111, 116, 101, 79, 110, 101, 76, 105, 110, 101, 76, 105, 116, 101, 114, 97, 108], [101, 120, 97, 109, 112, 108, 101, 46, 99, 111, 109, 47, 108, 111, 99, 107, 115, 112, 101, 108, 108, 47, 108, 111, 99, 107, 115, 112, 101, 108, 108, 47, 122, 122, 108, 97, 119, 115, 95, 115, 99, 101, 110, 97, 114, 105, 111, 95, 98, 49, 46, 70, 110, 81, 117, 111, 116, 101, 67, 111, 110, 99, 97, 116], [101, 120, 97, 109, 112, 108, 101, 46, 99, 111, 109, 47, 108, 111, 99, 107, 115, 112, 101, 108, 108, 47, 108, 111, 99, 107, 115, 112, 101, 108, 108, 47, 122, 122, 108, 97, 119, 115, 95, 115, 99, 101, 110, 97, 114, 105, 111, 95, 98, 49, 46, 70, 110, 66, 108, 111, 99, 107, 67, 111, 109, 109, 101, 110, 116, 73, 103, 110, 111, 114, 101, 115, 83, 117, 114, 114, 111, 117, 110, 100, 105, 110, 103, 115], [101, 120, 97, 109, 112, 108, 101, 46, 99, 111, 109, 47, 108, 111, 99, 107, 115, 112, 101, 108, 108, 47, 108, 111, 99, 107, 115, 112, 101, 108, 108, 47, 122, 122, 108, 97, 119, 115, 95, 115, 99, 101, 110, 97, 114, 105, 111, 95, 98, 49, 46, 70, 110, 78, 117, 109, 98, 101, 114, 84, 111, 107, 101, 110, 83, 104, 97, 112, 101], [101, 120, 97, 109, 112, 108, 101, 46, 99, 111, 109, 47, 108, 111, 99, 107, 115, 112, 101, 108, 108, 47, 108, 111, 99, 107, 115, 112, 101, 108, 108, 47, 122, 122, 108, 97, 119, 115, 95, 115, 99, 101, 110, 97, 114, 105, 111, 95, 98, 49, 46, 70, 110, 78, 117, 109, 98, 101, 114, 68, 101, 99, 105, 109, 97, 108, 65, 110, 100, 70, 114, 97, 99, 116, 105, 111, 110], [101, 120, 97, 109, 112, 108, 101, 46, 99, 111, 109, 47, 108, 111, 99, 107, 115, 112, 101, 108, 108, 47, 108, 111, 99, 107, 115, 112, 101, 108, 108, 47, 122, 122, 108, 97, 119, 115, 95, 115, 99, 101, 110, 97, 114, 105, 111, 95, 98, 49, 46, 70, 110, 78, 117, 109, 98, 101, 114, 76, 111, 99, 97, 108]]
theorem head_is : Try.prog.initOrder = String.ofList (headNums.map Char.ofNat) := by kernel_rfl
theorem head_list : Try.prog.initOrder.toList = headNums.map Char.ofNat := by rw [head_is, String.toList_ofList]
theorem head_words : behindMainWord (wordsSigns Try.prog.initOrder.toList) = cutNums.map (·.map Char.ofNat) := by rw [head_list]; kernel_rfl
theorem strip_cut (rest : List (List Char)) : stripLifts liftWords (['c', 'u', 't'] :: rest) = ([], ['c', 'u', 't'] :: rest) := by kernel_rfl
theorem make_of {P : Program} {rest : List (List Char)} (h : behindMainWord (wordsSigns P.initOrder.toList) = ['c', 'u', 't'] :: rest) : P.make = some .cut := by
  unfold Program.make
  rw [h]
  kernel_rfl
theorem mayEnter_of {P : Program} {rest : List (List Char)} (h : behindMainWord (wordsSigns P.initOrder.toList) = ['c', 'u', 't'] :: rest) (hl : P.laysLater = false) (hr : P.bearsReflect = false) (hd : P.doorFits [] = true) : P.mayEnter = true := by
  unfold Program.mayEnter
  rw [h]
  simp only [strip_cut, hl, hr, hd]
  kernel_rfl
theorem head_lifts : Try.prog.headLifts = [] := by unfold Program.headLifts; rw [head_words]; kernel_rfl
theorem head_cut : ∃ rest, behindMainWord (wordsSigns Try.prog.initOrder.toList) = ['c', 'u', 't'] :: rest := ⟨_, head_words⟩
theorem the_make : Try.prog.make = some .cut := by obtain ⟨r, h⟩ := head_cut; exact make_of h
theorem the_lifts : Try.prog.liftsFinal = false := by unfold Program.liftsFinal; rw [head_lifts, head_words]; kernel_rfl
theorem lays_later : Try.prog.laysLater = false := by kernel_rfl
theorem bears_reflect : Try.prog.bearsReflect = false := by kernel_rfl
theorem door_fits : Try.prog.doorFits [] = true := by kernel_rfl
theorem may_enter : Try.prog.mayEnter = true := by obtain ⟨r, h⟩ := head_cut; exact mayEnter_of h lays_later bears_reflect door_fits

/-- The row's closed facts out of their parts. -/
theorem joined_of {P : Program} {f : FuncId} {fn : Func} {s : ChangeSpec} {c : OpenClaim}
    (a : (c.wf (OpenSpec.ofChange s) && laidOutB P && mapsRowed P &&
      fn.params.all (P.readableRec ·) && namedTie P c.named s.vars &&
      (c.stops == []) && (P.stops == []) && (c.knobs == []) && (P.stopKnobs == []) &&
      (c.inPlace == P.inPlace f) && (c.unfollowed == P.unfollowed f) && (c.recurses == P.recurses f) && (c.named == P.varsNamed f) &&
      (c.maps == (fn.params.toList ++ s.plain.varTypes P).any (P.mapsRec ·)) && (c.ifaces == (fn.params.toList ++ s.plain.varTypes P).any (P.ifacesRec ·)) && (c.mapsOut == P.mapsAmong fn.resultTypes.toList) &&
      (c.loops == (fn.params.toList ++ s.plain.varTypes P).any (P.loopsFrom ·)) && (c.wideKeys == (fn.params.toList ++ s.plain.varTypes P ++ fn.resultTypes.toList).any (P.wideKeysFrom ·)) &&
      s.vars.all (P.varReadable ·) && fn.resultTypes.all (fun t => P.readableRec t && decide (t < P.types.size)) && (c.ifacesOut == fn.resultTypes.toList.any (P.ifacesRec ·)) && (c.loopsOut == fn.resultTypes.toList.any (P.loopsFrom ·)) && (c.plainKeys == P.plainKeys) && c.shortTexts.isNone && P.stopsHeard) = true)
    (m : P.mayEnter = true) (l : P.liftsFinal = c.lifted) (k : P.make = some c.make)
    (bd : c.domain.isEmpty = true) (bk : c.kinds = []) (b2 : (c.pinned == c.pinnedBy) = true)
    (b3 : (c.veiled == (fn.params.toList ++ s.plain.varTypes P ++ fn.resultTypes.toList).any (P.veiledRec ·)) = true) (b4 : c.veiledFits P fn.params.toList (fn.params.toList ++ s.plain.varTypes P ++ fn.resultTypes.toList) = true) : joinedFacts P f fn s c = true := by
  unfold joinedFacts
  rw [a, m, l, k, bd, bk, b2, b3, b4]
  simp

end Go.Proofs.Qxb6001167a
