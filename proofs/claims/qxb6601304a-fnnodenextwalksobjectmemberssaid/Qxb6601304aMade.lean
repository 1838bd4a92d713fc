/-
  The closed facts on the program's own head that every row of this seat asks: the head's words are read off its first signs alone (reckoned whole by the kernel they outgrow the memory lid).
-/
import Derived.Test.Qxb6601304aRows
import Derived.JoinedOf
import Derived.KernelRfl
namespace Go.Proofs.Qxb6601304a.Made

def head (r : List Char) : List Char := 'h' :: 'a' :: 'r' :: 'n' :: 'e' :: 's' :: 's' :: ' ' :: '7' :: '5' :: '0' :: '2' :: '9' :: '2' :: '0' :: '2' :: 'f' :: 'c' :: '4' :: 'd' :: '5' :: 'a' :: '0' :: '0' :: 'a' :: 'b' :: '2' :: '9' :: 'd' :: 'b' :: 'f' :: '4' :: '3' :: 'b' :: '4' :: '3' :: '6' :: '0' :: '1' :: 'e' :: 'd' :: '9' :: '0' :: 'c' :: '4' :: '5' :: 'c' :: '1' :: '2' :: '4' :: '3' :: 'e' :: '1' :: 'a' :: '1' :: 'b' :: 'a' :: 'd' :: 'f' :: '1' :: '4' :: '6' :: '4' :: '5' :: 'c' :: '6' :: 'e' :: '8' :: '2' :: 'e' :: '8' :: 'c' :: ' ' :: 'c' :: 'u' :: 't' :: ' ' :: r

set_option maxRecDepth 1000000 in
theorem order : ∃ r, Try.prog.initOrder = String.ofList (head r) := ⟨_, rfl⟩

theorem words (r : List Char) : behindMainWord (wordsSigns (head r)) = ['c', 'u', 't'] :: wordsSigns r := by kernel_rfl

theorem strip (r : List Char) : stripLifts liftWords (['c', 'u', 't'] :: wordsSigns r) = ([], ['c', 'u', 't'] :: wordsSigns r) := by kernel_rfl

theorem mayEnter_of {P : Program} {r : List Char} (h : P.initOrder = String.ofList (head r)) (h1 : P.laysLater = false) (h2 : P.bearsReflect = false) (h3 : P.doorFits [] = true) : P.mayEnter = true := by
  unfold Program.mayEnter
  rw [h, String.toList_ofList, words]
  simp only [strip, h1, h2, h3]
  kernel_rfl

theorem headLifts_of {P : Program} {r : List Char} (h : P.initOrder = String.ofList (head r)) : P.headLifts = [] := by
  unfold Program.headLifts
  rw [h, String.toList_ofList, words]
  simp only [strip]
  kernel_rfl

theorem liftsFinal_of {P : Program} {r : List Char} (h : P.initOrder = String.ofList (head r)) : P.liftsFinal = false := by
  unfold Program.liftsFinal
  rw [headLifts_of h, h, String.toList_ofList, words]
  kernel_rfl

theorem make_of {P : Program} {r : List Char} (h : P.initOrder = String.ofList (head r)) : P.make = some .cut := by
  unfold Program.make
  rw [headLifts_of h, h, String.toList_ofList, words]
  kernel_rfl

theorem mayEnter : Try.prog.mayEnter = true := by
  obtain ⟨r, h⟩ := order
  exact mayEnter_of h (by kernel_rfl) (by kernel_rfl) (by kernel_rfl)
theorem liftsFinal : Try.prog.liftsFinal = false := by
  obtain ⟨r, h⟩ := order
  exact liftsFinal_of h
theorem make : Try.prog.make = some .cut := by
  obtain ⟨r, h⟩ := order
  exact make_of h

/-- All of the row's closed facts but the three on the head. -/
def before (P : Program) (f : FuncId) (fn : Func) (s : ChangeSpec) (c : OpenClaim) : Bool :=
  c.wf (OpenSpec.ofChange s) && laidOutB P && mapsRowed P && fn.params.all (P.readableRec ·) && namedTie P c.named s.vars && (c.stops == []) && (P.stops == []) && (c.knobs == []) && (P.stopKnobs == []) && (c.inPlace == P.inPlace f) && (c.unfollowed == P.unfollowed f) && (c.recurses == P.recurses f) && (c.named == P.varsNamed f) && (c.maps == (fn.params.toList ++ s.plain.varTypes P).any (P.mapsRec ·)) && (c.ifaces == (fn.params.toList ++ s.plain.varTypes P).any (P.ifacesRec ·)) && (c.mapsOut == P.mapsAmong fn.resultTypes.toList) && (c.loops == (fn.params.toList ++ s.plain.varTypes P).any (P.loopsFrom ·)) && (c.wideKeys == (fn.params.toList ++ s.plain.varTypes P ++ fn.resultTypes.toList).any (P.wideKeysFrom ·)) && s.vars.all (P.varReadable ·) && fn.resultTypes.all (fun t => P.readableRec t && decide (t < P.types.size)) && (c.ifacesOut == fn.resultTypes.toList.any (P.ifacesRec ·)) && (c.loopsOut == fn.resultTypes.toList.any (P.loopsFrom ·)) && (c.plainKeys == P.plainKeys) && c.shortTexts.isNone && P.stopsHeard
def behind (P : Program) (fn : Func) (s : ChangeSpec) (c : OpenClaim) : Bool :=
  (c.kinds == (if c.domain.isEmpty then [] else fn.params.toList.map fun t => match P.underlying t with | some (.int k) => some k | _ => none)) && (c.pinned == c.pinnedBy) && (c.veiled == (fn.params.toList ++ s.plain.varTypes P ++ fn.resultTypes.toList).any (P.veiledRec ·)) && c.veiledFits P fn.params.toList (fn.params.toList ++ s.plain.varTypes P ++ fn.resultTypes.toList)

theorem joined {f : FuncId} {fn : Func} {s : ChangeSpec} {c : OpenClaim} (h1 : before Try.prog f fn s c = true) (h2 : behind Try.prog fn s c = true) (h3 : c.lifted = false) (h4 : c.make = .cut) :
    joinedFacts Try.prog f fn s c = true := by
  unfold before at h1
  unfold behind at h2
  have e1 := mayEnter
  have e2 : (c.lifted == Try.prog.liftsFinal) = true := by rw [liftsFinal, h3]; rfl
  have e3 : (Try.prog.make == some c.make) = true := by rw [make, h4]; kernel_rfl
  unfold joinedFacts
  simp only [Bool.and_eq_true] at h1 h2 ⊢
  exact ⟨⟨⟨⟨⟨⟨⟨h1, e1⟩, e2⟩, e3⟩, h2.1.1.1⟩, h2.1.1.2⟩, h2.1.2⟩, h2.2⟩

end Go.Proofs.Qxb6601304a.Made
