/-
  The row's closed facts. The program's head word is long, and the kernel is dear at taking a long string apart: so it is laid here as its list of signs, once; the three facts that ask for its words are asked of that list.
-/
import Derived.Test.Qxb6000678aRows
import Derived.ProofKit
namespace Go.Proofs.Qxb6000678a.fnBlockMergeBuilt

/-- The head word's signs, by their numbers. -/
def headCodes : List Nat := [
  104, 97, 114, 110, 101, 115, 115, 32, 100, 54, 55, 49, 56, 100, 98, 99, 100, 99, 55, 53, 99, 99, 100, 53, 54, 51, 98, 50, 102, 99, 97, 97, 52, 52, 101, 54, 57, 52, 48, 98,
  55, 54, 97, 52, 48, 52, 51, 53, 54, 49, 51, 54, 53, 99, 99, 99, 56, 50, 51, 55, 100, 54, 102, 55, 48, 49, 101, 101, 99, 99, 57, 99, 32, 99, 117, 116, 32, 97, 116, 32,
  101, 120, 97, 109, 112, 108, 101, 46, 99, 111, 109, 47, 99, 104, 97, 114, 116, 119, 114, 105, 103, 104, 116, 47, 99, 104, 97, 114, 116, 119, 114, 105, 103, 104, 116, 47, 122, 122, 108, 97,
  119, 115, 95, 105, 110, 100, 101, 120, 95, 121, 97, 109, 108, 116, 101, 120, 116, 95, 98, 49, 46, 70, 110, 76, 105, 110, 101, 66, 114, 101, 97, 107, 77, 97, 116, 99, 104, 101, 115, 84,
  97, 98, 108, 101, 32, 101, 120, 97, 109, 112, 108, 101, 46, 99, 111, 109, 47, 99, 104, 97, 114, 116, 119, 114, 105, 103, 104, 116, 47, 99, 104, 97, 114, 116, 119, 114, 105, 103, 104, 116,
  47, 122, 122, 108, 97, 119, 115, 95, 105, 110, 100, 101, 120, 95, 121, 97, 109, 108, 116, 101, 120, 116, 95, 98, 49, 46, 70, 110, 76, 105, 110, 101, 66, 114, 101, 97, 107, 75, 101, 112,
  116, 66, 121, 77, 111, 114, 101, 32, 101, 120, 97, 109, 112, 108, 101, 46, 99, 111, 109, 47, 99, 104, 97, 114, 116, 119, 114, 105, 103, 104, 116, 47, 99, 104, 97, 114, 116, 119, 114, 105,
  103, 104, 116, 47, 122, 122, 108, 97, 119, 115, 95, 105, 110, 100, 101, 120, 95, 121, 97, 109, 108, 116, 101, 120, 116, 95, 98, 49, 46, 70, 110, 76, 105, 110, 101, 66, 114, 101, 97, 107,
  79, 102, 82, 117, 110, 101, 32, 101, 120, 97, 109, 112, 108, 101, 46, 99, 111, 109, 47, 99, 104, 97, 114, 116, 119, 114, 105, 103, 104, 116, 47, 99, 104, 97, 114, 116, 119, 114, 105, 103,
  104, 116, 47, 122, 122, 108, 97, 119, 115, 95, 105, 110, 100, 101, 120, 95, 121, 97, 109, 108, 116, 101, 120, 116, 95, 98, 49, 46, 70, 110, 68, 111, 117, 98, 108, 101, 81, 117, 111, 116,
  101, 100, 77, 101, 114, 103, 101, 67, 111, 117, 110, 116, 115, 76, 101, 115, 115, 84, 104, 97, 110, 115, 32, 101, 120, 97, 109, 112, 108, 101, 46, 99, 111, 109, 47, 99, 104, 97, 114, 116,
  119, 114, 105, 103, 104, 116, 47, 99, 104, 97, 114, 116, 119, 114, 105, 103, 104, 116, 47, 122, 122, 108, 97, 119, 115, 95, 105, 110, 100, 101, 120, 95, 121, 97, 109, 108, 116, 101, 120, 116,
  95, 98, 49, 46, 70, 110, 68, 111, 117, 98, 108, 101, 81, 117, 111, 116, 101, 100, 77, 101, 114, 103, 101, 85, 110, 99, 108, 111, 115, 101, 100, 82, 101, 102, 117, 115, 101, 100, 32, 101,
  120, 97, 109, 112, 108, 101, 46, 99, 111, 109, 47, 99, 104, 97, 114, 116, 119, 114, 105, 103, 104, 116, 47, 99, 104, 97, 114, 116, 119, 114, 105, 103, 104, 116, 47, 122, 122, 108, 97, 119,
  115, 95, 105, 110, 100, 101, 120, 95, 121, 97, 109, 108, 116, 101, 120, 116, 95, 98, 49, 46, 70, 110, 68, 111, 117, 98, 108, 101, 81, 117, 111, 116, 101, 100, 77, 101, 114, 103, 101, 75,
  101, 112, 116, 66, 121, 84, 97, 105, 108, 32, 101, 120, 97, 109, 112, 108, 101, 46, 99, 111, 109, 47, 99, 104, 97, 114, 116, 119, 114, 105, 103, 104, 116, 47, 99, 104, 97, 114, 116, 119,
  114, 105, 103, 104, 116, 47, 122, 122, 108, 97, 119, 115, 95, 105, 110, 100, 101, 120, 95, 121, 97, 109, 108, 116, 101, 120, 116, 95, 98, 49, 46, 70, 110, 66, 108, 111, 99, 107, 77, 101,
  114, 103, 101, 66, 117, 105, 108, 116, 32, 101, 120, 97, 109, 112, 108, 101, 46, 99, 111, 109, 47, 99, 104, 97, 114, 116, 119, 114, 105, 103, 104, 116, 47, 99, 104, 97, 114, 116, 119, 114,
  105, 103, 104, 116, 47, 122, 122, 108, 97, 119, 115, 95, 105, 110, 100, 101, 120, 95, 121, 97, 109, 108, 116, 101, 120, 116, 95, 98, 49, 46, 70, 110, 66, 108, 111, 99, 107, 77, 101, 114,
  103, 101, 69, 120, 112, 108, 105, 99, 105, 116, 73, 110, 100, 101, 110, 116, 78, 111, 76, 111, 111, 115, 101, 114, 32, 101, 120, 97, 109, 112, 108, 101, 46, 99, 111, 109, 47, 99, 104, 97,
  114, 116, 119, 114, 105, 103, 104, 116, 47, 99, 104, 97, 114, 116, 119, 114, 105, 103, 104, 116, 47, 122, 122, 108, 97, 119, 115, 95, 105, 110, 100, 101, 120, 95, 121, 97, 109, 108, 116, 101,
  120, 116, 95, 98, 49, 46, 70, 110, 66, 108, 111, 99, 107, 77, 101, 114, 103, 101, 85, 110, 115, 116, 114, 105, 112, 112, 101, 100, 69, 110, 100, 115, 65, 116, 77, 101, 114, 103, 101]
def headSigns : List Char := headCodes.map Char.ofNat

theorem head_is : Try.prog.initOrder = String.ofList headSigns := by kernel_rfl
theorem head_signs : Try.pinned.checked.prog.initOrder.toList = headSigns :=
  (congrArg String.toList (show Try.pinned.checked.prog.initOrder = String.ofList headSigns from head_is)).trans String.toList_ofList

/-- The words behind the head's first two. -/
def headWords : List (List Char) := behindMainWord (wordsSigns headSigns)
theorem head_words : behindMainWord (wordsSigns Try.pinned.checked.prog.initOrder.toList) = "cut".toList :: headWords.tail := by
  rw [head_signs]
  kernel_rfl

/-- Of whatever program: a head whose words open so is a cut. -/
theorem make_of (P : Program) (rest : List (List Char)) (h : behindMainWord (wordsSigns P.initOrder.toList) = "cut".toList :: rest) : P.make = some .cut := by
  unfold Program.make
  rw [h]
  rfl
theorem enter_of (P : Program) (rest : List (List Char)) (h : behindMainWord (wordsSigns P.initOrder.toList) = "cut".toList :: rest) (ls : List String × List (List Char))
    (hs : stripLifts liftWords ("cut".toList :: rest) = ls) (h1 : (ls.2.head? == some "cut".toList) = true) (h2 : P.laysLater = false) (h3 : P.bearsReflect = false) (h4 : ls.1.contains "leanrows" = false) (h5 : P.doorFits ls.1 = true) : P.mayEnter = true := by
  unfold Program.mayEnter
  rw [h]
  simp only [hs, h1, h2, h3, h4, h5, Bool.not_false, Bool.or_true, Bool.and_true]

theorem made : (Try.pinned.checked.prog.make == some Rows.fnBlockMergeBuiltRow.make) = true := by
  rw [make_of _ _ head_words]
  kernel_rfl
theorem enter : Try.pinned.checked.prog.mayEnter = true :=
  enter_of _ _ head_words ([], "cut".toList :: headWords.tail) (by kernel_rfl) (by kernel_rfl) (by kernel_rfl) (by kernel_rfl) (by kernel_rfl) (by kernel_rfl)
theorem lifts : (Rows.fnBlockMergeBuiltRow.lifted == Try.pinned.checked.prog.liftsFinal) = true := by
  unfold Program.liftsFinal Program.headLifts
  rw [head_signs]
  kernel_rfl

theorem closed : joinedFacts Try.pinned.checked.prog 9 Try.f9 Rows.fnBlockMergeBuiltSpec Rows.fnBlockMergeBuiltRow = true := by
  unfold joinedFacts
  repeat' (with_reducible refine Bool.and_eq_true_iff.2 ⟨?_, ?_⟩)
  all_goals first | with_reducible exact enter | with_reducible exact lifts | with_reducible exact made | skip
  all_goals as_aux_lemma => kernel_rfl

end Go.Proofs.Qxb6000678a.fnBlockMergeBuilt
