import Derived.Test.Qxb6003126aRows
import Derived.ProofKit
namespace Go.Proofs.Qxb6003126a

/-- The head of the dump, sign by sign. -/
def headSigns : List Char := ['h', 'a', 'r', 'n', 'e', 's', 's', ' ', '1', 'f', '1', '4', '8', 'b', 'b', '5', '9', '1', '6', 'c', 'b', '6', '1', '2', 'b', '9', 'f', '4', '2', '2', '9', 'a', '3', '6', '9', '0', '4', '5', 'b', '0', '9', '8', '2', 'd', 'b', 'f', '5', '5', '8', 'a', '8', 'd', '9', '8', '1', '5', '7', 'f', 'c', 'f', 'e', '9', 'd', 'c', '2', '2', '2', '0', '8', 'c', '5', 'e', ' ', 'c', 'u', 't', ' ', 'a', 't', ' ', 'e', 'x', 'a', 'm', 'p', 'l', 'e', '.', 'c', 'o', 'm', '/', 'v', 'e', 's', 't', 'w', 'r', 'i', 'g', 'h', 't', '/', 'v', 'e', 's', 't', 'w', 'r', 'i', 'g', 'h', 't', '/', 'z', 'z', 'l', 'a', 'w', 's', '_', 'g', 'r', 'a', 'd', 'e', 's', '_', 'b', '1', '.', 'F', 'n', 'O', 'f', 'F', 'i', 'n', 'd', 's', 'F', 'i', 'r', 's', 't', 'R', 'o', 'w', 'O', 'f', 'Y', 'e', 'a', 'r', ' ', 'e', 'x', 'a', 'm', 'p', 'l', 'e', '.', 'c', 'o', 'm', '/', 'v', 'e', 's', 't', 'w', 'r', 'i', 'g', 'h', 't', '/', 'v', 'e', 's', 't', 'w', 'r', 'i', 'g', 'h', 't', '/', 'z', 'z', 'l', 'a', 'w', 's', '_', 'g', 'r', 'a', 'd', 'e', 's', '_', 'b', '1', '.', 'F', 'n', 'I', 'n', 't', 'e', 'r', 'n', 'N', 'u', 'm', 'b', 'e', 'r', 's', 'T', 'e', 'x', 't', 's', 'B', 'y', 'F', 'i', 'r', 's', 't', 'S', 'i', 'g', 'h', 't', 'i', 'n', 'g', ' ', 'e', 'x', 'a', 'm', 'p', 'l', 'e', '.', 'c', 'o', 'm', '/', 'v', 'e', 's', 't', 'w', 'r', 'i', 'g', 'h', 't', '/', 'v', 'e', 's', 't', 'w', 'r', 'i', 'g', 'h', 't', '/', 'z', 'z', 'l', 'a', 'w', 's', '_', 'g', 'r', 'a', 'd', 'e', 's', '_', 'b', '1', '.', 'F', 'n', 'A', 'd', 'd', 'K', 'e', 'e', 'p', 's', 'E', 'v', 'e', 'r', 'y', 'M', 'a', 'r', 'k', 'I', 'n', 'F', 'i', 'l', 'e', 'O', 'r', 'd', 'e', 'r']
set_option maxRecDepth 100000 in
theorem head_lit : Try.pinned.checked.prog.initOrder = String.ofList headSigns := by kernel_rfl
theorem head_list : Try.pinned.checked.prog.initOrder.toList = headSigns := by rw [head_lit, String.toList_ofList]

theorem words_split (r : List Char) : ∀ a : List Char, (a.all fun c => c != ' ') = true → wordsSigns (a ++ ' ' :: r) = a :: wordsSigns r
  | [], _ => rfl
  | c :: a, h => by
    simp only [List.all_cons, Bool.and_eq_true, bne_iff_ne] at h
    have ih := words_split r a h.2
    rw [List.cons_append, wordsSigns.eq_3 _ _ (fun e => h.1 e), ih]

def word0 : List Char := ['h', 'a', 'r', 'n', 'e', 's', 's']
def word1 : List Char := ['1', 'f', '1', '4', '8', 'b', 'b', '5', '9', '1', '6', 'c', 'b', '6', '1', '2', 'b', '9', 'f', '4', '2', '2', '9', 'a', '3', '6', '9', '0', '4', '5', 'b', '0', '9', '8', '2', 'd', 'b', 'f', '5', '5', '8', 'a', '8', 'd', '9', '8', '1', '5', '7', 'f', 'c', 'f', 'e', '9', 'd', 'c', '2', '2', '2', '0', '8', 'c', '5', 'e']
def word2 : List Char := ['c', 'u', 't']
def wordsRest : List Char := ['a', 't', ' ', 'e', 'x', 'a', 'm', 'p', 'l', 'e', '.', 'c', 'o', 'm', '/', 'v', 'e', 's', 't', 'w', 'r', 'i', 'g', 'h', 't', '/', 'v', 'e', 's', 't', 'w', 'r', 'i', 'g', 'h', 't', '/', 'z', 'z', 'l', 'a', 'w', 's', '_', 'g', 'r', 'a', 'd', 'e', 's', '_', 'b', '1', '.', 'F', 'n', 'O', 'f', 'F', 'i', 'n', 'd', 's', 'F', 'i', 'r', 's', 't', 'R', 'o', 'w', 'O', 'f', 'Y', 'e', 'a', 'r', ' ', 'e', 'x', 'a', 'm', 'p', 'l', 'e', '.', 'c', 'o', 'm', '/', 'v', 'e', 's', 't', 'w', 'r', 'i', 'g', 'h', 't', '/', 'v', 'e', 's', 't', 'w', 'r', 'i', 'g', 'h', 't', '/', 'z', 'z', 'l', 'a', 'w', 's', '_', 'g', 'r', 'a', 'd', 'e', 's', '_', 'b', '1', '.', 'F', 'n', 'I', 'n', 't', 'e', 'r', 'n', 'N', 'u', 'm', 'b', 'e', 'r', 's', 'T', 'e', 'x', 't', 's', 'B', 'y', 'F', 'i', 'r', 's', 't', 'S', 'i', 'g', 'h', 't', 'i', 'n', 'g', ' ', 'e', 'x', 'a', 'm', 'p', 'l', 'e', '.', 'c', 'o', 'm', '/', 'v', 'e', 's', 't', 'w', 'r', 'i', 'g', 'h', 't', '/', 'v', 'e', 's', 't', 'w', 'r', 'i', 'g', 'h', 't', '/', 'z', 'z', 'l', 'a', 'w', 's', '_', 'g', 'r', 'a', 'd', 'e', 's', '_', 'b', '1', '.', 'F', 'n', 'A', 'd', 'd', 'K', 'e', 'e', 'p', 's', 'E', 'v', 'e', 'r', 'y', 'M', 'a', 'r', 'k', 'I', 'n', 'F', 'i', 'l', 'e', 'O', 'r', 'd', 'e', 'r']
set_option maxRecDepth 100000 in
theorem head_parts : headSigns = word0 ++ ' ' :: (word1 ++ ' ' :: (word2 ++ ' ' :: wordsRest)) := by kernel_rfl

theorem head_words : behindMainWord (wordsSigns Try.pinned.checked.prog.initOrder.toList) = word2 :: wordsSigns wordsRest := by
  rw [head_list, head_parts, words_split _ word0 (by kernel_rfl), words_split _ word1 (by kernel_rfl), words_split _ word2 (by kernel_rfl)]
  generalize wordsSigns wordsRest = rest
  kernel_rfl

theorem strip_cut (rest : List (List Char)) : stripLifts liftWords (['c', 'u', 't'] :: rest) = ([], ['c', 'u', 't'] :: rest) := by kernel_rfl

theorem enters_of {P : Program} {rest : List (List Char)} (h : behindMainWord (wordsSigns P.initOrder.toList) = word2 :: rest) (h1 : P.laysLater = false) (h2 : P.bearsReflect = false) (h3 : P.doorFits [] = true) : P.mayEnter = true := by
  have e2 : word2 = "cut".toList := by kernel_rfl
  simp [Program.mayEnter, h, strip_cut, h1, h2, h3, e2]

theorem lifts_of {P : Program} {rest : List (List Char)} (h : behindMainWord (wordsSigns P.initOrder.toList) = word2 :: rest) : P.liftsFinal = false := by
  have e2 : word2 = "cut".toList := by kernel_rfl
  simp [Program.liftsFinal, Program.headLifts, h, strip_cut, e2]

theorem made_of {P : Program} {rest : List (List Char)} (h : behindMainWord (wordsSigns P.initOrder.toList) = word2 :: rest) : P.make = some .cut := by
  have e2 : word2 = "cut".toList := by kernel_rfl
  simp [Program.make, h, e2]

theorem enters : Try.pinned.checked.prog.mayEnter = true := enters_of head_words (by kernel_rfl) (by kernel_rfl) (by kernel_rfl)
theorem lifts : Try.pinned.checked.prog.liftsFinal = false := lifts_of head_words
theorem made : Try.pinned.checked.prog.make = some .cut := made_of head_words

end Go.Proofs.Qxb6003126a
