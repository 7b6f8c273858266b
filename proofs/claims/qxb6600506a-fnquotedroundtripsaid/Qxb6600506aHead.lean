/- WHY THIS TEXT: three of the row's closed facts (mayEnter, liftsFinal, make) part the dump's head (the field 'initOrder') into words. Asked together by the kernel's run they outgrow the lid on memory: the head names eight roots.
   WHAT IT HOLDS: the head as a list of signs, by their code numbers, just as the dump's second row bears it: 'harness', a sum, 'cut', then (restChars) 'at' and the eight roots that the seat's GOCLAIM row names too. 'head_eq' has the kernel hold it against the loaded program; nothing is assumed.
   Then each of the three facts follows from laws over whatever program and whatever stands behind the word 'cut': the kernel does not part the string at all. -/
import Derived.Test.Qxb6600506aRows
import Derived.JoinedOf
import Derived.KernelRfl
namespace Go.Proofs.Qxb6600506a

theorem words_step (w r : List Char) (h : w.all (fun c => c != ' ') = true) : wordsSigns (w ++ ' ' :: r) = w :: wordsSigns r := by
  induction w with
  | nil => rfl
  | cons c w ih =>
    simp only [List.all_cons, Bool.and_eq_true, bne_iff_ne, ne_eq] at h
    have e := ih h.2
    rw [List.cons_append, wordsSigns]
    · rw [e]
    · exact h.1

/-- Signs by their numbers. -/
def signs (l : List Nat) : List Char := l.map Char.ofNat

def sumChars : List Char := signs [
  49, 48, 51, 54, 97, 56, 101, 53, 51, 50, 57, 56, 49, 57, 97, 55, 101, 101, 55, 99, 50, 48, 98, 99, 101, 49, 53, 97, 50, 102, 100, 56, 49, 97, 99, 49, 56, 50, 101, 98,
  55, 54, 50, 50, 102, 49, 98, 54, 98, 56, 51, 53, 54, 57, 49, 98, 102, 49, 57, 55, 53, 49, 102, 102]
set_option maxRecDepth 100000 in
def restChars : List Char := signs [
  97, 116, 32, 101, 120, 97, 109, 112, 108, 101, 46, 99, 111, 109, 47, 98, 114, 105, 115, 107, 45, 108, 105, 109, 105, 116, 47, 98, 114, 105, 115, 107, 45, 108, 105, 109, 105, 116, 47, 122,
  122, 108, 97, 119, 115, 95, 105, 110, 116, 101, 114, 110, 97, 108, 95, 97, 99, 99, 101, 115, 115, 108, 111, 103, 95, 98, 49, 46, 70, 110, 81, 117, 111, 116, 101, 100, 77, 97, 116, 99,
  104, 101, 115, 66, 97, 99, 107, 115, 108, 97, 115, 104, 80, 97, 114, 105, 116, 121, 32, 101, 120, 97, 109, 112, 108, 101, 46, 99, 111, 109, 47, 98, 114, 105, 115, 107, 45, 108, 105, 109,
  105, 116, 47, 98, 114, 105, 115, 107, 45, 108, 105, 109, 105, 116, 47, 122, 122, 108, 97, 119, 115, 95, 105, 110, 116, 101, 114, 110, 97, 108, 95, 97, 99, 99, 101, 115, 115, 108, 111, 103,
  95, 98, 49, 46, 70, 110, 81, 117, 111, 116, 101, 100, 82, 111, 117, 110, 100, 84, 114, 105, 112, 32, 101, 120, 97, 109, 112, 108, 101, 46, 99, 111, 109, 47, 98, 114, 105, 115, 107, 45,
  108, 105, 109, 105, 116, 47, 98, 114, 105, 115, 107, 45, 108, 105, 109, 105, 116, 47, 122, 122, 108, 97, 119, 115, 95, 105, 110, 116, 101, 114, 110, 97, 108, 95, 97, 99, 99, 101, 115, 115,
  108, 111, 103, 95, 98, 49, 46, 70, 110, 81, 117, 111, 116, 101, 100, 69, 120, 116, 101, 110, 100, 115, 66, 121, 83, 117, 102, 102, 105, 120, 32, 101, 120, 97, 109, 112, 108, 101, 46, 99,
  111, 109, 47, 98, 114, 105, 115, 107, 45, 108, 105, 109, 105, 116, 47, 98, 114, 105, 115, 107, 45, 108, 105, 109, 105, 116, 47, 122, 122, 108, 97, 119, 115, 95, 105, 110, 116, 101, 114, 110,
  97, 108, 95, 97, 99, 99, 101, 115, 115, 108, 111, 103, 95, 98, 49, 46, 70, 110, 73, 115, 67, 111, 109, 98, 105, 110, 101, 100, 69, 110, 100, 77, 97, 116, 99, 104, 101, 115, 77, 111,
  100, 101, 108, 32, 101, 120, 97, 109, 112, 108, 101, 46, 99, 111, 109, 47, 98, 114, 105, 115, 107, 45, 108, 105, 109, 105, 116, 47, 98, 114, 105, 115, 107, 45, 108, 105, 109, 105, 116, 47,
  122, 122, 108, 97, 119, 115, 95, 105, 110, 116, 101, 114, 110, 97, 108, 95, 97, 99, 99, 101, 115, 115, 108, 111, 103, 95, 98, 49, 46, 70, 110, 73, 115, 67, 111, 109, 98, 105, 110, 101,
  100, 69, 110, 100, 82, 111, 117, 110, 100, 84, 114, 105, 112, 32, 101, 120, 97, 109, 112, 108, 101, 46, 99, 111, 109, 47, 98, 114, 105, 115, 107, 45, 108, 105, 109, 105, 116, 47, 98, 114,
  105, 115, 107, 45, 108, 105, 109, 105, 116, 47, 122, 122, 108, 97, 119, 115, 95, 105, 110, 116, 101, 114, 110, 97, 108, 95, 97, 99, 99, 101, 115, 115, 108, 111, 103, 95, 98, 49, 46, 70,
  110, 73, 115, 67, 111, 109, 98, 105, 110, 101, 100, 69, 110, 100, 80, 114, 101, 102, 105, 120, 70, 114, 101, 101, 32, 101, 120, 97, 109, 112, 108, 101, 46, 99, 111, 109, 47, 98, 114, 105,
  115, 107, 45, 108, 105, 109, 105, 116, 47, 98, 114, 105, 115, 107, 45, 108, 105, 109, 105, 116, 47, 122, 122, 108, 97, 119, 115, 95, 105, 110, 116, 101, 114, 110, 97, 108, 95, 97, 99, 99,
  101, 115, 115, 108, 111, 103, 95, 98, 49, 46, 70, 110, 83, 116, 97, 116, 117, 115, 65, 110, 100, 83, 105, 122, 101, 77, 97, 116, 99, 104, 101, 115, 77, 111, 100, 101, 108, 32, 101, 120,
  97, 109, 112, 108, 101, 46, 99, 111, 109, 47, 98, 114, 105, 115, 107, 45, 108, 105, 109, 105, 116, 47, 98, 114, 105, 115, 107, 45, 108, 105, 109, 105, 116, 47, 122, 122, 108, 97, 119, 115,
  95, 105, 110, 116, 101, 114, 110, 97, 108, 95, 97, 99, 99, 101, 115, 115, 108, 111, 103, 95, 98, 49, 46, 70, 110, 83, 116, 97, 116, 117, 115, 65, 110, 100, 83, 105, 122, 101, 82, 111,
  117, 110, 100, 84, 114, 105, 112]
def harnessChars : List Char := signs [
  104, 97, 114, 110, 101, 115, 115]
def cutChars : List Char := signs [
  99, 117, 116]
def headChars : List Char := harnessChars ++ ' ' :: (sumChars ++ ' ' :: (cutChars ++ ' ' :: restChars))

set_option maxRecDepth 100000 in
theorem head_eq : Try.prog.initOrder = String.ofList headChars := by kernel_rfl
theorem head_toList : Try.prog.initOrder.toList = headChars := by rw [head_eq, String.toList_ofList]
theorem sum_ok : isSumSigns sumChars = true := by kernel_rfl
theorem words_eq : wordsSigns Try.prog.initOrder.toList = harnessChars :: sumChars :: cutChars :: wordsSigns restChars := by
  rw [head_toList, headChars, words_step _ _ (by kernel_rfl), words_step _ _ (by kernel_rfl), words_step _ _ (by kernel_rfl)]
theorem behind_eq : behindMainWord (wordsSigns Try.prog.initOrder.toList) = cutChars :: wordsSigns restChars := by
  rw [words_eq]
  have e : (harnessChars == "harness".toList) = true := by kernel_rfl
  simp only [behindMainWord, e, sum_ok, Bool.true_or, Bool.and_self, if_true]
/-! Whatever stands behind the word 'cut', whatever the program: laws with P a letter, so that the kernel reckons nothing over the loaded one. -/
theorem strip_cut (r : List (List Char)) : stripLifts liftWords (cutChars :: r) = ([], cutChars :: r) := by kernel_rfl
theorem lifts_of (P : Program) (r : List (List Char)) (h : behindMainWord (wordsSigns P.initOrder.toList) = cutChars :: r) : P.headLifts = [] := by
  unfold Program.headLifts
  rw [h, strip_cut]
  kernel_rfl
theorem make_of (P : Program) (r : List (List Char)) (h : behindMainWord (wordsSigns P.initOrder.toList) = cutChars :: r) : P.make = some .cut := by
  unfold Program.make
  rw [h]
  kernel_rfl
theorem liftsFinal_of (P : Program) (r : List (List Char)) (h : behindMainWord (wordsSigns P.initOrder.toList) = cutChars :: r) : P.liftsFinal = false := by
  unfold Program.liftsFinal
  rw [h, lifts_of P r h]
  kernel_rfl
theorem mayEnter_of (P : Program) (r : List (List Char)) (h : behindMainWord (wordsSigns P.initOrder.toList) = cutChars :: r) (h1 : P.laysLater = false) (h2 : P.bearsReflect = false) (h3 : P.doorFits [] = true) : P.mayEnter = true := by
  unfold Program.mayEnter
  rw [h]
  simp only [strip_cut, h1, h2, h3]
  kernel_rfl
theorem make_eq : Try.prog.make = some .cut := make_of _ _ behind_eq
theorem liftsFinal_eq : Try.prog.liftsFinal = false := liftsFinal_of _ _ behind_eq
theorem laysLater_eq : Try.prog.laysLater = false := by kernel_rfl
theorem bearsReflect_eq : Try.prog.bearsReflect = false := by kernel_rfl
theorem doorFits_eq : Try.prog.doorFits [] = true := by kernel_rfl
theorem mayEnter_eq : Try.prog.mayEnter = true := mayEnter_of _ _ behind_eq laysLater_eq bearsReflect_eq doorFits_eq
end Go.Proofs.Qxb6600506a
