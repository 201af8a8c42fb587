/-
  The head's words of this seat's program, as numbers: so that the closed facts on them cost the kernel no decoding of a long text.
-/
import Derived.Test.Qxb6001672aRows
import Derived.KernelRfl
import Derived.JoinedOf
namespace Go.Proofs.Qxb6001672a

/-- the head's signs -/
def headCodes : List Nat := [104, 97, 114, 110, 101, 115, 115, 32, 97, 54, 53, 56, 51, 54, 101, 102, 97, 55, 49, 50, 56, 102, 100, 55, 50, 50, 50, 55, 55, 100, 53, 53, 97, 57, 100, 48, 99, 53, 101, 57,
  101, 54, 53, 54, 101, 99, 98, 55, 56, 55, 102, 52, 49, 97, 52, 57, 97, 48, 57, 97, 56, 49, 54, 50, 98, 97, 56, 51, 52, 100, 50, 101, 32, 99, 117, 116, 32, 97, 116, 32,
  101, 120, 97, 109, 112, 108, 101, 46, 99, 111, 109, 47, 99, 104, 114, 111, 110, 111, 114, 111, 119, 47, 99, 104, 114, 111, 110, 111, 114, 111, 119, 47, 122, 122, 108, 97, 119, 115, 95, 114,
  111, 111, 116, 95, 103, 49, 46, 70, 110, 87, 105, 110, 100, 111, 119, 73, 115, 84, 104, 101, 82, 111, 119, 115, 65, 102, 116, 101, 114, 79, 102, 102, 115, 101, 116, 85, 112, 84, 111, 67,
  111, 117, 110, 116, 32, 101, 120, 97, 109, 112, 108, 101, 46, 99, 111, 109, 47, 99, 104, 114, 111, 110, 111, 114, 111, 119, 47, 99, 104, 114, 111, 110, 111, 114, 111, 119, 47, 122, 122, 108,
  97, 119, 115, 95, 114, 111, 111, 116, 95, 103, 49, 46, 70, 110, 87, 105, 116, 104, 73, 115, 65, 110, 79, 118, 101, 114, 114, 105, 100, 101, 77, 111, 110, 111, 105, 100, 32, 101, 120, 97,
  109, 112, 108, 101, 46, 99, 111, 109, 47, 99, 104, 114, 111, 110, 111, 114, 111, 119, 47, 99, 104, 114, 111, 110, 111, 114, 111, 119, 47, 122, 122, 108, 97, 119, 115, 95, 114, 111, 111, 116,
  95, 103, 50, 46, 70, 110, 83, 116, 97, 116, 101, 115, 73, 100, 101, 109, 112, 111, 116, 101, 110, 116, 65, 110, 100, 80, 108, 97, 105, 110, 77, 101, 97, 110, 115, 73, 110, 116, 101, 103,
  101, 114, 115, 32, 101, 120, 97, 109, 112, 108, 101, 46, 99, 111, 109, 47, 99, 104, 114, 111, 110, 111, 114, 111, 119, 47, 99, 104, 114, 111, 110, 111, 114, 111, 119, 47, 122, 122, 108, 97,
  119, 115, 95, 114, 111, 111, 116, 95, 103, 50, 46, 70, 110, 75, 101, 121, 101, 100, 72, 97, 110, 103, 115, 79, 110, 70, 105, 114, 115, 116, 79, 114, 100, 101, 114, 73, 116, 101, 109, 65,
  108, 111, 110, 101, 32, 101, 120, 97, 109, 112, 108, 101, 46, 99, 111, 109, 47, 99, 104, 114, 111, 110, 111, 114, 111, 119, 47, 99, 104, 114, 111, 110, 111, 114, 111, 119, 47, 122, 122, 108,
  97, 119, 115, 95, 105, 110, 116, 101, 114, 110, 97, 108, 95, 101, 110, 103, 105, 110, 101, 95, 103, 49, 46, 70, 110, 67, 111, 108, 117, 109, 110, 82, 101, 97, 100, 73, 110, 118, 101, 114,
  116, 115, 80, 97, 99, 107, 105, 110, 103, 32, 101, 120, 97, 109, 112, 108, 101, 46, 99, 111, 109, 47, 99, 104, 114, 111, 110, 111, 114, 111, 119, 47, 99, 104, 114, 111, 110, 111, 114, 111,
  119, 47, 122, 122, 108, 97, 119, 115, 95, 105, 110, 116, 101, 114, 110, 97, 108, 95, 101, 110, 103, 105, 110, 101, 95, 103, 49, 46, 70, 110, 69, 109, 112, 116, 105, 101, 100, 72, 111, 108,
  100, 115, 78, 111, 82, 111, 119, 115, 32, 101, 120, 97, 109, 112, 108, 101, 46, 99, 111, 109, 47, 99, 104, 114, 111, 110, 111, 114, 111, 119, 47, 99, 104, 114, 111, 110, 111, 114, 111, 119,
  47, 122, 122, 108, 97, 119, 115, 95, 114, 111, 111, 116, 95, 103, 49, 46, 70, 110, 65, 112, 112, 108, 121, 73, 115, 75, 108, 101, 101, 110, 101, 80, 101, 114, 82, 111, 119, 32, 101, 120,
  97, 109, 112, 108, 101, 46, 99, 111, 109, 47, 99, 104, 114, 111, 110, 111, 114, 111, 119, 47, 99, 104, 114, 111, 110, 111, 114, 111, 119, 47, 122, 122, 108, 97, 119, 115, 95, 114, 111, 111,
  116, 95, 103, 49, 46, 70, 110, 65, 112, 112, 108, 121, 70, 97, 115, 116, 80, 97, 116, 104, 65, 103, 114, 101, 101, 115, 87, 105, 116, 104, 83, 116, 97, 116, 101, 100, 32, 101, 120, 97,
  109, 112, 108, 101, 46, 99, 111, 109, 47, 99, 104, 114, 111, 110, 111, 114, 111, 119, 47, 99, 104, 114, 111, 110, 111, 114, 111, 119, 47, 122, 122, 108, 97, 119, 115, 95, 114, 111, 111, 116,
  95, 103, 49, 46, 70, 110, 83, 116, 97, 116, 101, 79, 102, 65, 103, 114, 101, 101, 115, 87, 105, 116, 104, 65, 112, 112, 108, 121]

theorem head_is : Try.prog.initOrder = String.ofList (headCodes.map Char.ofNat) := by kernel_rfl
theorem head_list : Try.prog.initOrder.toList = headCodes.map Char.ofNat := by rw [head_is, String.toList_ofList]
/-- its words behind the main word -/
def headWords : List (List Char) := behindMainWord (wordsSigns (headCodes.map Char.ofNat))
theorem head_words : behindMainWord (wordsSigns Try.prog.initOrder.toList) = headWords := by rw [head_list]; rfl
/-- the word cut -/
def cutL : List Char := [Char.ofNat 99, Char.ofNat 117, Char.ofNat 116]
theorem head_cut : headWords = cutL :: headWords.tail := by kernel_rfl

theorem strip_cut (r : List (List Char)) : ∀ os : List String, os.all (fun o => !(cutL == o.toList)) = true → stripLifts os (cutL :: r) = ([], cutL :: r)
  | [], _ => rfl
  | o :: os, h => by
    rw [List.all_cons, Bool.and_eq_true] at h
    have h1 : (cutL == o.toList) = false := by simpa using h.1
    rw [stripLifts, h1]
    exact strip_cut r os h.2
theorem strip_lifts (r : List (List Char)) : stripLifts liftWords (cutL :: r) = ([], cutL :: r) := strip_cut r liftWords (by decide)
theorem lifts_cut (P : Program) (r : List (List Char)) (h : behindMainWord (wordsSigns P.initOrder.toList) = cutL :: r) : P.headLifts = [] := by
  unfold Program.headLifts
  rw [h, strip_lifts]
  have h3 : (some cutL == some "cut".toList) = true := by decide
  simp only [List.head?_cons, h3]
  rfl
theorem make_cut (P : Program) (r : List (List Char)) (h : behindMainWord (wordsSigns P.initOrder.toList) = cutL :: r) : P.make = some .cut := by
  unfold Program.make
  rw [h]
  have h1 : (cutL == "gc".toList) = false := by decide
  have h2 : (cutL == "spec".toList) = false := by decide
  have h3 : (cutL == "cut".toList) = true := by decide
  simp only [h1, h2, h3]
  rfl
theorem final_cut (P : Program) (r : List (List Char)) (h : behindMainWord (wordsSigns P.initOrder.toList) = cutL :: r) : P.liftsFinal = false := by
  unfold Program.liftsFinal
  rw [lifts_cut P r h, h]
  have h1 : (some cutL == some "carried".toList) = false := by decide
  simp only [List.head?_cons, h1]
  rfl
theorem enter_cut (P : Program) (r : List (List Char)) (h : behindMainWord (wordsSigns P.initOrder.toList) = cutL :: r) (h1 : P.laysLater = false) (h2 : P.bearsReflect = false) (h3 : P.doorFits [] = true) : P.mayEnter = true := by
  unfold Program.mayEnter
  rw [h]
  have e1 : (some cutL == some "cut".toList) = true := by decide
  simp only [strip_lifts, List.head?_cons, e1, h1, h2, h3]
  have e2 : (cutL == "gc".toList) = false := by decide
  have e3 : (cutL == "spec".toList) = false := by decide
  have e4 : (cutL == "carried".toList) = false := by decide
  simp only [e2, e3, e4]
  rfl

theorem lays_later : Try.prog.laysLater = false := by kernel_rfl
theorem bears_reflect : Try.prog.bearsReflect = false := by kernel_rfl
theorem door_fits : Try.prog.doorFits [] = true := by kernel_rfl
theorem may_enter : Try.prog.mayEnter = true := enter_cut _ _ (head_words.trans head_cut) lays_later bears_reflect door_fits
theorem lifts_final : Try.prog.liftsFinal = false := final_cut _ _ (head_words.trans head_cut)
theorem make_is : Try.prog.make = some .cut := make_cut _ _ (head_words.trans head_cut)

theorem and_of {a b : Bool} (ha : a = true) (hb : b = true) : (a && b) = true := by rw [ha, hb]; rfl

end Go.Proofs.Qxb6001672a
