/-
  The head's words of this seat's program, as numbers: so that the closed facts on them cost the kernel no decoding of a long text.
-/
import Derived.Test.Qxb6000458aRows
import Derived.KernelRfl
import Derived.JoinedOf
namespace Go.Proofs.Qxb6000458a

/-- the head's signs -/
def headCodes : List Nat := [104, 97, 114, 110, 101, 115, 115, 32, 51, 98, 57, 97, 52, 49, 56, 48, 54, 57, 49, 54, 50, 54, 53, 48, 54, 101, 99, 57, 100, 99, 98, 53, 99, 98, 57, 97, 99, 98, 101, 53,
  51, 100, 57, 48, 51, 50, 102, 49, 55, 100, 102, 48, 56, 53, 97, 101, 57, 57, 52, 55, 51, 53, 56, 100, 57, 51, 101, 101, 48, 53, 99, 102, 32, 99, 117, 116, 32, 97, 116, 32,
  101, 120, 97, 109, 112, 108, 101, 46, 99, 111, 109, 47, 114, 111, 108, 101, 45, 108, 101, 100, 103, 101, 114, 47, 114, 111, 108, 101, 45, 108, 101, 100, 103, 101, 114, 47, 122, 122, 108, 97,
  119, 115, 95, 105, 110, 116, 101, 114, 110, 97, 108, 95, 112, 111, 108, 105, 99, 121, 99, 115, 118, 95, 98, 49, 46, 70, 110, 87, 105, 116, 104, 105, 110, 77, 97, 120, 76, 105, 110, 107,
  115, 77, 97, 116, 99, 104, 101, 115, 83, 104, 111, 114, 116, 101, 115, 116, 87, 97, 121, 115, 32, 101, 120, 97, 109, 112, 108, 101, 46, 99, 111, 109, 47, 114, 111, 108, 101, 45, 108, 101,
  100, 103, 101, 114, 47, 114, 111, 108, 101, 45, 108, 101, 100, 103, 101, 114, 47, 122, 122, 108, 97, 119, 115, 95, 105, 110, 116, 101, 114, 110, 97, 108, 95, 112, 111, 108, 105, 99, 121, 99,
  115, 118, 95, 98, 49, 46, 70, 110, 87, 105, 116, 104, 105, 110, 77, 97, 120, 76, 105, 110, 107, 115, 71, 114, 111, 119, 115, 87, 105, 116, 104, 65, 76, 105, 110, 101, 32, 101, 120, 97,
  109, 112, 108, 101, 46, 99, 111, 109, 47, 114, 111, 108, 101, 45, 108, 101, 100, 103, 101, 114, 47, 114, 111, 108, 101, 45, 108, 101, 100, 103, 101, 114, 47, 122, 122, 108, 97, 119, 115, 95,
  105, 110, 116, 101, 114, 110, 97, 108, 95, 112, 111, 108, 105, 99, 121, 99, 115, 118, 95, 98, 49, 46, 70, 110, 87, 105, 116, 104, 105, 110, 77, 97, 120, 76, 105, 110, 107, 115, 70, 97,
  114, 116, 104, 101, 115, 116, 78, 101, 101, 100, 115, 65, 76, 111, 110, 103, 101, 114, 87, 97, 121, 32, 101, 120, 97, 109, 112, 108, 101, 46, 99, 111, 109, 47, 114, 111, 108, 101, 45, 108,
  101, 100, 103, 101, 114, 47, 114, 111, 108, 101, 45, 108, 101, 100, 103, 101, 114, 47, 122, 122, 108, 97, 119, 115, 95, 105, 110, 116, 101, 114, 110, 97, 108, 95, 112, 111, 108, 105, 99, 121,
  99, 115, 118, 95, 98, 49, 46, 70, 110, 76, 111, 110, 103, 101, 114, 87, 97, 121, 77, 97, 116, 99, 104, 101, 115, 87, 97, 108, 107, 115, 32, 101, 120, 97, 109, 112, 108, 101, 46, 99,
  111, 109, 47, 114, 111, 108, 101, 45, 108, 101, 100, 103, 101, 114, 47, 114, 111, 108, 101, 45, 108, 101, 100, 103, 101, 114, 47, 122, 122, 108, 97, 119, 115, 95, 105, 110, 116, 101, 114, 110,
  97, 108, 95, 112, 111, 108, 105, 99, 121, 99, 115, 118, 95, 98, 49, 46, 70, 110, 76, 111, 110, 103, 101, 114, 87, 97, 121, 75, 101, 112, 116, 65, 110, 115, 119, 101, 114, 115, 65, 103,
  114, 101, 101, 32, 101, 120, 97, 109, 112, 108, 101, 46, 99, 111, 109, 47, 114, 111, 108, 101, 45, 108, 101, 100, 103, 101, 114, 47, 114, 111, 108, 101, 45, 108, 101, 100, 103, 101, 114, 47,
  122, 122, 108, 97, 119, 115, 95, 105, 110, 116, 101, 114, 110, 97, 108, 95, 112, 111, 108, 105, 99, 121, 99, 115, 118, 95, 98, 49, 46, 70, 110, 76, 111, 110, 103, 101, 114, 87, 97, 121,
  70, 101, 119, 101, 114, 76, 105, 110, 107, 115, 32, 101, 120, 97, 109, 112, 108, 101, 46, 99, 111, 109, 47, 114, 111, 108, 101, 45, 108, 101, 100, 103, 101, 114, 47, 114, 111, 108, 101, 45,
  108, 101, 100, 103, 101, 114, 47, 122, 122, 108, 97, 119, 115, 95, 105, 110, 116, 101, 114, 110, 97, 108, 95, 112, 111, 108, 105, 99, 121, 99, 115, 118, 95, 98, 49, 46, 70, 110, 65, 100,
  100, 71, 114, 97, 110, 116, 75, 101, 101, 112, 115, 70, 105, 114, 115, 116, 79, 102, 69, 97, 99, 104, 32, 101, 120, 97, 109, 112, 108, 101, 46, 99, 111, 109, 47, 114, 111, 108, 101, 45,
  108, 101, 100, 103, 101, 114, 47, 114, 111, 108, 101, 45, 108, 101, 100, 103, 101, 114, 47, 122, 122, 108, 97, 119, 115, 95, 105, 110, 116, 101, 114, 110, 97, 108, 95, 112, 111, 108, 105, 99,
  121, 99, 115, 118, 95, 98, 49, 46, 70, 110, 65, 100, 100, 71, 114, 97, 110, 116, 84, 119, 105, 99, 101, 73, 115, 79, 110, 99, 101]

theorem head_is : Try.prog.initOrder = String.ofList (headCodes.map Char.ofNat) := by kernel_rfl
theorem head_list : Try.prog.initOrder.toList = headCodes.map Char.ofNat := by rw [head_is, String.toList_ofList]
/-- its words behind the main word -/
def headWords : List (List Char) := behindMainWord (wordsSigns (headCodes.map Char.ofNat))
theorem head_words : behindMainWord (wordsSigns Try.prog.initOrder.toList) = headWords := by rw [head_list]; rfl
/-- the word cut -/
def cutL : List Char := [Char.ofNat 99, Char.ofNat 117, Char.ofNat 116]
theorem head_cut : headWords = cutL :: headWords.tail := by kernel_rfl

theorem strip_cut (r : List (List Char)) : ∀ os : List String, os.all (fun o => !(cutL == o.toList)) = true → stripLifts os (cutL :: r) = ([], cutL :: r)
  | [], _ => rfl
  | o :: os, h => by
    rw [List.all_cons, Bool.and_eq_true] at h
    have h1 : (cutL == o.toList) = false := by simpa using h.1
    rw [stripLifts, h1]
    exact strip_cut r os h.2
theorem strip_lifts (r : List (List Char)) : stripLifts liftWords (cutL :: r) = ([], cutL :: r) := strip_cut r liftWords (by decide)
theorem lifts_cut (P : Program) (r : List (List Char)) (h : behindMainWord (wordsSigns P.initOrder.toList) = cutL :: r) : P.headLifts = [] := by
  unfold Program.headLifts
  rw [h, strip_lifts]
  have h3 : (some cutL == some "cut".toList) = true := by decide
  simp only [List.head?_cons, h3]
  rfl
theorem make_cut (P : Program) (r : List (List Char)) (h : behindMainWord (wordsSigns P.initOrder.toList) = cutL :: r) : P.make = some .cut := by
  unfold Program.make
  rw [h]
  have h1 : (cutL == "gc".toList) = false := by decide
  have h2 : (cutL == "spec".toList) = false := by decide
  have h3 : (cutL == "cut".toList) = true := by decide
  simp only [h1, h2, h3]
  rfl
theorem final_cut (P : Program) (r : List (List Char)) (h : behindMainWord (wordsSigns P.initOrder.toList) = cutL :: r) : P.liftsFinal = false := by
  unfold Program.liftsFinal
  rw [lifts_cut P r h, h]
  have h1 : (some cutL == some "carried".toList) = false := by decide
  simp only [List.head?_cons, h1]
  rfl
theorem enter_cut (P : Program) (r : List (List Char)) (h : behindMainWord (wordsSigns P.initOrder.toList) = cutL :: r) (h1 : P.laysLater = false) (h2 : P.bearsReflect = false) (h3 : P.doorFits [] = true) : P.mayEnter = true := by
  unfold Program.mayEnter
  rw [h]
  have e1 : (some cutL == some "cut".toList) = true := by decide
  simp only [strip_lifts, List.head?_cons, e1, h1, h2, h3]
  have e2 : (cutL == "gc".toList) = false := by decide
  have e3 : (cutL == "spec".toList) = false := by decide
  have e4 : (cutL == "carried".toList) = false := by decide
  simp only [e2, e3, e4]
  rfl

theorem lays_later : Try.prog.laysLater = false := by kernel_rfl
theorem bears_reflect : Try.prog.bearsReflect = false := by kernel_rfl
theorem door_fits : Try.prog.doorFits [] = true := by kernel_rfl
theorem may_enter : Try.prog.mayEnter = true := enter_cut _ _ (head_words.trans head_cut) lays_later bears_reflect door_fits
theorem lifts_final : Try.prog.liftsFinal = false := final_cut _ _ (head_words.trans head_cut)
theorem make_is : Try.prog.make = some .cut := make_cut _ _ (head_words.trans head_cut)

theorem and_of {a b : Bool} (ha : a = true) (hb : b = true) : (a && b) = true := by rw [ha, hb]; rfl

end Go.Proofs.Qxb6000458a
