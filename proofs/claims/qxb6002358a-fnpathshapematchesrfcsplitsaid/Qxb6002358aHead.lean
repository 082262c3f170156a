/-
  The head of the cut ('initOrder'), as a list of signs, and the three closed facts of a row that read it: by the kernel's own reckoning over the string they outgrow the memory lid; over the list of signs they are cheap.
-/
import Derived.Test.Qxb6002358aRows
import Derived.JoinedOf
namespace Go.Proofs.Qxb6002358a.Head

/-- the signs of the cut's head, by their numbers. -/
def signs : List Nat := [
  104, 97, 114, 110, 101, 115, 115, 32, 97, 53, 55, 54, 51, 101, 99, 100, 51, 52, 101, 97, 52, 101, 102, 102,
  102, 50, 102, 102, 100, 54, 52, 99, 49, 99, 100, 52, 51, 52, 56, 101, 56, 100, 54, 48, 57, 48, 102, 55,
  49, 55, 99, 49, 100, 53, 100, 50, 99, 52, 48, 100, 57, 50, 99, 97, 97, 54, 102, 101, 99, 55, 52, 54,
  32, 99, 117, 116, 32, 97, 116, 32, 101, 120, 97, 109, 112, 108, 101, 46, 99, 111, 109, 47, 104, 97, 115, 104,
  98, 111, 117, 103, 104, 47, 104, 97, 115, 104, 98, 111, 117, 103, 104, 47, 122, 122, 108, 97, 119, 115, 95, 114,
  111, 111, 116, 95, 103, 49, 46, 70, 110, 67, 114, 99, 77, 117, 108, 116, 105, 112, 108, 121, 77, 97, 116, 99,
  104, 101, 115, 80, 111, 108, 121, 110, 111, 109, 105, 97, 108, 77, 111, 100, 101, 108, 32, 101, 120, 97, 109, 112,
  108, 101, 46, 99, 111, 109, 47, 104, 97, 115, 104, 98, 111, 117, 103, 104, 47, 104, 97, 115, 104, 98, 111, 117,
  103, 104, 47, 122, 122, 108, 97, 119, 115, 95, 114, 111, 111, 116, 95, 103, 49, 46, 70, 110, 67, 114, 99, 77,
  117, 108, 116, 105, 112, 108, 121, 67, 111, 109, 109, 117, 116, 101, 115, 87, 105, 116, 104, 85, 110, 105, 116, 32,
  101, 120, 97, 109, 112, 108, 101, 46, 99, 111, 109, 47, 104, 97, 115, 104, 98, 111, 117, 103, 104, 47, 104, 97,
  115, 104, 98, 111, 117, 103, 104, 47, 122, 122, 108, 97, 119, 115, 95, 114, 111, 111, 116, 95, 103, 49, 46, 70,
  110, 67, 114, 99, 77, 117, 108, 116, 105, 112, 108, 121, 65, 115, 115, 111, 99, 105, 97, 116, 105, 118, 101, 65,
  110, 100, 68, 105, 115, 116, 114, 105, 98, 117, 116, 105, 118, 101, 32, 101, 120, 97, 109, 112, 108, 101, 46, 99,
  111, 109, 47, 104, 97, 115, 104, 98, 111, 117, 103, 104, 47, 104, 97, 115, 104, 98, 111, 117, 103, 104, 47, 122,
  122, 108, 97, 119, 115, 95, 114, 111, 111, 116, 95, 103, 49, 46, 70, 110, 67, 114, 99, 83, 104, 105, 102, 116,
  73, 115, 90, 101, 114, 111, 66, 121, 116, 101, 115, 70, 101, 100, 32, 101, 120, 97, 109, 112, 108, 101, 46, 99,
  111, 109, 47, 104, 97, 115, 104, 98, 111, 117, 103, 104, 47, 104, 97, 115, 104, 98, 111, 117, 103, 104, 47, 122,
  122, 108, 97, 119, 115, 95, 114, 111, 111, 116, 95, 103, 49, 46, 70, 110, 67, 114, 99, 83, 104, 105, 102, 116,
  65, 100, 100, 105, 116, 105, 118, 101, 32, 101, 120, 97, 109, 112, 108, 101, 46, 99, 111, 109, 47, 104, 97, 115,
  104, 98, 111, 117, 103, 104, 47, 104, 97, 115, 104, 98, 111, 117, 103, 104, 47, 122, 122, 108, 97, 119, 115, 95,
  114, 111, 111, 116, 95, 103, 49, 46, 70, 110, 67, 114, 99, 83, 104, 105, 102, 116, 73, 110, 106, 101, 99, 116,
  105, 118, 101, 32, 101, 120, 97, 109, 112, 108, 101, 46, 99, 111, 109, 47, 104, 97, 115, 104, 98, 111, 117, 103,
  104, 47, 104, 97, 115, 104, 98, 111, 117, 103, 104, 47, 122, 122, 108, 97, 119, 115, 95, 114, 111, 111, 116, 95,
  103, 50, 46, 70, 110, 66, 108, 111, 99, 107, 83, 112, 97, 110, 115, 84, 105, 108, 101, 68, 97, 116, 97, 32,
  101, 120, 97, 109, 112, 108, 101, 46, 99, 111, 109, 47, 104, 97, 115, 104, 98, 111, 117, 103, 104, 47, 104, 97,
  115, 104, 98, 111, 117, 103, 104, 47, 122, 122, 108, 97, 119, 115, 95, 114, 111, 111, 116, 95, 103, 50, 46, 70,
  110, 66, 108, 111, 99, 107, 83, 112, 97, 110, 83, 112, 108, 105, 116, 115, 65, 116, 65, 66, 108, 111, 99, 107,
  32, 101, 120, 97, 109, 112, 108, 101, 46, 99, 111, 109, 47, 104, 97, 115, 104, 98, 111, 117, 103, 104, 47, 104,
  97, 115, 104, 98, 111, 117, 103, 104, 47, 122, 122, 108, 97, 119, 115, 95, 114, 111, 111, 116, 95, 103, 50, 46,
  70, 110, 80, 97, 116, 104, 83, 104, 97, 112, 101, 77, 97, 116, 99, 104, 101, 115, 82, 70, 67, 83, 112, 108,
  105, 116, 32, 101, 120, 97, 109, 112, 108, 101, 46, 99, 111, 109, 47, 104, 97, 115, 104, 98, 111, 117, 103, 104,
  47, 104, 97, 115, 104, 98, 111, 117, 103, 104, 47, 122, 122, 108, 97, 119, 115, 95, 114, 111, 111, 116, 95, 103,
  50, 46, 70, 110, 76, 111, 103, 76, 101, 110, 103, 116, 104, 115, 77, 97, 116, 99, 104, 80, 111, 115, 116, 79,
  114, 100, 101, 114, 76, 97, 121, 111, 117, 116]

theorem head_eq : Try.prog.initOrder = String.ofList (signs.map Char.ofNat) := by kernel_rfl

theorem head_list : Try.prog.initOrder.toList = signs.map Char.ofNat := by rw [head_eq, String.toList_ofList]

theorem first_word : (behindMainWord (wordsSigns (signs.map Char.ofNat))).head? = some "cut".toList := by kernel_rfl

theorem laysLater_eq : Try.prog.laysLater = false := by kernel_rfl
theorem bearsReflect_eq : Try.prog.bearsReflect = false := by kernel_rfl
theorem doorFits_eq : Try.prog.doorFits [] = true := by kernel_rfl

theorem strip_cut (rest : List (List Char)) : stripLifts liftWords ("cut".toList :: rest) = ([], "cut".toList :: rest) := by kernel_rfl

theorem words_eq : ∃ rest, behindMainWord (wordsSigns Try.prog.initOrder.toList) = "cut".toList :: rest := by
  rw [head_list]
  have h := first_word
  generalize behindMainWord (wordsSigns (signs.map Char.ofNat)) = X at h
  cases X with
  | nil => cases h
  | cons c rest => exact ⟨rest, by rw [Option.some.inj h]⟩

theorem mayEnter_of (P : Program) (rest : List (List Char)) (h : behindMainWord (wordsSigns P.initOrder.toList) = "cut".toList :: rest) (h1 : P.laysLater = false) (h2 : P.bearsReflect = false) (h3 : P.doorFits [] = true) : P.mayEnter = true := by
  have e : (some "cut".toList == some "cut".toList) = true := by kernel_rfl
  have e1 : ("cut".toList == "gc".toList) = false := by kernel_rfl
  have e2 : ("cut".toList == "spec".toList) = false := by kernel_rfl
  have e3 : ("cut".toList == "carried".toList) = false := by kernel_rfl
  unfold Program.mayEnter
  rw [h]
  dsimp only
  rw [strip_cut, h1, h2, h3]
  simp only [List.head?_cons, e, e1, e2, e3, Bool.not_false, Bool.or_true, Bool.or_false, Bool.and_true, Bool.true_and, Bool.false_and, Bool.false_or]
  rfl

theorem headLifts_of (P : Program) (rest : List (List Char)) (h : behindMainWord (wordsSigns P.initOrder.toList) = "cut".toList :: rest) : P.headLifts = [] := by
  have e : (some "cut".toList == some "cut".toList) = true := by kernel_rfl
  unfold Program.headLifts
  rw [h, strip_cut]
  simp only [List.head?_cons, e, if_true]

theorem liftsFinal_of (P : Program) (rest : List (List Char)) (h : behindMainWord (wordsSigns P.initOrder.toList) = "cut".toList :: rest) : P.liftsFinal = false := by
  unfold Program.liftsFinal
  rw [headLifts_of P rest h, h]
  kernel_rfl

theorem make_of_words (P : Program) (rest : List (List Char)) (h : behindMainWord (wordsSigns P.initOrder.toList) = "cut".toList :: rest) : P.make = some .cut := by
  have e : ("cut".toList == "cut".toList) = true := by kernel_rfl
  have e1 : ("cut".toList == "gc".toList) = false := by kernel_rfl
  have e2 : ("cut".toList == "spec".toList) = false := by kernel_rfl
  unfold Program.make
  rw [h]
  simp only [e, e1, e2, Bool.or_false, Bool.true_or, Bool.false_eq_true, if_false, if_true]

theorem mayEnter_eq : Try.prog.mayEnter = true :=
  words_eq.elim fun rest h => mayEnter_of Try.prog rest h laysLater_eq bearsReflect_eq doorFits_eq

theorem liftsFinal_eq : Try.prog.liftsFinal = false := words_eq.elim fun rest h => liftsFinal_of Try.prog rest h

theorem make_eq : Try.prog.make = some .cut := words_eq.elim fun rest h => make_of_words Try.prog rest h

theorem and8 {x a b c d e f g : Bool} (hx : x = true) (ha : a = true) (hb : b = true) (hc : c = true) (hd : d = true) (he : e = true) (hf : f = true) (hg : g = true) :
    (x && a && b && c && d && e && f && g) = true := by
  rw [hx, ha, hb, hc, hd, he, hf, hg]; rfl

theorem lifted_by {l b : Bool} (hl : l = false) (h : (b == false) = true) : (b == l) = true := by rw [hl]; exact h
theorem make_by {l : Option Make} {m : Make} (hl : l = some .cut) (h : (some Make.cut == some m) = true) : (l == some m) = true := by rw [hl]; exact h

end Go.Proofs.Qxb6002358a.Head
