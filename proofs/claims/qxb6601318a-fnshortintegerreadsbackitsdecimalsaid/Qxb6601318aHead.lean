/-
  The head of the cut ('initOrder'), as a list of signs, and the three closed facts of a row that read it: by the kernel's own reckoning over the string they outgrow the memory lid; over the list of signs they are cheap.
-/
import Derived.Test.Qxb6601318aRows
import Derived.JoinedOf
namespace Go.Proofs.Qxb6601318a.Head

/-- the signs of the cut's head, by their numbers. -/
def signs : List Nat := [
  104, 97, 114, 110, 101, 115, 115, 32, 48, 51, 54, 57, 101, 56, 99, 100, 97, 99, 100, 100, 56, 48, 98, 51,
  54, 97, 99, 99, 49, 54, 52, 99, 100, 52, 100, 101, 51, 56, 56, 56, 55, 52, 50, 48, 49, 100, 101, 48,
  98, 52, 54, 51, 97, 53, 100, 98, 99, 54, 56, 98, 99, 55, 99, 99, 99, 57, 57, 98, 55, 101, 99, 57,
  32, 99, 117, 116, 32, 97, 116, 32, 101, 120, 97, 109, 112, 108, 101, 46, 99, 111, 109, 47, 103, 104, 111, 115,
  116, 105, 110, 107, 47, 103, 104, 111, 115, 116, 105, 110, 107, 47, 122, 122, 108, 97, 119, 115, 95, 105, 110, 116,
  101, 114, 110, 97, 108, 95, 112, 100, 102, 95, 98, 49, 46, 70, 110, 85, 110, 108, 122, 119, 76, 105, 109, 105,
  116, 71, 105, 118, 101, 115, 65, 80, 114, 101, 102, 105, 120, 32, 101, 120, 97, 109, 112, 108, 101, 46, 99, 111,
  109, 47, 103, 104, 111, 115, 116, 105, 110, 107, 47, 103, 104, 111, 115, 116, 105, 110, 107, 47, 122, 122, 108, 97,
  119, 115, 95, 105, 110, 116, 101, 114, 110, 97, 108, 95, 112, 100, 102, 95, 98, 49, 46, 70, 110, 85, 110, 108,
  122, 119, 85, 110, 100, 111, 101, 115, 65, 110, 76, 90, 87, 69, 110, 99, 111, 100, 101, 114, 32, 101, 120, 97,
  109, 112, 108, 101, 46, 99, 111, 109, 47, 103, 104, 111, 115, 116, 105, 110, 107, 47, 103, 104, 111, 115, 116, 105,
  110, 107, 47, 122, 122, 108, 97, 119, 115, 95, 105, 110, 116, 101, 114, 110, 97, 108, 95, 112, 100, 102, 95, 98,
  49, 46, 70, 110, 83, 104, 111, 114, 116, 73, 110, 116, 101, 103, 101, 114, 82, 101, 97, 100, 115, 66, 97, 99,
  107, 73, 116, 115, 68, 101, 99, 105, 109, 97, 108]

theorem head_eq : Try.prog.initOrder = String.ofList (signs.map Char.ofNat) := by kernel_rfl

theorem head_list : Try.prog.initOrder.toList = signs.map Char.ofNat := by rw [head_eq, String.toList_ofList]

theorem first_word : (behindMainWord (wordsSigns (signs.map Char.ofNat))).head? = some "cut".toList := by kernel_rfl

theorem laysLater_eq : Try.prog.laysLater = false := by kernel_rfl
theorem bearsReflect_eq : Try.prog.bearsReflect = false := by kernel_rfl
theorem doorFits_eq : Try.prog.doorFits [] = true := by kernel_rfl

theorem strip_cut (rest : List (List Char)) : stripLifts liftWords ("cut".toList :: rest) = ([], "cut".toList :: rest) := by kernel_rfl

theorem words_eq : ∃ rest, behindMainWord (wordsSigns Try.prog.initOrder.toList) = "cut".toList :: rest := by
  rw [head_list]
  have h := first_word
  generalize behindMainWord (wordsSigns (signs.map Char.ofNat)) = X at h
  cases X with
  | nil => cases h
  | cons c rest => exact ⟨rest, by rw [Option.some.inj h]⟩

theorem mayEnter_of (P : Program) (rest : List (List Char)) (h : behindMainWord (wordsSigns P.initOrder.toList) = "cut".toList :: rest) (h1 : P.laysLater = false) (h2 : P.bearsReflect = false) (h3 : P.doorFits [] = true) : P.mayEnter = true := by
  have e : (some "cut".toList == some "cut".toList) = true := by kernel_rfl
  have e1 : ("cut".toList == "gc".toList) = false := by kernel_rfl
  have e2 : ("cut".toList == "spec".toList) = false := by kernel_rfl
  have e3 : ("cut".toList == "carried".toList) = false := by kernel_rfl
  unfold Program.mayEnter
  rw [h]
  dsimp only
  rw [strip_cut, h1, h2, h3]
  simp only [List.head?_cons, e, e1, e2, e3, Bool.not_false, Bool.or_true, Bool.or_false, Bool.and_true, Bool.true_and, Bool.false_and, Bool.false_or]
  rfl

theorem headLifts_of (P : Program) (rest : List (List Char)) (h : behindMainWord (wordsSigns P.initOrder.toList) = "cut".toList :: rest) : P.headLifts = [] := by
  have e : (some "cut".toList == some "cut".toList) = true := by kernel_rfl
  unfold Program.headLifts
  rw [h, strip_cut]
  simp only [List.head?_cons, e, if_true]

theorem liftsFinal_of (P : Program) (rest : List (List Char)) (h : behindMainWord (wordsSigns P.initOrder.toList) = "cut".toList :: rest) : P.liftsFinal = false := by
  unfold Program.liftsFinal
  rw [headLifts_of P rest h, h]
  kernel_rfl

theorem make_of_words (P : Program) (rest : List (List Char)) (h : behindMainWord (wordsSigns P.initOrder.toList) = "cut".toList :: rest) : P.make = some .cut := by
  have e : ("cut".toList == "cut".toList) = true := by kernel_rfl
  have e1 : ("cut".toList == "gc".toList) = false := by kernel_rfl
  have e2 : ("cut".toList == "spec".toList) = false := by kernel_rfl
  unfold Program.make
  rw [h]
  simp only [e, e1, e2, Bool.or_false, Bool.true_or, Bool.false_eq_true, if_false, if_true]

theorem mayEnter_eq : Try.prog.mayEnter = true :=
  words_eq.elim fun rest h => mayEnter_of Try.prog rest h laysLater_eq bearsReflect_eq doorFits_eq

theorem liftsFinal_eq : Try.prog.liftsFinal = false := words_eq.elim fun rest h => liftsFinal_of Try.prog rest h

theorem make_eq : Try.prog.make = some .cut := words_eq.elim fun rest h => make_of_words Try.prog rest h

theorem and8 {x a b c d e f g : Bool} (hx : x = true) (ha : a = true) (hb : b = true) (hc : c = true) (hd : d = true) (he : e = true) (hf : f = true) (hg : g = true) :
    (x && a && b && c && d && e && f && g) = true := by
  rw [hx, ha, hb, hc, hd, he, hf, hg]; rfl

theorem lifted_by {l b : Bool} (hl : l = false) (h : (b == false) = true) : (b == l) = true := by rw [hl]; exact h
theorem make_by {l : Option Make} {m : Make} (hl : l = some .cut) (h : (some Make.cut == some m) = true) : (l == some m) = true := by rw [hl]; exact h

end Go.Proofs.Qxb6601318a.Head
