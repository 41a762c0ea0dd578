/-
  THE HEAD OF THE DUMP, READ ONCE. Three of the row's closed facts ('mayEnter', 'liftsFinal', 'make') look at the words of the dump's head. The kernel spends over a minute and nearly 10 GB on each where it must take the head's text apart sign by sign;
  here the text is laid out once as the list of its signs' numbers, the list's equation goes by 'String.toList_ofList', and each of the three facts is then reckoned over the list: seconds.
-/
import Derived.Test.Qxb6001693aModsRows
import Derived.WalkKit
import Derived.ProofKit
namespace Go.Proofs.Qxb6001693aMods.Head

/-- The signs of the dump's head, as numbers. -/
def signs : List Nat := [
  104, 97, 114, 110, 101, 115, 115, 32, 56, 48, 57, 57, 99, 51, 98, 52, 50, 51, 53, 54, 49, 49, 49, 57, 48, 101, 48, 53, 50, 100, 48, 52, 49, 52, 98, 97, 50, 57, 100, 55,
  100, 52, 102, 49, 49, 102, 54, 54, 55, 52, 102, 52, 102, 98, 52, 54, 56, 51, 98, 101, 100, 49, 102, 50, 55, 51, 53, 50, 102, 102, 56, 53, 32, 112, 117, 98, 108, 105, 99, 115,
  117, 109, 115, 32, 99, 117, 116, 32, 97, 116, 32, 101, 120, 97, 109, 112, 108, 101, 46, 99, 111, 109, 47, 99, 114, 97, 100, 108, 101, 47, 99, 114, 97, 100, 108, 101, 47, 122, 122, 108,
  97, 119, 115, 95, 105, 110, 116, 101, 114, 110, 97, 108, 95, 106, 105, 110, 106, 97, 95, 98, 49, 46, 70, 110, 76, 97, 115, 116, 73, 110, 100, 101, 120, 79, 102, 69, 120, 97, 99, 116,
  32, 101, 120, 97, 109, 112, 108, 101, 46, 99, 111, 109, 47, 99, 114, 97, 100, 108, 101, 47, 99, 114, 97, 100, 108, 101, 47, 122, 122, 108, 97, 119, 115, 95, 105, 110, 116, 101, 114, 110,
  97, 108, 95, 106, 105, 110, 106, 97, 95, 98, 49, 46, 70, 110, 76, 97, 115, 116, 73, 110, 100, 101, 120, 79, 102, 65, 112, 112, 101, 110, 100, 32, 101, 120, 97, 109, 112, 108, 101, 46,
  99, 111, 109, 47, 99, 114, 97, 100, 108, 101, 47, 99, 114, 97, 100, 108, 101, 47, 122, 122, 108, 97, 119, 115, 95, 105, 110, 116, 101, 114, 110, 97, 108, 95, 106, 105, 110, 106, 97, 95,
  98, 49, 46, 70, 110, 76, 97, 115, 116, 73, 110, 100, 101, 120, 79, 102, 80, 114, 101, 102, 105, 120, 32, 101, 120, 97, 109, 112, 108, 101, 46, 99, 111, 109, 47, 99, 114, 97, 100, 108,
  101, 47, 99, 114, 97, 100, 108, 101, 47, 122, 122, 108, 97, 119, 115, 95, 105, 110, 116, 101, 114, 110, 97, 108, 95, 106, 105, 110, 106, 97, 95, 98, 49, 46, 70, 110, 73, 110, 100, 101,
  120, 78, 111, 116, 79, 102, 69, 120, 97, 99, 116, 32, 101, 120, 97, 109, 112, 108, 101, 46, 99, 111, 109, 47, 99, 114, 97, 100, 108, 101, 47, 99, 114, 97, 100, 108, 101, 47, 122, 122,
  108, 97, 119, 115, 95, 105, 110, 116, 101, 114, 110, 97, 108, 95, 106, 105, 110, 106, 97, 95, 98, 49, 46, 70, 110, 73, 110, 100, 101, 120, 78, 111, 116, 79, 102, 80, 97, 100, 100, 105,
  110, 103, 32, 101, 120, 97, 109, 112, 108, 101, 46, 99, 111, 109, 47, 99, 114, 97, 100, 108, 101, 47, 99, 114, 97, 100, 108, 101, 47, 122, 122, 108, 97, 119, 115, 95, 105, 110, 116, 101,
  114, 110, 97, 108, 95, 106, 105, 110, 106, 97, 95, 98, 49, 46, 70, 110, 68, 105, 103, 105, 116, 115, 69, 110, 100, 69, 120, 97, 99, 116, 32, 101, 120, 97, 109, 112, 108, 101, 46, 99,
  111, 109, 47, 99, 114, 97, 100, 108, 101, 47, 99, 114, 97, 100, 108, 101, 47, 122, 122, 108, 97, 119, 115, 95, 105, 110, 116, 101, 114, 110, 97, 108, 95, 106, 105, 110, 106, 97, 95, 98,
  49, 46, 70, 110, 68, 105, 103, 105, 116, 115, 69, 110, 100, 82, 117, 110, 83, 104, 97, 114, 101, 100, 32, 101, 120, 97, 109, 112, 108, 101, 46, 99, 111, 109, 47, 99, 114, 97, 100, 108,
  101, 47, 99, 114, 97, 100, 108, 101, 47, 122, 122, 108, 97, 119, 115, 95, 105, 110, 116, 101, 114, 110, 97, 108, 95, 106, 105, 110, 106, 97, 95, 98, 49, 46, 70, 110, 68, 105, 103, 105,
  116, 115, 69, 110, 100, 69, 120, 116, 101, 110, 115, 105, 111, 110, 32, 101, 120, 97, 109, 112, 108, 101, 46, 99, 111, 109, 47, 99, 114, 97, 100, 108, 101, 47, 99, 114, 97, 100, 108, 101,
  47, 122, 122, 108, 97, 119, 115, 95, 105, 110, 116, 101, 114, 110, 97, 108, 95, 106, 105, 110, 106, 97, 95, 98, 49, 46, 70, 110, 78, 101, 101, 100, 115, 81, 117, 111, 116, 101, 115, 69,
  120, 97, 99, 116, 32, 101, 120, 97, 109, 112, 108, 101, 46, 99, 111, 109, 47, 99, 114, 97, 100, 108, 101, 47, 99, 114, 97, 100, 108, 101, 47, 122, 122, 108, 97, 119, 115, 95, 105, 110,
  116, 101, 114, 110, 97, 108, 95, 106, 105, 110, 106, 97, 95, 98, 49, 46, 70, 110, 78, 101, 101, 100, 115, 81, 117, 111, 116, 101, 115, 83, 104, 101, 108, 108, 83, 112, 101, 99, 105, 97,
  108]

theorem order : Trym.prog.initOrder = String.ofList (signs.map Char.ofNat) := by kernel_rfl
theorem orderList : Trym.prog.initOrder.toList = signs.map Char.ofNat := by
  rw [order]
  exact String.toList_ofList

/-! The three facts OF ANY PROGRAM whose head bears these signs: the program is a letter, so that the kernel does not run it. -/
theorem make_of (P : Program) (h : P.initOrder.toList = signs.map Char.ofNat) : P.make = some (.lifted ["publicsums"]) := by
  unfold Program.make Program.headLifts
  rw [h]
  kernel_rfl
theorem liftsFinal_of (P : Program) (h : P.initOrder.toList = signs.map Char.ofNat) : P.liftsFinal = false := by
  unfold Program.liftsFinal Program.headLifts
  rw [h]
  kernel_rfl
theorem words_of : ∃ c rest, behindMainWord (wordsSigns (signs.map Char.ofNat)) = c :: rest ∧ (c == "gc".toList) = false ∧ (c == "spec".toList) = false ∧ (c == "carried".toList) = false ∧
    ((stripLifts liftWords (c :: rest)).2.head? == some "cut".toList) = true ∧ (stripLifts liftWords (c :: rest)).1 = ["publicsums"] :=
  ⟨"publicsums".toList, (behindMainWord (wordsSigns (signs.map Char.ofNat))).tail, by kernel_rfl, by kernel_rfl, by kernel_rfl, by kernel_rfl, by kernel_rfl, by kernel_rfl⟩
theorem mayEnter_of (P : Program) (h : P.initOrder.toList = signs.map Char.ofNat) (h1 : P.laysLater = false) (h2 : P.bearsReflect = false) (h3 : P.doorFits ["publicsums"] = true) : P.mayEnter = true := by
  obtain ⟨c, rest, e, a1, a2, a3, a4, a5⟩ := words_of
  unfold Program.mayEnter
  rw [h, e]
  simp only [a1, a2, a3, a4, a5, h1, h2, h3]
  kernel_rfl

theorem mayEnter : Trym.prog.mayEnter = true := mayEnter_of _ orderList (by kernel_rfl) (by kernel_rfl) (by kernel_rfl)
theorem liftsFinal : Trym.prog.liftsFinal = false := liftsFinal_of _ orderList
theorem make : Trym.prog.make = some (.lifted ["publicsums"]) := make_of _ orderList

theorem both {a b : Bool} (h1 : a = true) (h2 : b = true) : (a && b) = true := by rw [h1, h2]; rfl
theorem liftsIs {b : Bool} (h : b = false) : (b == Trym.prog.liftsFinal) = true := by rw [liftsFinal, h]; rfl
theorem makeIs {m : Make} (h : m = .lifted ["publicsums"]) : (Trym.prog.make == some m) = true := by rw [make, h]; kernel_rfl

end Go.Proofs.Qxb6001693aMods.Head
