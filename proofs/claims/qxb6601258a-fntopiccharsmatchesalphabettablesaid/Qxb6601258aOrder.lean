/-
  THE THREE CLOSED FACTS OF THE PROGRAM THAT READ ITS HEAD ROW: that row as a list of signs, ONCE ('codes': the signs' numbers); else the kernel decodes it sign by sign, thrice, at many GB.
-/
import Derived.Test.Qxb6601258aRows
import Derived.ProofKit
namespace Go.Proofs.Qxb6601258a.Order

def codes : List Nat := [104, 97, 114, 110, 101, 115, 115, 32, 102, 100, 100, 48, 57, 48, 100, 97, 48, 100, 56, 100, 54, 100, 102, 99, 98, 49, 53, 98, 56, 52, 101, 102, 51, 49, 51, 51, 57, 49, 52, 97, 50, 54, 56, 54, 56, 100, 54, 53, 57, 101, 102, 53, 101, 54, 102, 53, 54, 50, 54, 101, 50, 97, 101, 51, 57, 56, 100, 51, 53, 101, 54, 48, 32, 99, 117, 116, 32, 97, 116, 32, 101, 120, 97, 109, 112, 108, 101, 46, 99, 111, 109, 47, 114, 117, 109, 111, 114, 119, 105, 114, 101, 47, 114, 117, 109, 111, 114, 119, 105, 114, 101, 47, 122, 122, 108, 97, 119, 115, 95, 101, 110, 116, 114, 121, 95, 98, 49, 46, 70, 110, 84, 111, 112, 105, 99, 67, 104, 97, 114, 115, 77, 97, 116, 99, 104, 101, 115, 65, 108, 112, 104, 97, 98, 101, 116, 84, 97, 98, 108, 101, 32, 101, 120, 97, 109, 112, 108, 101, 46, 99, 111, 109, 47, 114, 117, 109, 111, 114, 119, 105, 114, 101, 47, 114, 117, 109, 111, 114, 119, 105, 114, 101, 47, 122, 122, 108, 97, 119, 115, 95, 101, 110, 116, 114, 121, 95, 98, 49, 46, 70, 110, 84, 111, 112, 105, 99, 67, 104, 97, 114, 115, 67, 111, 110, 99, 97, 116, 83, 112, 108, 105, 116, 115, 32, 101, 120, 97, 109, 112, 108, 101, 46, 99, 111, 109, 47, 114, 117, 109, 111, 114, 119, 105, 114, 101, 47, 114, 117, 109, 111, 114, 119, 105, 114, 101, 47, 122, 122, 108, 97, 119, 115, 95, 101, 110, 116, 114, 121, 95, 98, 49, 46, 70, 110, 84, 111, 112, 105, 99, 67, 104, 97, 114, 115, 83, 117, 98, 115, 116, 114, 105, 110, 103, 115, 86, 97, 108, 105, 100]
theorem ord : Try.pinned.checked.prog.initOrder = String.ofList (codes.map Char.ofNat) := by kernel_rfl
theorem ordl : Try.pinned.checked.prog.initOrder.toList = codes.map Char.ofNat := by rw [ord]; exact String.toList_ofList
/-- Over whatever program whose head row says 'cut' behind its main's word. -/
theorem strip (r : List (List Char)) : stripLifts liftWords ("cut".toList :: r) = ([], "cut".toList :: r) := by kernel_rfl
theorem make_of {P : Program} {l : List Char} {r : List (List Char)} (h1 : P.initOrder.toList = l) (h2 : behindMainWord (wordsSigns l) = "cut".toList :: r) : P.make = some .cut := by
  unfold Program.make
  rw [h1, h2]
  kernel_rfl
theorem lifts_of {P : Program} {l : List Char} {r : List (List Char)} (h1 : P.initOrder.toList = l) (h2 : behindMainWord (wordsSigns l) = "cut".toList :: r) : P.liftsFinal = false := by
  unfold Program.liftsFinal Program.headLifts
  rw [h1, h2, strip]
  kernel_rfl
theorem may_of {P : Program} {l : List Char} {r : List (List Char)} (h1 : P.initOrder.toList = l) (h2 : behindMainWord (wordsSigns l) = "cut".toList :: r) (a : P.laysLater = false) (b : P.bearsReflect = false) (d : P.doorFits [] = true) : P.mayEnter = true := by
  unfold Program.mayEnter
  rw [h1, h2]
  simp only [strip, a, b, d]
  kernel_rfl
theorem head : behindMainWord (wordsSigns (codes.map Char.ofNat)) = "cut".toList :: wordsSigns ((codes.map Char.ofNat).drop 77) := by kernel_rfl
theorem lays : Try.pinned.checked.prog.laysLater = false := by kernel_rfl
theorem bears : Try.pinned.checked.prog.bearsReflect = false := by kernel_rfl
theorem door : Try.pinned.checked.prog.doorFits [] = true := by kernel_rfl
theorem may : Try.pinned.checked.prog.mayEnter = true := may_of ordl head lays bears door
theorem lifts : Try.pinned.checked.prog.liftsFinal = false := lifts_of ordl head
theorem make : Try.pinned.checked.prog.make = some .cut := make_of ordl head
theorem and2 {a b : Bool} (ha : a = true) (hb : b = true) : (a && b) = true := by rw [ha, hb]; rfl
end Go.Proofs.Qxb6601258a.Order
