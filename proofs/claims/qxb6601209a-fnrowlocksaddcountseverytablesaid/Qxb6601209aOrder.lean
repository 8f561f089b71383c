/-
  THE THREE CLOSED FACTS OF THE PROGRAM THAT READ ITS HEAD ROW: that row as a list of signs, ONCE ('codes': the signs' numbers); else the kernel decodes it sign by sign, thrice, at many GB.
-/
import Derived.Test.Qxb6601209aRows
import Derived.ProofKit
namespace Go.Proofs.Qxb6601209a.Order

def codes : List Nat := [104, 97, 114, 110, 101, 115, 115, 32, 53, 99, 56, 52, 48, 98, 49, 97, 97, 50, 57, 50, 51, 50, 54, 97, 102, 50, 53, 101, 56, 101, 101, 55, 99, 56, 98, 54, 54, 100, 50, 52, 55, 51, 52, 102, 49, 55, 102, 98, 48, 100, 56, 101, 98, 101, 99, 52, 99, 101, 51, 98, 52, 53, 98, 55, 102, 48, 48, 56, 50, 57, 53, 54, 32, 99, 117, 116, 32, 97, 116, 32, 101, 120, 97, 109, 112, 108, 101, 46, 99, 111, 109, 47, 108, 97, 116, 99, 104, 119, 111, 114, 107, 47, 108, 97, 116, 99, 104, 119, 111, 114, 107, 47, 122, 122, 108, 97, 119, 115, 95, 114, 111, 111, 116, 95, 98, 49, 46, 70, 110, 70, 105, 114, 115, 116, 80, 97, 114, 116, 115, 73, 115, 84, 104, 101, 68, 101, 99, 108, 97, 114, 101, 100, 80, 114, 101, 102, 105, 120, 32, 101, 120, 97, 109, 112, 108, 101, 46, 99, 111, 109, 47, 108, 97, 116, 99, 104, 119, 111, 114, 107, 47, 108, 97, 116, 99, 104, 119, 111, 114, 107, 47, 122, 122, 108, 97, 119, 115, 95, 114, 111, 111, 116, 95, 98, 49, 46, 70, 110, 70, 105, 114, 115, 116, 80, 97, 114, 116, 115, 79, 102, 70, 105, 114, 115, 116, 80, 97, 114, 116, 115, 32, 101, 120, 97, 109, 112, 108, 101, 46, 99, 111, 109, 47, 108, 97, 116, 99, 104, 119, 111, 114, 107, 47, 108, 97, 116, 99, 104, 119, 111, 114, 107, 47, 122, 122, 108, 97, 119, 115, 95, 114, 111, 111, 116, 95, 98, 49, 46, 70, 110, 82, 111, 119, 76, 111, 99, 107, 115, 65, 100, 100, 67, 111, 117, 110, 116, 115, 69, 118, 101, 114, 121, 84, 97, 98, 108, 101]
theorem ord : Try.pinned.checked.prog.initOrder = String.ofList (codes.map Char.ofNat) := by kernel_rfl
theorem ordl : Try.pinned.checked.prog.initOrder.toList = codes.map Char.ofNat := by rw [ord]; exact String.toList_ofList
/-- Over whatever program whose head row says 'cut' behind its main's word. -/
theorem strip (r : List (List Char)) : stripLifts liftWords ("cut".toList :: r) = ([], "cut".toList :: r) := by kernel_rfl
theorem make_of {P : Program} {l : List Char} {r : List (List Char)} (h1 : P.initOrder.toList = l) (h2 : behindMainWord (wordsSigns l) = "cut".toList :: r) : P.make = some .cut := by
  unfold Program.make
  rw [h1, h2]
  kernel_rfl
theorem lifts_of {P : Program} {l : List Char} {r : List (List Char)} (h1 : P.initOrder.toList = l) (h2 : behindMainWord (wordsSigns l) = "cut".toList :: r) : P.liftsFinal = false := by
  unfold Program.liftsFinal Program.headLifts
  rw [h1, h2, strip]
  kernel_rfl
theorem may_of {P : Program} {l : List Char} {r : List (List Char)} (h1 : P.initOrder.toList = l) (h2 : behindMainWord (wordsSigns l) = "cut".toList :: r) (a : P.laysLater = false) (b : P.bearsReflect = false) (d : P.doorFits [] = true) : P.mayEnter = true := by
  unfold Program.mayEnter
  rw [h1, h2]
  simp only [strip, a, b, d]
  kernel_rfl
theorem head : behindMainWord (wordsSigns (codes.map Char.ofNat)) = "cut".toList :: wordsSigns ((codes.map Char.ofNat).drop 77) := by kernel_rfl
theorem lays : Try.pinned.checked.prog.laysLater = false := by kernel_rfl
theorem bears : Try.pinned.checked.prog.bearsReflect = false := by kernel_rfl
theorem door : Try.pinned.checked.prog.doorFits [] = true := by kernel_rfl
theorem may : Try.pinned.checked.prog.mayEnter = true := may_of ordl head lays bears door
theorem lifts : Try.pinned.checked.prog.liftsFinal = false := lifts_of ordl head
theorem make : Try.pinned.checked.prog.make = some .cut := make_of ordl head
theorem and2 {a b : Bool} (ha : a = true) (hb : b = true) : (a && b) = true := by rw [ha, hb]; rfl
end Go.Proofs.Qxb6601209a.Order
