/- The facts on the translation's head that every row of this seat asks: it may be entered, it lifts no finalizer, it is a cut. -/
import Derived.Test.YtkbbkfggkacplaaProg
import Derived.JoinedOf
import Derived.KernelRfl
namespace Go.Proofs.Ytkbbkfggkacplaa
set_option maxRecDepth 100000
def ioNums : List Nat := [104, 97, 114, 110, 101, 115, 115, 32, 55, 98, 98, 102, 98, 52, 98, 52, 102, 102, 53, 57, 98, 101, 99, 56, 98, 52, 53, 55, 48, 50, 53, 102, 50, 51, 101, 56, 102, 57, 55, 56, 99, 48, 53, 98, 99, 55, 102, 51, 53, 101, 56, 97, 51, 54, 51, 97, 53, 54, 98, 54, 100, 50, 99, 52, 53, 51, 56, 52, 56, 97, 52, 100, 32, 99, 117, 116, 32, 97, 116, 32, 103, 105, 116, 104, 117, 98, 46, 99, 111, 109, 47, 103, 111, 111, 103, 108, 101, 47, 103, 111, 45, 106, 115, 111, 110, 110, 101, 116, 47, 110, 48, 48, 56, 95, 51, 46, 70, 110, 84, 105, 103, 104, 116, 101, 114, 80, 114, 101, 99, 101, 100, 101, 110, 99, 101, 77, 111, 110, 111, 116, 111, 110, 101, 67, 111, 108, 108, 105, 100, 101, 115, 49, 50, 32, 103, 105, 116, 104, 117, 98, 46, 99, 111, 109, 47, 103, 111, 111, 103, 108, 101, 47, 103, 111, 45, 106, 115, 111, 110, 110, 101, 116, 47, 110, 48, 48, 56, 95, 53, 46, 70, 110, 84, 111, 107, 101, 110, 75, 105, 110, 100, 75, 101, 121, 119, 111, 114, 100, 82, 111, 117, 110, 100, 84, 114, 105, 112, 32, 103, 105, 116, 104, 117, 98, 46, 99, 111, 109, 47, 103, 111, 111, 103, 108, 101, 47, 103, 111, 45, 106, 115, 111, 110, 110, 101, 116, 47, 110, 48, 48, 56, 95, 53, 46, 70, 110, 67, 104, 101, 99, 107, 87, 104, 105, 116, 101, 115, 112, 97, 99, 101, 77, 97, 116, 99, 104, 101, 115, 77, 111, 100, 101, 108, 32, 103, 105, 116, 104, 117, 98, 46, 99, 111, 109, 47, 103, 111, 111, 103, 108, 101, 47, 103, 111, 45, 106, 115, 111, 110, 110, 101, 116, 47, 110, 48, 48, 56, 95, 53, 46, 70, 110, 67, 104, 101, 99, 107, 87, 104, 105, 116, 101, 115, 112, 97, 99, 101, 83, 116, 97, 98, 108, 101, 85, 110, 100, 101, 114, 69, 120, 116, 101, 110, 115, 105, 111, 110, 32, 103, 105, 116, 104, 117, 98, 46, 99, 111, 109, 47, 103, 111, 111, 103, 108, 101, 47, 103, 111, 45, 106, 115, 111, 110, 110, 101, 116, 47, 110, 48, 48, 56, 95, 51, 46, 70, 110, 84, 105, 103, 104, 116, 101, 114, 80, 114, 101, 99, 101, 100, 101, 110, 99, 101, 83, 116, 101, 112, 115, 83, 97, 116, 117, 114, 97, 116, 101, 32, 103, 105, 116, 104, 117, 98, 46, 99, 111, 109, 47, 103, 111, 111, 103, 108, 101, 47, 103, 111, 45, 106, 115, 111, 110, 110, 101, 116, 47, 110, 48, 48, 56, 95, 53, 46, 70, 110, 67, 104, 101, 99, 107, 87, 104, 105, 116, 101, 115, 112, 97, 99, 101, 84, 114, 97, 110, 115, 105, 116, 105, 118, 101, 32, 103, 105, 116, 104, 117, 98, 46, 99, 111, 109, 47, 103, 111, 111, 103, 108, 101, 47, 103, 111, 45, 106, 115, 111, 110, 110, 101, 116, 47, 110, 48, 48, 56, 95, 53, 46, 70, 110, 84, 111, 107, 101, 110, 75, 105, 110, 100, 75, 101, 121, 119, 111, 114, 100, 115, 65, 114, 101, 83, 104, 111, 114, 116, 76, 111, 119, 101, 114, 99, 97, 115, 101, 87, 111, 114, 100, 115]
theorem io : Try.prog.initOrder = String.ofList (ioNums.map Char.ofNat) := by kernel_rfl
theorem hio : Try.prog.initOrder.toList = ioNums.map Char.ofNat := by rw [io, String.toList_ofList]
def ioRest : List (List Char) := (behindMainWord (wordsSigns (ioNums.map Char.ofNat))).tail
theorem hws : behindMainWord (wordsSigns (ioNums.map Char.ofNat)) = "cut".toList :: ioRest := by kernel_rfl
theorem strips (rest : List (List Char)) : stripLifts liftWords ("cut".toList :: rest) = ([], "cut".toList :: rest) := by kernel_rfl
theorem mayEnter_of (P : Program) (rest : List (List Char)) (h : behindMainWord (wordsSigns P.initOrder.toList) = "cut".toList :: rest) (hl : P.laysLater = false) (hb : P.bearsReflect = false) (hd : P.doorFits [] = true) : P.mayEnter = true := by
  unfold Program.mayEnter
  rw [h]
  simp only [strips, hl, hb, hd]
  simp
theorem liftsFinal_of (P : Program) (rest : List (List Char)) (h : behindMainWord (wordsSigns P.initOrder.toList) = "cut".toList :: rest) : P.liftsFinal = false := by
  unfold Program.liftsFinal Program.headLifts
  rw [h]
  simp only [strips]
  simp
theorem make_of (P : Program) (rest : List (List Char)) (h : behindMainWord (wordsSigns P.initOrder.toList) = "cut".toList :: rest) : P.make = some .cut := by
  unfold Program.make
  rw [h]
  simp
theorem wsP : behindMainWord (wordsSigns Try.prog.initOrder.toList) = "cut".toList :: ioRest := by rw [hio, hws]
theorem lays : Try.prog.laysLater = false := by kernel_rfl
theorem bears : Try.prog.bearsReflect = false := by kernel_rfl
theorem door : Try.prog.doorFits [] = true := by kernel_rfl
theorem enters : Try.prog.mayEnter = true := mayEnter_of _ _ wsP lays bears door
theorem lifts : Try.prog.liftsFinal = false := liftsFinal_of _ _ wsP
theorem made : Try.prog.make = some .cut := make_of _ _ wsP
theorem lifted_of {b : Bool} (h : b = false) : (b == Try.prog.liftsFinal) = true := by rw [lifts, h]; rfl
theorem made_of {m : Make} (h : m = .cut) : (Try.prog.make == some m) = true := by rw [made, h]; rfl
end Go.Proofs.Ytkbbkfggkacplaa
