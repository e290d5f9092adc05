/- The facts on the translation's head that every row of this seat asks: it may be entered, it lifts no finalizer, it is a cut. -/
import Derived.Test.YtnmceagiofjdnaaProg
import Derived.JoinedOf
import Derived.KernelRfl
namespace Go.Proofs.Ytnmceagiofjdnaa
set_option maxRecDepth 100000
def ioNums : List Nat := [104, 97, 114, 110, 101, 115, 115, 32, 102, 102, 52, 50, 102, 56, 52, 99, 97, 99, 49, 97, 98, 101, 51, 51, 101, 54, 97, 55, 48, 55, 99, 54, 55, 99, 57, 54, 54, 102, 97, 49, 99, 51, 97, 49, 49, 56, 52, 50, 53, 99, 52, 52, 54, 56, 57, 54, 56, 49, 101, 100, 102, 50, 50, 54, 50, 101, 49, 48, 99, 50, 54, 56, 32, 99, 117, 116, 32, 97, 116, 32, 103, 105, 116, 104, 117, 98, 46, 99, 111, 109, 47, 103, 111, 111, 103, 108, 101, 47, 103, 111, 45, 106, 115, 111, 110, 110, 101, 116, 47, 110, 48, 48, 56, 95, 49, 54, 51, 46, 70, 110, 66, 97, 115, 101, 76, 111, 99, 97, 108, 73, 115, 73, 100, 101, 110, 116, 105, 116, 121, 32, 103, 105, 116, 104, 117, 98, 46, 99, 111, 109, 47, 103, 111, 111, 103, 108, 101, 47, 103, 111, 45, 106, 115, 111, 110, 110, 101, 116, 47, 110, 48, 48, 56, 95, 49, 54, 51, 46, 70, 110, 66, 97, 115, 101, 76, 111, 99, 97, 108, 75, 101, 101, 112, 115, 69, 118, 101, 114, 121, 70, 111, 100, 100, 101, 114]
theorem io : Try.prog.initOrder = String.ofList (ioNums.map Char.ofNat) := by kernel_rfl
theorem hio : Try.prog.initOrder.toList = ioNums.map Char.ofNat := by rw [io, String.toList_ofList]
def ioRest : List (List Char) := (behindMainWord (wordsSigns (ioNums.map Char.ofNat))).tail
theorem hws : behindMainWord (wordsSigns (ioNums.map Char.ofNat)) = "cut".toList :: ioRest := by kernel_rfl
theorem strips (rest : List (List Char)) : stripLifts liftWords ("cut".toList :: rest) = ([], "cut".toList :: rest) := by kernel_rfl
theorem mayEnter_of (P : Program) (rest : List (List Char)) (h : behindMainWord (wordsSigns P.initOrder.toList) = "cut".toList :: rest) (hl : P.laysLater = false) (hb : P.bearsReflect = false) (hd : P.doorFits [] = true) : P.mayEnter = true := by
  unfold Program.mayEnter
  rw [h]
  simp only [strips, hl, hb, hd]
  simp
theorem liftsFinal_of (P : Program) (rest : List (List Char)) (h : behindMainWord (wordsSigns P.initOrder.toList) = "cut".toList :: rest) : P.liftsFinal = false := by
  unfold Program.liftsFinal Program.headLifts
  rw [h]
  simp only [strips]
  simp
theorem make_of (P : Program) (rest : List (List Char)) (h : behindMainWord (wordsSigns P.initOrder.toList) = "cut".toList :: rest) : P.make = some .cut := by
  unfold Program.make
  rw [h]
  simp
theorem wsP : behindMainWord (wordsSigns Try.prog.initOrder.toList) = "cut".toList :: ioRest := by rw [hio, hws]
theorem lays : Try.prog.laysLater = false := by kernel_rfl
theorem bears : Try.prog.bearsReflect = false := by kernel_rfl
theorem door : Try.prog.doorFits [] = true := by kernel_rfl
theorem enters : Try.prog.mayEnter = true := mayEnter_of _ _ wsP lays bears door
theorem lifts : Try.prog.liftsFinal = false := liftsFinal_of _ _ wsP
theorem made : Try.prog.make = some .cut := make_of _ _ wsP
theorem lifted_of {b : Bool} (h : b = false) : (b == Try.prog.liftsFinal) = true := by rw [lifts, h]; rfl
theorem made_of {m : Make} (h : m = .cut) : (Try.prog.make == some m) = true := by rw [made, h]; rfl
end Go.Proofs.Ytnmceagiofjdnaa
