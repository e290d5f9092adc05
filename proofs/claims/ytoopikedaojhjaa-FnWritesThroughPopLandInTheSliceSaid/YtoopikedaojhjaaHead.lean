/- The facts on the translation's head that every row of this seat asks: it may be entered, it lifts no finalizer, it is a cut. -/
import Derived.Test.YtoopikedaojhjaaProg
import Derived.JoinedOf
import Derived.KernelRfl
namespace Go.Proofs.Ytoopikedaojhjaa
set_option maxRecDepth 100000
def ioNums : List Nat := [104, 97, 114, 110, 101, 115, 115, 32, 51, 51, 56, 54, 54, 99, 53, 100, 49, 100, 56, 48, 51, 56, 51, 97, 97, 99, 57, 100, 49, 102, 97, 102, 48, 55, 52, 101, 48, 56, 102, 51, 50, 99, 53, 51, 56, 98, 50, 57, 51, 48, 97, 50, 48, 101, 99, 99, 53, 55, 102, 53, 52, 49, 97, 51, 97, 99, 54, 52, 55, 97, 101, 55, 32, 99, 117, 116, 32, 97, 116, 32, 103, 105, 116, 104, 117, 98, 46, 99, 111, 109, 47, 103, 111, 111, 103, 108, 101, 47, 103, 111, 45, 106, 115, 111, 110, 110, 101, 116, 47, 110, 48, 48, 56, 95, 49, 51, 56, 46, 70, 110, 76, 105, 116, 101, 114, 97, 108, 70, 105, 101, 108, 100, 83, 101, 116, 65, 100, 100, 79, 114, 100, 101, 114, 70, 114, 101, 101, 65, 110, 100, 73, 100, 101, 109, 112, 111, 116, 101, 110, 116, 32, 103, 105, 116, 104, 117, 98, 46, 99, 111, 109, 47, 103, 111, 111, 103, 108, 101, 47, 103, 111, 45, 106, 115, 111, 110, 110, 101, 116, 47, 110, 48, 48, 56, 95, 55, 46, 70, 110, 87, 114, 105, 116, 101, 115, 84, 104, 114, 111, 117, 103, 104, 80, 111, 112, 76, 97, 110, 100, 73, 110, 84, 104, 101, 83, 108, 105, 99, 101]
theorem io : Try.prog.initOrder = String.ofList (ioNums.map Char.ofNat) := by kernel_rfl
theorem hio : Try.prog.initOrder.toList = ioNums.map Char.ofNat := by rw [io, String.toList_ofList]
def ioRest : List (List Char) := (behindMainWord (wordsSigns (ioNums.map Char.ofNat))).tail
theorem hws : behindMainWord (wordsSigns (ioNums.map Char.ofNat)) = "cut".toList :: ioRest := by kernel_rfl
theorem strips (rest : List (List Char)) : stripLifts liftWords ("cut".toList :: rest) = ([], "cut".toList :: rest) := by kernel_rfl
theorem mayEnter_of (P : Program) (rest : List (List Char)) (h : behindMainWord (wordsSigns P.initOrder.toList) = "cut".toList :: rest) (hl : P.laysLater = false) (hb : P.bearsReflect = false) (hd : P.doorFits [] = true) : P.mayEnter = true := by
  unfold Program.mayEnter
  rw [h]
  simp only [strips, hl, hb, hd]
  simp
theorem liftsFinal_of (P : Program) (rest : List (List Char)) (h : behindMainWord (wordsSigns P.initOrder.toList) = "cut".toList :: rest) : P.liftsFinal = false := by
  unfold Program.liftsFinal Program.headLifts
  rw [h]
  simp only [strips]
  simp
theorem make_of (P : Program) (rest : List (List Char)) (h : behindMainWord (wordsSigns P.initOrder.toList) = "cut".toList :: rest) : P.make = some .cut := by
  unfold Program.make
  rw [h]
  simp
theorem wsP : behindMainWord (wordsSigns Try.prog.initOrder.toList) = "cut".toList :: ioRest := by rw [hio, hws]
theorem lays : Try.prog.laysLater = false := by kernel_rfl
theorem bears : Try.prog.bearsReflect = false := by kernel_rfl
theorem door : Try.prog.doorFits [] = true := by kernel_rfl
theorem enters : Try.prog.mayEnter = true := mayEnter_of _ _ wsP lays bears door
theorem lifts : Try.prog.liftsFinal = false := liftsFinal_of _ _ wsP
theorem made : Try.prog.make = some .cut := make_of _ _ wsP
theorem lifted_of {b : Bool} (h : b = false) : (b == Try.prog.liftsFinal) = true := by rw [lifts, h]; rfl
theorem made_of {m : Make} (h : m = .cut) : (Try.prog.make == some m) = true := by rw [made, h]; rfl
end Go.Proofs.Ytoopikedaojhjaa
