/- The facts on the translation's head that every row of this seat asks: it may be entered, it lifts no finalizer, it is a cut. -/
import Derived.Test.YtjihpmhcalpljaaProg
import Derived.JoinedOf
import Derived.KernelRfl
namespace Go.Proofs.Ytjihpmhcalpljaa
set_option maxRecDepth 100000
def ioNums : List Nat := [104, 97, 114, 110, 101, 115, 115, 32, 56, 49, 53, 51, 50, 100, 98, 50, 57, 53, 57, 52, 52, 53, 99, 52, 98, 48, 100, 101, 54, 100, 54, 48, 52, 56, 53, 52, 57, 99, 51, 51, 51, 52, 101, 100, 55, 51, 101, 48, 51, 50, 102, 55, 56, 102, 56, 55, 99, 102, 56, 102, 53, 57, 48, 49, 102, 53, 53, 48, 100, 56, 98, 101, 32, 99, 117, 116, 32, 97, 116, 32, 103, 105, 116, 104, 117, 98, 46, 99, 111, 109, 47, 103, 111, 111, 103, 108, 101, 47, 103, 111, 45, 106, 115, 111, 110, 110, 101, 116, 47, 110, 48, 48, 56, 95, 50, 56, 46, 70, 110, 76, 111, 99, 70, 114, 111, 109, 84, 111, 107, 101, 110, 65, 83, 84, 65, 103, 114, 101, 101, 115, 87, 105, 116, 104, 76, 111, 99, 70, 114, 111, 109, 84, 111, 107, 101, 110, 115, 32, 103, 105, 116, 104, 117, 98, 46, 99, 111, 109, 47, 103, 111, 111, 103, 108, 101, 47, 103, 111, 45, 106, 115, 111, 110, 110, 101, 116, 47, 110, 48, 48, 56, 95, 50, 56, 46, 70, 110, 76, 111, 99, 70, 114, 111, 109, 84, 111, 107, 101, 110, 115, 65, 115, 115, 111, 99, 105, 97, 116, 105, 118, 101, 32, 103, 105, 116, 104, 117, 98, 46, 99, 111, 109, 47, 103, 111, 111, 103, 108, 101, 47, 103, 111, 45, 106, 115, 111, 110, 110, 101, 116, 47, 110, 48, 48, 56, 95, 50, 52, 46, 70, 110, 77, 97, 107, 101, 83, 116, 97, 116, 105, 99, 69, 114, 114, 111, 114, 90, 101, 114, 111, 76, 111, 99, 65, 103, 114, 101, 101, 115, 87, 105, 116, 104, 77, 115, 103, 79, 110, 108, 121, 32, 103, 105, 116, 104, 117, 98, 46, 99, 111, 109, 47, 103, 111, 111, 103, 108, 101, 47, 103, 111, 45, 106, 115, 111, 110, 110, 101, 116, 47, 110, 48, 48, 56, 95, 50, 52, 46, 70, 110, 77, 97, 107, 101, 83, 116, 97, 116, 105, 99, 69, 114, 114, 111, 114, 75, 101, 101, 112, 115, 77, 115, 103, 65, 110, 100, 76, 111, 99]
theorem io : Try.prog.initOrder = String.ofList (ioNums.map Char.ofNat) := by kernel_rfl
theorem hio : Try.prog.initOrder.toList = ioNums.map Char.ofNat := by rw [io, String.toList_ofList]
def ioRest : List (List Char) := (behindMainWord (wordsSigns (ioNums.map Char.ofNat))).tail
theorem hws : behindMainWord (wordsSigns (ioNums.map Char.ofNat)) = "cut".toList :: ioRest := by kernel_rfl
theorem strips (rest : List (List Char)) : stripLifts liftWords ("cut".toList :: rest) = ([], "cut".toList :: rest) := by kernel_rfl
theorem mayEnter_of (P : Program) (rest : List (List Char)) (h : behindMainWord (wordsSigns P.initOrder.toList) = "cut".toList :: rest) (hl : P.laysLater = false) (hb : P.bearsReflect = false) (hd : P.doorFits [] = true) : P.mayEnter = true := by
  unfold Program.mayEnter
  rw [h]
  simp only [strips, hl, hb, hd]
  simp
theorem liftsFinal_of (P : Program) (rest : List (List Char)) (h : behindMainWord (wordsSigns P.initOrder.toList) = "cut".toList :: rest) : P.liftsFinal = false := by
  unfold Program.liftsFinal Program.headLifts
  rw [h]
  simp only [strips]
  simp
theorem make_of (P : Program) (rest : List (List Char)) (h : behindMainWord (wordsSigns P.initOrder.toList) = "cut".toList :: rest) : P.make = some .cut := by
  unfold Program.make
  rw [h]
  simp
theorem wsP : behindMainWord (wordsSigns Try.prog.initOrder.toList) = "cut".toList :: ioRest := by rw [hio, hws]
theorem lays : Try.prog.laysLater = false := by kernel_rfl
theorem bears : Try.prog.bearsReflect = false := by kernel_rfl
theorem door : Try.prog.doorFits [] = true := by kernel_rfl
theorem enters : Try.prog.mayEnter = true := mayEnter_of _ _ wsP lays bears door
theorem lifts : Try.prog.liftsFinal = false := liftsFinal_of _ _ wsP
theorem made : Try.prog.make = some .cut := make_of _ _ wsP
theorem lifted_of {b : Bool} (h : b = false) : (b == Try.prog.liftsFinal) = true := by rw [lifts, h]; rfl
theorem made_of {m : Make} (h : m = .cut) : (Try.prog.make == some m) = true := by rw [made, h]; rfl
end Go.Proofs.Ytjihpmhcalpljaa
