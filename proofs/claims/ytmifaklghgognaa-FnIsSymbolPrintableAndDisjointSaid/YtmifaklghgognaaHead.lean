/- The facts on the translation's head that every row of this seat asks: it may be entered, it lifts no finalizer, it is a cut. -/
import Derived.Test.YtmifaklghgognaaProg
import Derived.JoinedOf
import Derived.KernelRfl
namespace Go.Proofs.Ytmifaklghgognaa
set_option maxRecDepth 100000
def ioNums : List Nat := [104, 97, 114, 110, 101, 115, 115, 32, 101, 57, 53, 100, 51, 55, 97, 99, 57, 57, 55, 48, 102, 48, 53, 48, 101, 54, 56, 102, 98, 52, 48, 52, 97, 52, 49, 98, 49, 54, 49, 99, 48, 49, 102, 54, 100, 52, 97, 100, 48, 98, 54, 54, 102, 55, 100, 55, 52, 99, 101, 51, 99, 54, 49, 100, 57, 102, 56, 53, 54, 97, 51, 100, 32, 99, 117, 116, 32, 97, 116, 32, 103, 105, 116, 104, 117, 98, 46, 99, 111, 109, 47, 103, 111, 111, 103, 108, 101, 47, 103, 111, 45, 106, 115, 111, 110, 110, 101, 116, 47, 110, 48, 48, 56, 95, 49, 51, 57, 46, 70, 110, 73, 115, 76, 111, 119, 101, 114, 69, 120, 97, 99, 116, 108, 121, 76, 97, 116, 105, 110, 83, 109, 97, 108, 108, 115, 32, 103, 105, 116, 104, 117, 98, 46, 99, 111, 109, 47, 103, 111, 111, 103, 108, 101, 47, 103, 111, 45, 106, 115, 111, 110, 110, 101, 116, 47, 110, 48, 48, 56, 95, 49, 51, 57, 46, 70, 110, 73, 115, 85, 112, 112, 101, 114, 69, 120, 97, 99, 116, 108, 121, 76, 97, 116, 105, 110, 67, 97, 112, 105, 116, 97, 108, 115, 32, 103, 105, 116, 104, 117, 98, 46, 99, 111, 109, 47, 103, 111, 111, 103, 108, 101, 47, 103, 111, 45, 106, 115, 111, 110, 110, 101, 116, 47, 110, 48, 48, 56, 95, 53, 57, 46, 70, 110, 73, 115, 73, 100, 101, 110, 116, 105, 102, 105, 101, 114, 65, 103, 114, 101, 101, 115, 87, 105, 116, 104, 86, 97, 108, 105, 100, 73, 100, 101, 110, 116, 105, 102, 105, 101, 114, 84, 97, 105, 108, 32, 103, 105, 116, 104, 117, 98, 46, 99, 111, 109, 47, 103, 111, 111, 103, 108, 101, 47, 103, 111, 45, 106, 115, 111, 110, 110, 101, 116, 47, 110, 48, 48, 56, 95, 53, 57, 46, 70, 110, 73, 115, 73, 100, 101, 110, 116, 105, 102, 105, 101, 114, 70, 105, 114, 115, 116, 65, 103, 114, 101, 101, 115, 87, 105, 116, 104, 86, 97, 108, 105, 100, 73, 100, 101, 110, 116, 105, 102, 105, 101, 114, 32, 103, 105, 116, 104, 117, 98, 46, 99, 111, 109, 47, 103, 111, 111, 103, 108, 101, 47, 103, 111, 45, 106, 115, 111, 110, 110, 101, 116, 47, 110, 48, 48, 56, 95, 53, 57, 46, 70, 110, 73, 115, 73, 100, 101, 110, 116, 105, 102, 105, 101, 114, 84, 97, 98, 108, 101, 32, 103, 105, 116, 104, 117, 98, 46, 99, 111, 109, 47, 103, 111, 111, 103, 108, 101, 47, 103, 111, 45, 106, 115, 111, 110, 110, 101, 116, 47, 110, 48, 48, 56, 95, 53, 57, 46, 70, 110, 73, 115, 78, 117, 109, 98, 101, 114, 68, 105, 103, 105, 116, 84, 97, 98, 108, 101, 32, 103, 105, 116, 104, 117, 98, 46, 99, 111, 109, 47, 103, 111, 111, 103, 108, 101, 47, 103, 111, 45, 106, 115, 111, 110, 110, 101, 116, 47, 110, 48, 48, 56, 95, 53, 57, 46, 70, 110, 73, 115, 83, 121, 109, 98, 111, 108, 84, 97, 98, 108, 101, 32, 103, 105, 116, 104, 117, 98, 46, 99, 111, 109, 47, 103, 111, 111, 103, 108, 101, 47, 103, 111, 45, 106, 115, 111, 110, 110, 101, 116, 47, 110, 48, 48, 56, 95, 53, 57, 46, 70, 110, 73, 115, 73, 100, 101, 110, 116, 105, 102, 105, 101, 114, 70, 105, 114, 115, 116, 70, 111, 108, 100, 77, 111, 100, 101, 108, 32, 103, 105, 116, 104, 117, 98, 46, 99, 111, 109, 47, 103, 111, 111, 103, 108, 101, 47, 103, 111, 45, 106, 115, 111, 110, 110, 101, 116, 47, 110, 48, 48, 56, 95, 53, 57, 46, 70, 110, 73, 115, 78, 117, 109, 98, 101, 114, 65, 103, 114, 101, 101, 115, 87, 105, 116, 104, 73, 100, 101, 110, 116, 105, 102, 105, 101, 114, 84, 97, 105, 108, 32, 103, 105, 116, 104, 117, 98, 46, 99, 111, 109, 47, 103, 111, 111, 103, 108, 101, 47, 103, 111, 45, 106, 115, 111, 110, 110, 101, 116, 47, 110, 48, 48, 56, 95, 49, 51, 57, 46, 70, 110, 79, 110, 101, 82, 117, 110, 101, 73, 100, 101, 110, 116, 105, 102, 105, 101, 114, 73, 115, 76, 101, 116, 116, 101, 114, 32, 103, 105, 116, 104, 117, 98, 46, 99, 111, 109, 47, 103, 111, 111, 103, 108, 101, 47, 103, 111, 45, 106, 115, 111, 110, 110, 101, 116, 47, 110, 48, 48, 56, 95, 49, 51, 57, 46, 70, 110, 76, 111, 119, 101, 114, 73, 115, 85, 112, 112, 101, 114, 83, 104, 105, 102, 116, 101, 100, 66, 121, 67, 97, 115, 101, 32, 103, 105, 116, 104, 117, 98, 46, 99, 111, 109, 47, 103, 111, 111, 103, 108, 101, 47, 103, 111, 45, 106, 115, 111, 110, 110, 101, 116, 47, 110, 48, 48, 56, 95, 53, 57, 46, 70, 110, 73, 115, 83, 121, 109, 98, 111, 108, 80, 114, 105, 110, 116, 97, 98, 108, 101, 65, 110, 100, 68, 105, 115, 106, 111, 105, 110, 116]
theorem io : Try.prog.initOrder = String.ofList (ioNums.map Char.ofNat) := by kernel_rfl
theorem hio : Try.prog.initOrder.toList = ioNums.map Char.ofNat := by rw [io, String.toList_ofList]
def ioRest : List (List Char) := (behindMainWord (wordsSigns (ioNums.map Char.ofNat))).tail
theorem hws : behindMainWord (wordsSigns (ioNums.map Char.ofNat)) = "cut".toList :: ioRest := by kernel_rfl
theorem strips (rest : List (List Char)) : stripLifts liftWords ("cut".toList :: rest) = ([], "cut".toList :: rest) := by kernel_rfl
theorem mayEnter_of (P : Program) (rest : List (List Char)) (h : behindMainWord (wordsSigns P.initOrder.toList) = "cut".toList :: rest) (hl : P.laysLater = false) (hb : P.bearsReflect = false) (hd : P.doorFits [] = true) : P.mayEnter = true := by
  unfold Program.mayEnter
  rw [h]
  simp only [strips, hl, hb, hd]
  simp
theorem liftsFinal_of (P : Program) (rest : List (List Char)) (h : behindMainWord (wordsSigns P.initOrder.toList) = "cut".toList :: rest) : P.liftsFinal = false := by
  unfold Program.liftsFinal Program.headLifts
  rw [h]
  simp only [strips]
  simp
theorem make_of (P : Program) (rest : List (List Char)) (h : behindMainWord (wordsSigns P.initOrder.toList) = "cut".toList :: rest) : P.make = some .cut := by
  unfold Program.make
  rw [h]
  simp
theorem wsP : behindMainWord (wordsSigns Try.prog.initOrder.toList) = "cut".toList :: ioRest := by rw [hio, hws]
theorem lays : Try.prog.laysLater = false := by kernel_rfl
theorem bears : Try.prog.bearsReflect = false := by kernel_rfl
theorem door : Try.prog.doorFits [] = true := by kernel_rfl
theorem enters : Try.prog.mayEnter = true := mayEnter_of _ _ wsP lays bears door
theorem lifts : Try.prog.liftsFinal = false := liftsFinal_of _ _ wsP
theorem made : Try.prog.make = some .cut := make_of _ _ wsP
theorem lifted_of {b : Bool} (h : b = false) : (b == Try.prog.liftsFinal) = true := by rw [lifts, h]; rfl
theorem made_of {m : Make} (h : m = .cut) : (Try.prog.make == some m) = true := by rw [made, h]; rfl
end Go.Proofs.Ytmifaklghgognaa
