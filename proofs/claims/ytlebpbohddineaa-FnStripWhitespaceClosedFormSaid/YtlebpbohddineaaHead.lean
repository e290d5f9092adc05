/- The facts on the translation's head that every row of this seat asks: it may be entered, it lifts no finalizer, it is a cut. -/
import Derived.Test.YtlebpbohddineaaProg
import Derived.JoinedOf
import Derived.KernelRfl
namespace Go.Proofs.Ytlebpbohddineaa
set_option maxRecDepth 100000
def ioNums : List Nat := [104, 97, 114, 110, 101, 115, 115, 32, 101, 100, 99, 49, 49, 48, 52, 101, 101, 56, 48, 101, 57, 101, 56, 100, 51, 53, 54, 56, 51, 99, 97, 55, 49, 98, 50, 55, 101, 49, 100, 99, 100, 57, 50, 50, 55, 100, 49, 55, 99, 100, 54, 56, 102, 55, 55, 51, 49, 52, 54, 57, 49, 100, 49, 50, 49, 101, 54, 97, 51, 50, 49, 100, 32, 99, 117, 116, 32, 97, 116, 32, 103, 105, 116, 104, 117, 98, 46, 99, 111, 109, 47, 103, 111, 111, 103, 108, 101, 47, 103, 111, 45, 106, 115, 111, 110, 110, 101, 116, 47, 110, 48, 48, 56, 95, 54, 56, 46, 70, 110, 73, 115, 72, 111, 114, 105, 122, 111, 110, 116, 97, 108, 87, 104, 105, 116, 101, 115, 112, 97, 99, 101, 69, 120, 97, 99, 116, 83, 101, 116, 32, 103, 105, 116, 104, 117, 98, 46, 99, 111, 109, 47, 103, 111, 111, 103, 108, 101, 47, 103, 111, 45, 106, 115, 111, 110, 110, 101, 116, 47, 110, 48, 48, 56, 95, 54, 56, 46, 70, 110, 73, 115, 87, 104, 105, 116, 101, 115, 112, 97, 99, 101, 69, 120, 97, 99, 116, 83, 101, 116, 32, 103, 105, 116, 104, 117, 98, 46, 99, 111, 109, 47, 103, 111, 111, 103, 108, 101, 47, 103, 111, 45, 106, 115, 111, 110, 110, 101, 116, 47, 110, 48, 48, 56, 95, 54, 56, 46, 70, 110, 73, 115, 72, 111, 114, 105, 122, 111, 110, 116, 97, 108, 87, 104, 105, 116, 101, 115, 112, 97, 99, 101, 73, 115, 87, 104, 97, 116, 83, 116, 114, 105, 112, 67, 117, 116, 115, 65, 116, 69, 110, 100, 32, 103, 105, 116, 104, 117, 98, 46, 99, 111, 109, 47, 103, 111, 111, 103, 108, 101, 47, 103, 111, 45, 106, 115, 111, 110, 110, 101, 116, 47, 110, 48, 48, 56, 95, 54, 56, 46, 70, 110, 83, 116, 114, 105, 112, 87, 104, 105, 116, 101, 115, 112, 97, 99, 101, 67, 108, 111, 115, 101, 100, 70, 111, 114, 109, 32, 103, 105, 116, 104, 117, 98, 46, 99, 111, 109, 47, 103, 111, 111, 103, 108, 101, 47, 103, 111, 45, 106, 115, 111, 110, 110, 101, 116, 47, 110, 48, 48, 56, 95, 54, 56, 46, 70, 110, 83, 116, 114, 105, 112, 87, 104, 105, 116, 101, 115, 112, 97, 99, 101, 77, 97, 114, 103, 105, 110, 115, 65, 100, 100]
theorem io : Try.prog.initOrder = String.ofList (ioNums.map Char.ofNat) := by kernel_rfl
theorem hio : Try.prog.initOrder.toList = ioNums.map Char.ofNat := by rw [io, String.toList_ofList]
def ioRest : List (List Char) := (behindMainWord (wordsSigns (ioNums.map Char.ofNat))).tail
theorem hws : behindMainWord (wordsSigns (ioNums.map Char.ofNat)) = "cut".toList :: ioRest := by kernel_rfl
theorem strips (rest : List (List Char)) : stripLifts liftWords ("cut".toList :: rest) = ([], "cut".toList :: rest) := by kernel_rfl
theorem mayEnter_of (P : Program) (rest : List (List Char)) (h : behindMainWord (wordsSigns P.initOrder.toList) = "cut".toList :: rest) (hl : P.laysLater = false) (hb : P.bearsReflect = false) (hd : P.doorFits [] = true) : P.mayEnter = true := by
  unfold Program.mayEnter
  rw [h]
  simp only [strips, hl, hb, hd]
  simp
theorem liftsFinal_of (P : Program) (rest : List (List Char)) (h : behindMainWord (wordsSigns P.initOrder.toList) = "cut".toList :: rest) : P.liftsFinal = false := by
  unfold Program.liftsFinal Program.headLifts
  rw [h]
  simp only [strips]
  simp
theorem make_of (P : Program) (rest : List (List Char)) (h : behindMainWord (wordsSigns P.initOrder.toList) = "cut".toList :: rest) : P.make = some .cut := by
  unfold Program.make
  rw [h]
  simp
theorem wsP : behindMainWord (wordsSigns Try.prog.initOrder.toList) = "cut".toList :: ioRest := by rw [hio, hws]
theorem lays : Try.prog.laysLater = false := by kernel_rfl
theorem bears : Try.prog.bearsReflect = false := by kernel_rfl
theorem door : Try.prog.doorFits [] = true := by kernel_rfl
theorem enters : Try.prog.mayEnter = true := mayEnter_of _ _ wsP lays bears door
theorem lifts : Try.prog.liftsFinal = false := liftsFinal_of _ _ wsP
theorem made : Try.prog.make = some .cut := make_of _ _ wsP
theorem lifted_of {b : Bool} (h : b = false) : (b == Try.prog.liftsFinal) = true := by rw [lifts, h]; rfl
theorem made_of {m : Make} (h : m = .cut) : (Try.prog.make == some m) = true := by rw [made, h]; rfl
end Go.Proofs.Ytlebpbohddineaa
