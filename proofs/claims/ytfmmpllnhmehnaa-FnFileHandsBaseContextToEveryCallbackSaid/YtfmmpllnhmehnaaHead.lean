/- The facts on the translation's head that every row of this seat asks: it may be entered, it lifts no finalizer, it is a cut. -/
import Derived.Test.YtfmmpllnhmehnaaProg
import Derived.JoinedOf
import Derived.KernelRfl
namespace Go.Proofs.Ytfmmpllnhmehnaa
set_option maxRecDepth 100000
def ioNums : List Nat := [104, 97, 114, 110, 101, 115, 115, 32, 50, 97, 55, 49, 102, 97, 102, 48, 98, 100, 100, 55, 55, 53, 100, 101, 48, 52, 100, 97, 97, 51, 52, 52, 56, 48, 54, 57, 99, 53, 53, 54, 101, 97, 57, 54, 97, 51, 57, 53, 97, 97, 101, 98, 100, 48, 97, 101, 50, 50, 102, 101, 57, 49, 101, 97, 102, 98, 50, 57, 97, 49, 98, 99, 32, 99, 117, 116, 32, 97, 116, 32, 103, 105, 116, 104, 117, 98, 46, 99, 111, 109, 47, 103, 111, 111, 103, 108, 101, 47, 103, 111, 45, 106, 115, 111, 110, 110, 101, 116, 47, 110, 48, 48, 56, 95, 49, 52, 54, 46, 70, 110, 70, 105, 108, 101, 83, 101, 101, 115, 84, 114, 101, 101, 84, 104, 101, 110, 70, 105, 110, 97, 108, 70, 111, 100, 100, 101, 114, 32, 103, 105, 116, 104, 117, 98, 46, 99, 111, 109, 47, 103, 111, 111, 103, 108, 101, 47, 103, 111, 45, 106, 115, 111, 110, 110, 101, 116, 47, 110, 48, 48, 56, 95, 49, 52, 54, 46, 70, 110, 66, 97, 115, 101, 70, 105, 108, 101, 76, 101, 97, 118, 101, 115, 70, 105, 108, 101, 65, 115, 66, 117, 105, 108, 116, 32, 103, 105, 116, 104, 117, 98, 46, 99, 111, 109, 47, 103, 111, 111, 103, 108, 101, 47, 103, 111, 45, 106, 115, 111, 110, 110, 101, 116, 47, 110, 48, 48, 56, 95, 49, 52, 54, 46, 70, 110, 66, 97, 115, 101, 86, 105, 115, 105, 116, 76, 101, 97, 118, 101, 115, 84, 114, 101, 101, 65, 115, 66, 117, 105, 108, 116, 32, 103, 105, 116, 104, 117, 98, 46, 99, 111, 109, 47, 103, 111, 111, 103, 108, 101, 47, 103, 111, 45, 106, 115, 111, 110, 110, 101, 116, 47, 110, 48, 48, 56, 95, 49, 52, 54, 46, 70, 110, 86, 105, 115, 105, 116, 83, 101, 101, 115, 69, 118, 101, 114, 121, 70, 111, 100, 100, 101, 114, 79, 110, 99, 101, 73, 110, 83, 111, 117, 114, 99, 101, 79, 114, 100, 101, 114, 32, 103, 105, 116, 104, 117, 98, 46, 99, 111, 109, 47, 103, 111, 111, 103, 108, 101, 47, 103, 111, 45, 106, 115, 111, 110, 110, 101, 116, 47, 110, 48, 48, 56, 95, 49, 52, 54, 46, 70, 110, 70, 105, 108, 101, 72, 97, 110, 100, 115, 66, 97, 115, 101, 67, 111, 110, 116, 101, 120, 116, 84, 111, 69, 118, 101, 114, 121, 67, 97, 108, 108, 98, 97, 99, 107]
theorem io : Try.prog.initOrder = String.ofList (ioNums.map Char.ofNat) := by kernel_rfl
theorem hio : Try.prog.initOrder.toList = ioNums.map Char.ofNat := by rw [io, String.toList_ofList]
def ioRest : List (List Char) := (behindMainWord (wordsSigns (ioNums.map Char.ofNat))).tail
theorem hws : behindMainWord (wordsSigns (ioNums.map Char.ofNat)) = "cut".toList :: ioRest := by kernel_rfl
theorem strips (rest : List (List Char)) : stripLifts liftWords ("cut".toList :: rest) = ([], "cut".toList :: rest) := by kernel_rfl
theorem mayEnter_of (P : Program) (rest : List (List Char)) (h : behindMainWord (wordsSigns P.initOrder.toList) = "cut".toList :: rest) (hl : P.laysLater = false) (hb : P.bearsReflect = false) (hd : P.doorFits [] = true) : P.mayEnter = true := by
  unfold Program.mayEnter
  rw [h]
  simp only [strips, hl, hb, hd]
  simp
theorem liftsFinal_of (P : Program) (rest : List (List Char)) (h : behindMainWord (wordsSigns P.initOrder.toList) = "cut".toList :: rest) : P.liftsFinal = false := by
  unfold Program.liftsFinal Program.headLifts
  rw [h]
  simp only [strips]
  simp
theorem make_of (P : Program) (rest : List (List Char)) (h : behindMainWord (wordsSigns P.initOrder.toList) = "cut".toList :: rest) : P.make = some .cut := by
  unfold Program.make
  rw [h]
  simp
theorem wsP : behindMainWord (wordsSigns Try.prog.initOrder.toList) = "cut".toList :: ioRest := by rw [hio, hws]
theorem lays : Try.prog.laysLater = false := by kernel_rfl
theorem bears : Try.prog.bearsReflect = false := by kernel_rfl
theorem door : Try.prog.doorFits [] = true := by kernel_rfl
theorem enters : Try.prog.mayEnter = true := mayEnter_of _ _ wsP lays bears door
theorem lifts : Try.prog.liftsFinal = false := liftsFinal_of _ _ wsP
theorem made : Try.prog.make = some .cut := make_of _ _ wsP
theorem lifted_of {b : Bool} (h : b = false) : (b == Try.prog.liftsFinal) = true := by rw [lifts, h]; rfl
theorem made_of {m : Make} (h : m = .cut) : (Try.prog.make == some m) = true := by rw [made, h]; rfl
end Go.Proofs.Ytfmmpllnhmehnaa
