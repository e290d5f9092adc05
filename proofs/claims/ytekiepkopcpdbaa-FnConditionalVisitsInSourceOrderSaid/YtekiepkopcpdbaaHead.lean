/- The facts on the translation's head that every row of this seat asks: it may be entered, it lifts no finalizer, it is a cut. -/
import Derived.Test.YtekiepkopcpdbaaProg
import Derived.JoinedOf
import Derived.KernelRfl
namespace Go.Proofs.Ytekiepkopcpdbaa
set_option maxRecDepth 100000
def ioNums : List Nat := [104, 97, 114, 110, 101, 115, 115, 32, 53, 51, 97, 99, 49, 56, 101, 48, 52, 97, 57, 50, 56, 49, 51, 53, 100, 55, 52, 97, 48, 98, 54, 102, 49, 100, 49, 54, 101, 49, 52, 49, 98, 51, 52, 98, 53, 50, 53, 98, 56, 55, 54, 97, 55, 97, 99, 56, 55, 100, 97, 48, 99, 52, 54, 55, 97, 53, 52, 54, 99, 98, 54, 56, 32, 99, 117, 116, 32, 97, 116, 32, 103, 105, 116, 104, 117, 98, 46, 99, 111, 109, 47, 103, 111, 111, 103, 108, 101, 47, 103, 111, 45, 106, 115, 111, 110, 110, 101, 116, 47, 110, 48, 48, 56, 95, 53, 49, 46, 70, 110, 65, 115, 115, 101, 114, 116, 86, 105, 115, 105, 116, 115, 67, 104, 105, 108, 100, 114, 101, 110, 73, 110, 83, 111, 117, 114, 99, 101, 79, 114, 100, 101, 114, 32, 103, 105, 116, 104, 117, 98, 46, 99, 111, 109, 47, 103, 111, 111, 103, 108, 101, 47, 103, 111, 45, 106, 115, 111, 110, 110, 101, 116, 47, 110, 48, 48, 56, 95, 53, 49, 46, 70, 110, 67, 111, 110, 100, 105, 116, 105, 111, 110, 97, 108, 86, 105, 115, 105, 116, 115, 73, 110, 83, 111, 117, 114, 99, 101, 79, 114, 100, 101, 114, 32, 103, 105, 116, 104, 117, 98, 46, 99, 111, 109, 47, 103, 111, 111, 103, 108, 101, 47, 103, 111, 45, 106, 115, 111, 110, 110, 101, 116, 47, 110, 48, 48, 56, 95, 53, 49, 46, 70, 110, 68, 111, 108, 108, 97, 114, 66, 97, 115, 101, 80, 97, 115, 115, 76, 101, 97, 118, 101, 115, 78, 111, 100, 101, 73, 110, 116, 97, 99, 116, 32, 103, 105, 116, 104, 117, 98, 46, 99, 111, 109, 47, 103, 111, 111, 103, 108, 101, 47, 103, 111, 45, 106, 115, 111, 110, 110, 101, 116, 47, 110, 48, 48, 56, 95, 53, 49, 46, 70, 110, 66, 105, 110, 97, 114, 121, 86, 105, 115, 105, 116, 115, 76, 101, 102, 116, 79, 112, 82, 105, 103, 104, 116, 32, 103, 105, 116, 104, 117, 98, 46, 99, 111, 109, 47, 103, 111, 111, 103, 108, 101, 47, 103, 111, 45, 106, 115, 111, 110, 110, 101, 116, 47, 110, 48, 48, 56, 95, 53, 49, 46, 70, 110, 66, 105, 110, 97, 114, 121, 66, 97, 115, 101, 80, 97, 115, 115, 76, 101, 97, 118, 101, 115, 84, 114, 101, 101, 73, 110, 116, 97, 99, 116, 32, 103, 105, 116, 104, 117, 98, 46, 99, 111, 109, 47, 103, 111, 111, 103, 108, 101, 47, 103, 111, 45, 106, 115, 111, 110, 110, 101, 116, 47, 110, 48, 48, 56, 95, 53, 49, 46, 70, 110, 65, 115, 115, 101, 114, 116, 66, 97, 115, 101, 80, 97, 115, 115, 76, 101, 97, 118, 101, 115, 84, 114, 101, 101, 73, 110, 116, 97, 99, 116, 32, 103, 105, 116, 104, 117, 98, 46, 99, 111, 109, 47, 103, 111, 111, 103, 108, 101, 47, 103, 111, 45, 106, 115, 111, 110, 110, 101, 116, 47, 110, 48, 48, 56, 95, 53, 49, 46, 70, 110, 67, 111, 110, 100, 105, 116, 105, 111, 110, 97, 108, 66, 97, 115, 101, 80, 97, 115, 115, 76, 101, 97, 118, 101, 115, 84, 114, 101, 101, 73, 110, 116, 97, 99, 116]
theorem io : Try.prog.initOrder = String.ofList (ioNums.map Char.ofNat) := by kernel_rfl
theorem hio : Try.prog.initOrder.toList = ioNums.map Char.ofNat := by rw [io, String.toList_ofList]
def ioRest : List (List Char) := (behindMainWord (wordsSigns (ioNums.map Char.ofNat))).tail
theorem hws : behindMainWord (wordsSigns (ioNums.map Char.ofNat)) = "cut".toList :: ioRest := by kernel_rfl
theorem strips (rest : List (List Char)) : stripLifts liftWords ("cut".toList :: rest) = ([], "cut".toList :: rest) := by kernel_rfl
theorem mayEnter_of (P : Program) (rest : List (List Char)) (h : behindMainWord (wordsSigns P.initOrder.toList) = "cut".toList :: rest) (hl : P.laysLater = false) (hb : P.bearsReflect = false) (hd : P.doorFits [] = true) : P.mayEnter = true := by
  unfold Program.mayEnter
  rw [h]
  simp only [strips, hl, hb, hd]
  simp
theorem liftsFinal_of (P : Program) (rest : List (List Char)) (h : behindMainWord (wordsSigns P.initOrder.toList) = "cut".toList :: rest) : P.liftsFinal = false := by
  unfold Program.liftsFinal Program.headLifts
  rw [h]
  simp only [strips]
  simp
theorem make_of (P : Program) (rest : List (List Char)) (h : behindMainWord (wordsSigns P.initOrder.toList) = "cut".toList :: rest) : P.make = some .cut := by
  unfold Program.make
  rw [h]
  simp
theorem wsP : behindMainWord (wordsSigns Try.prog.initOrder.toList) = "cut".toList :: ioRest := by rw [hio, hws]
theorem lays : Try.prog.laysLater = false := by kernel_rfl
theorem bears : Try.prog.bearsReflect = false := by kernel_rfl
theorem door : Try.prog.doorFits [] = true := by kernel_rfl
theorem enters : Try.prog.mayEnter = true := mayEnter_of _ _ wsP lays bears door
theorem lifts : Try.prog.liftsFinal = false := liftsFinal_of _ _ wsP
theorem made : Try.prog.make = some .cut := make_of _ _ wsP
theorem lifted_of {b : Bool} (h : b = false) : (b == Try.prog.liftsFinal) = true := by rw [lifts, h]; rfl
theorem made_of {m : Make} (h : m = .cut) : (Try.prog.make == some m) = true := by rw [made, h]; rfl
end Go.Proofs.Ytekiepkopcpdbaa
