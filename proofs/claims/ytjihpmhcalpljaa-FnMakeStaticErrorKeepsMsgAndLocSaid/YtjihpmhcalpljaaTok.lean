/- The contracts of the tokens' locations. -/
import Derived.Test.YtjihpmhcalpljaaWalks
import Derived.Deep.QuietTactic
import Derived.BigQuiet
import Derived.StillTailTactics
import Derived.Laws.IdiomStrings
namespace Go.Proofs.Ytjihpmhcalpljaa
open Go.RowKit
set_option linter.unusedVariables false
theorem below_drewN {B : Nat} {a w : World} (h : Below B a w) (n : Nat) : Below B a (w.drewN n) := ⟨h.os, h.tape, h.output, h.size, h.block⟩
theorem cell_new (w : World) (C : Array Value) (t : TypeId) (n o : Nat) : ((w.alloc (.cells C t)).drewN n).cell? ⟨w.heap.size, o, none⟩ = C[o]? := World.cell?_alloc_mark w C t (0, 0) o
theorem frozen_new (w : World) (C : Array Value) (t : TypeId) (n o : Nat) : ((w.alloc (.cells C t)).drewN n).frozen? ⟨w.heap.size, o, none⟩ = false := by
  refine (World.frozen?_alloc_mark w C t 0 0 o).trans ?_
  simp
theorem mkRange_any (f : Option Addr) (fn : ByteArray) (a b c d : Int) (w : World) :
    Calls Try.prog 28 #[.string fn, .pointer f, .agg #[.int .i64 a, .int .i64 b], .agg #[.int .i64 c, .int .i64 d]] w fun e w' => e = .returned (.agg #[.pointer f, .string fn, .int .i64 a, .int .i64 b, .int .i64 c, .int .i64 d]) ∧ Below w.heap.size w w' := by
  go_enter Try.func28, Try.ntmps28
  go_wp2
  exact bodyPost_ret (v := .agg #[.pointer f, .string fn, .int .i64 a, .int .i64 b, .int .i64 c, .int .i64 d]) (by simp [results, Try.results28, go_sem]) rfl ⟨rfl, below_2.alloc (by simp; omega) _⟩
set_option maxHeartbeats 1000000 in
theorem between_any (k l o1 o2 : Nat) (fn gn : ByteArray) (a b c d p q r s : Int) (w : World) (hx0 : w.cell? ⟨k, o1, none⟩ = some (.pointer none)) (hx1 : w.cell? ⟨k, o1 + 1, none⟩ = some (.string fn)) (hx2 : w.cell? ⟨k, o1 + 2, none⟩ = some (.int .i64 a)) (hx3 : w.cell? ⟨k, o1 + 3, none⟩ = some (.int .i64 b)) (hx4 : w.cell? ⟨k, o1 + 4, none⟩ = some (.int .i64 c)) (hx5 : w.cell? ⟨k, o1 + 5, none⟩ = some (.int .i64 d)) (hy0 : w.cell? ⟨l, o2, none⟩ = some (.pointer none)) (hy1 : w.cell? ⟨l, o2 + 1, none⟩ = some (.string gn)) (hy2 : w.cell? ⟨l, o2 + 2, none⟩ = some (.int .i64 p)) (hy3 : w.cell? ⟨l, o2 + 3, none⟩ = some (.int .i64 q)) (hy4 : w.cell? ⟨l, o2 + 4, none⟩ = some (.int .i64 r)) (hy5 : w.cell? ⟨l, o2 + 5, none⟩ = some (.int .i64 s)) :
    Calls Try.prog 26 #[.pointer (some ⟨k, o1, none⟩), .pointer (some ⟨l, o2, none⟩)] w fun e w' => e = .returned (.agg #[.pointer none, .string fn, .int .i64 a, .int .i64 b, .int .i64 r, .int .i64 s]) ∧ Below w.heap.size w w' := by
  have hn := ne_none
  have hk : k < w.heap.size := World.block_lt_of_cell? w _ hx0
  have hl : l < w.heap.size := World.block_lt_of_cell? w _ hy0
  go_enter Try.func26, Try.ntmps26
  go_wp2
  go_quiet (fail)
  go_wp2
  generalize hW : World.drewN _ _ = W
  have hB : Below w.heap.size w W := by rw [← hW]; exact below_drewN ((Below.refl _ _).alloc (Nat.le_refl _) _) _
  have hz : w.heap.size < W.heap.size := by rw [← hW]; simp
  have gx := fun o => hB.cell (p := ⟨k, o, none⟩) hk
  have gy := fun o => hB.cell (p := ⟨l, o, none⟩) hl
  have x0 := (gx _).trans hx0
  have x1 := (gx _).trans hx1
  have x2 := (gx _).trans hx2
  have x3 := (gx _).trans hx3
  have y4 := (gy _).trans hy4
  have y5 := (gy _).trans hy5
  have z : ∀ o, W.cell? ⟨w.heap.size, o, none⟩ = (#[.pointer none, .string ⟨#[]⟩, .int .i64 0, .int .i64 0, .int .i64 0, .int .i64 0] : Array Value)[o]? := fun o => by rw [← hW]; exact cell_new _ _ _ _ _
  have zf : ∀ o, W.frozen? ⟨w.heap.size, o, none⟩ = false := fun o => by rw [← hW]; exact frozen_new _ _ _ _ _
  have z0 := z 0
  have z1 := z 1
  have z2 := z 2
  have z3 := z 3
  have z4 := z 4
  have z5 := z 5
  have HB := Lib.hid hB
  clear z gx gy hB hW hx0 hx1 hx2 hx3 hx4 hx5 hy0 hy1 hy2 hy3 hy4 hy5
  go_still_tail 16, (by kernel_rfl)
  change wpList _ _ _ _ _ W.drew
  go_wp2_with fail
  refine (mkRange_any _ _ _ _ _ _ _).mono ?_
  rintro e w2 ⟨rfl, hb2⟩
  have hb2 : Below W.heap.size W w2 := ⟨hb2.os, hb2.tape, hb2.output, hb2.size, hb2.block⟩
  have gz := fun o => hb2.cell (p := ⟨w.heap.size, o, none⟩) hz
  have gf := fun o => (hb2.frozen (p := ⟨w.heap.size, o, none⟩) hz).trans (zf o)
  have z0' := (gz _).trans z0
  have z1' := (gz _).trans z1
  have z2' := (gz _).trans z2
  have z3' := (gz _).trans z3
  have z4' := (gz _).trans z4
  have z5' := (gz _).trans z5
  have HB2 := Lib.hid (HB.out.trans (hb2.mono (Nat.le_of_lt hz)))
  clear gz hb2 z0 z1 z2 z3 z4 z5 x0 x1 x2 x3 y4 y5 HB zf
  go_wp2
  refine bodyPost_ret (v := .agg #[.pointer none, .string fn, .int .i64 a, .int .i64 b, .int .i64 r, .int .i64 s]) (by simp [results, Try.results26, go_sem, z0', z1', z2', z3', z4', z5']) rfl ⟨rfl, ?_⟩
  exact (((((HB2.out.setCell (Nat.le_refl _) _).setCell (Nat.le_refl _) _).setCell (Nat.le_refl _) _).setCell (Nat.le_refl _) _).setCell (Nat.le_refl _) _).setCell (Nat.le_refl _) _
end Go.Proofs.Ytjihpmhcalpljaa
