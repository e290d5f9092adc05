/- Ranges in blocks of their own, kept over calls. -/
import Derived.Test.YtjihpmhcalpljaaTok2
namespace Go.Proofs.Ytjihpmhcalpljaa
open Go.RowKit
def Blk (w : World) (g : Nat) (cs : Array Value) : Prop := w.heap[g]? = some (.cells cs 29 (0, 0))
theorem Blk.lt {w : World} {g : Nat} {cs : Array Value} (h : Blk w g cs) : g < w.heap.size := by
  rcases Nat.lt_or_ge g w.heap.size with hlt | hge
  · exact hlt
  · unfold Blk at h; rw [Array.getElem?_eq_none hge] at h; cases h
theorem Blk.keep {w w' : World} {g : Nat} {cs : Array Value} (h : Blk w g cs) (hb : Below w.heap.size w w') : Blk w' g cs := (hb.block g h.lt).trans h
theorem Blk.alloc {w : World} {g : Nat} {cs : Array Value} (h : Blk w g cs) (o : Obj) : Blk (w.alloc o) g cs := h.keep ((Below.refl _ _).alloc (Nat.le_refl _) _)
theorem Blk.new (w : World) (cs : Array Value) : Blk (w.alloc (.cells cs 29)) w.heap.size cs := by
  show (w.heap.push _)[w.heap.size]? = _
  simp
theorem Blk.cell {w : World} {g : Nat} {cs : Array Value} (h : Blk w g cs) (i : Nat) : w.cell? ⟨g, i, none⟩ = cs[i]? := by
  unfold Blk at h
  simp [World.cell?, h]
theorem Below.step {w a b : World} (h : Below w.heap.size w a) (k : Below a.heap.size a b) : Below w.heap.size w b := h.trans (k.mono h.size)
theorem below_1 {w : World} {x : Obj} : Below w.heap.size w (w.alloc x) := (Below.refl _ _).alloc (Nat.le_refl _) _
end Go.Proofs.Ytjihpmhcalpljaa
