/- Base.Visit by a second recording pass over a node (Slice): what both passes hold. -/
import Derived.Test.YtnnpbjojailaeaaVSlice
import Derived.Test.YtnnpbjojailaeaaTail
import Derived.Test.YtnnpbjojailaeaaMSlice
namespace Go.Proofs.Ytnnpbjojailaeaa
open Go.RowKit
theorem v9_Slice {w0 w1 : World} {B1 U : Nat} {cu : Array Value} (b2 b4 b6 : Bool) (v2 v4 v6 : Value) (h2 : cu[2]? = some v2) (h4 : cu[4]? = some v4) (h6 : cu[6]? = some v6) (i2 : IsNode v2 b2) (i4 : IsNode v4 b4) (i6 : IsNode v6 b6) (R1 : RecE w0 w1 B1 (evSl0 U b2 b4 b6)) (hU : w1.heap[U]? = some (.cells cu 71 (0, 0))) (fa : Option Addr) (fl fc : Nat) (hF : cu[8]? = some (.slice fa fl fc)) :
    Calls Try.prog 9 #[.pointer (some ⟨w1.heap.size, 0, none⟩), .iface 24 (.pointer (some ⟨w1.heap.size, 0, none⟩)), .pointer (some ⟨w1.heap.size + 1, 0, none⟩), .nilIface] ((w1.alloc (.cells #[.slice none 0 0] 29)).alloc (.cells #[.iface 22 (.pointer (some ⟨U, 0, none⟩))] 32))
      fun e w2 => e = .returned (.tuple #[]) ∧ Tail w2 B1 w1.heap.size (evSl0 U b2 b4 b6).length ∧ Below w1.heap.size w1 w2 := by
  have hUl : U < w1.heap.size := (Array.getElem?_eq_some_iff.1 hU).1
  have hpos : 0 < (evSl0 U b2 b4 b6).length := by simp [evSl0]
  generalize hW : (w1.alloc (.cells #[.slice none 0 0] 29)).alloc (.cells #[.iface 22 (.pointer (some ⟨U, 0, none⟩))] 32) = W
  have hB : W.heap[w1.heap.size]? = some (.cells #[.slice none 0 0] 29 (0, 0)) := by rw [← hW]; exact (Below.heap_alloc _ _ _ (by simp)).trans (heap_alloc_new w1 _)
  have hN : W.heap[w1.heap.size + 1]? = some (.cells #[.iface 22 (.pointer (some ⟨U, 0, none⟩))] 32 (0, 0)) := by
    rw [← hW]
    have := heap_alloc_new (w1.alloc (.cells #[.slice none 0 0] 29)) (.cells #[.iface 22 (.pointer (some ⟨U, 0, none⟩))] 32)
    simpa using this
  have hbW : Below w1.heap.size w1 W := by rw [← hW]; exact ((Below.refl _ _).alloc (Nat.le_refl _) _).alloc (by simp) _
  have hU' : W.heap[U]? = some (.cells cu 71 (0, 0)) := (hbW.block U hUl).trans hU
  have hne : U ≠ w1.heap.size := by omega
  refine (visit_Slice (n := 0) (xs := []) (recE_of hB) (by omega) _ fa fl fc U (w1.heap.size + 1) cu hN hU' hF (by omega) hne (fun w2 => RecE W w2 w1.heap.size ((false, none, some ⟨W.heap.size, 0, none⟩) :: evSl0 U b2 b4 b6)) ?_).mono ?_
  · intro w3 hr0 hk
    have hr : RecE W w3 w1.heap.size [(false, none, some ⟨W.heap.size, 0, none⟩)] := hr0
    exact (slice_any hr (by simp) _ _ U cu (hk.2 _ _ _ _ hU' hne (by decide)) b2 b4 b6 v2 v4 v6 h2 h4 h6 i2 i4 i6 hne).mono fun e w' ⟨h1, h2, _⟩ => ⟨h1, h2⟩
  · rintro e w2 ⟨rfl, hq⟩
    exact ⟨rfl, tail_of (R1.held_other hpos hq (fun k hk => hbW.block k hk) (Nat.le_refl _) hbW.size) (hq.held (by simp)), hq.below hbW (Nat.le_refl _)⟩
end Go.Proofs.Ytnnpbjojailaeaa
