/- Base.Visit by a second recording pass over a node (Unary): what both passes hold. -/
import Derived.Test.YtnnpbjojailaeaaVUnary
import Derived.Test.YtnnpbjojailaeaaTail

namespace Go.Proofs.Ytnnpbjojailaeaa
open Go.RowKit
theorem v9_Unary {w0 w1 : World} {B1 U : Nat} {cu : Array Value}  (R1 : RecE w0 w1 B1 (([(true, some ⟨U, 0, none⟩, none)] : List Ev))) (hU : w1.heap[U]? = some (.cells cu 60 (0, 0))) (fa : Option Addr) (fl fc : Nat) (hF : cu[1]? = some (.slice fa fl fc)) :
    Calls Try.prog 9 #[.pointer (some ⟨w1.heap.size, 0, none⟩), .iface 24 (.pointer (some ⟨w1.heap.size, 0, none⟩)), .pointer (some ⟨w1.heap.size + 1, 0, none⟩), .nilIface] ((w1.alloc (.cells #[.slice none 0 0] 29)).alloc (.cells #[.iface 44 (.pointer (some ⟨U, 0, none⟩))] 32))
      fun e w2 => e = .returned (.tuple #[]) ∧ Tail w2 B1 w1.heap.size (([(true, some ⟨U, 0, none⟩, none)] : List Ev)).length ∧ Below w1.heap.size w1 w2 := by
  have hUl : U < w1.heap.size := (Array.getElem?_eq_some_iff.1 hU).1
  have hpos : 0 < (([(true, some ⟨U, 0, none⟩, none)] : List Ev)).length := by simp
  generalize hW : (w1.alloc (.cells #[.slice none 0 0] 29)).alloc (.cells #[.iface 44 (.pointer (some ⟨U, 0, none⟩))] 32) = W
  have hB : W.heap[w1.heap.size]? = some (.cells #[.slice none 0 0] 29 (0, 0)) := by rw [← hW]; exact (Below.heap_alloc _ _ _ (by simp)).trans (heap_alloc_new w1 _)
  have hN : W.heap[w1.heap.size + 1]? = some (.cells #[.iface 44 (.pointer (some ⟨U, 0, none⟩))] 32 (0, 0)) := by
    rw [← hW]
    have := heap_alloc_new (w1.alloc (.cells #[.slice none 0 0] 29)) (.cells #[.iface 44 (.pointer (some ⟨U, 0, none⟩))] 32)
    simpa using this
  have hbW : Below w1.heap.size w1 W := by rw [← hW]; exact ((Below.refl _ _).alloc (Nat.le_refl _) _).alloc (by simp) _
  have hU' : W.heap[U]? = some (.cells cu 60 (0, 0)) := (hbW.block U hUl).trans hU
  have hne : U ≠ w1.heap.size := by omega
  refine (visit_Unary (n := 0) (xs := []) (recE_of hB) (by omega) _ fa fl fc U (w1.heap.size + 1) cu hN hU' hF (by omega) hne (fun w2 => RecE W w2 w1.heap.size ((false, none, some ⟨W.heap.size, 0, none⟩) :: ([(true, some ⟨U, 0, none⟩, none)] : List Ev))) ?_).mono ?_
  · intro w3 hr0 hk
    have hr : RecE W w3 w1.heap.size [(false, none, some ⟨W.heap.size, 0, none⟩)] := hr0
    exact (unary_E hr (by simp) _ _ _).mono fun e w' ⟨h1, h2, _⟩ => ⟨h1, h2⟩
  · rintro e w2 ⟨rfl, hq⟩
    exact ⟨rfl, tail_of (R1.held_other hpos hq (fun k hk => hbW.block k hk) (Nat.le_refl _) hbW.size) (hq.held (by simp)), hq.below hbW (Nat.le_refl _)⟩
end Go.Proofs.Ytnnpbjojailaeaa
