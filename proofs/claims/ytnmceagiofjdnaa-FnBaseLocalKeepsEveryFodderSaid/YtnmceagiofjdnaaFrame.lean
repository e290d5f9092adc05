/- A slice of strings among the arguments: opened once. -/
import Derived.Test.YtnmceagiofjdnaaSRt
import Derived.ProofKit
import Derived.OpenShut
import Derived.SliceStrings
namespace Go.Proofs.Ytnmceagiofjdnaa
open Go.ChangeShapes Go.WideShapes Go.ChangeAt Go.RowKit
theorem cells9 : Try.prog.cellsOf 9 = 1 := by kernel_rfl
theorem laidOut : laidOutB Try.prog = true := by kernel_rfl
theorem open_SR {H : Type} {enc : TypeId × Value → H} {W : World} {fuel : Nat} {a0 : Option Addr} {len cap : Nat} {d0 : DataW H} {p : List MemPlace}
    (hf : DataW.trod enc Try.prog W 0 (fun _ => true) true fuel 23 (Value.slice a0 len cap).cells.toList = some (d0, p)) (hlt : ∀ x ∈ p, x.block < W.heap.size) :
    ∃ ss, SR W a0 len ss ∧ (a0 = none → len = 0) ∧ len ≤ 9223372036854775807 ∧ ∀ s ∈ ss, s.size ≤ maxLen := by
  rcases open_strings Try.underlying23 Try.underlying9 cells9 hf with ⟨hcs, hx⟩ | ⟨a, len', cap', ss, hcs, _, hl, hm, hz, hx, hcell, hws⟩
  · simp [Value.cells] at hcs
    obtain ⟨rfl, rfl, rfl⟩ := hcs
    exact ⟨[], ⟨rfl, fun h => absurd h (by omega)⟩, fun _ => rfl, by omega, by simp⟩
  · simp [Value.cells] at hcs
    obtain ⟨rfl, rfl, rfl⟩ := hcs
    simp only [Prod.mk.injEq] at hx
    obtain ⟨rfl, rfl⟩ := hx
    simp only [if_true] at hz
    unfold maxLen at hm
    refine ⟨ss.take len, ⟨by simp; omega, fun h0 => ?_⟩, (fun h => by cases h), by omega, fun s hs => hws s (List.mem_of_mem_take hs)⟩
    obtain ⟨b, off, spot⟩ := a
    have hspot : spot = none := by simpa [Addr.add] using World.cell?_spot (hcell 0 (by omega))
    subst hspot
    have hbW : b < W.heap.size := hlt (.cell b off) (MemPlace.mem_row.2 ⟨0, by omega, by simp⟩)
    refine ⟨b, off, rfl, hbW, fun j hj => ?_⟩
    rw [← add_plain, hcell j (by omega)]
    simp [hj]
end Go.Proofs.Ytnmceagiofjdnaa
