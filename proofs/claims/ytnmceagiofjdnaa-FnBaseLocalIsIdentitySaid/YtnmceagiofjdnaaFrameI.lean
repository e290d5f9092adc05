/- Slices of ints, of strings and of bools among the arguments: opened once. -/
import Derived.Test.YtnmceagiofjdnaaRowI
import Derived.ProofKit
import Derived.OpenShut
import Derived.SliceStrings
import Derived.ChangeSlices
import Derived.Deep.Grids
namespace Go.Proofs.Ytnmceagiofjdnaa
open Go.ChangeShapes Go.WideShapes Go.ChangeAt Go.RowKit
theorem cellsI3 : Try.prog.cellsOf 3 = 1 := by kernel_rfl
theorem cellsI9 : Try.prog.cellsOf 9 = 1 := by kernel_rfl
theorem cellsI4 : Try.prog.cellsOf 4 = 1 := by kernel_rfl
theorem laidOutI : laidOutB Try.prog = true := by kernel_rfl
/-- From the cells of a row of the arguments: the argument reads V. -/
theorem av_of {W : World} {a : Addr} {len cap : Nat} {V : Nat → Value} {p : List MemPlace} (hl : len ≤ cap) (hp : ∀ b off, a = ⟨b, off, none⟩ → 0 < cap → MemPlace.cell b off ∈ p) (hlt : ∀ x ∈ p, x.block < W.heap.size)
    (hcell : ∀ i, i < cap → W.cell? (a.add i) = some (V i)) : AV W (some a) len V := by
  intro h0
  obtain ⟨b, off, spot⟩ := a
  have hspot : spot = none := by simpa [Addr.add] using World.cell?_spot (hcell 0 (by omega))
  subst hspot
  refine ⟨b, off, rfl, hlt _ (hp b off rfl (by omega)), fun j hj => ?_⟩
  rw [← add_plain, hcell j (by omega)]
section
variable {H : Type} {enc : TypeId × Value → H} {W : World} {fuel : Nat} {a0 : Option Addr} {len cap : Nat} {d0 : DataW H} {p : List MemPlace}
theorem open_AI (hf : DataW.trod enc Try.prog W 0 (fun _ => true) true fuel 22 (Value.slice a0 len cap).cells.toList = some (d0, p)) (hlt : ∀ x ∈ p, x.block < W.heap.size) :
    ∃ Z : Nat → Int, AV W a0 len (fun j => .int .i64 (Z j)) ∧ len ≤ 9223372036854775807 := by
  rcases open_ints Try.underlying22 Try.underlying3 cellsI3 hf with ⟨hcs, hx⟩ | ⟨a, len', cap', zs, hcs, _, hl, hm, hz, hx, hcell, _⟩
  · simp [Value.cells] at hcs
    obtain ⟨rfl, rfl, rfl⟩ := hcs
    exact ⟨fun _ => 0, fun h => absurd h (by omega), by omega⟩
  · simp [Value.cells] at hcs
    obtain ⟨rfl, rfl, rfl⟩ := hcs
    simp only [Prod.mk.injEq] at hx
    obtain ⟨rfl, rfl⟩ := hx
    simp only [if_true] at hz
    unfold maxLen at hm
    refine ⟨fun j => zs.getD j 0, av_of hl (fun b off e h => ?_) hlt (fun i hi => hcell i (by omega)), by omega⟩
    subst e
    exact MemPlace.mem_row.2 ⟨0, by omega, by simp⟩
theorem open_AS (hf : DataW.trod enc Try.prog W 0 (fun _ => true) true fuel 23 (Value.slice a0 len cap).cells.toList = some (d0, p)) (hlt : ∀ x ∈ p, x.block < W.heap.size) :
    ∃ S : Nat → ByteArray, AV W a0 len (fun j => .string (S j)) ∧ len ≤ 9223372036854775807 ∧ ∀ j, (S j).size ≤ maxLen := by
  rcases open_strings Try.underlying23 Try.underlying9 cellsI9 hf with ⟨hcs, hx⟩ | ⟨a, len', cap', ss, hcs, _, hl, hm, hz, hx, hcell, hws⟩
  · simp [Value.cells] at hcs
    obtain ⟨rfl, rfl, rfl⟩ := hcs
    exact ⟨fun _ => ByteArray.empty, fun h => absurd h (by omega), by omega, fun _ => Nat.zero_le _⟩
  · simp [Value.cells] at hcs
    obtain ⟨rfl, rfl, rfl⟩ := hcs
    simp only [Prod.mk.injEq] at hx
    obtain ⟨rfl, rfl⟩ := hx
    simp only [if_true] at hz
    unfold maxLen at hm
    refine ⟨fun j => ss.getD j ByteArray.empty, av_of hl (fun b off e h => ?_) hlt (fun i hi => hcell i (by omega)), by omega, fun j => ?_⟩
    · subst e
      exact MemPlace.mem_row.2 ⟨0, by omega, by simp⟩
    · show (ss.getD j ByteArray.empty).size ≤ maxLen
      rw [List.getD_eq_getElem?_getD]
      rcases Nat.lt_or_ge j ss.length with h | h
      · rw [List.getElem?_eq_getElem h]
        exact hws _ (List.getElem_mem h)
      · rw [List.getElem?_eq_none h]
        exact Nat.zero_le _
theorem open_AB (hf : DataW.trod enc Try.prog W 0 (fun _ => true) true fuel 24 (Value.slice a0 len cap).cells.toList = some (d0, p)) (hlt : ∀ x ∈ p, x.block < W.heap.size) :
    ∃ B : Nat → Bool, AV W a0 len (fun j => .bool (B j)) ∧ len ≤ 9223372036854775807 := by
  rcases Go.Deep.open_bools Try.underlying24 Try.underlying4 cellsI4 hf with ⟨hcs, hx⟩ | ⟨a, len', cap', B, hcs, _, hl, hm, hx, hcell⟩
  · simp [Value.cells] at hcs
    obtain ⟨rfl, rfl, rfl⟩ := hcs
    exact ⟨fun _ => false, fun h => absurd h (by omega), by omega⟩
  · simp [Value.cells] at hcs
    obtain ⟨rfl, rfl, rfl⟩ := hcs
    simp only [Prod.mk.injEq] at hx
    obtain ⟨rfl, rfl⟩ := hx
    unfold maxLen at hm
    refine ⟨B, av_of hl (fun b off e h => ?_) hlt (fun i hi => hcell i (by omega)), by omega⟩
    subst e
    exact MemPlace.mem_row.2 ⟨0, by omega, by simp⟩
end
end Go.Proofs.Ytnmceagiofjdnaa
