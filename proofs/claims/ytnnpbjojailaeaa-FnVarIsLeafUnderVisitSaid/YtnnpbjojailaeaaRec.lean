/- The recording pass: its list of events, kept and grown; the contracts of its two callbacks. -/
import Derived.Test.YtnnpbjojailaeaaProg
import Derived.WalkKit
import Derived.WalkLawsBesides
import Derived.WalkSpells
import Derived.Lib.Hide
import Derived.OwnWalk
import Derived.Deep.DeepMust
import Derived.Deep.AppendLies
namespace Go.Proofs.Ytnnpbjojailaeaa
open Go.RowKit

/-- Behind w0: block B holds the list of n events whose cells are xs, in a row of its own; all else that lay in w0 is as it was. -/
structure RecSt (w0 w : World) (B n : Nat) (xs : List Value) : Prop where
  os : w.os = w0.os
  tape : w.tape = w0.tape
  output : w.output = w0.output
  size : w0.heap.size ≤ w.heap.size
  frame : ∀ k, k < w0.heap.size → k ≠ B → w.heap[k]? = w0.heap[k]?
  lt : B < w0.heap.size
  evs : ∃ v, w.heap[B]? = some (.cells #[v] 29 (0, 0)) ∧ w.ownsRow w0.heap.size 37 3 v n xs

theorem RecSt.alloc {w0 w : World} {B n : Nat} {xs : List Value} (h : RecSt w0 w B n xs) (o : Obj) : RecSt w0 (w.alloc o) B n xs := by
  obtain ⟨v, hv, ho⟩ := h.evs
  have hB : B < w.heap.size := Nat.lt_of_lt_of_le h.lt h.size
  exact ⟨h.os, h.tape, h.output, Nat.le_trans h.size (by simp), fun k hk hne => (Below.heap_alloc w o k (Nat.lt_of_lt_of_le hk h.size)).trans (h.frame k hk hne), h.lt, v, (Below.heap_alloc w o B hB).trans hv, ho.alloc o⟩
theorem RecSt.drew {w0 w : World} {B n : Nat} {xs : List Value} (h : RecSt w0 w B n xs) : RecSt w0 w.drew B n xs := ⟨h.os, h.tape, h.output, h.size, h.frame, h.lt, h.evs⟩
theorem RecSt.cell {w0 w : World} {B n : Nat} {xs : List Value} (h : RecSt w0 w B n xs) {k : Nat} (hk : k < w0.heap.size) (hne : k ≠ B) (o : Nat) : w.cell? ⟨k, o, none⟩ = w0.cell? ⟨k, o, none⟩ := World.cell?_of_block (h.frame k hk hne)

/-- What is neither block B nor a row of events is kept. -/
def Kept37 (B : Nat) (w w' : World) : Prop := w.heap.size ≤ w'.heap.size ∧ ∀ k c t fr, w.heap[k]? = some (.cells c t fr) → k ≠ B → t ≠ 37 → w'.heap[k]? = some (.cells c t fr)
theorem Kept37.trans {B : Nat} {a b c : World} (h : Kept37 B a b) (k : Kept37 B b c) : Kept37 B a c := ⟨Nat.le_trans h.1 k.1, fun i x t fr hx hn ht => k.2 i x t fr (h.2 i x t fr hx hn ht) hn ht⟩
theorem Kept37.of_alloc (B : Nat) (w : World) (o : Obj) : Kept37 B w (w.alloc o) := ⟨by simp, fun k c t fr hx _ _ => by
  have hk : k < w.heap.size := (Array.getElem?_eq_some_iff.1 hx).1
  exact (Below.heap_alloc w o k hk).trans hx⟩
theorem Kept37.drew {B : Nat} {a b : World} (h : Kept37 B a b) : Kept37 B a b.drew := h
theorem info37 : (Try.prog.info? 37).map (fun i => (i.zero, i.size, i.bytes)) = some (some (.agg #[.bool false, .pointer none, .pointer none]), 3, 24) := by kernel_rfl

theorem RecSt.ne {w0 w : World} {B n : Nat} {xs : List Value} {v : Value} (h : RecSt w0 w B n xs) (ho : w.ownsRow w0.heap.size 37 3 v n xs) : some B ≠ v.ownBlock := by
  rcases ho.2 with ⟨rfl, _⟩ | ⟨g, cap, cur, rfl, hg, _⟩
  · simp [Value.ownBlock]
  · intro e
    have : B = g := by simpa [Value.ownBlock] using e
    have := h.lt
    omega
/-- Behind an append and the store of the new list. -/
theorem RecSt.grown {w0 w w1 : World} {B n : Nat} {xs ys : List Value} {v v' : Value} {o : Obj} (h : RecSt w0 w B n xs) (hv : w.heap[B]? = some (.cells #[v] 29 (0, 0))) (ho : w.ownsRow w0.heap.size 37 3 v n xs)
    (hg : (w.alloc o).grownBy w1 v.ownBlock) (ho' : w1.ownsRow w0.heap.size 37 3 v' (n + 1) ys) : RecSt w0 (w1.setCell ⟨B, 0, none⟩ v') B (n + 1) ys := by
  have hB : B < w.heap.size := Nat.lt_of_lt_of_le h.lt h.size
  have hne := h.ne ho
  have hB1 : w1.heap[B]? = some (.cells #[v] 29 (0, 0)) := (hg.block B (by simp; omega) hne).trans ((Below.heap_alloc w o B hB).trans hv)
  have hset : (w1.setCell ⟨B, 0, none⟩ v').heap[B]? = some (.cells #[v'] 29 (0, 0)) := by simp [World.setCell, Array.getElem?_modify, hB1]
  refine ⟨hg.os.trans h.os, hg.tape.trans h.tape, hg.output.trans h.output, ?_, fun k hk hkB => ?_, h.lt, v', hset, ?_⟩
  · have h1 := hg.size
    have h2 := h.size
    simp at h1
    show w0.heap.size ≤ (w1.heap.modify _ _).size
    rw [Array.size_modify]
    omega
  · have hkw : k < w.heap.size := Nat.lt_of_lt_of_le hk h.size
    have hk2 : some k ≠ v.ownBlock := by
      rcases ho.2 with ⟨rfl, _⟩ | ⟨g, cap, cur, rfl, hgg, _⟩
      · simp [Value.ownBlock]
      · intro e
        have : k = g := by simpa [Value.ownBlock] using e
        omega
    exact ((Below.heap_setCell w1 ⟨B, 0, none⟩ v' k hkB).trans (hg.block k (by simp; omega) hk2)).trans ((Below.heap_alloc w o k hkw).trans (h.frame k hk hkB))
  · refine ⟨ho'.1, ?_⟩
    rcases ho'.2 with h0 | ⟨g, cap, cur, hv', hgg, hh, h1, h2, h3, h4⟩
    · exact .inl h0
    · refine .inr ⟨g, cap, cur, hv', hgg, ?_, h1, h2, h3, h4⟩
      exact (Below.heap_setCell w1 ⟨B, 0, none⟩ v' g (fun e => by have := h.lt; simp at e; omega)).trans hh

theorem kept_grown {w0 w w1 : World} {B n : Nat} {xs : List Value} {v v' : Value} {o : Obj} (hv : w.heap[B]? = some (.cells #[v] 29 (0, 0))) (ho : w.ownsRow w0.heap.size 37 3 v n xs) (hg : (w.alloc o).grownBy w1 v.ownBlock) : Kept37 B w (w1.setCell ⟨B, 0, none⟩ v') := by
  have h1 := hg.size
  simp at h1
  refine ⟨?_, fun k c t fr hx hn ht => ?_⟩
  · show w.heap.size ≤ (w1.heap.modify _ _).size
    rw [Array.size_modify]
    omega
  · have hk : k < w.heap.size := (Array.getElem?_eq_some_iff.1 hx).1
    have hne : some k ≠ v.ownBlock := by
      rcases ho.2 with ⟨rfl, _⟩ | ⟨g, cap, cur, rfl, _, hh, _⟩
      · simp [Value.ownBlock]
      · intro e
        have : k = g := by simpa [Value.ownBlock] using e
        subst this
        rw [hx] at hh
        injection hh with hh
        injection hh with _ h2
        exact ht h2
    exact (Below.heap_setCell w1 ⟨B, 0, none⟩ v' k hn).trans ((hg.block k (by simp; omega) hne).trans ((Below.heap_alloc w o k hk).trans hx))
theorem rec_visit {w0 w : World} {B n : Nat} {xs : List Value} (h : RecSt w0 w B n xs) (hn : n ≤ 100000) (p ctx : Value) (np : Option Addr) :
    Calls Try.prog 59 #[.pointer (some ⟨B, 0, none⟩), p, .pointer np, ctx] w fun e w' => e = .returned (.tuple #[]) ∧ RecSt w0 w' B (n + 1) (xs ++ [.bool true, .pointer np, .pointer none]) ∧ Kept37 B w w' := by
  obtain ⟨i0, hi, hz0, hz1, hz2⟩ := info_parts info37
  obtain ⟨v, hv, ho⟩ := h.evs
  have hB : B < w.heap.size := Nat.lt_of_lt_of_le h.lt h.size
  have hc : w.cell? ⟨B, 0, none⟩ = some v := by simp [World.cell?, hv]
  have hf : w.frozen? ⟨B, 0, none⟩ = false := by simp [World.frozen?, hv]
  have HH := Lib.hid h
  have HV := Lib.hid hv
  have HO := Lib.hid ho
  have HN := Lib.hid hn
  clear h hv ho hn
  go_enter Try.func59, Try.ntmps59
  have HS : Hid (w0.heap.size ≤ (w.alloc (.cells #[.bool true, .pointer np, .pointer none] 37)).heap.size) := Nat.le_trans HH.out.size (by simp)
  go_wp2_with (at_builtin; go_must (refine wpList_append_own _ rfl _ _ 27 rfl w0.heap.size 37 i0 _ 3 24 Try.underlying27 hi hz0 hz1 hz2 rfl (by decide) v n xs rfl (HO.out.alloc _) ⟨w.heap.size, 0, none⟩ 1 1 [.bool true, .pointer np, .pointer none] rfl rfl (World.news_of_block (cs := #[.bool true, .pointer np, .pointer none]) (t := 37) (fr := (0, 0)) (heap_alloc_new w _)) (by simp [Value.oneCell']) (by have := HN.out; simp only [maxLen]; omega) (by have := HN.out; omega) HS.out ?_; intro v' w1 hown' hgrow _; obtain ⟨g, cap, hv', _, _⟩ := hown'.form (by omega); have HB1 : w1.heap[B]? = some (.cells #[v] 29 (0, 0)) := (hgrow.block B (Nat.lt_of_lt_of_le hB (by simp)) (HH.out.ne HO.out)).trans ((Below.heap_alloc w _ B hB).trans HV.out); have hc1 : w1.cell? ⟨B, 0, none⟩ = some v := (by simp [World.cell?, HB1]); have hf1 : w1.frozen? ⟨B, 0, none⟩ = false := (by simp [World.frozen?, HB1]); have HR := Lib.hid (And.intro (HH.out.grown HV.out HO.out hgrow hown') (kept_grown HV.out HO.out hgrow (v' := v'))); rw [hv']; rw [hv'] at HR; clear HB1 hgrow hown' hc hf))
  go_end0
  exact ⟨rfl, HR.out⟩
theorem rec_fodder {w0 w : World} {B n : Nat} {xs : List Value} (h : RecSt w0 w B n xs) (hn : n ≤ 100000) (p ctx : Value) (np : Option Addr) :
    Calls Try.prog 43 #[.pointer (some ⟨B, 0, none⟩), p, .pointer np, ctx] w fun e w' => e = .returned (.tuple #[]) ∧ RecSt w0 w' B (n + 1) (xs ++ [.bool false, .pointer none, .pointer np]) ∧ Kept37 B w w' := by
  obtain ⟨i0, hi, hz0, hz1, hz2⟩ := info_parts info37
  obtain ⟨v, hv, ho⟩ := h.evs
  have hB : B < w.heap.size := Nat.lt_of_lt_of_le h.lt h.size
  have hc : w.cell? ⟨B, 0, none⟩ = some v := by simp [World.cell?, hv]
  have hf : w.frozen? ⟨B, 0, none⟩ = false := by simp [World.frozen?, hv]
  have HH := Lib.hid h
  have HV := Lib.hid hv
  have HO := Lib.hid ho
  have HN := Lib.hid hn
  clear h hv ho hn
  go_enter Try.func43, Try.ntmps43
  have HS : Hid (w0.heap.size ≤ (w.alloc (.cells #[.bool false, .pointer none, .pointer np] 37)).heap.size) := Nat.le_trans HH.out.size (by simp)
  go_wp2_with (at_builtin; go_must (refine wpList_append_own _ rfl _ _ 27 rfl w0.heap.size 37 i0 _ 3 24 Try.underlying27 hi hz0 hz1 hz2 rfl (by decide) v n xs rfl (HO.out.alloc _) ⟨w.heap.size, 0, none⟩ 1 1 [.bool false, .pointer none, .pointer np] rfl rfl (World.news_of_block (cs := #[.bool false, .pointer none, .pointer np]) (t := 37) (fr := (0, 0)) (heap_alloc_new w _)) (by simp [Value.oneCell']) (by have := HN.out; simp only [maxLen]; omega) (by have := HN.out; omega) HS.out ?_; intro v' w1 hown' hgrow _; obtain ⟨g, cap, hv', _, _⟩ := hown'.form (by omega); have HB1 : w1.heap[B]? = some (.cells #[v] 29 (0, 0)) := (hgrow.block B (Nat.lt_of_lt_of_le hB (by simp)) (HH.out.ne HO.out)).trans ((Below.heap_alloc w _ B hB).trans HV.out); have hc1 : w1.cell? ⟨B, 0, none⟩ = some v := (by simp [World.cell?, HB1]); have hf1 : w1.frozen? ⟨B, 0, none⟩ = false := (by simp [World.frozen?, HB1]); have HR := Lib.hid (And.intro (HH.out.grown HV.out HO.out hgrow hown') (kept_grown HV.out HO.out hgrow (v' := v'))); rw [hv']; rw [hv'] at HR; clear HB1 hgrow hown' hc hf))
  go_end0
  exact ⟨rfl, HR.out⟩
end Go.Proofs.Ytnnpbjojailaeaa
