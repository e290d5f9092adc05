/- The recording pass: its log, kept and grown; the contracts of its two callbacks. -/
import Derived.Test.YtekiepkopcpdbaaMk
import Derived.Deep.DeepMust
import Derived.Deep.AppendLies
namespace Go.Proofs.Ytekiepkopcpdbaa
open Go.RowKit
abbrev slv (G n : Nat) : Value := .slice (some ⟨G, 0, none⟩) n n
def ints (xs : List Int) : List Value := xs.map fun x => .int .i64 x
def ptrs (U : Nat) (ns : List Nat) : Array Value := (ns.map fun c => Value.pointer (some ⟨U, c, none⟩)).toArray
/-- Behind w0: block B holds the pass, whose log reads xs in a row of its own; all else that lay in w0 is as it was. -/
structure RecSt (w0 w : World) (B : Nat) (nd fd : Value) (xs : List Int) : Prop where
  os : w.os = w0.os
  tape : w.tape = w0.tape
  output : w.output = w0.output
  size : w0.heap.size ≤ w.heap.size
  frame : ∀ k, k < w0.heap.size → k ≠ B → w.heap[k]? = w0.heap[k]?
  lt : B < w0.heap.size
  evs : ∃ v, w.heap[B]? = some (.cells #[nd, fd, v] 51 (0, 0)) ∧ w.ownsRow w0.heap.size 3 1 v xs.length (ints xs)
theorem RecSt.at {w0 w : World} {B A : Nat} {nd fd : Value} {xs : List Int} {x : Obj} (h : RecSt w0 w B nd fd xs) (hx : w0.heap[A]? = some x) (hn : A ≠ B) : w.heap[A]? = some x := (h.frame A (lt_of_at hx) hn).trans hx
theorem RecSt.drew {w0 w : World} {B : Nat} {nd fd : Value} {xs : List Int} (h : RecSt w0 w B nd fd xs) : RecSt w0 w.drew B nd fd xs := ⟨h.os, h.tape, h.output, h.size, h.frame, h.lt, h.evs⟩
/-- The node, the watched slots. -/
structure Ctx (w0 : World) (B U T G H : Nat) (cu : Array Value) (ns fs : List Nat) : Prop where
  gB : G ≠ B
  hB : H ≠ B
  uB : U ≠ B
  g : w0.heap[G]? = some (.cells (ptrs U ns) 52 (0, 0))
  h : w0.heap[H]? = some (.cells (ptrs U fs) 53 (0, 0))
  u : w0.heap[U]? = some (.cells cu T (0, 0))
theorem info3 : (Try.prog.info? 3).map (fun i => (i.zero, i.size, i.bytes)) = some (some (.int .i64 0), 1, 8) := by kernel_rfl
theorem sz27 : (Try.prog.info? 27).map (fun i => decide (i.size ≠ 0)) = some true := by kernel_rfl
theorem cmp52_other (w : World) (U d c : Nat) (cu : Array Value) (T : Nat) (hne : d ≠ c) (hU : w.heap[U]? = some (.cells cu T (0, 0))) : (binOp .eql 52 (.pointer (some ⟨U, d, none⟩)) (.pointer (some ⟨U, c, none⟩))).run Try.prog w = .ok (.bool false) w := by
  obtain ⟨j, hj, hs⟩ := Option.map_eq_some_iff.1 sz27
  exact run_eql_ptr_other w Try.underlying52 hj (of_decide_eq_true hs) (fun e => hne (by injection e)) hU hU
theorem cmp52_same (w : World) (a : Addr) : (binOp .eql 52 (.pointer (some a)) (.pointer (some a))).run Try.prog w = .ok (.bool true) w := by
  obtain ⟨j, hj, hs⟩ := Option.map_eq_some_iff.1 sz27
  exact run_eql_ptr_same w a Try.underlying52 hj
theorem sz29 : (Try.prog.info? 29).map (fun i => decide (i.size ≠ 0)) = some true := by kernel_rfl
theorem cmp53_other (w : World) (U d c : Nat) (cu : Array Value) (T : Nat) (hne : d ≠ c) (hU : w.heap[U]? = some (.cells cu T (0, 0))) : (binOp .eql 53 (.pointer (some ⟨U, d, none⟩)) (.pointer (some ⟨U, c, none⟩))).run Try.prog w = .ok (.bool false) w := by
  obtain ⟨j, hj, hs⟩ := Option.map_eq_some_iff.1 sz29
  exact run_eql_ptr_other w Try.underlying53 hj (of_decide_eq_true hs) (fun e => hne (by injection e)) hU hU
theorem cmp53_same (w : World) (a : Addr) : (binOp .eql 53 (.pointer (some a)) (.pointer (some a))).run Try.prog w = .ok (.bool true) w := by
  obtain ⟨j, hj, hs⟩ := Option.map_eq_some_iff.1 sz29
  exact run_eql_ptr_same w a Try.underlying53 hj
theorem RecSt.ne {w0 w : World} {B n : Nat} {nd fd : Value} {xs : List Int} {ys : List Value} {v : Value} (h : RecSt w0 w B nd fd xs) (ho : w.ownsRow w0.heap.size 3 1 v n ys) : some B ≠ v.ownBlock := by
  rcases ho.2 with ⟨rfl, _⟩ | ⟨g, cap, cur, rfl, hg, _⟩
  · simp [Value.ownBlock]
  · intro e
    have : B = g := by simpa [Value.ownBlock] using e
    have := h.lt
    omega
/-- Behind an append and the store of the new log. -/
theorem RecSt.grown {w0 w w1 : World} {B : Nat} {nd fd : Value} {xs : List Int} {x : Int} {v v' : Value} {o : Obj} (h : RecSt w0 w B nd fd xs) (hv : w.heap[B]? = some (.cells #[nd, fd, v] 51 (0, 0))) (ho : w.ownsRow w0.heap.size 3 1 v xs.length (ints xs))
    (hg : (w.alloc o).grownBy w1 v.ownBlock) (ho' : w1.ownsRow w0.heap.size 3 1 v' (xs.length + 1) (ints xs ++ [.int .i64 x])) : RecSt w0 (w1.setCell ⟨B, 2, none⟩ v') B nd fd (xs ++ [x]) := by
  have hB : B < w.heap.size := Nat.lt_of_lt_of_le h.lt h.size
  have hne := h.ne ho
  have hB1 : w1.heap[B]? = some (.cells #[nd, fd, v] 51 (0, 0)) := (hg.block B (by simp; omega) hne).trans ((Below.heap_alloc w o B hB).trans hv)
  have hset : (w1.setCell ⟨B, 2, none⟩ v').heap[B]? = some (.cells #[nd, fd, v'] 51 (0, 0)) := by simp [World.setCell, Array.getElem?_modify, hB1]
  refine ⟨hg.os.trans h.os, hg.tape.trans h.tape, hg.output.trans h.output, ?_, fun k hk hkB => ?_, h.lt, v', hset, ?_⟩
  · have h1 := hg.size
    have h2 := h.size
    simp at h1
    show w0.heap.size ≤ (w1.heap.modify _ _).size
    rw [Array.size_modify]
    omega
  · have hkw : k < w.heap.size := Nat.lt_of_lt_of_le hk h.size
    have hk2 : some k ≠ v.ownBlock := by
      rcases ho.2 with ⟨rfl, _⟩ | ⟨g, cap, cur, rfl, hgg, _⟩
      · simp [Value.ownBlock]
      · intro e
        have : k = g := by simpa [Value.ownBlock] using e
        omega
    exact ((Below.heap_setCell w1 ⟨B, 2, none⟩ v' k hkB).trans (hg.block k (by simp; omega) hk2)).trans ((Below.heap_alloc w o k hkw).trans (h.frame k hk hkB))
  · have e1 : ints (xs ++ [x]) = ints xs ++ [.int .i64 x] := by simp [ints]
    rw [e1, List.length_append]
    refine ⟨ho'.1, ?_⟩
    rcases ho'.2 with h0 | ⟨g, cap, cur, hv', hgg, hh, h1, h2, h3, h4⟩
    · exact .inl h0
    · refine .inr ⟨g, cap, cur, hv', hgg, ?_, h1, h2, h3, h4⟩
      exact (Below.heap_setCell w1 ⟨B, 2, none⟩ v' g (fun e => by have := h.lt; simp at e; omega)).trans hh
set_option maxRecDepth 100000 in
set_option maxHeartbeats 4000000 in
theorem rec_visit {w0 w : World} {B U T G H : Nat} {cu : Array Value} {ns fs : List Nat} {xs : List Int} (C : Ctx w0 B U T G H cu ns fs) (h : RecSt w0 w B (slv G ns.length) (slv H fs.length) xs) (hn : xs.length ≤ 1000) (p ctx : Value) (j c : Nat) (hjl : j < 10) (hj : ns[j]? = some c) (hne : ∀ i, i < j → ns[i]? ≠ some c) :
    Calls Try.prog 72 #[.pointer (some ⟨B, 0, none⟩), p, .pointer (some ⟨U, c, none⟩), ctx] w fun e w' => e = .returned (.tuple #[]) ∧ RecSt w0 w' B (slv G ns.length) (slv H fs.length) (xs ++ [(j : Int)]) := by
  obtain ⟨i0, hi, hz0, hz1, hz2⟩ := info_parts info3
  obtain ⟨v, hv, ho⟩ := h.evs
  have hB : B < w.heap.size := Nat.lt_of_lt_of_le h.lt h.size
  have hc0 : w.cell? ⟨B, 0, none⟩ = some (.slice (some ⟨G, 0, none⟩) ns.length ns.length) := cell_of hv rfl
  have hc : w.cell? ⟨B, 2, none⟩ = some v := cell_of hv rfl
  have hf : w.frozen? ⟨B, 2, none⟩ = false := by simp [World.frozen?, hv]
  have hjL : j < ns.length := (List.getElem?_eq_some_iff.1 hj).1
  have cells : ∀ k, k ≤ j → ∃ d, w.cell? ⟨G, k, none⟩ = some (.pointer (some ⟨U, d, none⟩)) ∧ ns[k]? = some d := by
    intro k hk
    have hkl : k < ns.length := by omega
    exact ⟨ns[k], cell_of (h.at C.g C.gB) (by simp [ptrs, hkl]), by simp [hkl]⟩
  have UU := h.at C.u C.uB
  have HH := Lib.hid h
  have HV := Lib.hid hv
  have HO := Lib.hid ho
  have HN := Lib.hid hn
  have HC := Lib.hid cells
  have HU := Lib.hid UU
  have HJ := Lib.hid hj
  have HE := Lib.hid hne
  have HJL := Lib.hid hjL
  clear h hv ho hn cells UU hj hne hjL
  go_enter Try.func72, Try.ntmps72
  go_wp2_with fail
  go_loop [8] (fun i => ∃ k : Nat, k ≤ j ∧ i = .int .i64 k) (fun i => j - (intOf i).toNat)
  case atStart => exact ⟨0, Nat.zero_le _, rfl⟩
  case round =>
    obtain ⟨k, hk, rfl⟩ := hrel
    obtain ⟨d, hd, hl⟩ := HC.out k hk
    have hkL : k < ns.length := by have := HJL.out; omega
    by_cases hlt : k < j
    · have hcd : d ≠ c := fun e => HE.out k hlt (by rw [hl, e])
      have hcmp := cmp52_other w U d c cu T hcd HU.out
      have HL := Lib.hid hl
      clear hl hcd
      go_wp2
      go_round
      case rel => exact ⟨k + 1, by omega, by go_num⟩
      case measure => first | (simp [intOf]; done) | (simp [intOf]; omega)
    · have hkj : k = j := by omega
      subst hkj
      have hdc : d = c := by have := HJ.out; rw [hl] at this; exact Option.some.inj this
      subst hdc
      clear hl
      have hcmp := cmp52_same w ⟨U, d, none⟩
      have HS : Hid (w0.heap.size ≤ (w.alloc (.cells #[.int .i64 (k : Int)] 3)).heap.size) := Nat.le_trans HH.out.size (by simp)
      go_wp2_with (at_builtin; go_must (refine wpList_append_own _ rfl _ _ 49 rfl w0.heap.size 3 i0 _ 1 8 Try.underlying49 hi hz0 hz1 hz2 rfl (by decide) v xs.length (ints xs) rfl (HO.out.alloc _) ⟨w.heap.size, 0, none⟩ 1 1 [.int .i64 (k : Int)] rfl rfl (World.news_of_block (cs := #[.int .i64 (k : Int)]) (t := 3) (fr := (0, 0)) (heap_alloc_new w _)) (by simp [Value.oneCell']) (by have := HN.out; simp only [maxLen]; omega) (by have := HN.out; omega) HS.out ?_; intro v' w1 hown' hgrow _; obtain ⟨g, cap, hv', _, _⟩ := hown'.form (by omega); have HB1 : w1.heap[B]? = some (.cells #[slv G ns.length, slv H fs.length, v] 51 (0, 0)) := (hgrow.block B (Nat.lt_of_lt_of_le hB (by simp)) (HH.out.ne HO.out)).trans ((Below.heap_alloc w _ B hB).trans HV.out); have hc1 : w1.cell? ⟨B, 2, none⟩ = some v := (cell_of HB1 rfl); have hf1 : w1.frozen? ⟨B, 2, none⟩ = false := (by simp [World.frozen?, HB1]); have HR := Lib.hid (HH.out.grown HV.out HO.out hgrow hown'); rw [hv']; rw [hv'] at HR; clear HB1 hgrow hown' hc hf hc0))
      refine bodyPost_ret (results_none rfl _ _ _) rfl ?_
      exact ⟨rfl, HR.out⟩
set_option maxRecDepth 100000 in
set_option maxHeartbeats 4000000 in
theorem rec_fodder {w0 w : World} {B U T G H : Nat} {cu : Array Value} {ns fs : List Nat} {xs : List Int} (C : Ctx w0 B U T G H cu ns fs) (h : RecSt w0 w B (slv G ns.length) (slv H fs.length) xs) (hn : xs.length ≤ 1000) (p ctx : Value) (j c : Nat) (hjl : j < 10) (hj : fs[j]? = some c) (hne : ∀ i, i < j → fs[i]? ≠ some c) :
    Calls Try.prog 52 #[.pointer (some ⟨B, 0, none⟩), p, .pointer (some ⟨U, c, none⟩), ctx] w fun e w' => e = .returned (.tuple #[]) ∧ RecSt w0 w' B (slv G ns.length) (slv H fs.length) (xs ++ [(10 + (j : Int))]) := by
  obtain ⟨i0, hi, hz0, hz1, hz2⟩ := info_parts info3
  obtain ⟨v, hv, ho⟩ := h.evs
  have hB : B < w.heap.size := Nat.lt_of_lt_of_le h.lt h.size
  have hc0 : w.cell? ⟨B, 1, none⟩ = some (.slice (some ⟨H, 0, none⟩) fs.length fs.length) := cell_of hv rfl
  have hc : w.cell? ⟨B, 2, none⟩ = some v := cell_of hv rfl
  have hf : w.frozen? ⟨B, 2, none⟩ = false := by simp [World.frozen?, hv]
  have hjL : j < fs.length := (List.getElem?_eq_some_iff.1 hj).1
  have cells : ∀ k, k ≤ j → ∃ d, w.cell? ⟨H, k, none⟩ = some (.pointer (some ⟨U, d, none⟩)) ∧ fs[k]? = some d := by
    intro k hk
    have hkl : k < fs.length := by omega
    exact ⟨fs[k], cell_of (h.at C.h C.hB) (by simp [ptrs, hkl]), by simp [hkl]⟩
  have UU := h.at C.u C.uB
  have HH := Lib.hid h
  have HV := Lib.hid hv
  have HO := Lib.hid ho
  have HN := Lib.hid hn
  have HC := Lib.hid cells
  have HU := Lib.hid UU
  have HJ := Lib.hid hj
  have HE := Lib.hid hne
  have HJL := Lib.hid hjL
  clear h hv ho hn cells UU hj hne hjL
  go_enter Try.func52, Try.ntmps52
  go_wp2_with fail
  go_loop [8] (fun i => ∃ k : Nat, k ≤ j ∧ i = .int .i64 k) (fun i => j - (intOf i).toNat)
  case atStart => exact ⟨0, Nat.zero_le _, rfl⟩
  case round =>
    obtain ⟨k, hk, rfl⟩ := hrel
    obtain ⟨d, hd, hl⟩ := HC.out k hk
    have hkL : k < fs.length := by have := HJL.out; omega
    by_cases hlt : k < j
    · have hcd : d ≠ c := fun e => HE.out k hlt (by rw [hl, e])
      have hcmp := cmp53_other w U d c cu T hcd HU.out
      have HL := Lib.hid hl
      clear hl hcd
      go_wp2
      go_round
      case rel => exact ⟨k + 1, by omega, by go_num⟩
      case measure => first | (simp [intOf]; done) | (simp [intOf]; omega)
    · have hkj : k = j := by omega
      subst hkj
      have hdc : d = c := by have := HJ.out; rw [hl] at this; exact Option.some.inj this
      subst hdc
      clear hl
      have hcmp := cmp53_same w ⟨U, d, none⟩
      have HS : Hid (w0.heap.size ≤ (w.alloc (.cells #[.int .i64 (10 + (k : Int))] 3)).heap.size) := Nat.le_trans HH.out.size (by simp)
      go_wp2_with (at_builtin; go_must (refine wpList_append_own _ rfl _ _ 49 rfl w0.heap.size 3 i0 _ 1 8 Try.underlying49 hi hz0 hz1 hz2 rfl (by decide) v xs.length (ints xs) rfl (HO.out.alloc _) ⟨w.heap.size, 0, none⟩ 1 1 [.int .i64 (10 + (k : Int))] rfl rfl (World.news_of_block (cs := #[.int .i64 (10 + (k : Int))]) (t := 3) (fr := (0, 0)) (heap_alloc_new w _)) (by simp [Value.oneCell']) (by have := HN.out; simp only [maxLen]; omega) (by have := HN.out; omega) HS.out ?_; intro v' w1 hown' hgrow _; obtain ⟨g, cap, hv', _, _⟩ := hown'.form (by omega); have HB1 : w1.heap[B]? = some (.cells #[slv G ns.length, slv H fs.length, v] 51 (0, 0)) := (hgrow.block B (Nat.lt_of_lt_of_le hB (by simp)) (HH.out.ne HO.out)).trans ((Below.heap_alloc w _ B hB).trans HV.out); have hc1 : w1.cell? ⟨B, 2, none⟩ = some v := (cell_of HB1 rfl); have hf1 : w1.frozen? ⟨B, 2, none⟩ = false := (by simp [World.frozen?, HB1]); have HR := Lib.hid (HH.out.grown HV.out HO.out hgrow hown'); rw [hv']; rw [hv'] at HR; clear HB1 hgrow hown' hc hf hc0))
      refine bodyPost_ret (results_none rfl _ _ _) rfl ?_
      exact ⟨rfl, HR.out⟩
end Go.Proofs.Ytekiepkopcpdbaa
