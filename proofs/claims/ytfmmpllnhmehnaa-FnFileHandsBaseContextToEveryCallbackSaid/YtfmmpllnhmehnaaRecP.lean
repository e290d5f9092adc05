/- The three passes: pass.Base, the recorder, the recorder with a context. -/
import Derived.Test.YtfmmpllnhmehnaaFod
import Derived.Deep.DeepMust
import Derived.Deep.AppendLies
import Derived.Deep.RegionLaw
namespace Go.Proofs.Ytfmmpllnhmehnaa
open Go.RowKit
theorem cells39 : Try.prog.cellsOf 39 = 2 := by kernel_rfl
theorem byte39 : byteOfCell Try.prog Try.prog.depth 39 0 = some 0 := by kernel_rfl
theorem run_byteOf0_39 (w : World) (B : Nat) (c : Array Value) (hv : w.heap[B]? = some (.cells c 39 (0, 0))) : (byteOf ⟨B, 0, none⟩).run Try.prog w = .ok 0 w := by
  simp [byteOf, noView, viewAt, shape, program, Sem.run, World.shape?, hv, cells39, byte39, go_sem]
theorem run_partAt0_39 (w : World) (B : Nat) (c : Array Value) (hv : w.heap[B]? = some (.cells c 39 (0, 0))) : (partAt ⟨B, 0, none⟩ 0 0).run Try.prog w = .ok ⟨B, 0, none⟩ w := by
  simp [partAt, run_byteOf0_39 w B c hv]
theorem run_place0_39 (w : World) (B : Nat) (c : Array Value) (hv : w.heap[B]? = some (.cells c 39 (0, 0))) (f : Field) (h0 : f.offset = 0) (h1 : f.byteOffset = 0) (h2 : (Try.prog.info? f.type).map (·.size) = some 0) : (fieldPlace ⟨B, 0, none⟩ f).run Try.prog w = .ok ⟨B, 0, none⟩ w := by
  cases hi : Try.prog.info? f.type with
  | none => rw [hi] at h2; cases h2
  | some i =>
    rw [hi] at h2
    simp at h2
    simp [fieldPlace, sizeOf, typeInfo, hi, h2, h0, h1, run_partAt0_39 w B c hv]
theorem cells49 : Try.prog.cellsOf 49 = 2 := by kernel_rfl
theorem byte49 : byteOfCell Try.prog Try.prog.depth 49 0 = some 0 := by kernel_rfl
theorem run_byteOf0_49 (w : World) (B : Nat) (c : Array Value) (hv : w.heap[B]? = some (.cells c 49 (0, 0))) : (byteOf ⟨B, 0, none⟩).run Try.prog w = .ok 0 w := by
  simp [byteOf, noView, viewAt, shape, program, Sem.run, World.shape?, hv, cells49, byte49, go_sem]
theorem run_partAt0_49 (w : World) (B : Nat) (c : Array Value) (hv : w.heap[B]? = some (.cells c 49 (0, 0))) : (partAt ⟨B, 0, none⟩ 0 0).run Try.prog w = .ok ⟨B, 0, none⟩ w := by
  simp [partAt, run_byteOf0_49 w B c hv]
theorem run_place0_49 (w : World) (B : Nat) (c : Array Value) (hv : w.heap[B]? = some (.cells c 49 (0, 0))) (f : Field) (h0 : f.offset = 0) (h1 : f.byteOffset = 0) (h2 : (Try.prog.info? f.type).map (·.size) = some 0) : (fieldPlace ⟨B, 0, none⟩ f).run Try.prog w = .ok ⟨B, 0, none⟩ w := by
  cases hi : Try.prog.info? f.type with
  | none => rw [hi] at h2; cases h2
  | some i =>
    rw [hi] at h2
    simp at h2
    simp [fieldPlace, sizeOf, typeInfo, hi, h2, h0, h1, run_partAt0_49 w B c hv]
theorem base_field : (match Try.prog.underlying 39 with | some (.struct fs) => (fs[0]?).map (fun f => (f.offset, f.byteOffset, (Try.prog.info? f.type).map (·.size))) | _ => none) = some (0, 0, some 0) := by kernel_rfl
theorem under_base : (match Try.prog.underlying 39 with | some (.struct fs) => (fs[0]?).map (fun f => Try.prog.underlying f.type) | _ => none) = some (some (.struct #[])) := by kernel_rfl
theorem rec_field : (match Try.prog.underlying 49 with | some (.struct fs) => (fs[0]?).map (fun f => (f.offset, f.byteOffset, f.type, (Try.prog.info? f.type).map (·.size))) | _ => none) = some (0, 0, 39, some 2) := by kernel_rfl
theorem base39 : ∃ fs f, Try.prog.underlying 39 = some (.struct fs) ∧ fs[0]? = some f ∧ f.offset = 0 ∧ f.byteOffset = 0 ∧ (Try.prog.info? f.type).map (·.size) = some 0 ∧ Try.prog.underlying f.type = some (.struct #[]) := by
  have hb := base_field
  have hu := under_base
  cases hs : Try.prog.underlying 39 with
  | none => rw [hs] at hb; cases hb
  | some d =>
    rw [hs] at hb hu
    cases d <;> try (cases hb; done)
    rename_i fs
    simp only at hb hu
    cases hf0 : fs[0]? with
    | none => rw [hf0] at hb; cases hb
    | some f =>
      rw [hf0] at hb hu
      simp only [Option.map_some, Option.some.injEq, Prod.mk.injEq] at hb hu
      exact ⟨fs, f, rfl, hf0, hb.1, hb.2.1, hb.2.2, hu⟩
theorem rec49 : ∃ fs f, Try.prog.underlying 49 = some (.struct fs) ∧ fs[0]? = some f ∧ f.offset = 0 ∧ f.byteOffset = 0 ∧ f.type = 39 ∧ (Try.prog.info? f.type).map (·.size) = some 2 := by
  have hb := rec_field
  cases hs : Try.prog.underlying 49 with
  | none => rw [hs] at hb; cases hb
  | some d =>
    rw [hs] at hb
    cases d <;> try (cases hb; done)
    rename_i fs
    simp only at hb
    cases hf0 : fs[0]? with
    | none => rw [hf0] at hb; cases hb
    | some f =>
      rw [hf0] at hb
      simp only [Option.map_some, Option.some.injEq, Prod.mk.injEq] at hb
      exact ⟨fs, f, rfl, hf0, hb.1, hb.2.1, hb.2.2.1, hb.2.2.2⟩
theorem place49 (w : World) (B : Nat) (f : Field) (h0 : f.offset = 0) (h2 : (Try.prog.info? f.type).map (·.size) = some 2) : (fieldPlace ⟨B, 0, none⟩ f).run Try.prog w = .ok ⟨B, 0, none⟩ w := by
  cases hi : Try.prog.info? f.type with
  | none => rw [hi] at h2; cases h2
  | some i =>
    rw [hi] at h2
    simp at h2
    simp [fieldPlace, sizeOf, typeInfo, hi, h2, h0, Addr.add]
theorem run_method_34 (fuel : Nat) (name : String) (fid : Nat) (hfind : ((Try.prog.info? 34).bind fun i => i.methods.find? (·.name == name)).map (fun m => (m.path, m.func)) = some (#[{ struct := 39, index := 0, deref := true }], some (fid, true)))
    (w : World) (B : Nat) (c : Array Value) (hv : w.heap[B]? = some (.cells c 39 (0, 0))) : (method (fuel + 1) 34 (.pointer (some ⟨B, 0, none⟩)) name).run Try.prog w = .ok (fid, .pointer (some ⟨B, 0, none⟩)) w := by
  cases hi : Try.prog.info? 34 with
  | none => rw [hi] at hfind; cases hfind
  | some i =>
    rw [hi] at hfind
    simp only [Option.bind_some] at hfind
    cases hm : i.methods.find? (·.name == name) with
    | none => rw [hm] at hfind; cases hfind
    | some m =>
      rw [hm] at hfind
      simp only [Option.map_some, Option.some.injEq, Prod.mk.injEq] at hfind
      obtain ⟨hp, hf⟩ := hfind
      obtain ⟨fs, f, hs, hf0, b1, b2, b3, hu⟩ := base39
      rw [method]
      simp [typeInfo, hi, hm, hp, hf, follow, run_underlying hs, hf0, Place.get, asAddr, run_place0_39 w B c hv f b1 b2 b3, receiverAt, run_underlying hu]
theorem run_method_47 (fuel : Nat) (name : String) (fid : Nat) (hfind : ((Try.prog.info? 47).bind fun i => i.methods.find? (·.name == name)).map (fun m => (m.path, m.func)) = some (#[{ struct := 49, index := 0, deref := true }, { struct := 39, index := 0, deref := false }], some (fid, true)))
    (w : World) (B : Nat) (c : Array Value) (hv : w.heap[B]? = some (.cells c 49 (0, 0))) : (method (fuel + 1) 47 (.pointer (some ⟨B, 0, none⟩)) name).run Try.prog w = .ok (fid, .pointer (some ⟨B, 0, none⟩)) w := by
  cases hi : Try.prog.info? 47 with
  | none => rw [hi] at hfind; cases hfind
  | some i =>
    rw [hi] at hfind
    simp only [Option.bind_some] at hfind
    cases hm : i.methods.find? (·.name == name) with
    | none => rw [hm] at hfind; cases hfind
    | some m =>
      rw [hm] at hfind
      simp only [Option.map_some, Option.some.injEq, Prod.mk.injEq] at hfind
      obtain ⟨hp, hf⟩ := hfind
      obtain ⟨fs, f, hs, hf0, b1, b2, b3, hu⟩ := base39
      obtain ⟨gs, h, hs', hf0', d1, d2, d3, d4⟩ := rec49
      rw [method]
      simp [typeInfo, hi, hm, hp, hf, follow, run_underlying hs, run_underlying hs', hf0, hf0', Place.get, asAddr, place49 w B h d1 d4, run_place0_49 w B c hv f b1 b2 b3, receiverAt, run_underlying hu]
/-- The recorder's block: the list seen, the count of contexts. -/
def ints (xs : List Int) : List Value := xs.map fun x => .int .i64 x
structure RecSt (T : Nat) (cnt : Nat → Int) (w0 : World) (B : Nat) (w : World) (xs : List Int) : Prop where
  os : w.os = w0.os
  tape : w.tape = w0.tape
  output : w.output = w0.output
  size : w0.heap.size ≤ w.heap.size
  frame : ∀ k, k < w0.heap.size → k ≠ B → w.heap[k]? = w0.heap[k]?
  lt : B < w0.heap.size
  evs : ∃ v, w.heap[B]? = some (.cells #[v, .int .i64 (cnt xs.length)] T (0, 0)) ∧ w.ownsRow w0.heap.size 3 1 v xs.length (ints xs)
theorem RecSt.alloc {T : Nat} {cnt : Nat → Int} {w0 w : World} {B : Nat} {xs : List Int} (h : RecSt T cnt w0 B w xs) (o : Obj) : RecSt T cnt w0 B (w.alloc o) xs := by
  obtain ⟨v, hv, ho⟩ := h.evs
  have hB : B < w.heap.size := Nat.lt_of_lt_of_le h.lt h.size
  exact ⟨h.os, h.tape, h.output, Nat.le_trans h.size (by simp), fun k hk hne => (Below.heap_alloc w o k (Nat.lt_of_lt_of_le hk h.size)).trans (h.frame k hk hne), h.lt, v, (Below.heap_alloc w o B hB).trans hv, ho.alloc o⟩
theorem RecSt.drew {T : Nat} {cnt : Nat → Int} {w0 w : World} {B : Nat} {xs : List Int} (h : RecSt T cnt w0 B w xs) : RecSt T cnt w0 B w.drew xs := ⟨h.os, h.tape, h.output, h.size, h.frame, h.lt, h.evs⟩
theorem RecSt.ne {T n : Nat} {cnt : Nat → Int} {w0 w : World} {B : Nat} {xs : List Int} {ys : List Value} {v : Value} (h : RecSt T cnt w0 B w xs) (ho : w.ownsRow w0.heap.size 3 1 v n ys) : some B ≠ v.ownBlock := by
  rcases ho.2 with ⟨rfl, _⟩ | ⟨g, cap, cur, rfl, hg, _⟩
  · simp [Value.ownBlock]
  · intro e
    have : B = g := by simpa [Value.ownBlock] using e
    have := h.lt
    omega
theorem heap_new_drew (w : World) (o : Obj) : (w.alloc o).drew.heap[w.heap.size]? = some o := heap_alloc_new w o
theorem grown_of_drew {w w' : World} {r : Option Nat} (h : w.drew.grownBy w' r) : w.grownBy w' r := ⟨h.os, h.tape, h.output, h.size, h.block⟩
theorem info3 : (Try.prog.info? 3).map (fun i => (i.zero, i.size, i.bytes)) = some (some (.int .i64 0), 1, 8) := by kernel_rfl
/-- Behind an append, the store of the new list, the store of the count. -/
theorem RecSt.grown {T : Nat} {cnt : Nat → Int} {w0 w w1 w2 : World} {B : Nat} {xs : List Int} {x : Int} {v v' : Value} {o : Obj} (hT : ¬ Old T) (h : RecSt T cnt w0 B w xs) (hv : w.heap[B]? = some (.cells #[v, .int .i64 (cnt xs.length)] T (0, 0))) (ho : w.ownsRow w0.heap.size 3 1 v xs.length (ints xs))
    (hg : (w.alloc o).grownBy w1 v.ownBlock) (ho' : w1.ownsRow w0.heap.size 3 1 v' (xs.length + 1) (ints xs ++ [.int .i64 x]))
    (h2 : w2.heap[B]? = some (.cells #[v', .int .i64 (cnt (xs.length + 1))] T (0, 0))) (h3 : Frm w1 w2 B) : RecSt T cnt w0 B w2 (xs ++ [x]) ∧ Kept w w2 := by
  have hB : B < w.heap.size := Nat.lt_of_lt_of_le h.lt h.size
  have hsz := hg.size
  have hs3 := h3.size
  have hsw := h.size
  simp at hsz
  have hold : ∀ k, k < w.heap.size → k ≠ B → some k ≠ v.ownBlock → w2.heap[k]? = w.heap[k]? := fun k hk hn ho => (h3.frame k (by omega) hn).trans ((hg.block k (by simp; omega) ho).trans (Below.heap_alloc w o k hk))
  refine ⟨⟨h3.os.trans (hg.os.trans h.os), h3.tape.trans (hg.tape.trans h.tape), h3.output.trans (hg.output.trans h.output), by omega, fun k hk hkB => ?_, h.lt, v', by rw [List.length_append]; exact h2, ?_⟩, by omega, fun k c t hx hot => ?_⟩
  · have hk2 : some k ≠ v.ownBlock := by
      rcases ho.2 with ⟨rfl, _⟩ | ⟨g, cap, cur, rfl, hgg, _⟩
      · simp [Value.ownBlock]
      · intro e
        have : k = g := by simpa [Value.ownBlock] using e
        omega
    exact (hold k (by omega) hkB hk2).trans (h.frame k hk hkB)
  · have e1 : ints (xs ++ [x]) = ints xs ++ [.int .i64 x] := by simp [ints]
    rw [e1, List.length_append]
    refine ⟨ho'.1, ?_⟩
    rcases ho'.2 with h0 | ⟨g, cap, cur, hv', hgg, hh, h1, h2', h3', h4⟩
    · exact .inl h0
    · refine .inr ⟨g, cap, cur, hv', hgg, ?_, h1, h2', h3', h4⟩
      exact (h3.frame g (lt_of_at hh) (by have := h.lt; omega)).trans hh
  · have hk : k < w.heap.size := lt_of_at hx
    refine (hold k hk (fun e => ?_) ?_).trans hx
    · subst e
      rw [hx] at hv
      injection hv with hv
      injection hv with _ hv
      exact hT (hv ▸ hot)
    · rcases ho.2 with ⟨rfl, _⟩ | ⟨g, cap, cur, rfl, _, hh, _⟩
      · simp [Value.ownBlock]
      · intro e
        have : k = g := by simpa [Value.ownBlock] using e
        subst this
        rw [hx] at hh
        injection hh with hh
        injection hh with _ hh
        exact hot.1 hh
set_option maxRecDepth 100000 in
set_option maxHeartbeats 4000000 in
theorem fe_nil_39 {w0 w : World} {B : Nat} {xs : List Int} (b : Value) (E eo : Nat) (x : Int) (h : RecSt 39 (fun _ => 0) w0 B w xs) (hn : Fits (xs ++ [x])) (hx : w.cell? ⟨E, eo + 2, none⟩ = some (.int .i64 x)) :
    Calls Try.prog 71 #[.pointer (some ⟨B, 0, none⟩), b, .pointer (some ⟨E, eo, none⟩), .nilIface] w fun e w' => e = .returned (.tuple #[]) ∧ RecSt 39 (fun _ => 0) w0 B w' (xs ++ [x]) ∧ Kept w w' := by
  obtain ⟨i0, hi, hz0, hz1, hz2⟩ := info_parts info3
  obtain ⟨v, hv, ho⟩ := h.evs
  have hB : B < w.heap.size := Nat.lt_of_lt_of_le h.lt h.size
  have hc : w.cell? ⟨B, 0, none⟩ = some v := cell_of hv rfl
  have HH := Lib.hid h
  have HV := Lib.hid hv
  have HO := Lib.hid ho
  have HN := Lib.hid (show xs.length + 1 ≤ 1000000 by have := hn; simpa [Fits] using this)
  have HB := Lib.hid hB
  have HS : Hid (w0.heap.size ≤ (w.alloc (.cells #[.int .i64 x] 3)).drew.heap.size) := Nat.le_trans h.size (by show w.heap.size ≤ (w.alloc _).heap.size; simp)
  have hfz : w.frozen? ⟨B, 0, none⟩ = false := by simp [World.frozen?, hv]
  have hxl := True.intro
  clear h hv ho hn
  go_enter Try.func71, Try.ntmps71
  go_wp2_with fail
  go_region_law ((refine step_append_lies _ rfl (.tmp 12) (.tmp 17) 37 rfl w0.heap.size 3 i0 _ 1 8 Try.underlying37 hi hz0 hz1 hz2 rfl (by decide) v xs.length (ints xs) (by simp [Act.eval]) (World.ownsRow.drew (HO.out.alloc _)) ⟨w.heap.size, 0, none⟩ 1 1 [.int .i64 x] (by simp [Act.eval]) rfl (World.news_of_block (cs := #[.int .i64 x]) (t := 3) (fr := (0, 0)) (heap_new_drew w _)) (by simp [Value.oneCell']) (by omega) (by have := HN.out; simp only [maxLen]; omega) (by have := HN.out; omega) HS.out _ rfl ?_; intro g cap w1 hown' hgrow0 _ _; have hgrow := grown_of_drew hgrow0; have HB1 := Lib.hid ((hgrow.block B (Nat.lt_of_lt_of_le HB.out (by simp)) (HH.out.ne HO.out)).trans ((Below.heap_alloc w _ B HB.out).trans HV.out)); have hc1 : w1.cell? ⟨B, 0, none⟩ = some v := (cell_of HB1.out rfl); have hc2 : w1.cell? ⟨B, 1, none⟩ = some (.int .i64 (0)) := (cell_of (k := 1) HB1.out rfl); have hf1 : ∀ i, w1.frozen? ⟨B, i, none⟩ = false := (by intro i; simp [World.frozen?, HB1.out]); have HOW := Lib.hid hown'; have HGR := Lib.hid hgrow; clear hgrow hgrow0 hown'))
  all_goals go_wp2
  all_goals go_end0
  all_goals
    have R := RecSt.grown (by decide) HH.out HV.out HO.out HGR.out HOW.out (w2 := w1.setCell ⟨B, 0, none⟩ _) ((at_set (i := 0) HB1.out).trans rfl) ((Frm.refl w1 B).set _ _)
    exact ⟨rfl, R.1, R.2⟩
set_option maxRecDepth 100000 in
set_option maxHeartbeats 4000000 in
theorem fe_ctx_49 (tc : Nat) (vc : Value) {w0 w : World} {B : Nat} {xs : List Int} (b : Value) (E eo : Nat) (x : Int) (h : RecSt 49 (fun n => (n : Int)) w0 B w xs) (hn : Fits (xs ++ [x])) (hx : w.cell? ⟨E, eo + 2, none⟩ = some (.int .i64 x)) :
    Calls Try.prog 71 #[.pointer (some ⟨B, 0, none⟩), b, .pointer (some ⟨E, eo, none⟩), (.iface tc vc)] w fun e w' => e = .returned (.tuple #[]) ∧ RecSt 49 (fun n => (n : Int)) w0 B w' (xs ++ [x]) ∧ Kept w w' := by
  obtain ⟨i0, hi, hz0, hz1, hz2⟩ := info_parts info3
  obtain ⟨v, hv, ho⟩ := h.evs
  have hB : B < w.heap.size := Nat.lt_of_lt_of_le h.lt h.size
  have hc : w.cell? ⟨B, 0, none⟩ = some v := cell_of hv rfl
  have HH := Lib.hid h
  have HV := Lib.hid hv
  have HO := Lib.hid ho
  have HN := Lib.hid (show xs.length + 1 ≤ 1000000 by have := hn; simpa [Fits] using this)
  have HB := Lib.hid hB
  have HS : Hid (w0.heap.size ≤ (w.alloc (.cells #[.int .i64 x] 3)).drew.heap.size) := Nat.le_trans h.size (by show w.heap.size ≤ (w.alloc _).heap.size; simp)
  have hfz : w.frozen? ⟨B, 0, none⟩ = false := by simp [World.frozen?, hv]
  have hxl : (xs.length : Int) + 1 ≤ 1000000 := by have := HN.out; omega
  clear h hv ho hn
  go_enter Try.func71, Try.ntmps71
  go_wp2_with fail
  go_region_law ((refine step_append_lies _ rfl (.tmp 12) (.tmp 17) 37 rfl w0.heap.size 3 i0 _ 1 8 Try.underlying37 hi hz0 hz1 hz2 rfl (by decide) v xs.length (ints xs) (by simp [Act.eval]) (World.ownsRow.drew (HO.out.alloc _)) ⟨w.heap.size, 0, none⟩ 1 1 [.int .i64 x] (by simp [Act.eval]) rfl (World.news_of_block (cs := #[.int .i64 x]) (t := 3) (fr := (0, 0)) (heap_new_drew w _)) (by simp [Value.oneCell']) (by omega) (by have := HN.out; simp only [maxLen]; omega) (by have := HN.out; omega) HS.out _ rfl ?_; intro g cap w1 hown' hgrow0 _ _; have hgrow := grown_of_drew hgrow0; have HB1 := Lib.hid ((hgrow.block B (Nat.lt_of_lt_of_le HB.out (by simp)) (HH.out.ne HO.out)).trans ((Below.heap_alloc w _ B HB.out).trans HV.out)); have hc1 : w1.cell? ⟨B, 0, none⟩ = some v := (cell_of HB1.out rfl); have hc2 : w1.cell? ⟨B, 1, none⟩ = some (.int .i64 ((xs.length : Int))) := (cell_of (k := 1) HB1.out rfl); have hf1 : ∀ i, w1.frozen? ⟨B, i, none⟩ = false := (by intro i; simp [World.frozen?, HB1.out]); have HOW := Lib.hid hown'; have HGR := Lib.hid hgrow; clear hgrow hgrow0 hown'))
  all_goals go_wp2
  all_goals go_end0
  all_goals
    have R := RecSt.grown (by decide) HH.out HV.out HO.out HGR.out HOW.out (w2 := (w1.setCell ⟨B, 0, none⟩ _).setCell ⟨B, 1, none⟩ _) ((at_set (i := 1) (at_set (i := 0) HB1.out)).trans rfl) (((Frm.refl w1 B).set _ _).set _ _)
    exact ⟨rfl, R.1, R.2⟩
theorem feB_any (b p x ctx : Value) (w : World) : Calls Try.prog 66 #[b, p, x, ctx] w fun e w' => e = .returned (.tuple #[]) ∧ w = w' := by
  go_enter Try.func66, Try.ntmps66
  go_wp2
  go_end0
  exact ⟨rfl, rfl⟩
theorem cf66_base (args : Array Value) (w : World) : (callFunc 66 args).run Try.prog w = .ok (.enter 66 args) w := by kernel_rfl
theorem nn_base_FodderElement (B : Nat) (w : World) : (nilAhead 356 44 (.pointer (some ⟨B, 0, none⟩)) "FodderElement").run Try.prog w = .ok (some false) w := by kernel_rfl
theorem mm_base_FodderElement (B : Nat) (w : World) : (method 356 44 (.pointer (some ⟨B, 0, none⟩)) "FodderElement").run Try.prog w = .ok (66, .pointer (some ⟨B, 0, none⟩)) w := by kernel_rfl
theorem nn_base_Fodder (B : Nat) (w : World) : (nilAhead 356 44 (.pointer (some ⟨B, 0, none⟩)) "Fodder").run Try.prog w = .ok (some false) w := by kernel_rfl
theorem mm_base_Fodder (B : Nat) (w : World) : (method 356 44 (.pointer (some ⟨B, 0, none⟩)) "Fodder").run Try.prog w = .ok (45, .pointer (some ⟨B, 0, none⟩)) w := by kernel_rfl
theorem nn_base_Visit (B : Nat) (w : World) : (nilAhead 356 44 (.pointer (some ⟨B, 0, none⟩)) "Visit").run Try.prog w = .ok (some false) w := by kernel_rfl
theorem mm_base_Visit (B : Nat) (w : World) : (method 356 44 (.pointer (some ⟨B, 0, none⟩)) "Visit").run Try.prog w = .ok (16, .pointer (some ⟨B, 0, none⟩)) w := by kernel_rfl
theorem nn_base_Array (B : Nat) (w : World) : (nilAhead 356 44 (.pointer (some ⟨B, 0, none⟩)) "Array").run Try.prog w = .ok (some false) w := by kernel_rfl
theorem mm_base_Array (B : Nat) (w : World) : (method 356 44 (.pointer (some ⟨B, 0, none⟩)) "Array").run Try.prog w = .ok (38, .pointer (some ⟨B, 0, none⟩)) w := by kernel_rfl
theorem nn_base_Binary (B : Nat) (w : World) : (nilAhead 356 44 (.pointer (some ⟨B, 0, none⟩)) "Binary").run Try.prog w = .ok (some false) w := by kernel_rfl
theorem mm_base_Binary (B : Nat) (w : World) : (method 356 44 (.pointer (some ⟨B, 0, none⟩)) "Binary").run Try.prog w = .ok (41, .pointer (some ⟨B, 0, none⟩)) w := by kernel_rfl
theorem nn_base_Conditional (B : Nat) (w : World) : (nilAhead 356 44 (.pointer (some ⟨B, 0, none⟩)) "Conditional").run Try.prog w = .ok (some false) w := by kernel_rfl
theorem mm_base_Conditional (B : Nat) (w : World) : (method 356 44 (.pointer (some ⟨B, 0, none⟩)) "Conditional").run Try.prog w = .ok (42, .pointer (some ⟨B, 0, none⟩)) w := by kernel_rfl
theorem nn_base_LiteralNull (B : Nat) (w : World) : (nilAhead 356 44 (.pointer (some ⟨B, 0, none⟩)) "LiteralNull").run Try.prog w = .ok (some false) w := by kernel_rfl
theorem mm_base_LiteralNull (B : Nat) (w : World) : (method 356 44 (.pointer (some ⟨B, 0, none⟩)) "LiteralNull").run Try.prog w = .ok (53, .pointer (some ⟨B, 0, none⟩)) w := by kernel_rfl
theorem nn_base_Parens (B : Nat) (w : World) : (nilAhead 356 44 (.pointer (some ⟨B, 0, none⟩)) "Parens").run Try.prog w = .ok (some false) w := by kernel_rfl
theorem mm_base_Parens (B : Nat) (w : World) : (method 356 44 (.pointer (some ⟨B, 0, none⟩)) "Parens").run Try.prog w = .ok (59, .pointer (some ⟨B, 0, none⟩)) w := by kernel_rfl
theorem nn_base_Unary (B : Nat) (w : World) : (nilAhead 356 44 (.pointer (some ⟨B, 0, none⟩)) "Unary").run Try.prog w = .ok (some false) w := by kernel_rfl
theorem mm_base_Unary (B : Nat) (w : World) : (method 356 44 (.pointer (some ⟨B, 0, none⟩)) "Unary").run Try.prog w = .ok (63, .pointer (some ⟨B, 0, none⟩)) w := by kernel_rfl
theorem nn_base_Var (B : Nat) (w : World) : (nilAhead 356 44 (.pointer (some ⟨B, 0, none⟩)) "Var").run Try.prog w = .ok (some false) w := by kernel_rfl
theorem mm_base_Var (B : Nat) (w : World) : (method 356 44 (.pointer (some ⟨B, 0, none⟩)) "Var").run Try.prog w = .ok (64, .pointer (some ⟨B, 0, none⟩)) w := by kernel_rfl
theorem pass_base (w0 : World) (B : Nat) (ctx : Value) : PassOK 44 B 66 ctx (fun w _ => Below w0.heap.size w0 w) :=
  ⟨fun o h => h.alloc h.size o, fun h => ⟨h.os, h.tape, h.output, h.size, h.block⟩, fun _ _ _ _ h _ _ => (feB_any _ _ _ _ _).mono fun _ _ h2 => ⟨h2.1, h2.2 ▸ h, h2.2 ▸ Kept.refl _⟩, cf66_base, fun _ => nn_base_FodderElement _ _, fun _ => mm_base_FodderElement _ _, fun _ => nn_base_Fodder _ _, fun _ => mm_base_Fodder _ _, fun _ => nn_base_Visit _ _, fun _ => mm_base_Visit _ _, fun _ => nn_base_Array _ _, fun _ => mm_base_Array _ _, fun _ => nn_base_Binary _ _, fun _ => mm_base_Binary _ _, fun _ => nn_base_Conditional _ _, fun _ => mm_base_Conditional _ _, fun _ => nn_base_LiteralNull _ _, fun _ => mm_base_LiteralNull _ _, fun _ => nn_base_Parens _ _, fun _ => mm_base_Parens _ _, fun _ => nn_base_Unary _ _, fun _ => mm_base_Unary _ _, fun _ => nn_base_Var _ _, fun _ => mm_base_Var _ _⟩
theorem cf71_rec (args : Array Value) (w : World) : (callFunc 71 args).run Try.prog w = .ok (.enter 71 args) w := by kernel_rfl
theorem nn_rec_FodderElement (B : Nat) (w : World) : (nilAhead 356 34 (.pointer (some ⟨B, 0, none⟩)) "FodderElement").run Try.prog w = .ok (some false) w := by kernel_rfl
theorem mm_rec_FodderElement (B : Nat) (w : World) : (method 356 34 (.pointer (some ⟨B, 0, none⟩)) "FodderElement").run Try.prog w = .ok (71, .pointer (some ⟨B, 0, none⟩)) w := by kernel_rfl
theorem nn_rec_Fodder (B : Nat) (w : World) : (nilAhead 356 34 (.pointer (some ⟨B, 0, none⟩)) "Fodder").run Try.prog w = .ok (some false) w := by kernel_rfl
theorem find_rec_Fodder : ((Try.prog.info? 34).bind fun i => i.methods.find? (·.name == "Fodder")).map (fun m => (m.path, m.func)) = some (#[{ struct := 39, index := 0, deref := true }], some (45, true)) := by kernel_rfl
theorem nn_rec_Visit (B : Nat) (w : World) : (nilAhead 356 34 (.pointer (some ⟨B, 0, none⟩)) "Visit").run Try.prog w = .ok (some false) w := by kernel_rfl
theorem find_rec_Visit : ((Try.prog.info? 34).bind fun i => i.methods.find? (·.name == "Visit")).map (fun m => (m.path, m.func)) = some (#[{ struct := 39, index := 0, deref := true }], some (16, true)) := by kernel_rfl
theorem nn_rec_Array (B : Nat) (w : World) : (nilAhead 356 34 (.pointer (some ⟨B, 0, none⟩)) "Array").run Try.prog w = .ok (some false) w := by kernel_rfl
theorem find_rec_Array : ((Try.prog.info? 34).bind fun i => i.methods.find? (·.name == "Array")).map (fun m => (m.path, m.func)) = some (#[{ struct := 39, index := 0, deref := true }], some (38, true)) := by kernel_rfl
theorem nn_rec_Binary (B : Nat) (w : World) : (nilAhead 356 34 (.pointer (some ⟨B, 0, none⟩)) "Binary").run Try.prog w = .ok (some false) w := by kernel_rfl
theorem find_rec_Binary : ((Try.prog.info? 34).bind fun i => i.methods.find? (·.name == "Binary")).map (fun m => (m.path, m.func)) = some (#[{ struct := 39, index := 0, deref := true }], some (41, true)) := by kernel_rfl
theorem nn_rec_Conditional (B : Nat) (w : World) : (nilAhead 356 34 (.pointer (some ⟨B, 0, none⟩)) "Conditional").run Try.prog w = .ok (some false) w := by kernel_rfl
theorem find_rec_Conditional : ((Try.prog.info? 34).bind fun i => i.methods.find? (·.name == "Conditional")).map (fun m => (m.path, m.func)) = some (#[{ struct := 39, index := 0, deref := true }], some (42, true)) := by kernel_rfl
theorem nn_rec_LiteralNull (B : Nat) (w : World) : (nilAhead 356 34 (.pointer (some ⟨B, 0, none⟩)) "LiteralNull").run Try.prog w = .ok (some false) w := by kernel_rfl
theorem find_rec_LiteralNull : ((Try.prog.info? 34).bind fun i => i.methods.find? (·.name == "LiteralNull")).map (fun m => (m.path, m.func)) = some (#[{ struct := 39, index := 0, deref := true }], some (53, true)) := by kernel_rfl
theorem nn_rec_Parens (B : Nat) (w : World) : (nilAhead 356 34 (.pointer (some ⟨B, 0, none⟩)) "Parens").run Try.prog w = .ok (some false) w := by kernel_rfl
theorem find_rec_Parens : ((Try.prog.info? 34).bind fun i => i.methods.find? (·.name == "Parens")).map (fun m => (m.path, m.func)) = some (#[{ struct := 39, index := 0, deref := true }], some (59, true)) := by kernel_rfl
theorem nn_rec_Unary (B : Nat) (w : World) : (nilAhead 356 34 (.pointer (some ⟨B, 0, none⟩)) "Unary").run Try.prog w = .ok (some false) w := by kernel_rfl
theorem find_rec_Unary : ((Try.prog.info? 34).bind fun i => i.methods.find? (·.name == "Unary")).map (fun m => (m.path, m.func)) = some (#[{ struct := 39, index := 0, deref := true }], some (63, true)) := by kernel_rfl
theorem nn_rec_Var (B : Nat) (w : World) : (nilAhead 356 34 (.pointer (some ⟨B, 0, none⟩)) "Var").run Try.prog w = .ok (some false) w := by kernel_rfl
theorem find_rec_Var : ((Try.prog.info? 34).bind fun i => i.methods.find? (·.name == "Var")).map (fun m => (m.path, m.func)) = some (#[{ struct := 39, index := 0, deref := true }], some (64, true)) := by kernel_rfl
theorem pass_rec (w0 : World) (B : Nat) : PassOK 34 B 71 .nilIface (RecSt 39 (fun _ => 0) w0 B) :=
  ⟨fun o h => h.alloc o, fun h => h.drew, fun b E eo x h hf hx => fe_nil_39 b E eo x h hf hx, cf71_rec, fun _ => nn_rec_FodderElement _ _, fun _ => mm_rec_FodderElement _ _, fun _ => nn_rec_Fodder _ _, fun h => (by obtain ⟨v, hv, _⟩ := h.evs; exact run_method_34 355 "Fodder" 45 find_rec_Fodder _ _ _ hv), fun _ => nn_rec_Visit _ _, fun h => (by obtain ⟨v, hv, _⟩ := h.evs; exact run_method_34 355 "Visit" 16 find_rec_Visit _ _ _ hv), fun _ => nn_rec_Array _ _, fun h => (by obtain ⟨v, hv, _⟩ := h.evs; exact run_method_34 355 "Array" 38 find_rec_Array _ _ _ hv), fun _ => nn_rec_Binary _ _, fun h => (by obtain ⟨v, hv, _⟩ := h.evs; exact run_method_34 355 "Binary" 41 find_rec_Binary _ _ _ hv), fun _ => nn_rec_Conditional _ _, fun h => (by obtain ⟨v, hv, _⟩ := h.evs; exact run_method_34 355 "Conditional" 42 find_rec_Conditional _ _ _ hv), fun _ => nn_rec_LiteralNull _ _, fun h => (by obtain ⟨v, hv, _⟩ := h.evs; exact run_method_34 355 "LiteralNull" 53 find_rec_LiteralNull _ _ _ hv), fun _ => nn_rec_Parens _ _, fun h => (by obtain ⟨v, hv, _⟩ := h.evs; exact run_method_34 355 "Parens" 59 find_rec_Parens _ _ _ hv), fun _ => nn_rec_Unary _ _, fun h => (by obtain ⟨v, hv, _⟩ := h.evs; exact run_method_34 355 "Unary" 63 find_rec_Unary _ _ _ hv), fun _ => nn_rec_Var _ _, fun h => (by obtain ⟨v, hv, _⟩ := h.evs; exact run_method_34 355 "Var" 64 find_rec_Var _ _ _ hv)⟩
theorem cf71_ctx (args : Array Value) (w : World) : (callFunc 71 args).run Try.prog w = .ok (.enter 71 args) w := by kernel_rfl
theorem nn_ctx_FodderElement (B : Nat) (w : World) : (nilAhead 356 47 (.pointer (some ⟨B, 0, none⟩)) "FodderElement").run Try.prog w = .ok (some false) w := by kernel_rfl
theorem mm_ctx_FodderElement (B : Nat) (w : World) : (method 356 47 (.pointer (some ⟨B, 0, none⟩)) "FodderElement").run Try.prog w = .ok (71, .pointer (some ⟨B, 0, none⟩)) w := by kernel_rfl
theorem nn_ctx_Fodder (B : Nat) (w : World) : (nilAhead 356 47 (.pointer (some ⟨B, 0, none⟩)) "Fodder").run Try.prog w = .ok (some false) w := by kernel_rfl
theorem find_ctx_Fodder : ((Try.prog.info? 47).bind fun i => i.methods.find? (·.name == "Fodder")).map (fun m => (m.path, m.func)) = some (#[{ struct := 49, index := 0, deref := true }, { struct := 39, index := 0, deref := false }], some (45, true)) := by kernel_rfl
theorem nn_ctx_Visit (B : Nat) (w : World) : (nilAhead 356 47 (.pointer (some ⟨B, 0, none⟩)) "Visit").run Try.prog w = .ok (some false) w := by kernel_rfl
theorem find_ctx_Visit : ((Try.prog.info? 47).bind fun i => i.methods.find? (·.name == "Visit")).map (fun m => (m.path, m.func)) = some (#[{ struct := 49, index := 0, deref := true }, { struct := 39, index := 0, deref := false }], some (16, true)) := by kernel_rfl
theorem nn_ctx_Array (B : Nat) (w : World) : (nilAhead 356 47 (.pointer (some ⟨B, 0, none⟩)) "Array").run Try.prog w = .ok (some false) w := by kernel_rfl
theorem find_ctx_Array : ((Try.prog.info? 47).bind fun i => i.methods.find? (·.name == "Array")).map (fun m => (m.path, m.func)) = some (#[{ struct := 49, index := 0, deref := true }, { struct := 39, index := 0, deref := false }], some (38, true)) := by kernel_rfl
theorem nn_ctx_Binary (B : Nat) (w : World) : (nilAhead 356 47 (.pointer (some ⟨B, 0, none⟩)) "Binary").run Try.prog w = .ok (some false) w := by kernel_rfl
theorem find_ctx_Binary : ((Try.prog.info? 47).bind fun i => i.methods.find? (·.name == "Binary")).map (fun m => (m.path, m.func)) = some (#[{ struct := 49, index := 0, deref := true }, { struct := 39, index := 0, deref := false }], some (41, true)) := by kernel_rfl
theorem nn_ctx_Conditional (B : Nat) (w : World) : (nilAhead 356 47 (.pointer (some ⟨B, 0, none⟩)) "Conditional").run Try.prog w = .ok (some false) w := by kernel_rfl
theorem find_ctx_Conditional : ((Try.prog.info? 47).bind fun i => i.methods.find? (·.name == "Conditional")).map (fun m => (m.path, m.func)) = some (#[{ struct := 49, index := 0, deref := true }, { struct := 39, index := 0, deref := false }], some (42, true)) := by kernel_rfl
theorem nn_ctx_LiteralNull (B : Nat) (w : World) : (nilAhead 356 47 (.pointer (some ⟨B, 0, none⟩)) "LiteralNull").run Try.prog w = .ok (some false) w := by kernel_rfl
theorem find_ctx_LiteralNull : ((Try.prog.info? 47).bind fun i => i.methods.find? (·.name == "LiteralNull")).map (fun m => (m.path, m.func)) = some (#[{ struct := 49, index := 0, deref := true }, { struct := 39, index := 0, deref := false }], some (53, true)) := by kernel_rfl
theorem nn_ctx_Parens (B : Nat) (w : World) : (nilAhead 356 47 (.pointer (some ⟨B, 0, none⟩)) "Parens").run Try.prog w = .ok (some false) w := by kernel_rfl
theorem find_ctx_Parens : ((Try.prog.info? 47).bind fun i => i.methods.find? (·.name == "Parens")).map (fun m => (m.path, m.func)) = some (#[{ struct := 49, index := 0, deref := true }, { struct := 39, index := 0, deref := false }], some (59, true)) := by kernel_rfl
theorem nn_ctx_Unary (B : Nat) (w : World) : (nilAhead 356 47 (.pointer (some ⟨B, 0, none⟩)) "Unary").run Try.prog w = .ok (some false) w := by kernel_rfl
theorem find_ctx_Unary : ((Try.prog.info? 47).bind fun i => i.methods.find? (·.name == "Unary")).map (fun m => (m.path, m.func)) = some (#[{ struct := 49, index := 0, deref := true }, { struct := 39, index := 0, deref := false }], some (63, true)) := by kernel_rfl
theorem nn_ctx_Var (B : Nat) (w : World) : (nilAhead 356 47 (.pointer (some ⟨B, 0, none⟩)) "Var").run Try.prog w = .ok (some false) w := by kernel_rfl
theorem find_ctx_Var : ((Try.prog.info? 47).bind fun i => i.methods.find? (·.name == "Var")).map (fun m => (m.path, m.func)) = some (#[{ struct := 49, index := 0, deref := true }, { struct := 39, index := 0, deref := false }], some (64, true)) := by kernel_rfl
theorem pass_ctx (w0 : World) (B tc : Nat) (vc : Value) : PassOK 47 B 71 (.iface tc vc) (RecSt 49 (fun n => (n : Int)) w0 B) :=
  ⟨fun o h => h.alloc o, fun h => h.drew, fun b E eo x h hf hx => fe_ctx_49 tc vc b E eo x h hf hx, cf71_ctx, fun _ => nn_ctx_FodderElement _ _, fun _ => mm_ctx_FodderElement _ _, fun _ => nn_ctx_Fodder _ _, fun h => (by obtain ⟨v, hv, _⟩ := h.evs; exact run_method_47 355 "Fodder" 45 find_ctx_Fodder _ _ _ hv), fun _ => nn_ctx_Visit _ _, fun h => (by obtain ⟨v, hv, _⟩ := h.evs; exact run_method_47 355 "Visit" 16 find_ctx_Visit _ _ _ hv), fun _ => nn_ctx_Array _ _, fun h => (by obtain ⟨v, hv, _⟩ := h.evs; exact run_method_47 355 "Array" 38 find_ctx_Array _ _ _ hv), fun _ => nn_ctx_Binary _ _, fun h => (by obtain ⟨v, hv, _⟩ := h.evs; exact run_method_47 355 "Binary" 41 find_ctx_Binary _ _ _ hv), fun _ => nn_ctx_Conditional _ _, fun h => (by obtain ⟨v, hv, _⟩ := h.evs; exact run_method_47 355 "Conditional" 42 find_ctx_Conditional _ _ _ hv), fun _ => nn_ctx_LiteralNull _ _, fun h => (by obtain ⟨v, hv, _⟩ := h.evs; exact run_method_47 355 "LiteralNull" 53 find_ctx_LiteralNull _ _ _ hv), fun _ => nn_ctx_Parens _ _, fun h => (by obtain ⟨v, hv, _⟩ := h.evs; exact run_method_47 355 "Parens" 59 find_ctx_Parens _ _ _ hv), fun _ => nn_ctx_Unary _ _, fun h => (by obtain ⟨v, hv, _⟩ := h.evs; exact run_method_47 355 "Unary" 63 find_ctx_Unary _ _ _ hv), fun _ => nn_ctx_Var _ _, fun h => (by obtain ⟨v, hv, _⟩ := h.evs; exact run_method_47 355 "Var" 64 find_ctx_Var _ _ _ hv)⟩
end Go.Proofs.Ytfmmpllnhmehnaa
