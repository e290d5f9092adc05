/- The traversal's own steps under the recording pass. -/
import Derived.Test.YtnnpbjojailaeaaRec
import Derived.Outline
import Derived.StillTailTactics
import Derived.Deep.RegionWith
namespace Go.Proofs.Ytnnpbjojailaeaa
open Go.RowKit
theorem nil_visit (a : Addr) (w : World) : (nilAhead 352 24 (.pointer (some a)) "Visit").run Try.prog w = .ok (some false) w := by kernel_rfl
theorem nil_fodder (a : Addr) (w : World) : (nilAhead 352 24 (.pointer (some a)) "Fodder").run Try.prog w = .ok (some false) w := by kernel_rfl
theorem m_visit (a : Addr) (w : World) : (method 352 24 (.pointer (some a)) "Visit").run Try.prog w = .ok (59, .pointer (some a)) w := by kernel_rfl
theorem m_fodder (a : Addr) (w : World) : (method 352 24 (.pointer (some a)) "Fodder").run Try.prog w = .ok (43, .pointer (some a)) w := by kernel_rfl
theorem unary_any {w0 w : World} {B n : Nat} {xs : List Value} (h : RecSt w0 w B n xs) (hn : n ≤ 1000) (b ctx : Value) (U : Nat) :
    Calls Try.prog 14 #[b, .iface 24 (.pointer (some ⟨B, 0, none⟩)), .pointer (some ⟨U, 0, none⟩), ctx] w fun e w' => e = .returned (.tuple #[]) ∧ RecSt w0 w' B (n + 1) (xs ++ [.bool true, .pointer (some ⟨U, 0, none⟩), .pointer none]) ∧ Kept37 B w w' := by
  have HH := Lib.hid h
  have HN := Lib.hid hn
  clear h hn
  have n1 := nil_visit ⟨B, 0, none⟩
  have m1 := m_visit ⟨B, 0, none⟩
  go_enter Try.func14, Try.ntmps14
  go_wp2_with fail
  go_region_with (first | (go_at_call 59; refine (rec_visit HH.out.drew (Nat.le_trans HN.out (by decide)) _ _ _).mono ?_; rintro e w' ⟨rfl, hr, hk⟩))
  all_goals (go_wp2; go_end0; exact ⟨rfl, hr, hk⟩)
theorem cells29 : Try.prog.cellsOf 29 = 1 := by kernel_rfl
theorem byte29 : byteOfCell Try.prog Try.prog.depth 29 0 = some 0 := by kernel_rfl
theorem run_byteOf0 (w : World) (B : Nat) (c : Array Value) (hv : w.heap[B]? = some (.cells c 29 (0, 0))) : (byteOf ⟨B, 0, none⟩).run Try.prog w = .ok 0 w := by
  simp [byteOf, noView, viewAt, shape, program, Sem.run, World.shape?, hv, cells29, byte29, go_sem]
theorem run_partAt0 (w : World) (B : Nat) (c : Array Value) (hv : w.heap[B]? = some (.cells c 29 (0, 0))) : (partAt ⟨B, 0, none⟩ 0 0).run Try.prog w = .ok ⟨B, 0, none⟩ w := by
  simp [partAt, run_byteOf0 w B c hv]
/-- The first field of the recording pass: the embedded Base, of no size. -/
theorem run_place0 (w : World) (B : Nat) (c : Array Value) (hv : w.heap[B]? = some (.cells c 29 (0, 0))) (f : Field) (h0 : f.offset = 0) (h1 : f.byteOffset = 0) (h2 : (Try.prog.info? f.type).map (·.size) = some 0) : (fieldPlace ⟨B, 0, none⟩ f).run Try.prog w = .ok ⟨B, 0, none⟩ w := by
  cases hi : Try.prog.info? f.type with
  | none => rw [hi] at h2; cases h2
  | some i =>
    rw [hi] at h2
    simp at h2
    simp [fieldPlace, sizeOf, typeInfo, hi, h2, h0, h1, run_partAt0 w B c hv]
theorem base_field : (match Try.prog.underlying 29 with | some (.struct fs) => (fs[0]?).map (fun f => (f.offset, f.byteOffset, (Try.prog.info? f.type).map (·.size))) | _ => none) = some (0, 0, some 0) := by kernel_rfl
theorem find_unary : ((Try.prog.info? 24).bind fun i => i.methods.find? (·.name == "Unary")).map (fun m => (m.path, m.func)) = some (#[{ struct := 29, index := 0, deref := true }], some (14, true)) := by kernel_rfl
theorem under_base : (match Try.prog.underlying 29 with | some (.struct fs) => (fs[0]?).map (fun f => Try.prog.underlying f.type) | _ => none) = some (some (.struct #[])) := by kernel_rfl
theorem run_method_base (fuel : Nat) (name : String) (fid : Nat) (hfind : ((Try.prog.info? 24).bind fun i => i.methods.find? (·.name == name)).map (fun m => (m.path, m.func)) = some (#[{ struct := 29, index := 0, deref := true }], some (fid, true)))
    (w : World) (B : Nat) (c : Array Value) (hv : w.heap[B]? = some (.cells c 29 (0, 0))) : (method (fuel + 1) 24 (.pointer (some ⟨B, 0, none⟩)) name).run Try.prog w = .ok (fid, .pointer (some ⟨B, 0, none⟩)) w := by
  cases hi : Try.prog.info? 24 with
  | none => rw [hi] at hfind; cases hfind
  | some i =>
    rw [hi] at hfind
    simp only [Option.bind_some] at hfind
    cases hm : i.methods.find? (·.name == name) with
    | none => rw [hm] at hfind; cases hfind
    | some m =>
      rw [hm] at hfind
      simp only [Option.map_some, Option.some.injEq, Prod.mk.injEq] at hfind
      obtain ⟨hp, hf⟩ := hfind
      have hb := base_field
      have hu := under_base
      cases hs : Try.prog.underlying 29 with
      | none => rw [hs] at hb; cases hb
      | some d =>
        rw [hs] at hb hu
        cases d <;> try (cases hb; done)
        rename_i fs
        simp only at hb hu
        cases hf0 : fs[0]? with
        | none => rw [hf0] at hb; cases hb
        | some f =>
          rw [hf0] at hb hu
          simp only [Option.map_some, Option.some.injEq, Prod.mk.injEq] at hb hu
          obtain ⟨b1, b2, b3⟩ := hb
          rw [method]
          simp [typeInfo, hi, hm, hp, hf, follow, run_underlying hs, hf0, Place.get, asAddr, run_place0 w B c hv f b1 b2 b3, receiverAt, run_underlying hu]
theorem open_any (S o : Nat) (w : World) : Calls Try.prog 32 #[.pointer (some ⟨S, o, none⟩)] w fun e w' => e = .returned (.pointer (some ⟨S, o, none⟩)) ∧ w = w' := by
  go_enter Try.func32, Try.ntmps32
  go_wp2
  go_ret
  exact ⟨rfl, rfl⟩
theorem heap_alloc_new (w : World) (o : Obj) : (w.alloc o).heap[w.heap.size]? = some o := by
  show (w.heap.push o)[w.heap.size]? = _
  simp
theorem setCell_same {w : World} {g i : Nat} {v : Value} (h : w.cell? ⟨g, i, none⟩ = some v) : w.setCell ⟨g, i, none⟩ v = w := by
  have hh : w.heap.modify g (fun o => match o with | .cells c elem fr => .cells (if (none : Option Nat).isSome then c else c.setIfInBounds i v) elem fr | x => x) = w.heap := by
    apply Array.ext
    · simp
    · intro k h1 h2
      rw [Array.getElem_modify]
      split
      · rename_i e
        subst e
        have hk : w.heap[g]? = some w.heap[g] := Array.getElem?_eq_getElem h2
        unfold World.cell? at h
        rw [hk] at h
        cases ho : w.heap[g] with
        | cells c elem fr =>
          rw [ho] at h
          simp at h
          simp only [Option.isSome_none, Bool.false_eq_true, if_false]
          congr 1
          apply Array.ext
          · simp
          · intro m h3 h4
            rw [Array.getElem_setIfInBounds]
            split
            · rename_i e
              subst e
              obtain ⟨_, he⟩ := Array.getElem?_eq_some_iff.1 h
              exact he.symm
            · rfl
        | _ => rfl
      · rfl
  exact congrArg (fun h => { w with heap := h }) hh
end Go.Proofs.Ytnnpbjojailaeaa
