/- Tokens in memory and the spans between them. -/
import Derived.Test.YtjihpmhcalpljaaTok
import Derived.Deep.RegionWith
namespace Go.Proofs.Ytjihpmhcalpljaa
open Go.RowKit
set_option linter.unusedVariables false
theorem cell_new0 (w : World) (C : Array Value) (t : TypeId) (o : Nat) : (w.alloc (.cells C t)).cell? ⟨w.heap.size, o, none⟩ = C[o]? := World.cell?_alloc_mark w C t (0, 0) o
theorem frozen_new0 (w : World) (C : Array Value) (t : TypeId) (o : Nat) : (w.alloc (.cells C t)).frozen? ⟨w.heap.size, o, none⟩ = false := by
  refine (World.frozen?_alloc_mark w C t 0 0 o).trans ?_
  simp
/-- A range without a source lies at that place. -/
def AtR (w : World) (k o : Nat) (fn : ByteArray) (a b c d : Int) : Prop := w.cell? ⟨k, o, none⟩ = some (.pointer none) ∧ w.cell? ⟨k, o + 1, none⟩ = some (.string fn) ∧ w.cell? ⟨k, o + 2, none⟩ = some (.int .i64 a) ∧ w.cell? ⟨k, o + 3, none⟩ = some (.int .i64 b) ∧ w.cell? ⟨k, o + 4, none⟩ = some (.int .i64 c) ∧ w.cell? ⟨k, o + 5, none⟩ = some (.int .i64 d)
theorem AtR.keep {w w' : World} {k o : Nat} {fn : ByteArray} {a b c d : Int} (h : AtR w k o fn a b c d) (hb : Below w.heap.size w w') : AtR w' k o fn a b c d := by
  obtain ⟨h0, h1, h2, h3, h4, h5⟩ := h
  have hk : k < w.heap.size := World.block_lt_of_cell? w _ h0
  have g := fun o => hb.cell (p := ⟨k, o, none⟩) hk
  exact ⟨(g _).trans h0, (g _).trans h1, (g _).trans h2, (g _).trans h3, (g _).trans h4, (g _).trans h5⟩
theorem AtR.lt {w : World} {k o : Nat} {fn : ByteArray} {a b c d : Int} (h : AtR w k o fn a b c d) : k < w.heap.size := World.block_lt_of_cell? w _ h.1
theorem between_at {k l o1 o2 : Nat} {fn gn : ByteArray} {a b c d p q r s : Int} {w : World} (hx : AtR w k o1 fn a b c d) (hy : AtR w l o2 gn p q r s) :
    Calls Try.prog 26 #[.pointer (some ⟨k, o1, none⟩), .pointer (some ⟨l, o2, none⟩)] w fun e w' => e = .returned (.agg #[.pointer none, .string fn, .int .i64 a, .int .i64 b, .int .i64 r, .int .i64 s]) ∧ Below w.heap.size w w' := by
  obtain ⟨x0, x1, x2, x3, x4, x5⟩ := hx
  obtain ⟨y0, y1, y2, y3, y4, y5⟩ := hy
  exact between_any k l o1 o2 fn gn a b c d p q r s w x0 x1 x2 x3 x4 x5 y0 y1 y2 y3 y4 y5
def SomeTok (w : World) (fn : ByteArray) (a b c d : Int) (e : Ending) (w' : World) : Prop := ∃ k, e = .returned (.pointer (some ⟨k, 0, none⟩)) ∧ AtR w' k 4 fn a b c d ∧ Below w.heap.size w w'
theorem newTok_any (n : Int) (data fn : ByteArray) (a b c d : Int) (w : World) :
    Calls Try.prog 8 #[.int .i64 n, .string data, .agg #[.pointer none, .string fn, .int .i64 a, .int .i64 b, .int .i64 c, .int .i64 d]] w (SomeTok w fn a b c d) := by
  go_enter Try.func8, Try.ntmps8
  go_wp2
  go_ret
  refine ⟨w.heap.size + 1, rfl, ?_, below_2⟩
  have g := fun o => cell_new0 (w.alloc (.cells #[.pointer none, .string fn, .int .i64 a, .int .i64 b, .int .i64 c, .int .i64 d] 29)) #[.slice none 0 0, .string data, .string ⟨#[]⟩, .string ⟨#[]⟩, .pointer none, .string fn, .int .i64 a, .int .i64 b, .int .i64 c, .int .i64 d, .int .i64 n] 49 o
  have hs : (w.alloc (.cells #[.pointer none, .string fn, .int .i64 a, .int .i64 b, .int .i64 c, .int .i64 d] 29)).heap.size = w.heap.size + 1 := by simp
  rw [hs] at g
  exact ⟨g 4, g 5, g 6, g 7, g 8, g 9⟩
theorem range_any (fn : ByteArray) (a b c d : Int) (w : World) :
    Calls Try.prog 9 #[.string fn, .int .i64 a, .int .i64 b, .int .i64 c, .int .i64 d] w fun e w' => e = .returned (.agg #[.pointer none, .string fn, .int .i64 a, .int .i64 b, .int .i64 c, .int .i64 d]) ∧ Below w.heap.size w w' := by
  go_enter Try.func9, Try.ntmps9
  go_wp2
  exact bodyPost_ret (v := .agg #[.pointer none, .string fn, .int .i64 a, .int .i64 b, .int .i64 c, .int .i64 d]) (by simp [results, Try.results9, go_sem]) rfl ⟨rfl, (Below.refl _ _).alloc (Nat.le_refl _) _⟩
set_option maxHeartbeats 1000000 in
theorem loc23_any {k l : Nat} {fn gn : ByteArray} {a b c d p q r s : Int} {w : World} (hx : AtR w k 4 fn a b c d) (hy : AtR w l 4 gn p q r s) :
    Calls Try.prog 23 #[.pointer (some ⟨k, 0, none⟩), .pointer (some ⟨l, 0, none⟩)] w fun e w' => e = .returned (.agg #[.pointer none, .string fn, .int .i64 a, .int .i64 b, .int .i64 r, .int .i64 s]) ∧ Below w.heap.size w w' := by
  have HX := Lib.hid hx
  have HY := Lib.hid hy
  clear hx hy
  go_enter Try.func23, Try.ntmps23
  go_wp2_with fail
  generalize hW : World.alloc _ _ = W
  have hB : Below w.heap.size w W := by rw [← hW]; exact (Below.refl _ _).alloc (Nat.le_refl _) _
  have hz : w.heap.size < W.heap.size := by rw [← hW]; simp
  have zf : ∀ o, W.frozen? ⟨w.heap.size, o, none⟩ = false := fun o => by rw [← hW]; exact frozen_new0 _ _ _ _
  have z : ∀ o, W.cell? ⟨w.heap.size, o, none⟩ = (#[.pointer none, .string ⟨#[]⟩, .int .i64 0, .int .i64 0, .int .i64 0, .int .i64 0] : Array Value)[o]? := fun o => by rw [← hW]; exact cell_new0 _ _ _ _
  have HB := Lib.hid hB
  have KX : Hid (AtR W.drew k 4 fn a b c d) := (HX.out.keep hB : AtR W k 4 fn a b c d)
  have KY : Hid (AtR W.drew l 4 gn p q r s) := (HY.out.keep hB : AtR W l 4 gn p q r s)
  clear hB hW
  go_still_tail 6, (by kernel_rfl)
  change wpList _ _ _ _ _ W.drew
  go_wp2_with fail
  refine (between_at KX.out KY.out).mono ?_
  rintro e w2 ⟨rfl, hb2⟩
  have hb2 : Below W.heap.size W w2 := ⟨hb2.os, hb2.tape, hb2.output, hb2.size, hb2.block⟩
  have gz := fun o => (hb2.cell (p := ⟨w.heap.size, o, none⟩) hz).trans (z o)
  have gf := fun o => (hb2.frozen (p := ⟨w.heap.size, o, none⟩) hz).trans (zf o)
  have z0 := gz 0
  have z1 := gz 1
  have z2 := gz 2
  have z3 := gz 3
  have z4 := gz 4
  have z5 := gz 5
  have HB2 := Lib.hid (HB.out.trans (hb2.mono (Nat.le_of_lt hz)))
  clear gz hb2 z zf
  go_wp2
  refine bodyPost_ret (v := .agg #[.pointer none, .string fn, .int .i64 a, .int .i64 b, .int .i64 r, .int .i64 s]) (by simp [results, Try.results23, go_sem, z0, z1, z2, z3, z4, z5]) rfl ⟨rfl, ?_⟩
  exact (((((HB2.out.setCell (Nat.le_refl _) _).setCell (Nat.le_refl _) _).setCell (Nat.le_refl _) _).setCell (Nat.le_refl _) _).setCell (Nat.le_refl _) _).setCell (Nat.le_refl _) _
set_option maxHeartbeats 1000000 in
theorem zzLocTok_any {k l : Nat} {fn gn : ByteArray} {a b c d p q r s : Int} {w : World} (hx : AtR w k 4 fn a b c d) (hy : AtR w l 4 gn p q r s) :
    Calls Try.prog 11 #[.pointer (some ⟨k, 0, none⟩), .pointer (some ⟨l, 0, none⟩)] w fun e w' => e = .returned (.agg #[.pointer none, .string fn, .int .i64 a, .int .i64 b, .int .i64 r, .int .i64 s]) ∧ Below w.heap.size w w' := by
  have HX := Lib.hid hx
  have HY := Lib.hid hy
  clear hx hy
  go_enter Try.func11, Try.ntmps11
  go_wp2_with fail
  generalize hW : World.alloc _ _ = W
  have hB : Below w.heap.size w W := by rw [← hW]; exact (Below.refl _ _).alloc (Nat.le_refl _) _
  have hz : w.heap.size < W.heap.size := by rw [← hW]; simp
  have zf : ∀ o, W.frozen? ⟨w.heap.size, o, none⟩ = false := fun o => by rw [← hW]; exact frozen_new0 _ _ _ _
  have z : ∀ o, W.cell? ⟨w.heap.size, o, none⟩ = (#[.pointer none, .string ⟨#[]⟩, .int .i64 0, .int .i64 0, .int .i64 0, .int .i64 0] : Array Value)[o]? := fun o => by rw [← hW]; exact cell_new0 _ _ _ _
  have HB := Lib.hid hB
  have KX : Hid (AtR W k 4 fn a b c d) := HX.out.keep hB
  have KY : Hid (AtR W l 4 gn p q r s) := HY.out.keep hB
  clear hB hW
  refine (loc23_any KX.out KY.out).mono ?_
  rintro e w2 ⟨rfl, hb2⟩
  have hb2 : Below W.heap.size W w2 := ⟨hb2.os, hb2.tape, hb2.output, hb2.size, hb2.block⟩
  have gz := fun o => (hb2.cell (p := ⟨w.heap.size, o, none⟩) hz).trans (z o)
  have gf := fun o => (hb2.frozen (p := ⟨w.heap.size, o, none⟩) hz).trans (zf o)
  have z0 := gz 0
  have z1 := gz 1
  have z2 := gz 2
  have z3 := gz 3
  have z4 := gz 4
  have z5 := gz 5
  have HB2 := Lib.hid (HB.out.trans (hb2.mono (Nat.le_of_lt hz)))
  clear gz hb2 z zf
  go_wp2
  refine bodyPost_ret (v := .agg #[.pointer none, .string fn, .int .i64 a, .int .i64 b, .int .i64 r, .int .i64 s]) (by simp [results, Try.results11, go_sem, z0, z1, z2, z3, z4, z5]) rfl ⟨rfl, ?_⟩
  exact (((((HB2.out.setCell (Nat.le_refl _) _).setCell (Nat.le_refl _) _).setCell (Nat.le_refl _) _).setCell (Nat.le_refl _) _).setCell (Nat.le_refl _) _).setCell (Nat.le_refl _) _
theorem nb27_any (A : Option Addr) (fn : ByteArray) (a b c d : Int) (w : World) :
    Calls Try.prog 27 #[.agg #[.pointer none, .string fn, .int .i64 a, .int .i64 b, .int .i64 c, .int .i64 d], .slice none 0 0, .slice A 0 0] w fun e w' => e = .returned (.agg #[.slice none 0 0, .pointer none, .slice A 0 0, .pointer none, .string fn, .int .i64 a, .int .i64 b, .int .i64 c, .int .i64 d]) ∧ Below w.heap.size w w' := by
  go_enter Try.func27, Try.ntmps27
  go_wp2
  exact bodyPost_ret (v := .agg #[.slice none 0 0, .pointer none, .slice A 0 0, .pointer none, .string fn, .int .i64 a, .int .i64 b, .int .i64 c, .int .i64 d]) (by simp [results, Try.results27, go_sem]) rfl ⟨rfl, below_2⟩
set_option maxHeartbeats 1000000 in
theorem nb22_any (fn : ByteArray) (a b c d : Int) (w : World) :
    Calls Try.prog 22 #[.agg #[.pointer none, .string fn, .int .i64 a, .int .i64 b, .int .i64 c, .int .i64 d], .slice none 0 0] w fun e w' => e = .returned (.agg #[.slice none 0 0, .pointer none, .slice (some ⟨w.heap.size + 1 + 1, 0, none⟩) 0 0, .pointer none, .string fn, .int .i64 a, .int .i64 b, .int .i64 c, .int .i64 d]) ∧ Below w.heap.size w w' := by
  go_enter Try.func22, Try.ntmps22
  go_wp2_with fail
  refine (nb27_any _ _ _ _ _ _ _).mono ?_
  rintro e w2 ⟨rfl, hb⟩
  have hz : w.heap.size + 1 < w2.heap.size := by have := hb.size; simp at this; omega
  obtain ⟨hc, hf⟩ := bcell hb
  have HB := Lib.hid hb
  clear hb
  go_wp2
  refine bodyPost_ret (v := .agg #[.slice none 0 0, .pointer none, .slice (some ⟨w.heap.size + 1 + 1, 0, none⟩) 0 0, .pointer none, .string fn, .int .i64 a, .int .i64 b, .int .i64 c, .int .i64 d]) (by simp [results, Try.results22, go_sem, hc]) rfl ⟨rfl, ?_⟩
  exact (((((((((below_2.alloc (by simp; omega) _).trans (HB.out.mono (by simp; omega))).setCell (by simp) _).setCell (by simp) _).setCell (by simp) _).setCell (by simp) _).setCell (by simp) _).setCell (by simp) _).setCell (by simp) _).setCell (by simp) _ |>.setCell (by simp) _
theorem method_nloc (l : Nat) (w : World) : (method 204 51 (.pointer (some ⟨l, 0, none⟩)) "Loc").run Try.prog w = .ok (47, .pointer (some ⟨l, 1, none⟩)) w := by kernel_rfl
theorem nloc_any (l : Nat) (w : World) : Calls Try.prog 47 #[.pointer (some ⟨l, 1, none⟩)] w fun e w' => e = .returned (.pointer (some ⟨l, 4, none⟩)) ∧ w = w' := by
  go_enter Try.func47, Try.ntmps47
  go_wp2
  go_ret
  exact ⟨rfl, rfl⟩
set_option maxHeartbeats 1000000 in
theorem tok21_any {k l : Nat} {fn gn : ByteArray} {a b c d p q r s : Int} {w : World} (hx : AtR w k 4 fn a b c d) (hy : AtR w l 4 gn p q r s) :
    Calls Try.prog 21 #[.pointer (some ⟨k, 0, none⟩), .iface 51 (.pointer (some ⟨l, 0, none⟩))] w fun e w' => e = .returned (.agg #[.pointer none, .string fn, .int .i64 a, .int .i64 b, .int .i64 r, .int .i64 s]) ∧ Below w.heap.size w w' := by
  have HX := Lib.hid hx
  have HY := Lib.hid hy
  clear hx hy
  have hm := method_nloc l
  go_enter Try.func21, Try.ntmps21
  go_wp2_with fail
  generalize hW : World.alloc _ _ = W
  have hB : Below w.heap.size w W := by rw [← hW]; exact (Below.refl _ _).alloc (Nat.le_refl _) _
  have hz : w.heap.size < W.heap.size := by rw [← hW]; simp
  have zf : ∀ o, W.frozen? ⟨w.heap.size, o, none⟩ = false := fun o => by rw [← hW]; exact frozen_new0 _ _ _ _
  have z : ∀ o, W.cell? ⟨w.heap.size, o, none⟩ = (#[.pointer none, .string ⟨#[]⟩, .int .i64 0, .int .i64 0, .int .i64 0, .int .i64 0] : Array Value)[o]? := fun o => by rw [← hW]; exact cell_new0 _ _ _ _
  have HB := Lib.hid hB
  have KX : Hid (AtR W.drew k 4 fn a b c d) := (HX.out.keep hB : AtR W k 4 fn a b c d)
  have KY : Hid (AtR W.drew l 4 gn p q r s) := (HY.out.keep hB : AtR W l 4 gn p q r s)
  clear hB hW
  go_region_with (first | (go_at_call 47; refine (nloc_any _ _).mono ?_; rintro e w' ⟨rfl, rfl⟩) | (go_at_call 26; refine (between_at KX.out KY.out).mono ?_; rintro e w2 ⟨rfl, hb2⟩; have gz := fun o => (hb2.cell (p := ⟨w.heap.size, o, none⟩) hz).trans (z o); have gf := fun o => (hb2.frozen (p := ⟨w.heap.size, o, none⟩) hz).trans (zf o); have z0 := gz 0; have z1 := gz 1; have z2 := gz 2; have z3 := gz 3; have z4 := gz 4; have z5 := gz 5; have HB2 := Lib.hid hb2; clear hb2 gz))
  all_goals
    have HB3 := Lib.hid (HB.out.trans ((show Below W.heap.size W w2 from ⟨HB2.out.os, HB2.out.tape, HB2.out.output, HB2.out.size, HB2.out.block⟩).mono (Nat.le_of_lt hz)))
    go_wp2
    refine bodyPost_ret (v := .agg #[.pointer none, .string fn, .int .i64 a, .int .i64 b, .int .i64 r, .int .i64 s]) (by simp [results, Try.results21, go_sem, z0, z1, z2, z3, z4, z5]) rfl ⟨rfl, ?_⟩
    exact (((((HB3.out.setCell (Nat.le_refl _) _).setCell (Nat.le_refl _) _).setCell (Nat.le_refl _) _).setCell (Nat.le_refl _) _).setCell (Nat.le_refl _) _).setCell (Nat.le_refl _) _
theorem atR_var (v0 v1 v2 v3 : Value) (gn : ByteArray) (p q r s : Int) (w : World) : AtR (w.alloc (.cells #[v0, v1, v2, v3, .pointer none, .string gn, .int .i64 p, .int .i64 q, .int .i64 r, .int .i64 s] 61)) w.heap.size 4 gn p q r s := by
  have g := fun o => cell_new0 w #[v0, v1, v2, v3, .pointer none, .string gn, .int .i64 p, .int .i64 q, .int .i64 r, .int .i64 s] 61 o
  exact ⟨g 4, g 5, g 6, g 7, g 8, g 9⟩
set_option maxHeartbeats 1000000 in
theorem tokAst_any {k : Nat} {fn gn : ByteArray} {a b c d p q r s : Int} {w : World} (hx : AtR w k 4 fn a b c d) :
    Calls Try.prog 10 #[.pointer (some ⟨k, 0, none⟩), .agg #[.pointer none, .string gn, .int .i64 p, .int .i64 q, .int .i64 r, .int .i64 s]] w fun e w' => e = .returned (.agg #[.pointer none, .string fn, .int .i64 a, .int .i64 b, .int .i64 r, .int .i64 s]) ∧ Below w.heap.size w w' := by
  have HX := Lib.hid hx
  clear hx
  go_enter Try.func10, Try.ntmps10
  go_wp2_with fail
  refine (nb22_any _ _ _ _ _ _).mono ?_
  rintro e w2 ⟨rfl, hb2⟩
  have hbw : Below w.heap.size w w2 := below_2.trans (hb2.mono (by simp; omega))
  have KX := Lib.hid (HX.out.keep hbw)
  go_wp2_with fail
  refine (tok21_any (KX.out.keep ((Below.refl _ _).alloc (Nat.le_refl _) _)) (atR_var _ _ _ _ _ _ _ _ _ _)).mono ?_
  rintro e w3 ⟨rfl, hb3⟩
  have hb := hb2.trans ((((Below.refl w2.heap.size w2).alloc (Nat.le_refl _) _).trans (hb3.mono (by simp))).mono hb2.size)
  have hz : w.heap.size + 1 < w3.heap.size := by have := hb.size; simp at this; omega
  obtain ⟨hc, hf⟩ := bcell hb
  have HB := Lib.hid hb
  clear hb hb2 hb3 hbw KX HX
  go_wp2
  refine bodyPost_ret (v := .agg #[.pointer none, .string fn, .int .i64 a, .int .i64 b, .int .i64 r, .int .i64 s]) (by simp [results, Try.results10, go_sem, hc]) rfl ⟨rfl, ?_⟩
  exact ((((((below_2.trans (HB.out.mono (by simp; omega))).setCell (by simp) _).setCell (by simp) _).setCell (by simp) _).setCell (by simp) _).setCell (by simp) _).setCell (by simp) _
end Go.Proofs.Ytjihpmhcalpljaa
