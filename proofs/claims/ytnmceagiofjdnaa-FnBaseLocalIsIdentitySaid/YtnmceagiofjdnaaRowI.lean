/- Rows of ints, strings and bools: arguments, copies; the count of bytes (5). -/
import Derived.Test.YtnmceagiofjdnaaRdI
namespace Go.Proofs.Ytnmceagiofjdnaa
open Go.RowKit
/-- A slice among the arguments that reads V. -/
def AV (w : World) (A : Option Addr) (n : Nat) (V : Nat → Value) : Prop := 0 < n → ∃ b off, A = some ⟨b, off, none⟩ ∧ b < w.heap.size ∧ ∀ j, j < n → w.cell? ⟨b, off + j, none⟩ = some (V j)
theorem AV.keep {w w' : World} {A : Option Addr} {n : Nat} {V : Nat → Value} (h : AV w A n V) (k : Own w w') : AV w' A n V := fun hn => by
  obtain ⟨b, off, e, hlt, hc⟩ := h hn
  exact ⟨b, off, e, Nat.lt_of_lt_of_le hlt k.size, fun j hj => k.cell hlt (hc j hj)⟩
/-- Row g: the first k of n cells hold V, the others z. -/
def RowV (w : World) (g n k T : Nat) (V : Nat → Value) (z : Value) : Prop := ∃ ce, w.heap[g]? = some (.cells ce T (0, 0)) ∧ ce.size = n ∧ ∀ j, j < n → ce[j]? = some (if j < k then V j else z)
theorem RowV.keep {w w' : World} {g n k T : Nat} {V : Nat → Value} {z : Value} (h : RowV w g n k T V z) (q : Own w w') : RowV w' g n k T V z := by
  obtain ⟨ce, h1, h2, h3⟩ := h
  exact ⟨ce, q.at h1, h2, h3⟩
theorem RowV.put {w : World} {g n k T : Nat} {V : Nat → Value} {z v : Value} (h : RowV w g n k T V z) (hk : k < n) (hv : v = V k) : RowV (w.setCell ⟨g, k, none⟩ v) g n (k + 1) T V z := by
  subst hv
  obtain ⟨ce, h1, h2, h3⟩ := h
  refine ⟨_, at_set h1, by simp [h2], fun j hj => ?_⟩
  by_cases hjk : k = j
  · subst hjk
    rw [set_eq (by omega), if_pos (by omega)]
  · rw [set_ne hjk, h3 j hj]
    by_cases hl : j < k
    · rw [if_pos hl, if_pos (by omega)]
    · rw [if_neg hl, if_neg (by omega)]
theorem RowV.other {w : World} {g g' n k T i : Nat} {V : Nat → Value} {z v : Value} (h : RowV w g n k T V z) (hg : g ≠ g') : RowV (w.setCell ⟨g', i, none⟩ v) g n k T V z := by
  obtain ⟨ce, h1, h2, h3⟩ := h
  exact ⟨ce, at_set_ne h1 hg, h2, h3⟩
theorem RowV.skip {w : World} {g n k T : Nat} {V : Nat → Value} {z : Value} (h : RowV w g n k T V z) (hv : V k = z) : RowV w g n (k + 1) T V z := by
  obtain ⟨ce, h1, h2, h3⟩ := h
  refine ⟨ce, h1, h2, fun j hj => ?_⟩
  rw [h3 j hj]
  by_cases hl : j < k
  · rw [if_pos hl, if_pos (by omega)]
  · by_cases he : j = k
    · subst he
      rw [if_neg hl, if_pos (by omega), hv]
    · rw [if_neg hl, if_neg (by omega)]
theorem RowV.lt {w : World} {g n k T : Nat} {V : Nat → Value} {z : Value} (h : RowV w g n k T V z) : g < w.heap.size := lt_of_at h.choose_spec.1
theorem RowV.cellAt {w : World} {g n k T j : Nat} {V : Nat → Value} {z : Value} (h : RowV w g n k T V z) (hj : j < n) : ∃ v, w.cell? ⟨g, j, none⟩ = some v := by
  obtain ⟨ce, h1, _, h3⟩ := h
  exact ⟨_, cell_of h1 (h3 j hj)⟩
theorem RowV.fr {w : World} {g n k T : Nat} {V : Nat → Value} {z : Value} (h : RowV w g n k T V z) (j : Nat) : w.frozen? ⟨g, j, none⟩ = false := by
  obtain ⟨ce, h1, _⟩ := h
  simp [World.frozen?, h1]
theorem RowV.full {w : World} {g n T j : Nat} {V : Nat → Value} {z : Value} (h : RowV w g n n T V z) (hj : j < n) : w.cell? ⟨g, j, none⟩ = some (V j) := by
  obtain ⟨ce, h1, _, h3⟩ := h
  have := h3 j hj
  rw [if_pos hj] at this
  exact cell_of h1 this
theorem RowV.av {w : World} {g n T q : Nat} {V : Nat → Value} {z : Value} (h : RowV w g n n T V z) (_hq : q = n) : AV w (some ⟨g, 0, none⟩) n V := fun _ => ⟨g, 0, rfl, h.lt, fun j hj => by rw [Nat.zero_add]; exact h.full hj⟩
theorem rowV_new (w : World) (n T : Nat) (V : Nat → Value) (z : Value) : RowV (w.alloc (.cells (madeCells #[z] n) T)) w.heap.size n 0 T V z := by
  refine ⟨_, at_new rfl, size_madeCells _ _, fun j hj => ?_⟩
  rw [if_neg (by omega)]
  exact made_at (r := 0) hj (by show j % 1 = 0; omega) rfl
theorem zero3 : (Try.prog.info? 3).map (fun i => (i.zero.map Value.cells, i.size, i.bytes)) = some (some #[.int .i64 0], 1, 8) := by kernel_rfl
theorem zero9 : (Try.prog.info? 9).map (fun i => (i.zero.map Value.cells, i.size, i.bytes)) = some (some #[.string ByteArray.empty], 1, 16) := by kernel_rfl
theorem zero4 : (Try.prog.info? 4).map (fun i => (i.zero.map Value.cells, i.size, i.bytes)) = some (some #[.bool false], 1, 1) := by kernel_rfl
theorem mk_row {t e b : Nat} {z : Value} (ht : Try.prog.underlying t = some (.slice e)) (hi : (Try.prog.info? e).map (fun i => (i.zero.map Value.cells, i.size, i.bytes)) = some (some #[z], 1, b)) (hb : b ≤ 16) (m : Nat) (hm : m ≤ 4096) (w : World) :
    (Instr.makeSlice t (.int .i64 (m : Int)) (.int .i64 (m : Int))).run Try.prog w = .ok (.slice (some ⟨w.heap.size, 0, none⟩) m m) (w.alloc (.cells (madeCells #[z] m) e)) := by
  obtain ⟨i0, hi, hh⟩ := Option.map_eq_some_iff.1 hi
  simp only [Prod.mk.injEq] at hh
  obtain ⟨z0, hz, hc⟩ := Option.map_eq_some_iff.1 hh.1
  have hbm : b * m ≤ 65536 := Nat.mul_le_mul hb hm
  have hbi : (b : Int) * (m : Int) ≤ 65536 := by
    have : ((b * m : Nat) : Int) ≤ 65536 := by omega
    rwa [Int.natCast_mul] at this
  have := run_make (P := Try.prog) w t e i0 z0 ht hi hz .i64 .i64 m m (by omega) (by omega) (by rw [hh.2.2]; omega) (by omega)
  rw [hh.2.1, hc] at this
  simpa using this
theorem mk22 (m : Nat) (hm : m ≤ 4096) (w : World) : (Instr.makeSlice 22 (.int .i64 (m : Int)) (.int .i64 (m : Int))).run Try.prog w = .ok (.slice (some ⟨w.heap.size, 0, none⟩) m m) (w.alloc (.cells (madeCells #[.int .i64 0] m) 3)) := mk_row Try.underlying22 zero3 (by omega) m hm w
theorem mk23i (m : Nat) (hm : m ≤ 4096) (w : World) : (Instr.makeSlice 23 (.int .i64 (m : Int)) (.int .i64 (m : Int))).run Try.prog w = .ok (.slice (some ⟨w.heap.size, 0, none⟩) m m) (w.alloc (.cells (madeCells #[.string ByteArray.empty] m) 9)) := mk_row Try.underlying23 zero9 (by omega) m hm w
theorem mk24 (m : Nat) (hm : m ≤ 4096) (w : World) : (Instr.makeSlice 24 (.int .i64 (m : Int)) (.int .i64 (m : Int))).run Try.prog w = .ok (.slice (some ⟨w.heap.size, 0, none⟩) m m) (w.alloc (.cells (madeCells #[.bool false] m) 4)) := mk_row Try.underlying24 zero4 (by omega) m hm w
/-- k of n values of an argument are copied into row g, made behind w. -/
structure CopyI (w wr : World) (g n k T : Nat) (V : Nat → Value) (z : Value) : Prop where
  own : Own w wr
  ge : w.heap.size ≤ g
  row : RowV wr g n k T V z
theorem CopyI.step {w wr : World} {g n k T : Nat} {V : Nat → Value} {z v : Value} (h : CopyI w wr g n k T V z) (hk : k < n) (hv : v = V k) : CopyI w (wr.setCell ⟨g, k, none⟩ v) g n (k + 1) T V z :=
  ⟨below_set h.own h.ge _ _, h.ge, h.row.put hk hv⟩
theorem copyI_new (w : World) (n T : Nat) (V : Nat → Value) (z : Value) : CopyI w (w.alloc (.cells (madeCells #[z] n) T)) w.heap.size n 0 T V z := ⟨below_al (Below.refl _ _) _, Nat.le_refl _, rowV_new w n T V z⟩
def RetBo (e : Ending) : Prop := ∃ bb, e = .returned (.bool bb)
set_option maxRecDepth 100000 in
set_option maxHeartbeats 4000000 in
theorem bytes5_any (A1 A2 A3 : Option Addr) (n1 n2 n3 q1 q2 q3 : Nat) (S : Nat → ByteArray) (c : ByteArray) (w : World) (h : AV w A2 n2 (fun j => .string (S j)))
    (m1 : n1 ≤ 9223372036854775807) (m2 : n2 ≤ 9223372036854775807) (m3 : n3 ≤ 9223372036854775807) (hs : ∀ j, (S j).size ≤ maxLen) (hc : c.size ≤ maxLen) :
    Calls Try.prog 5 #[.slice A1 n1 q1, .slice A2 n2 q2, .slice A3 n3 q3, .string c] w fun e w' => RetBo e ∧ w = w' := by
  have HS := Lib.hid hs
  have HR := Lib.hid h
  have hc : (c.size : Int) ≤ 9223372036854775807 := by unfold maxLen at hc; omega
  have e1 : (n1 : Int) ≤ 9223372036854775807 := by omega
  have e2 : (n2 : Int) ≤ 9223372036854775807 := by omega
  have e3 : (n3 : Int) ≤ 9223372036854775807 := by omega
  clear hs h m1 m2 m3
  go_enter Try.func5, Try.ntmps5
  go_wp2
  all_goals first
    | (go_ret; exact ⟨⟨false, rfl⟩, rfl⟩)
    | skip
  go_loop [9, 10] (fun t i => ∃ (k : Nat) (z : Int), k ≤ n2 ∧ i = .int .i64 k ∧ t = .int .i64 z) (fun _ i => n2 - (intOf i).toNat)
  case atStart => exact ⟨0, _, Nat.zero_le _, rfl, rfl⟩
  case round =>
    obtain ⟨k, z, hk, rfl, rfl⟩ := hrel
    by_cases hlt : k < n2
    · obtain ⟨b, off, rfl, hb, hc⟩ := HR.out (by omega)
      have hcx := hc k hlt
      have hsz := HS.out k
      clear hc
      generalize S k = s at hcx hsz
      unfold maxLen at hsz
      go_wp2
      all_goals first
        | (go_ret; exact ⟨⟨false, rfl⟩, rfl⟩)
        | (go_round
           case rel => exact ⟨k + 1, _, by omega, by go_num, rfl⟩
           case measure => first | (simp [intOf]; done) | (simp [intOf]; omega))
    · have : k = n2 := by omega
      subst this
      go_wp2
      all_goals (go_ret; exact ⟨⟨_, rfl⟩, rfl⟩)
end Go.Proofs.Ytnmceagiofjdnaa
