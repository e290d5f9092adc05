/- The Local of n008_163 in memory. -/
import Derived.Test.YtnmceagiofjdnaaBLocal
import Derived.Test.YtnmceagiofjdnaaVLiteralNull
import Derived.Test.YtnmceagiofjdnaaVLiteralNumber
import Derived.Test.YtnmceagiofjdnaaVLiteralString
import Derived.IntWalk
import Derived.Laws.MakeOwn
namespace Go.Proofs.Ytnmceagiofjdnaa
open Go.RowKit
theorem size_set (w : World) (g i : Nat) (v : Value) : (w.setCell ⟨g, i, none⟩ v).heap.size = w.heap.size := by
  show (w.heap.modify _ _).size = _
  rw [Array.size_modify]
theorem at_set {w : World} {g i T : Nat} {v : Value} {c : Array Value} {fr : Nat × Nat} (h : w.heap[g]? = some (.cells c T fr)) : (w.setCell ⟨g, i, none⟩ v).heap[g]? = some (.cells (c.setIfInBounds i v) T fr) := by
  simp [World.setCell, Array.getElem?_modify, h]
theorem at_set_ne {w : World} {g i A : Nat} {v : Value} {x : Obj} (h : w.heap[A]? = some x) (hn : A ≠ g) : (w.setCell ⟨g, i, none⟩ v).heap[A]? = some x := (Below.heap_setCell w ⟨g, i, none⟩ v A hn).trans h
/-- Blocks from lo on stay. -/
structure Keep (lo : Nat) (a b : World) : Prop where
  size : a.heap.size ≤ b.heap.size
  block : ∀ k, lo ≤ k → k < a.heap.size → b.heap[k]? = a.heap[k]?
theorem Keep.refl (lo : Nat) (w : World) : Keep lo w w := ⟨Nat.le_refl _, fun _ _ _ => rfl⟩
theorem Keep.go {lo : Nat} {a b c : World} (h : Keep lo a b) (k : Keep lo b c) : Keep lo a c := ⟨Nat.le_trans h.size k.size, fun i h1 h2 => (k.block i h1 (Nat.lt_of_lt_of_le h2 h.size)).trans (h.block i h1 h2)⟩
theorem Keep.al {lo : Nat} {a b : World} (h : Keep lo a b) (o : Obj) : Keep lo a (b.alloc o) := ⟨Nat.le_trans h.size (by simp), fun k h1 h2 => (Below.heap_alloc b o k (Nat.lt_of_lt_of_le h2 h.size)).trans (h.block k h1 h2)⟩
theorem Keep.set {lo : Nat} {a b : World} (h : Keep lo a b) {g : Nat} (hg : g < lo) (i : Nat) (v : Value) : Keep lo a (b.setCell ⟨g, i, none⟩ v) := ⟨by rw [size_set]; exact h.size, fun k h1 h2 => (Below.heap_setCell b ⟨g, i, none⟩ v k (by show k ≠ g; omega)).trans (h.block k h1 h2)⟩
theorem Keep.at {lo A : Nat} {a b : World} {x : Obj} (h : Keep lo a b) (hl : lo ≤ A) (hx : a.heap[A]? = some x) : b.heap[A]? = some x := (h.block A hl (lt_of_at hx)).trans hx
theorem Keep.of_own {lo : Nat} {a b : World} (h : Own a b) : Keep lo a b := ⟨h.size, fun k _ h2 => h.block k h2⟩
abbrev elC (S : Nat) : Array Value := #[.slice (some ⟨S, 0, none⟩) 1 1, .int .i64 2, .int .i64 0, .int .i64 0]
/-- v is a fodder of one element with the comment c. -/
def One (lo : Nat) (w : World) (v : Value) (c : ByteArray) : Prop := ∃ A S, v = .slice (some ⟨A, 0, none⟩) 1 1 ∧ lo ≤ A ∧ lo ≤ S ∧ w.heap[A]? = some (.cells (elC S) 75 (0, 0)) ∧ w.heap[S]? = some (.cells #[.string c] 9 (0, 0))
theorem One.keep {lo : Nat} {w w' : World} {v : Value} {c : ByteArray} (h : One lo w v c) (k : Keep lo w w') : One lo w' v c := by
  obtain ⟨A, S, h1, h2, h3, h4, h5⟩ := h
  exact ⟨A, S, h1, h2, h3, k.at h2 h4, k.at h3 h5⟩
theorem One.fodV {lo : Nat} {w : World} {v : Value} {c : ByteArray} (h : One lo w v c) : FodV v := by
  obtain ⟨A, S, h1, _⟩ := h
  exact .inr ⟨A, 0, 1, 1, h1, by omega⟩
theorem one_mk (c : ByteArray) (w : World) : Calls Try.prog 19 #[.string c] w fun e w' => e = .returned (.slice (some ⟨w.heap.size + 1, 0, none⟩) 1 1) ∧
    w' = (w.alloc (.cells #[.string c] 9)).alloc (.cells (elC w.heap.size) 75) := by
  go_enter Try.func19, Try.ntmps19
  go_wp2
  go_ret
  exact ⟨rfl, rfl⟩
theorem one_new {lo : Nat} {w : World} (c : ByteArray) (h : lo ≤ w.heap.size) : One lo ((w.alloc (.cells #[.string c] 9)).alloc (.cells (elC w.heap.size) 75)) (.slice (some ⟨w.heap.size + 1, 0, none⟩) 1 1) c :=
  ⟨w.heap.size + 1, w.heap.size, rfl, by omega, h, at_new (by simp), at_old (at_new rfl)⟩
/-- v is the literal number of a bind, its fodder c. -/
def LitN (lo : Nat) (w : World) (v : Value) (c : ByteArray) : Prop := ∃ L cl vf, v = .iface 77 (.pointer (some ⟨L, 0, none⟩)) ∧ lo ≤ L ∧ w.heap[L]? = some (.cells cl 79 (0, 0)) ∧ cl[1]? = some vf ∧ One lo w vf c
theorem LitN.keep {lo : Nat} {w w' : World} {v : Value} {c : ByteArray} (h : LitN lo w v c) (k : Keep lo w w') : LitN lo w' v c := by
  obtain ⟨L, cl, vf, h1, h2, h3, h4, h5⟩ := h
  exact ⟨L, cl, vf, h1, h2, k.at h2 h3, h4, h5.keep k⟩
/-- The parameter's block. -/
structure ParC (lo : Nat) (w : World) (Q : Nat) (c : ByteArray) : Prop where
  ge : lo ≤ Q
  ex : ∃ cq Z cz vn ve vc, w.heap[Q]? = some (.cells cq 55 (0, 0)) ∧ cq[0]? = some vn ∧ cq[2]? = some vc ∧ cq[3]? = some ve ∧ cq[4]? = some (.iface 80 (.pointer (some ⟨Z, 0, none⟩))) ∧ lo ≤ Z ∧ w.heap[Z]? = some (.cells cz 82 (0, 0)) ∧ cz[0]? = some (.slice none 0 0) ∧ One lo w vn c ∧ One lo w ve c ∧ One lo w vc c
def FnC (lo : Nat) (w : World) (v : Value) (c : ByteArray) : Prop := ∃ F cf Q vl vr, v = .pointer (some ⟨F, 0, none⟩) ∧ lo ≤ F ∧ w.heap[F]? = some (.cells cf 64 (0, 0)) ∧ cf[0]? = some vl ∧ cf[1]? = some vr ∧ cf[3]? = some (.slice (some ⟨Q, 0, none⟩) 1 1) ∧ One lo w vl c ∧ One lo w vr c ∧ ParC lo w Q c
theorem ParC.keep {lo Q : Nat} {w w' : World} {c : ByteArray} (h : ParC lo w Q c) (k : Keep lo w w') : ParC lo w' Q c := by
  obtain ⟨cq, Z, cz, vn, ve, vc, h1, h2, h3, h4, h5, h6, h7, h8, h9, h10, h11⟩ := h.ex
  exact ⟨h.ge, cq, Z, cz, vn, ve, vc, k.at h.ge h1, h2, h3, h4, h5, h6, k.at h6 h7, h8, h9.keep k, h10.keep k, h11.keep k⟩
theorem FnC.keep {lo : Nat} {w w' : World} {v : Value} {c : ByteArray} (h : FnC lo w v c) (k : Keep lo w w') : FnC lo w' v c := by
  obtain ⟨F, cf, Q, vl, vr, h1, h2, h3, h4, h5, h6, h7, h8, h9⟩ := h
  exact ⟨F, cf, Q, vl, vr, h1, h2, k.at h2 h3, h4, h5, h6, h7.keep k, h8.keep k, h9.keep k⟩
/-- The two rows: the binds, the body's fodder. -/
structure Row (w wr : World) (n : Nat) (cg ch : Array Value) : Prop where
  own : Below w.heap.size w wr
  g : wr.heap[w.heap.size]? = some (.cells cg 53 (0, 0))
  gs : cg.size = n * 12
  h : wr.heap[w.heap.size + 1]? = some (.cells ch 75 (0, 0))
  hs : ch.size = n * 4
theorem Row.al {w wr : World} {n : Nat} {cg ch : Array Value} (r : Row w wr n cg ch) (o : Obj) : Row w (wr.alloc o) n cg ch := ⟨below_al r.own o, at_old r.g, r.gs, at_old r.h, r.hs⟩
theorem below_set {a w : World} (h : Below a.heap.size a w) {g : Nat} (hg : a.heap.size ≤ g) (i : Nat) (v : Value) : Below a.heap.size a (w.setCell ⟨g, i, none⟩ v) :=
  ⟨h.os, h.tape, h.output, by rw [size_set]; exact h.size, fun k hk => (Below.heap_setCell w ⟨g, i, none⟩ v k (by show k ≠ g; omega)).trans (h.block k hk)⟩
theorem Row.setG {w wr : World} {n : Nat} {cg ch : Array Value} (r : Row w wr n cg ch) (i : Nat) (v : Value) : Row w (wr.setCell ⟨w.heap.size, i, none⟩ v) n (cg.setIfInBounds i v) ch :=
  ⟨below_set r.own (Nat.le_refl _) i v, at_set r.g, by simp [r.gs], at_set_ne r.h (by omega), r.hs⟩
theorem Row.setH {w wr : World} {n : Nat} {cg ch : Array Value} (r : Row w wr n cg ch) (i : Nat) (v : Value) : Row w (wr.setCell ⟨w.heap.size + 1, i, none⟩ v) n cg (ch.setIfInBounds i v) :=
  ⟨below_set r.own (by omega) i v, at_set_ne r.g (by omega), r.gs, at_set r.h, by simp [r.hs]⟩
theorem Row.cellG {w wr : World} {n j : Nat} {cg ch : Array Value} (r : Row w wr n cg ch) (hj : j < n * 12) : ∃ v, wr.cell? ⟨w.heap.size, j, none⟩ = some v := ⟨cg[j]'(by rw [r.gs]; exact hj), cell_of r.g (by simp [r.gs, hj])⟩
theorem Row.cellH {w wr : World} {n j : Nat} {cg ch : Array Value} (r : Row w wr n cg ch) (hj : j < n * 4) : ∃ v, wr.cell? ⟨w.heap.size + 1, j, none⟩ = some v := ⟨ch[j]'(by rw [r.hs]; exact hj), cell_of r.h (by simp [r.hs, hj])⟩
theorem Row.frG {w wr : World} {n : Nat} {cg ch : Array Value} (r : Row w wr n cg ch) (j : Nat) : wr.frozen? ⟨w.heap.size, j, none⟩ = false := by simp [World.frozen?, r.g]
theorem Row.frH {w wr : World} {n : Nat} {cg ch : Array Value} (r : Row w wr n cg ch) (j : Nat) : wr.frozen? ⟨w.heap.size + 1, j, none⟩ = false := by simp [World.frozen?, r.h]
theorem Row.ltG {w wr : World} {n : Nat} {cg ch : Array Value} (r : Row w wr n cg ch) : w.heap.size < wr.heap.size := lt_of_at r.g
theorem Row.ltH {w wr : World} {n : Nat} {cg ch : Array Value} (r : Row w wr n cg ch) : w.heap.size + 1 < wr.heap.size := lt_of_at r.h
/-- The bind i, laid whole. -/
structure BindC (lo : Nat) (w : World) (cg : Array Value) (i : Nat) (c : ByteArray) : Prop where
  f0 : ∃ v, cg[i * 12]? = some v ∧ One lo w v c
  f2 : ∃ v, cg[i * 12 + 2]? = some v ∧ One lo w v c
  f4 : ∃ v, cg[i * 12 + 4]? = some v ∧ One lo w v c
  b1 : ∃ v, cg[i * 12 + 1]? = some v ∧ LitN lo w v c
  f5 : ∃ v, cg[i * 12 + 5]? = some v ∧ FnC lo w v c
theorem BindC.keep {lo : Nat} {w w' : World} {cg cg' : Array Value} {i : Nat} {c : ByteArray} (h : BindC lo w cg i c) (k : Keep lo w w') (hg : ∀ j, j < 12 → cg'[i * 12 + j]? = cg[i * 12 + j]?) : BindC lo w' cg' i c := by
  obtain ⟨⟨v0, a0, b0⟩, ⟨v2, a2, b2⟩, ⟨v4, a4, b4⟩, ⟨v1, a1, b1⟩, ⟨v5, a5, b5⟩⟩ := h
  exact ⟨⟨v0, (hg 0 (by omega)).trans a0, b0.keep k⟩, ⟨v2, (hg 2 (by omega)).trans a2, b2.keep k⟩, ⟨v4, (hg 4 (by omega)).trans a4, b4.keep k⟩, ⟨v1, (hg 1 (by omega)).trans a1, b1.keep k⟩, ⟨v5, (hg 5 (by omega)).trans a5, b5.keep k⟩⟩
def ElC (lo : Nat) (w : World) (ch : Array Value) (i : Nat) (c : ByteArray) : Prop := ∃ S, ch[i * 4]? = some (.slice (some ⟨S, 0, none⟩) 1 1) ∧ lo ≤ S ∧ w.heap[S]? = some (.cells #[.string c] 9 (0, 0))
theorem ElC.keep {lo : Nat} {w w' : World} {ch ch' : Array Value} {i : Nat} {c : ByteArray} (h : ElC lo w ch i c) (k : Keep lo w w') (hg : ch'[i * 4]? = ch[i * 4]?) : ElC lo w' ch' i c := by
  obtain ⟨S, h1, h2, h3⟩ := h
  exact ⟨S, hg.trans h1, h2, k.at h2 h3⟩
/-- k binds are laid. -/
structure MkSt (w wr : World) (n k : Nat) (ss : List ByteArray) (cg ch : Array Value) : Prop where
  row : Row w wr n cg ch
  bs : ∀ i, i < k → BindC (w.heap.size + 2) wr cg i (ss.getD i ByteArray.empty)
  es : ∀ i, i < k → ElC (w.heap.size + 2) wr ch i (ss.getD i ByteArray.empty)
theorem set_ne {c : Array Value} {i j : Nat} {v : Value} (h : i ≠ j) : (c.setIfInBounds i v)[j]? = c[j]? := by rw [Array.getElem?_setIfInBounds, if_neg h]
theorem set_eq {c : Array Value} {i : Nat} {v : Value} (h : i < c.size) : (c.setIfInBounds i v)[i]? = some v := by simp [h]
end Go.Proofs.Ytnmceagiofjdnaa
