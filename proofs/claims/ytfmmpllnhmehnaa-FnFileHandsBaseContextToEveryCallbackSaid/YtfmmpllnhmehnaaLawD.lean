/- What holds between the visits of a law. -/
import Derived.Test.YtfmmpllnhmehnaaParts
namespace Go.Proofs.Ytfmmpllnhmehnaa
open Go.RowKit
structure Stg (F : Prop) (w C : World) (K Rt Ff : Nat) (v f vo vf : Value) (p s n m : Nat) : Prop where
  own : Below w.heap.size w C
  kge : w.heap.size ≤ K
  bk : BK C K vo vf p s (n + m)
  nb : n + m ≤ 60000
  root : C.heap[Rt]? = some (.cells #[v] 29 (0, 0))
  tr : Tr C v (tags 0 n)
  ff : F → C.heap[Ff]? = some (.cells #[f] 32 (0, 0)) ∧ FodT C f (tags n m)
theorem below_frm {n : Nat} {a b c : World} {B : Nat} (h : Below n a b) (hn : n ≤ a.heap.size) (f : Frm b c B) (hB : n ≤ B) : Below n a c :=
  ⟨f.os.trans h.os, f.tape.trans h.tape, f.output.trans h.output, Nat.le_trans h.size f.size, fun k hk => (f.frame k (Nat.lt_of_lt_of_le (Nat.lt_of_lt_of_le hk hn) h.size) (by omega)).trans (h.block k hk)⟩
theorem Stg.frm {F : Prop} {w C C' : World} {K Rt Ff B : Nat} {v f vo vf : Value} {p s n m : Nat} (h : Stg F w C K Rt Ff v f vo vf p s n m) (g : Frm C C' B) (k : Kept C C') (hB : w.heap.size ≤ B) (hK : K ≠ B) : Stg F w C' K Rt Ff v f vo vf p s n m :=
  ⟨below_frm h.own (Nat.le_refl _) g hB, h.kge, g.at h.bk hK, h.nb, k.at h.root (by decide), Tr.keep k h.tr, fun x => ⟨k.at (h.ff x).1 (by decide), (h.ff x).2.keep k⟩⟩
theorem frm_below {a b : World} (h : Below a.heap.size a b) (B : Nat) : Frm a b B := ⟨h.os, h.tape, h.output, h.size, fun k hk _ => h.block k hk⟩
theorem Stg.below {F : Prop} {w C C' : World} {K Rt Ff : Nat} {v f vo vf : Value} {p s n m : Nat} (h : Stg F w C K Rt Ff v f vo vf p s n m) (g : Below C.heap.size C C') (k : Kept C C') : Stg F w C' K Rt Ff v f vo vf p s n m :=
  h.frm (frm_below g C.heap.size) k h.own.size (Nat.ne_of_lt (lt_of_at h.bk))
theorem Stg.al {F : Prop} {w C : World} {K Rt Ff : Nat} {v f vo vf : Value} {p s n m : Nat} (h : Stg F w C K Rt Ff v f vo vf p s n m) (o : Obj) : Stg F w (C.alloc o) K Rt Ff v f vo vf p s n m :=
  h.below ((Below.refl _ _).alloc (Nat.le_refl _) o) ((Kept.refl _).al o)
theorem Stg.drewN {F : Prop} {w C : World} {K Rt Ff : Nat} {v f vo vf : Value} {p s n m : Nat} (h : Stg F w C K Rt Ff v f vo vf p s n m) (q : Nat) : Stg F w (C.drewN q) K Rt Ff v f vo vf p s n m :=
  h.below ⟨rfl, rfl, rfl, Nat.le_refl _, fun _ _ => rfl⟩ (Kept.refl C)
theorem Stg.fits {F : Prop} {w C : World} {K Rt Ff : Nat} {v f vo vf : Value} {p s n m : Nat} (h : Stg F w C K Rt Ff v f vo vf p s n m) : Fits ([] ++ tags 0 n) := by
  have := h.nb
  simp only [Fits, List.nil_append, tags_len]
  omega
theorem Stg.fitsF {F : Prop} {w C : World} {K Rt Ff : Nat} {v f vo vf : Value} {p s n m : Nat} (h : Stg F w C K Rt Ff v f vo vf p s n m) : Fits ([] ++ (tags 0 n ++ tags n m)) := by
  have := h.nb
  simp only [Fits, List.nil_append, List.length_append, tags_len]
  omega
theorem stg_visit {w W0 w1 : World} {K N p s n : Nat} {vo vf v : Value} (ho : Below w.heap.size w W0) (hK : w.heap.size ≤ K) (hN : N ≤ 4096) (R : NodeR W0 w1 K vo vf N 0 0 0 p s n v) : Stg False w (w1.alloc (.cells #[v] 29)) K w1.heap.size 0 v v vo vf p s n 0 := by
  have r1 := R.s1
  have r2 := R.n1
  have r3 := R.p2
  refine ⟨(below_frm ho (Nat.le_refl _) R.frm hK).alloc (Nat.le_trans ho.size R.frm.size) _, hK, at_old R.bk, by omega, at_new rfl, ?_, fun x => x.elim⟩
  have := Tr.keep ((unmask W0.heap.size w1).al (.cells #[v] 29)) R.tr
  simpa using this
theorem stg_file {w W0 w1 w2 : World} {K N p s n n' : Nat} {vo vf v f : Value} (ho : Below w.heap.size w W0) (hK : w.heap.size ≤ K) (hN : N ≤ 4096) (R : NodeR W0 w1 K vo vf N 0 0 0 p s n v) (Q : FodR (w1.alloc (.cells #[v] 29)) w2 K vo vf p s n n' 7 f) : Stg True w (w2.alloc (.cells #[f] 32)) K w1.heap.size w2.heap.size v f vo vf p s n (n' - n) := by
  have r1 := R.s1
  have r2 := R.n1
  have r3 := R.p2
  have q0 := Q.n0
  have q1 := Q.n1
  have A := stg_visit ho hK hN R
  have hK1 : Kept (w1.alloc (.cells #[v] 29)) w2 := Q.frm.kept A.bk
  refine ⟨(below_frm A.own (Nat.le_refl _) Q.frm hK).alloc (Nat.le_trans A.own.size Q.frm.size) _, hK, ?_, by omega, at_old (hK1.at A.root (by decide)), Tr.keep (hK1.al _) A.tr, fun _ => ⟨at_new rfl, Q.fod.keep ((unmask _ w2).al _)⟩⟩
  have : n + (n' - n) = n' := by omega
  rw [this]
  exact at_old Q.bk
theorem IsRow8.keep {w w' : World} {a : Option Addr} {len cap : Nat} {zs : List Int} (h : IsRow8 w a len cap zs) (k : Below w.heap.size w w') : IsRow8 w' a len cap zs := by
  rcases h with h | ⟨x, h1, h2, h3, h4, h5, h6⟩
  · exact .inl h
  · exact .inr ⟨x, h1, h2, h3, h4, fun i hi => (k.cell (cell_lt (h5 i hi))).trans (h5 i hi), h6⟩
theorem IsRow8.le {w : World} {a : Option Addr} {len cap : Nat} {zs : List Int} (h : IsRow8 w a len cap zs) : len ≤ 9223372036854775807 := by
  rcases h with ⟨_, h, _⟩ | ⟨x, h1, h2, h3, _⟩
  · omega
  · simp only [maxLen] at h3; omega
theorem part39 (w : World) (c : Array Value) : (partAt ⟨w.heap.size, 0, none⟩ 0 0).run Try.prog (w.alloc (.cells c 39)) = .ok ⟨w.heap.size, 0, none⟩ (w.alloc (.cells c 39)) := run_partAt0_39 _ _ c (heap_alloc_new w _)
theorem part39b (w : World) (o : Obj) (c : Array Value) : (partAt ⟨w.heap.size + 1, 0, none⟩ 0 0).run Try.prog ((w.alloc o).alloc (.cells c 39)) = .ok ⟨w.heap.size + 1, 0, none⟩ ((w.alloc o).alloc (.cells c 39)) := by
  have := part39 (w.alloc o) c
  simpa using this
theorem part49 (w : World) (c : Array Value) : (partAt ⟨w.heap.size, 0, none⟩ 0 0).run Try.prog (w.alloc (.cells c 49)) = .ok ⟨w.heap.size, 0, none⟩ (w.alloc (.cells c 49)) := run_partAt0_49 _ _ c (heap_alloc_new w _)
theorem CountV.drewN {w : World} {v : Value} {n : Nat} (h : CountV w v n) (q : Nat) : CountV (w.drewN q) v n := h
theorem isCount_q (v : Value) (n q : Nat) (w : World) (h : CountV w v n) (hn : (n : Int) ≤ 100000) : Calls Try.prog 13 #[v, .int .i64 (n : Int)] (w.drewN q) fun e w'' => e = .returned (.bool true) ∧ ∃ m, w'' = w.drewN m :=
  Calls.quiet_of_same (isCount_any v n (w.drewN q) (h.drewN q) hn)
end Go.Proofs.Ytfmmpllnhmehnaa
