/- While the builder lays an array's elements. -/
import Derived.Test.YtfmmpllnhmehnaaNodeD
namespace Go.Proofs.Ytfmmpllnhmehnaa
open Go.RowKit
theorem info87 : (Try.prog.info? 87).map (fun i => (i.zero, i.size, i.bytes)) = some (some (.agg #[.nilIface, .slice none 0 0]), 2, 40) := by kernel_rfl
def az : Array Value := (Value.agg #[.nilIface, .slice none 0 0]).cells
theorem mk85 (m : Nat) (hm : m ≤ 8) (w : World) : (Instr.makeSlice 85 (.int .i64 0) (.int .i64 (m : Int))).run Try.prog w = .ok (.slice (some ⟨w.heap.size, 0, none⟩) 0 m) (w.alloc (.cells (madeCells az (m * 2)) 87)) := by
  obtain ⟨i0, hi, hz0, hz1, hz2⟩ := info_parts info87
  have := run_make (P := Try.prog) w 85 87 i0 _ Try.underlying85 hi hz0 .i64 .i64 0 m (by omega) (by omega) (by rw [hz2]; omega) (by omega)
  rw [hz1] at this
  simpa [az] using this
def pairs (ve vd : Nat → Value) (k : Nat) : List Value := (List.range k).flatMap fun i => [ve i, vd i]
theorem pairs_succ (ve vd : Nat → Value) (k : Nat) : pairs ve vd (k + 1) = pairs ve vd k ++ [ve k, vd k] := by simp [pairs, List.range_succ]
theorem pairs_congr {ve vd ve' vd' : Nat → Value} {k : Nat} (h : ∀ i, i < k → ve i = ve' i ∧ vd i = vd' i) : pairs ve vd k = pairs ve' vd' k := by
  induction k with
  | zero => rfl
  | succ k ih => rw [pairs_succ, pairs_succ, ih (fun i hi => h i (by omega)), (h k (by omega)).1, (h k (by omega)).2]
theorem pairs_len (ve vd : Nat → Value) (k : Nat) : (pairs ve vd k).length = k * 2 := by
  induction k with
  | zero => rfl
  | succ k ih => rw [pairs_succ, List.length_append, ih]; simp; omega
theorem pairs_get (ve vd : Nat → Value) (k i : Nat) (h : i < k) : (pairs ve vd k)[i * 2]? = some (ve i) ∧ (pairs ve vd k)[i * 2 + 1]? = some (vd i) := by
  induction k with
  | zero => omega
  | succ k ih =>
    rw [pairs_succ]
    by_cases hi : i < k
    · have := ih hi
      rw [List.getElem?_append_left (by rw [pairs_len]; omega), List.getElem?_append_left (by rw [pairs_len]; omega)]
      exact this
    · have : i = k := by omega
      subst this
      rw [List.getElem?_append_right (by rw [pairs_len]; omega), List.getElem?_append_right (by rw [pairs_len]; omega), pairs_len]
      simp
theorem flatE_congr {es cs es' cs' : Nat → List Int} {k : Nat} (h : ∀ i, i < k → es i = es' i ∧ cs i = cs' i) : flatE es cs k = flatE es' cs' k := by
  induction k with
  | zero => rfl
  | succ k ih => rw [flatE_succ, flatE_succ, ih (fun i hi => h i (by omega)), (h k (by omega)).1, (h k (by omega)).2]
def upd {α : Type} (f : Nat → α) (k : Nat) (a : α) : Nat → α := fun i => if i = k then a else f i
theorem upd_same {α : Type} (f : Nat → α) (k : Nat) (a : α) : upd f k a k = a := by simp [upd]
theorem upd_lt {α : Type} (f : Nat → α) {k i : Nat} (a : α) (h : i < k) : upd f k a i = f i := by
  have : ¬ i = k := by omega
  simp [upd, this]
theorem own_block {w w' : World} {base e size g n cap : Nat} {xs : List Value} (h : w.ownsRow base e size (.slice (some ⟨g, 0, none⟩) n cap) n xs) (hb : w'.heap[g]? = w.heap[g]?) : w'.ownsRow base e size (.slice (some ⟨g, 0, none⟩) n cap) n xs := by
  refine ⟨h.1, ?_⟩
  rcases h.2 with ⟨h0, _⟩ | ⟨g', cap', cur, hv, h1, h2, h3⟩
  · cases h0
  · refine .inr ⟨g', cap', cur, hv, h1, ?_, h3⟩
    injection hv with hv
    injection hv with hv
    injection hv with hv
    subst hv
    exact hb.trans h2
structure ArrSt (w1 wr : World) (K m k : Nat) (vo vf : Value) (N pa sa na p s n : Nat) (ve vd : Nat → Value) (es cs : Nat → List Int) : Prop where
  frm : Frm w1 wr K
  lt : K < w1.heap.size
  sz : w1.heap.size < wr.heap.size
  bk : BK wr K vo vf p s n
  p1 : pa ≤ p
  p2 : p ≤ N
  s0 : sa ≤ s
  s1 : s ≤ sa + 6 * (p - pa) + 2 * k
  n0 : na ≤ n
  n1 : n ≤ na + 2 * (s - sa)
  row : wr.ownsRow w1.heap.size 87 2 (.slice (some ⟨w1.heap.size, 0, none⟩) k m) k (pairs ve vd k)
  tg : flatE es cs k = tags na (n - na)
  tr : ∀ i, i < k → Tr (mask (w1.heap.size + 1) wr) (ve i) (es i)
  fd : ∀ i, i < k → FodT (mask (w1.heap.size + 1) wr) (vd i) (cs i)
def ArrEx (w1 wr : World) (K m k : Nat) (vo vf : Value) (N pa sa na : Nat) : Prop := ∃ p s n ve vd es cs, ArrSt w1 wr K m k vo vf N pa sa na p s n ve vd es cs
theorem ArrSt.own {w1 wr w2 w3 : World} {K m k : Nat} {vo vf : Value} {N pa sa na p s n p' s' n' n'' : Nat} {ve vd : Nat → Value} {es cs : Nat → List Int} {v f : Value} (A : ArrSt w1 wr K m k vo vf N pa sa na p s n ve vd es cs)
    (R : NodeR wr w2 K vo vf N p s n p' s' n' v) (Q : FodR w2 w3 K vo vf p' (s' + 1) n' n'' 2 f) (o : Obj) : (w3.alloc o).ownsRow w1.heap.size 87 2 (.slice (some ⟨w1.heap.size, 0, none⟩) k m) k (pairs ve vd k) := by
  have hne : w1.heap.size ≠ K := by have := A.lt; omega
  have h3 := R.frm.trans Q.frm
  exact own_block A.row ((Below.heap_alloc w3 o _ (Nat.lt_of_lt_of_le A.sz h3.size)).trans (h3.frame _ A.sz hne))
theorem ArrSt.step {w1 wr w2 w3 w4 : World} {K m k : Nat} {vo vf : Value} {N pa sa na p s n p' s' n' n'' : Nat} {ve vd : Nat → Value} {es cs : Nat → List Int} {v f : Value} {o : Obj} (A : ArrSt w1 wr K m k vo vf N pa sa na p s n ve vd es cs)
    (R : NodeR wr w2 K vo vf N p s n p' s' n' v) (Q : FodR w2 w3 K vo vf p' (s' + 1) n' n'' 2 f)
    (ho : w4.ownsRow w1.heap.size 87 2 (.slice (some ⟨w1.heap.size, 0, none⟩) (k + 1) m) (k + 1) (pairs ve vd k ++ [v, f])) (hg : (w3.alloc o).grownBy w4 (some w1.heap.size)) : ArrEx w1 w4 K m (k + 1) vo vf N pa sa na := by
  have hlt := A.lt
  have hsz := A.sz
  have s2 := R.frm.size
  have s3 := Q.frm.size
  have s4 := hg.size
  simp at s4
  have hfr : ∀ j, j < w3.heap.size → j ≠ w1.heap.size → w4.heap[j]? = w3.heap[j]? := fun j hj hn => (hg.block j (by simp; omega) (by simpa using hn)).trans (Below.heap_alloc w3 o j hj)
  have hkp : ∀ j, w1.heap.size + 1 ≤ j → j < wr.heap.size → w4.heap[j]? = wr.heap[j]? := fun j h1 h2 => (hfr j (by omega) (by omega)).trans ((R.frm.trans Q.frm).frame j h2 (by omega))
  have hk1 : Kept (mask (w1.heap.size + 1) wr) (mask (w1.heap.size + 1) w4) := keepM' (by omega) hkp (Nat.le_refl _)
  have hk2 : Kept (mask wr.heap.size w2) (mask (w1.heap.size + 1) w4) := keepM' (by omega) (fun j h1 h2 => (hfr j (by omega) (by omega)).trans (Q.frm.frame j h2 (by omega))) (by omega)
  have hk3 : Kept (mask w2.heap.size w3) (mask (w1.heap.size + 1) w4) := keepM' (by omega) (fun j h1 h2 => hfr j h2 (by omega)) (by omega)
  have rp1 := R.p1
  have rp2 := R.p2
  have rs0 := R.s0
  have rs1 := R.s1
  have rn0 := R.n0
  have rn1 := R.n1
  have qn0 := Q.n0
  have qn1 := Q.n1
  have ap1 := A.p1
  have as0 := A.s0
  have as1 := A.s1
  have an0 := A.n0
  have an1 := A.n1
  refine ⟨p', s' + 1, n'', upd ve k v, upd vd k f, upd es k (tags n (n' - n)), upd cs k (tags n' (n'' - n')), ?_⟩
  refine ⟨⟨?_, ?_, ?_, by omega, fun j h1 h2 => ?_⟩, hlt, by omega, ?_, by omega, rp2, by omega, by omega, by omega, by omega, ?_, ?_, fun i hi => ?_, fun i hi => ?_⟩
  · exact hg.os.trans (A.frm.trans (R.frm.trans Q.frm)).os
  · exact hg.tape.trans (A.frm.trans (R.frm.trans Q.frm)).tape
  · exact hg.output.trans (A.frm.trans (R.frm.trans Q.frm)).output
  · exact (hfr j (by omega) (by omega)).trans ((A.frm.trans (R.frm.trans Q.frm)).frame j h1 h2)
  · have hb := Q.bk
    unfold BK at hb ⊢
    exact (hfr K (by omega) (by omega)).trans hb
  · rw [pairs_succ, upd_same, upd_same, pairs_congr (ve' := ve) (vd' := vd) (fun i hi => ⟨upd_lt _ _ hi, upd_lt _ _ hi⟩)]
    exact ho
  · rw [flatE_succ, upd_same, upd_same, flatE_congr (es' := es) (cs' := cs) (fun i hi => ⟨upd_lt _ _ hi, upd_lt _ _ hi⟩), A.tg, tags_join (by omega) (by omega), tags_join (by omega) (by omega)]
  · by_cases hik : i < k
    · rw [upd_lt _ _ hik, upd_lt _ _ hik]
      exact Tr.keep hk1 (A.tr i hik)
    · have : i = k := by omega
      subst this
      rw [upd_same, upd_same]
      exact Tr.keep hk2 R.tr
  · by_cases hik : i < k
    · rw [upd_lt _ _ hik, upd_lt _ _ hik]
      exact (A.fd i hik).keep hk1
    · have : i = k := by omega
      subst this
      rw [upd_same, upd_same]
      exact Q.fod.keep hk3
theorem ArrSt.start {w1 wa : World} {K m : Nat} {vo vf : Value} {N pa sa na : Nat} (hf : Frm w1 wa K) (hs : wa.heap.size = w1.heap.size) (hK : K < w1.heap.size) (hb : BK wa K vo vf pa sa na) (hp : pa ≤ N) (hm : m ≤ 8) :
    ArrEx w1 (wa.alloc (.cells (madeCells az (m * 2)) 87)) K m 0 vo vf N pa sa na :=
  ⟨pa, sa, na, fun _ => .nilIface, fun _ => .nilIface, fun _ => [], fun _ => [], hf.al _, hK, by simp [hs], at_old hb, Nat.le_refl _, hp, Nat.le_refl _, by omega, Nat.le_refl _, by omega,
    ⟨rfl, .inr ⟨w1.heap.size, m, _, rfl, Nat.le_refl _, at_new hs.symm, Nat.zero_le _, by unfold maxLen; omega, by rw [size_madeCells], rfl⟩⟩, by rw [Nat.sub_self]; rfl, fun i hi => by omega, fun i hi => by omega⟩
/-- The row, read. -/
theorem ArrSt.read {w1 wr : World} {K m : Nat} {vo vf : Value} {N pa sa na p s n : Nat} {ve vd : Nat → Value} {es cs : Nat → List Int} (A : ArrSt w1 wr K m m vo vf N pa sa na p s n ve vd es cs) :
    ∃ ce, wr.heap[w1.heap.size]? = some (.cells ce 87 (0, 0)) ∧ (∀ i, i < m → ce[i * 2]? = some (ve i)) ∧ (∀ i, i < m → ce[i * 2 + 1]? = some (vd i)) := by
  rcases A.row.2 with ⟨h0, _⟩ | ⟨g', cap', cur, hv, h1, h2, h3, h4, h5, h6⟩
  · cases h0
  · injection hv with hv
    injection hv with hv
    injection hv with hv
    subst hv
    refine ⟨cur, h2, fun i hi => ?_, fun i hi => ?_⟩
    · rw [← (pairs_get ve vd m i hi).1, ← h6, List.getElem?_take_of_lt (by omega), Array.getElem?_toList]
    · rw [← (pairs_get ve vd m i hi).2, ← h6, List.getElem?_take_of_lt (by omega), Array.getElem?_toList]
end Go.Proofs.Ytfmmpllnhmehnaa
