/- The builder's two makers of fodder. -/
import Derived.Test.YtfmmpllnhmehnaaTree
import Derived.IntWalk
import Derived.Laws.MakeOwn
namespace Go.Proofs.Ytfmmpllnhmehnaa
open Go.RowKit
structure Frm (a b : World) (B : Nat) : Prop where
  os : b.os = a.os
  tape : b.tape = a.tape
  output : b.output = a.output
  size : a.heap.size ≤ b.heap.size
  frame : ∀ k, k < a.heap.size → k ≠ B → b.heap[k]? = a.heap[k]?
theorem Frm.refl (a : World) (B : Nat) : Frm a a B := ⟨rfl, rfl, rfl, Nat.le_refl _, fun _ _ _ => rfl⟩
theorem Frm.trans {a b c : World} {B : Nat} (h : Frm a b B) (k : Frm b c B) : Frm a c B := ⟨k.os.trans h.os, k.tape.trans h.tape, k.output.trans h.output, Nat.le_trans h.size k.size, fun i hi hn => (k.frame i (Nat.lt_of_lt_of_le hi h.size) hn).trans (h.frame i hi hn)⟩
theorem Frm.at {a b : World} {A B : Nat} {x : Obj} (h : Frm a b B) (hx : a.heap[A]? = some x) (hn : A ≠ B) : b.heap[A]? = some x := (h.frame A (lt_of_at hx) hn).trans hx
theorem Frm.drewN {a b : World} {B : Nat} (h : Frm a b B) (n : Nat) : Frm a (b.drewN n) B := ⟨h.os, h.tape, h.output, h.size, h.frame⟩
theorem Frm.drew {a b : World} {B : Nat} (h : Frm a b B) : Frm a b.drew B := ⟨h.os, h.tape, h.output, h.size, h.frame⟩
theorem Frm.al {a b : World} {B : Nat} (h : Frm a b B) (o : Obj) : Frm a (b.alloc o) B := ⟨h.os, h.tape, h.output, Nat.le_trans h.size (by simp), fun k hk hn => (Below.heap_alloc b o k (Nat.lt_of_lt_of_le hk h.size)).trans (h.frame k hk hn)⟩
theorem size_set (w : World) (g i : Nat) (v : Value) : (w.setCell ⟨g, i, none⟩ v).heap.size = w.heap.size := by
  show (w.heap.modify _ _).size = _
  rw [Array.size_modify]
theorem at_set {w : World} {g i T : Nat} {v : Value} {c : Array Value} {fr : Nat × Nat} (h : w.heap[g]? = some (.cells c T fr)) : (w.setCell ⟨g, i, none⟩ v).heap[g]? = some (.cells (c.setIfInBounds i v) T fr) := by
  simp [World.setCell, Array.getElem?_modify, h]
theorem at_set_ne {w : World} {g i A : Nat} {v : Value} {x : Obj} (h : w.heap[A]? = some x) (hn : A ≠ g) : (w.setCell ⟨g, i, none⟩ v).heap[A]? = some x := (Below.heap_setCell w ⟨g, i, none⟩ v A hn).trans h
theorem Frm.set {a b : World} {B : Nat} (h : Frm a b B) (i : Nat) (v : Value) : Frm a (b.setCell ⟨B, i, none⟩ v) B := ⟨h.os, h.tape, h.output, by rw [size_set]; exact h.size, fun k hk hn => (Below.heap_setCell b ⟨B, i, none⟩ v k hn).trans (h.frame k hk hn)⟩
theorem Frm.set_new {a b : World} {B : Nat} (h : Frm a b B) {g : Nat} (hg : a.heap.size ≤ g) (i : Nat) (v : Value) : Frm a (b.setCell ⟨g, i, none⟩ v) B := ⟨h.os, h.tape, h.output, by rw [size_set]; exact h.size, fun k hk hn => (Below.heap_setCell b ⟨g, i, none⟩ v k (by show k ≠ g; omega)).trans (h.frame k hk hn)⟩
/-- The builder's block. -/
def BK (w : World) (K : Nat) (vo vf : Value) (pos slot next : Nat) : Prop := w.heap[K]? = some (.cells #[vo, .int .i64 (pos : Int), vf, .int .i64 (slot : Int), .int .i64 (next : Int)] 27 (0, 0))
theorem Frm.kept {a b : World} {K : Nat} {vo vf : Value} {pos slot next : Nat} (h : Frm a b K) (hK : BK a K vo vf pos slot next) : Kept a b := ⟨h.size, fun k c t hx ho => h.at hx (fun e => by
  subst e
  unfold BK at hK
  rw [hx] at hK
  injection hK with hK
  injection hK with _ hK
  exact ho.2.2.2 hK)⟩
/-- A slice of bytes reads l. -/
def Bytes (w : World) (v : Value) (l : List Nat) : Prop := (v = .slice none 0 0 ∧ l = []) ∨ ∃ (O cap : Nat) (c : Array Value), v = .slice (some ⟨O, 0, none⟩) l.length cap ∧ w.heap[O]? = some (.cells c 5 (0, 0)) ∧ ∀ (i x : Nat), l[i]? = some x → x < 256 ∧ c[i]? = some (.int .u8 (x : Int))
theorem Bytes.keep {w w' : World} {v : Value} {l : List Nat} (h : Bytes w v l) (k : Kept w w') : Bytes w' v l := by
  rcases h with h | ⟨O, cap, c, h1, h2, h3⟩
  · exact .inl h
  · exact .inr ⟨O, cap, c, h1, k.at h2 (by decide), h3⟩
def tags (next m : Nat) : List Int := (List.range m).map fun i => ((next + i : Nat) : Int)
theorem tags_len (next m : Nat) : (tags next m).length = m := by simp [tags]
theorem tags_get {next m i : Nat} {x : Int} (h : (tags next m)[i]? = some x) : i < m ∧ x = ((next + i : Nat) : Int) := by
  have hi : i < m := by have := (List.getElem?_eq_some_iff.1 h).1; rwa [tags_len] at this
  refine ⟨hi, ?_⟩
  simp [tags, hi] at h
  exact h.symm
theorem tags_add (next a b : Nat) : tags next (a + b) = tags next a ++ tags (next + a) b := by
  simp only [tags, List.range_add, List.map_append, List.map_map]
  congr 1
  apply List.map_congr_left
  intro i _
  simp [Nat.add_assoc]
/-- The world with all blocks below lo struck. -/
def mask (lo : Nat) (w : World) : World := { w with heap := w.heap.mapIdx fun k o => if k < lo then .cells #[] 27 (0, 0) else o }
theorem mask_get (lo : Nat) (w : World) (k : Nat) : (mask lo w).heap[k]? = w.heap[k]?.map fun o => if k < lo then .cells #[] 27 (0, 0) else o := by simp [mask]
theorem mask_at {lo k : Nat} {w : World} {x : Obj} (h : w.heap[k]? = some x) (hl : lo ≤ k) : (mask lo w).heap[k]? = some x := by
  rw [mask_get, h]
  have : ¬ k < lo := by omega
  simp [this]
theorem mask_old {lo k t : Nat} {w : World} {c : Array Value} (h : (mask lo w).heap[k]? = some (.cells c t (0, 0))) (ho : Old t) : lo ≤ k ∧ w.heap[k]? = some (.cells c t (0, 0)) := by
  rw [mask_get] at h
  obtain ⟨o, h1, h2⟩ := Option.map_eq_some_iff.1 h
  by_cases hk : k < lo
  · rw [if_pos hk] at h2
    injection h2 with _ h3
    exact absurd h3.symm ho.2.2.2
  · rw [if_neg hk] at h2
    subst h2
    exact ⟨by omega, h1⟩
theorem mask_size (lo : Nat) (w : World) : (mask lo w).heap.size = w.heap.size := by simp [mask]
theorem keepM' {a W : World} {lo lo' : Nat} (hs : a.heap.size ≤ W.heap.size) (hf : ∀ k, lo ≤ k → k < a.heap.size → W.heap[k]? = a.heap[k]?) (hl : lo' ≤ lo) : Kept (mask lo a) (mask lo' W) :=
  ⟨by rw [mask_size, mask_size]; exact hs, fun k c t hx ho => by
    obtain ⟨h1, h2⟩ := mask_old hx ho
    exact mask_at ((hf k h1 (lt_of_at h2)).trans h2) (by omega)⟩
theorem keepM {a W : World} {K lo lo' : Nat} (f : Frm a W K) (hK : K < lo) (hl : lo' ≤ lo) : Kept (mask lo a) (mask lo' W) := keepM' f.size (fun k h1 h2 => f.frame k h2 (by omega)) hl
theorem unmask (lo : Nat) (w : World) : Kept (mask lo w) w := ⟨by rw [mask_size]; exact Nat.le_refl _, fun k c t hx ho => (mask_old hx ho).2⟩
theorem tags_join {a b c : Nat} (h1 : a ≤ b) (h2 : b ≤ c) : tags a (b - a) ++ tags b (c - b) = tags a (c - a) := by
  have e : c - a = (b - a) + (c - b) := by omega
  rw [e, tags_add]
  congr 2
  omega
theorem info94 : (Try.prog.info? 94).map (fun i => (i.zero, i.size, i.bytes)) = some (some (.agg #[.slice none 0 0, .int .i64 0, .int .i64 0, .int .i64 0]), 4, 48) := by kernel_rfl
def fz : Array Value := (Value.agg #[.slice none 0 0, .int .i64 0, .int .i64 0, .int .i64 0]).cells
theorem mk32 (m : Nat) (hm : m ≤ 8) (w : World) : (Instr.makeSlice 32 (.int .i64 (m : Int)) (.int .i64 (m : Int))).run Try.prog w = .ok (.slice (some ⟨w.heap.size, 0, none⟩) m m) (w.alloc (.cells (madeCells fz (m * 4)) 94)) := by
  obtain ⟨i0, hi, hz0, hz1, hz2⟩ := info_parts info94
  have := run_make (P := Try.prog) w 32 94 i0 _ Try.underlying32 hi hz0 .i64 .i64 m m (by omega) (by omega) (by rw [hz2]; omega) (by omega)
  rw [hz1] at this
  simpa [fz] using this
/-- While the elements are laid: k of m. -/
structure Fill (w0 wr : World) (K g m k : Nat) (vo vf : Value) (pos slot next : Nat) : Prop where
  frm : Frm w0 wr K
  bk : BK wr K vo vf pos slot (next + k)
  lt : K < w0.heap.size
  ge : w0.heap.size ≤ g
  row : ∃ ce, wr.heap[g]? = some (.cells ce 94 (0, 0)) ∧ ce.size = m * 4 ∧ ∀ j, j < k → ce[j * 4 + 2]? = some (.int .i64 ((next + j : Nat) : Int))
theorem Fill.cells {w0 wr : World} {K g m k : Nat} {vo vf : Value} {pos slot next : Nat} (h : Fill w0 wr K g m k vo vf pos slot next) : ∀ j, j < m * 4 → ∃ v, wr.cell? ⟨g, j, none⟩ = some v := by
  obtain ⟨ce, h1, h2, _⟩ := h.row
  intro j hj
  exact ⟨ce[j]'(by omega), cell_of h1 (by simp [h2, hj])⟩
theorem Fill.frozen {w0 wr : World} {K g m k : Nat} {vo vf : Value} {pos slot next : Nat} (h : Fill w0 wr K g m k vo vf pos slot next) : (∀ j, wr.frozen? ⟨g, j, none⟩ = false) ∧ wr.frozen? ⟨K, 4, none⟩ = false := by
  obtain ⟨ce, h1, _⟩ := h.row
  have hk := h.bk
  unfold BK at hk
  exact ⟨fun j => by simp [World.frozen?, h1], by simp [World.frozen?, hk]⟩
theorem Fill.step {w0 wr : World} {K g m k : Nat} {vo vf : Value} {pos slot next : Nat} (h : Fill w0 wr K g m k vo vf pos slot next) (hk : k < m) :
    Fill w0 (((((wr.setCell ⟨g, k * 4, none⟩ (.slice none 0 0)).setCell ⟨g, k * 4 + 1, none⟩ (.int .i64 0)).setCell ⟨g, k * 4 + 2, none⟩ (.int .i64 ((next : Int) + (k : Int)))).setCell ⟨g, k * 4 + 3, none⟩ (.int .i64 0)).setCell ⟨K, 4, none⟩ (.int .i64 ((next : Int) + (k : Int) + 1))) K g m (k + 1) vo vf pos slot next := by
  have hne : K ≠ g := by have := h.lt; have := h.ge; omega
  obtain ⟨ce, h1, h2, h3⟩ := h.row
  refine ⟨((((h.frm.set_new h.ge _ _).set_new h.ge _ _).set_new h.ge _ _).set_new h.ge _ _).set _ _, ?_, h.lt, h.ge, _, at_set_ne (at_set (at_set (at_set (at_set h1)))) (Ne.symm hne), by simp [h2], fun j hj => ?_⟩
  · have := at_set (i := 4) (v := .int .i64 ((next : Int) + (k : Int) + 1)) (at_set_ne (g := g) (i := k * 4 + 3) (v := .int .i64 0) (at_set_ne (g := g) (i := k * 4 + 2) (v := .int .i64 ((next : Int) + (k : Int))) (at_set_ne (g := g) (i := k * 4 + 1) (v := .int .i64 0) (at_set_ne (g := g) (i := k * 4) (v := .slice none 0 0) h.bk hne) hne) hne) hne)
    unfold BK
    rw [this]
    simp [Int.add_assoc]
  · simp only [Array.getElem?_setIfInBounds, Array.size_setIfInBounds]
    by_cases hjk : j = k
    · subst hjk
      have e1 : ¬ (j * 4 + 3 = j * 4 + 2) := by omega
      have e2 : j * 4 + 2 < ce.size := by omega
      simp [e2]
    · have hj2 : j < k := by omega
      have e0 : ¬ (k * 4 = j * 4 + 2) := by omega
      have e1 : ¬ (k * 4 + 1 = j * 4 + 2) := by omega
      have e2 : ¬ (k * 4 + 2 = j * 4 + 2) := by omega
      have e3 : ¬ (k * 4 + 3 = j * 4 + 2) := by omega
      simp only [e0, e1, e2, e3, if_false]
      exact h3 j hj2
theorem Fill.fodT {w0 wr : World} {K g m : Nat} {vo vf : Value} {pos slot next : Nat} (h : Fill w0 wr K g m m vo vf pos slot next) (hm : m ≤ 8) : FodT (mask w0.heap.size wr) (.slice (some ⟨g, 0, none⟩) m m) (tags next (next + m - next)) := by
  rw [Nat.add_sub_cancel_left]
  obtain ⟨ce, h1, _, h3⟩ := h.row
  refine .inr ⟨g, m, ce, by rw [tags_len], by rw [tags_len]; exact hm, mask_at h1 h.ge, fun i x hx => ?_⟩
  obtain ⟨hi, rfl⟩ := tags_get hx
  exact h3 i hi
/-- What a maker of fodder leaves. -/
structure FodR (w w' : World) (K : Nat) (vo vf : Value) (pos slot next next' M : Nat) (f : Value) : Prop where
  frm : Frm w w' K
  bk : BK w' K vo vf pos slot next'
  n0 : next ≤ next'
  n1 : next' ≤ next + M
  fod : FodT (mask w.heap.size w') f (tags next (next' - next))
def FodPost (w : World) (K : Nat) (vo vf : Value) (pos slot next M : Nat) (e : Ending) (w' : World) : Prop := ∃ fa fl fc next', e = .returned (.slice fa fl fc) ∧ FodR w w' K vo vf pos slot next next' M (.slice fa fl fc)
theorem fodder_none (K slot next pos cap : Nat) (fa : Option Addr) (vo : Value) (w : World) (hK : BK w K vo (.slice fa 0 cap) pos slot next) (hs : slot ≤ 100000) :
    Calls Try.prog 20 #[.pointer (some ⟨K, 0, none⟩)] w (FodPost w K vo (.slice fa 0 cap) pos (slot + 1) next 2) := by
  have HK := Lib.hid hK
  unfold BK at hK
  have k2 := cell_of (k := 2) hK rfl
  have k3 := cell_of (k := 3) hK rfl
  have kf : ∀ i, w.frozen? ⟨K, i, none⟩ = false := by intro i; simp [World.frozen?, hK]
  clear hK
  go_enter Try.func20, Try.ntmps20
  go_wp2
  go_ret
  exact ⟨_, _, _, next, rfl, (Frm.refl w K).set _ _, by have := at_set (i := 3) (v := .int .i64 ((slot : Int) + 1)) HK.out; unfold BK; rw [this]; rfl, by omega, by omega, .inl ⟨_, _, rfl, by rw [Nat.sub_self]; rfl⟩⟩
set_option maxRecDepth 100000 in
set_option maxHeartbeats 4000000 in
theorem fodder_some (K O L cap slot next x m pos : Nat) (vo : Value) (cO : Array Value) (w : World)
    (hK : BK w K vo (.slice (some ⟨O, 0, none⟩) L cap) pos slot next)
    (hO : w.heap[O]? = some (.cells cO 5 (0, 0))) (hL : 0 < L) (hL2 : L ≤ 4096) (hs : slot ≤ 100000) (hn : next ≤ 200000) (hx : cO[slot % L]? = some (.int .u8 (x : Int))) (hx2 : x < 256) (hm : (x : Int) % 3 = (m : Int)) (hm2 : m ≤ 2) :
    Calls Try.prog 20 #[.pointer (some ⟨K, 0, none⟩)] w (FodPost w K vo (.slice (some ⟨O, 0, none⟩) L cap) pos (slot + 1) next 2) := by
  have HK := Lib.hid hK
  have HKl := Lib.hid (lt_of_at hK)
  have hKl := lt_of_at hK
  unfold BK at hK
  have k2 := cell_of (k := 2) hK rfl
  have k3 := cell_of (k := 3) hK rfl
  have k4 := cell_of (k := 4) hK rfl
  have o1 := cell_of hO hx
  have kf : ∀ i, w.frozen? ⟨K, i, none⟩ = false := by intro i; simp [World.frozen?, hK]
  have t2 : slot % L < L := Nat.mod_lt _ hL
  have mk := mk32 m (by omega)
  have HM := Lib.hid hm2
  clear hK hO hx
  by_cases hm0 : m = 0
  · subst hm0
    clear mk
    go_enter Try.func20, Try.ntmps20
    go_wp2_with fail
    go_quiet (fail)
    go_wp2
    go_ret
    exact ⟨_, _, _, next, rfl, ((Frm.refl w K).drewN _).set _ _, by have := at_set (w := w.drewN nq) (i := 3) (v := .int .i64 ((slot : Int) + 1)) HK.out; unfold BK; rw [this]; rfl, by omega, by omega, .inl ⟨_, _, rfl, by rw [Nat.sub_self]; rfl⟩⟩
  · have hmp : ((m : Int) == 0) = false := by simp [hm0]
    go_enter Try.func20, Try.ntmps20
    go_wp2_with fail
    go_quiet (fail)
    go_wp2_with fail
    generalize hW : World.alloc _ _ = W1
    have FI : Hid (Fill w W1 K w.heap.size m 0 vo (.slice (some ⟨O, 0, none⟩) L cap) pos (slot + 1) next) := ⟨by rw [← hW]; exact (((Frm.refl w K).drewN _).set _ _).al _, by rw [← hW]; exact at_old (by have := at_set (w := w.drewN nq) (i := 3) (v := .int .i64 ((slot : Int) + 1)) HK.out; rw [this]; rfl), HKl.out, Nat.le_refl _, _, by rw [← hW]; exact at_new (by rw [size_set]; rfl), by simp [size_madeCells], fun j hj => by omega⟩
    clear hW k2 k3 k4 o1 kf mk t2 hm hmp HK
    go_loopw [5] (fun i wr => ∃ k : Nat, k ≤ m ∧ i = .int .i64 k ∧ Hid (Fill w wr K w.heap.size m k vo (.slice (some ⟨O, 0, none⟩) L cap) pos (slot + 1) next)) (fun i _ => m - (intOf i).toNat)
    case atStart => exact ⟨0, Nat.zero_le _, rfl, FI⟩
    case round =>
      obtain ⟨k, hk, rfl, hf⟩ := hrel
      by_cases hlt : k < m
      · obtain ⟨v0, h0⟩ := hf.out.cells (k * 4) (by omega)
        obtain ⟨v1, h1⟩ := hf.out.cells (k * 4 + 1) (by omega)
        obtain ⟨v2, h2⟩ := hf.out.cells (k * 4 + 2) (by omega)
        obtain ⟨v3, h3⟩ := hf.out.cells (k * 4 + 3) (by omega)
        obtain ⟨z1, z2⟩ := hf.out.frozen
        have k4 : _ = some (Value.int .i64 ((next : Int) + (k : Int))) := cell_of (k := 4) hf.out.bk rfl
        have HS := Lib.hid (hf.out.step hlt)
        clear hf
        go_wp2
        clear h0 h1 h2 h3 z1 z2 k4
        go_roundw
        case rel => exact ⟨k + 1, by omega, by go_num, HS⟩
        case measure => first | (simp [intOf]; done) | (simp [intOf]; omega)
      · have hkm : k = m := by omega
        subst hkm
        go_wp2
        go_ret
        exact ⟨_, _, _, next + k, rfl, hf.out.frm, hf.out.bk, by omega, by have := HM.out; omega, hf.out.fodT (by have := HM.out; omega)⟩
theorem fodder_any (K slot next pos : Nat) (vo vf : Value) (fl : List Nat) (w : World) (hK : BK w K vo vf pos slot next) (hf : Bytes w vf fl) (hl : fl.length ≤ 4096) (hs : slot ≤ 100000) (hn : next ≤ 200000) :
    Calls Try.prog 20 #[.pointer (some ⟨K, 0, none⟩)] w (FodPost w K vo vf pos (slot + 1) next 2) := by
  rcases hf with ⟨rfl, rfl⟩ | ⟨O, cap, c, rfl, h2, h3⟩
  · exact fodder_none K slot next pos 0 none vo w hK hs
  · by_cases h0 : fl.length = 0
    · rw [h0] at hK ⊢
      exact fodder_none K slot next pos cap _ vo w hK hs
    · have hp : 0 < fl.length := by omega
      have hlt : slot % fl.length < fl.length := Nat.mod_lt _ hp
      obtain ⟨h4, h5⟩ := h3 (slot % fl.length) (fl[slot % fl.length]) (by simp [hlt])
      exact fodder_some K O fl.length cap slot next _ (fl[slot % fl.length] % 3) pos vo c w hK h2 hp hl hs hn h5 h4 (by simp) (by omega)
set_option maxRecDepth 100000 in
set_option maxHeartbeats 4000000 in
theorem fodderOf_m (K next x m pos slot : Nat) (vo vf : Value) (w : World) (hK : BK w K vo vf pos slot next) (hn : next ≤ 200000) (hx2 : x < 256) (hm : (x : Int) % 8 = (m : Int)) (hm2 : m ≤ 7) :
    Calls Try.prog 11 #[.pointer (some ⟨K, 0, none⟩), .int .u8 (x : Int)] w (FodPost w K vo vf pos slot next 7) := by
  have HK := Lib.hid hK
  have HKl := Lib.hid (lt_of_at hK)
  have hKl := lt_of_at hK
  unfold BK at hK
  have k4 := cell_of (k := 4) hK rfl
  have mk := mk32 m (by omega)
  have HM := Lib.hid hm2
  clear hK
  by_cases hm0 : m = 0
  · subst hm0
    clear mk
    go_enter Try.func11, Try.ntmps11
    go_wp2
    go_ret
    exact ⟨_, _, _, next, rfl, Frm.refl w K, HK.out, by omega, by omega, .inl ⟨_, _, rfl, by rw [Nat.sub_self]; rfl⟩⟩
  · have hmp : ((m : Int) == 0) = false := by simp [hm0]
    go_enter Try.func11, Try.ntmps11
    go_wp2_with fail
    generalize hW : World.alloc _ _ = W1
    have FI : Hid (Fill w W1 K w.heap.size m 0 vo vf pos slot next) := ⟨by rw [← hW]; exact (Frm.refl w K).al _, by rw [← hW]; exact at_old HK.out, HKl.out, Nat.le_refl _, _, by rw [← hW]; exact at_new rfl, by simp [size_madeCells], fun j hj => by omega⟩
    clear hW k4 mk hm hmp HK
    go_loopw [7] (fun i wr => ∃ k : Nat, k ≤ m ∧ i = .int .i64 k ∧ Hid (Fill w wr K w.heap.size m k vo vf pos slot next)) (fun i _ => m - (intOf i).toNat)
    case atStart => exact ⟨0, Nat.zero_le _, rfl, FI⟩
    case round =>
      obtain ⟨k, hk, rfl, hf⟩ := hrel
      by_cases hlt : k < m
      · obtain ⟨v0, h0⟩ := hf.out.cells (k * 4) (by omega)
        obtain ⟨v1, h1⟩ := hf.out.cells (k * 4 + 1) (by omega)
        obtain ⟨v2, h2⟩ := hf.out.cells (k * 4 + 2) (by omega)
        obtain ⟨v3, h3⟩ := hf.out.cells (k * 4 + 3) (by omega)
        obtain ⟨z1, z2⟩ := hf.out.frozen
        have k4 : _ = some (Value.int .i64 ((next : Int) + (k : Int))) := cell_of (k := 4) hf.out.bk rfl
        have HS := Lib.hid (hf.out.step hlt)
        clear hf
        go_wp2
        clear h0 h1 h2 h3 z1 z2 k4
        go_roundw
        case rel => exact ⟨k + 1, by omega, by go_num, HS⟩
        case measure => first | (simp [intOf]; done) | (simp [intOf]; omega)
      · have hkm : k = m := by omega
        subst hkm
        go_wp2
        go_ret
        exact ⟨_, _, _, next + k, rfl, hf.out.frm, hf.out.bk, by omega, by have := HM.out; omega, hf.out.fodT (by have := HM.out; omega)⟩
theorem fodderOf_any (K next x pos slot : Nat) (vo vf : Value) (w : World) (hK : BK w K vo vf pos slot next) (hn : next ≤ 200000) (hx2 : x < 256) :
    Calls Try.prog 11 #[.pointer (some ⟨K, 0, none⟩), .int .u8 (x : Int)] w (FodPost w K vo vf pos slot next 7) :=
  fodderOf_m K next x (x % 8) pos slot vo vf w hK hn hx2 (by simp) (by omega)
end Go.Proofs.Ytfmmpllnhmehnaa
