/- The maker of the Local of n008_163's first law (6). -/
import Derived.Test.YtnmceagiofjdnaaLit
namespace Go.Proofs.Ytnmceagiofjdnaa
open Go.RowKit
theorem made_at {z : Array Value} {n j r : Nat} {v : Value} (hj : j < n) (hr : j % z.size = r) (hz : z[r]? = some v) : (madeCells z n)[j]? = some v := by
  subst hr
  obtain ⟨hl, he⟩ := Array.getElem?_eq_some_iff.1 hz
  simp [madeCells, hj, hl, he]
theorem info53z : (Try.prog.info? 53).map (fun i => (i.zero.map Value.cells, i.size, i.bytes)) = some (some #[.slice none 0 0, .nilIface, .slice none 0 0, .string ByteArray.empty, .slice none 0 0, .pointer none, .pointer none, .string ByteArray.empty, .int .i64 0, .int .i64 0, .int .i64 0, .int .i64 0], 12, 168) := by kernel_rfl
theorem mk39z (m : Nat) (hm : m ≤ 4096) (w : World) : ∃ z, z.size = m * 12 ∧ (∀ i, i < m → z[i * 12]? = some (.slice none 0 0) ∧ z[i * 12 + 2]? = some (.slice none 0 0) ∧ z[i * 12 + 4]? = some (.slice none 0 0) ∧ z[i * 12 + 5]? = some (.pointer none)) ∧
    (Instr.makeSlice 39 (.int .i64 (m : Int)) (.int .i64 (m : Int))).run Try.prog w = .ok (.slice (some ⟨w.heap.size, 0, none⟩) m m) (w.alloc (.cells z 53)) := by
  obtain ⟨i0, hi, hh⟩ := Option.map_eq_some_iff.1 info53z
  simp only [Prod.mk.injEq] at hh
  obtain ⟨z, hz, hc⟩ := Option.map_eq_some_iff.1 hh.1
  have := run_make (P := Try.prog) w 39 53 i0 z Try.underlying39 hi hz .i64 .i64 m m (by omega) (by omega) (by rw [hh.2.2]; omega) (by omega)
  rw [hh.2.1, hc] at this
  refine ⟨_, size_madeCells _ _, fun i hi => ⟨?_, ?_, ?_, ?_⟩, by simpa using this⟩
  · exact made_at (r := 0) (by simp; omega) (by show i * 12 % 12 = 0; omega) rfl
  · exact made_at (r := 2) (by omega) (by show (i * 12 + 2) % 12 = 2; omega) rfl
  · exact made_at (r := 4) (by omega) (by show (i * 12 + 4) % 12 = 4; omega) rfl
  · exact made_at (r := 5) (by omega) (by show (i * 12 + 5) % 12 = 5; omega) rfl
/-- v is a function of one parameter whose default is the literal null with the comment c. -/
def FnD (lo : Nat) (w : World) (v : Value) (c : ByteArray) : Prop := ∃ F cf Q cq vd, v = .pointer (some ⟨F, 0, none⟩) ∧ lo ≤ F ∧ w.heap[F]? = some (.cells cf 64 (0, 0)) ∧ cf[0]? = some (.slice none 0 0) ∧ cf[1]? = some (.slice none 0 0) ∧ cf[3]? = some (.slice (some ⟨Q, 0, none⟩) 1 1) ∧
  lo ≤ Q ∧ w.heap[Q]? = some (.cells cq 55 (0, 0)) ∧ cq[0]? = some (.slice none 0 0) ∧ cq[2]? = some (.slice none 0 0) ∧ cq[3]? = some (.slice none 0 0) ∧ cq[4]? = some vd ∧ LitK lo w vd 0 c
theorem FnD.keep {lo : Nat} {w w' : World} {v : Value} {c : ByteArray} (h : FnD lo w v c) (k : Keep lo w w') : FnD lo w' v c := by
  obtain ⟨F, cf, Q, cq, vd, h1, h2, h3, h4, h5, h6, h7, h8, h9, h10, h11, h12, h13⟩ := h
  exact ⟨F, cf, Q, cq, vd, h1, h2, k.at h2 h3, h4, h5, h6, h7, k.at h7 h8, h9, h10, h11, h12, h13.keep k⟩
/-- The bind i, laid whole. -/
structure BindD (lo : Nat) (w : World) (cg : Array Value) (i k : Nat) (c : ByteArray) (b : Bool) : Prop where
  b1 : ∃ v, cg[i * 12 + 1]? = some v ∧ LitK lo w v k c
  f5 : ∃ v, cg[i * 12 + 5]? = some v ∧ ((b = false ∧ v = .pointer none) ∨ (b = true ∧ FnD lo w v c))
theorem BindD.keep {lo i k : Nat} {w w' : World} {cg cg' : Array Value} {c : ByteArray} {b : Bool} (h : BindD lo w cg i k c b) (q : Keep lo w w') (h1 : cg'[i * 12 + 1]? = cg[i * 12 + 1]?) (h5 : cg'[i * 12 + 5]? = cg[i * 12 + 5]?) : BindD lo w' cg' i k c b := by
  obtain ⟨⟨v1, a1, b1⟩, ⟨v5, a5, b5⟩⟩ := h
  exact ⟨⟨v1, h1.trans a1, b1.keep q⟩, ⟨v5, h5.trans a5, b5.imp id (fun x => ⟨x.1, x.2.keep q⟩)⟩⟩
structure In3 (w : World) (O1 O2 O3 n : Nat) (K : Nat → Nat) (T : Nat → ByteArray) (B : Nat → Bool) : Prop where
  l1 : O1 < w.heap.size
  l2 : O2 < w.heap.size
  l3 : O3 < w.heap.size
  k3 : ∀ j, j < n → K j < 3
  c1 : ∀ j, j < n → w.cell? ⟨O1, j, none⟩ = some (.int .i64 (K j : Int))
  c2 : ∀ j, j < n → w.cell? ⟨O2, j, none⟩ = some (.string (T j))
  c3 : ∀ j, j < n → w.cell? ⟨O3, j, none⟩ = some (.bool (B j))
theorem In3.keep {w w' : World} {O1 O2 O3 n : Nat} {K : Nat → Nat} {T : Nat → ByteArray} {B : Nat → Bool} (h : In3 w O1 O2 O3 n K T B) (k : Own w w') : In3 w' O1 O2 O3 n K T B :=
  ⟨Nat.lt_of_lt_of_le h.l1 k.size, Nat.lt_of_lt_of_le h.l2 k.size, Nat.lt_of_lt_of_le h.l3 k.size, h.k3, fun j hj => k.cell h.l1 (h.c1 j hj), fun j hj => k.cell h.l2 (h.c2 j hj), fun j hj => k.cell h.l3 (h.c3 j hj)⟩
structure RowG (w wr : World) (n : Nat) (cg : Array Value) : Prop where
  own : Below w.heap.size w wr
  g : wr.heap[w.heap.size]? = some (.cells cg 53 (0, 0))
  gs : cg.size = n * 12
theorem RowG.al {w wr : World} {n : Nat} {cg : Array Value} (r : RowG w wr n cg) (o : Obj) : RowG w (wr.alloc o) n cg := ⟨below_al r.own o, at_old r.g, r.gs⟩
theorem RowG.go {w wr w2 : World} {n : Nat} {cg : Array Value} (r : RowG w wr n cg) (k : Own wr w2) : RowG w w2 n cg := ⟨(show Own w wr from r.own).go k, k.at r.g, r.gs⟩
theorem RowG.setG {w wr : World} {n : Nat} {cg : Array Value} (r : RowG w wr n cg) (i : Nat) (v : Value) : RowG w (wr.setCell ⟨w.heap.size, i, none⟩ v) n (cg.setIfInBounds i v) :=
  ⟨below_set r.own (Nat.le_refl _) i v, at_set r.g, by simp [r.gs]⟩
theorem RowG.cellG {w wr : World} {n j : Nat} {cg : Array Value} (r : RowG w wr n cg) (hj : j < n * 12) : ∃ v, wr.cell? ⟨w.heap.size, j, none⟩ = some v := ⟨cg[j]'(by rw [r.gs]; exact hj), cell_of r.g (by simp [r.gs, hj])⟩
theorem RowG.frG {w wr : World} {n : Nat} {cg : Array Value} (r : RowG w wr n cg) (j : Nat) : wr.frozen? ⟨w.heap.size, j, none⟩ = false := by simp [World.frozen?, r.g]
theorem RowG.ltG {w wr : World} {n : Nat} {cg : Array Value} (r : RowG w wr n cg) : w.heap.size < wr.heap.size := lt_of_at r.g
/-- k binds are laid. -/
structure DSt (w wr : World) (n k : Nat) (K : Nat → Nat) (T : Nat → ByteArray) (B : Nat → Bool) (cg : Array Value) : Prop where
  row : RowG w wr n cg
  zs : ∀ i, i < n → cg[i * 12]? = some (.slice none 0 0) ∧ cg[i * 12 + 2]? = some (.slice none 0 0) ∧ cg[i * 12 + 4]? = some (.slice none 0 0)
  z5 : ∀ i, k ≤ i → i < n → cg[i * 12 + 5]? = some (.pointer none)
  bs : ∀ i, i < k → BindD (w.heap.size + 1) wr cg i (K i) (T i) (B i)
def Mk6Post (w : World) (n : Nat) (K : Nat → Nat) (T : Nat → ByteArray) (B : Nat → Bool) (c : ByteArray) (e : Ending) (w' : World) : Prop := ∃ U cu vb cg, e = .returned (.pointer (some ⟨U, 0, none⟩)) ∧ DSt w w' n n K T B cg ∧
  w'.heap[U]? = some (.cells cu 67 (0, 0)) ∧ cu[0]? = some (.slice (some ⟨w.heap.size, 0, none⟩) n n) ∧ cu[1]? = some vb ∧ LitK (w.heap.size + 1) w' vb 2 c
theorem DSt.stepF {w wr y : World} {n k : Nat} {K : Nat → Nat} {T : Nat → ByteArray} {B : Nat → Bool} {cg : Array Value} {v : Value} (m : DSt w wr n k K T B cg) (hk : k < n) (r : RowG w y n (cg.setIfInBounds (k * 12 + 1) v)) (q : Keep (w.heap.size + 1) wr y) (l : LitK (w.heap.size + 1) y v (K k) (T k)) (hb : B k = false) :
    ∃ cg, DSt w y n (k + 1) K T B cg := by
  have gs := m.row.gs
  refine ⟨_, r, fun i hi => ?_, fun i hi hn => ?_, fun i hi => ?_⟩
  · rw [set_ne (by omega), set_ne (by omega), set_ne (by omega)]
    exact m.zs i hi
  · rw [set_ne (by omega)]
    exact m.z5 i (by omega) hn
  · by_cases hik : i < k
    · exact (m.bs i hik).keep q (set_ne (by omega)) (set_ne (by omega))
    · have e : i = k := by omega
      subst e
      exact ⟨⟨v, set_eq (by omega), l⟩, ⟨_, by rw [set_ne (by omega)]; exact m.z5 i (Nat.le_refl _) hk, .inl ⟨hb, rfl⟩⟩⟩
theorem DSt.stepT {w wr y : World} {n k : Nat} {K : Nat → Nat} {T : Nat → ByteArray} {B : Nat → Bool} {cg : Array Value} {v p : Value} (m : DSt w wr n k K T B cg) (hk : k < n) (r : RowG w y n ((cg.setIfInBounds (k * 12 + 1) v).setIfInBounds (k * 12 + 5) p)) (q : Keep (w.heap.size + 1) wr y) (l : LitK (w.heap.size + 1) y v (K k) (T k)) (f : FnD (w.heap.size + 1) y p (T k)) (hb : B k = true) :
    ∃ cg, DSt w y n (k + 1) K T B cg := by
  have gs := m.row.gs
  refine ⟨_, r, fun i hi => ?_, fun i hi hn => ?_, fun i hi => ?_⟩
  · rw [set_ne (by omega), set_ne (by omega), set_ne (by omega), set_ne (by omega), set_ne (by omega), set_ne (by omega)]
    exact m.zs i hi
  · rw [set_ne (by omega), set_ne (by omega)]
    exact m.z5 i (by omega) hn
  · by_cases hik : i < k
    · exact (m.bs i hik).keep q (by rw [set_ne (by omega), set_ne (by omega)]) (by rw [set_ne (by omega), set_ne (by omega)])
    · have e : i = k := by omega
      subst e
      exact ⟨⟨v, by rw [set_ne (by omega), set_eq (by omega)], l⟩, ⟨p, set_eq (by simp only [Array.size_setIfInBounds]; omega), .inr ⟨hb, f⟩⟩⟩
/-- The call of 16 for the cell j of the row. -/
def Made16 (w wr : World) (n j k : Nat) (c : ByteArray) (cg : Array Value) (e : Ending) (w2 : World) : Prop := ∃ t y x0, e = .returned (.iface t y) ∧ Hid (RowG w w2 n cg) ∧ Hid (Keep (w.heap.size + 1) wr w2) ∧ Hid (Own wr w2) ∧ Hid (LitK (w.heap.size + 1) w2 (.iface t y) k c) ∧
  w2.cell? ⟨w.heap.size, j, none⟩ = some x0 ∧ (∀ j, w2.frozen? ⟨w.heap.size, j, none⟩ = false) ∧ w.heap.size < w2.heap.size
theorem row16 {w wr W : World} {n : Nat} {cg : Array Value} (r : RowG w wr n cg) (o : Own wr W) (j : Nat) (hj : j < n * 12) (k : Nat) (hk : k < 3) (c : ByteArray) : Calls Try.prog 16 #[.int .i64 (k : Int), .string c] W (Made16 w wr n j k c cg) :=
  (lit_mk (w.heap.size + 1) k hk c W (Nat.lt_of_lt_of_le r.ltG o.size)).mono fun e w2 ⟨v, h1, h2, h3⟩ => by
    obtain ⟨t, y, rfl⟩ := h3.face
    have R2 := r.go (o.go h2)
    obtain ⟨x0, h0⟩ := R2.cellG (j := j) hj
    exact ⟨t, y, x0, h1, R2, Keep.of_own (o.go h2), o.go h2, h3, h0, R2.frG, R2.ltG⟩
theorem cell_set_ne {w : World} {g i A j : Nat} {v x : Value} (hn : A ≠ g) (h : w.cell? ⟨A, j, none⟩ = some x) : (w.setCell ⟨g, i, none⟩ v).cell? ⟨A, j, none⟩ = some x := by
  have := Below.heap_setCell w ⟨g, i, none⟩ v A hn
  simp only [World.cell?] at h ⊢
  rw [this]
  exact h
set_option maxRecDepth 100000 in
set_option maxHeartbeats 8000000 in
theorem mk6 (O1 O2 O3 n p1 p2 p3 : Nat) (K : Nat → Nat) (T : Nat → ByteArray) (B : Nat → Bool) (c : ByteArray) (w : World) (h : In3 w O1 O2 O3 n K T B) (hn : n ≤ 4096) :
    Calls Try.prog 6 #[.slice (some ⟨O1, 0, none⟩) n p1, .slice (some ⟨O2, 0, none⟩) n p2, .slice (some ⟨O3, 0, none⟩) n p3, .string c] w (Mk6Post w n K T B c) := by
  obtain ⟨zg, zs, zz, mg⟩ := mk39z n hn w
  have HI := Lib.hid h
  have HN := Lib.hid hn
  have HZ := Lib.hid zz
  have e0 : (n : Int) ≤ 4096 := by omega
  clear h hn zz
  go_enter Try.func6, Try.ntmps6
  go_wp2_with fail
  generalize hW : World.alloc _ _ = W1
  have M0 : Hid (DSt w W1 n 0 K T B zg) := ⟨by rw [← hW]; exact ⟨below_al (Below.refl _ _) _, at_new rfl, zs⟩, fun i hi => ⟨(HZ.out i hi).1, (HZ.out i hi).2.1, (HZ.out i hi).2.2.1⟩, fun i _ hi => (HZ.out i hi).2.2.2, fun i hi => by omega⟩
  clear hW mg HZ zs
  go_loopw [10] (fun i wr => ∃ k : Nat, k ≤ n ∧ i = .int .i64 k ∧ Hid (∃ cg, DSt w wr n k K T B cg)) (fun i _ => n - (intOf i).toNat)
  case atStart => exact ⟨0, Nat.zero_le _, rfl, ⟨zg, M0.out⟩⟩
  case round =>
    obtain ⟨k, hk, rfl, hM⟩ := hrel
    obtain ⟨cg, hm⟩ := hM.out
    have M := Lib.hid hm
    clear hm hM
    by_cases hlt : k < n
    · have OW := Lib.hid (show Own w _ from M.out.row.own)
      have c1 := OW.out.cell HI.out.l1 (HI.out.c1 k hlt)
      have c2 := OW.out.cell HI.out.l2 (HI.out.c2 k hlt)
      have c3 := OW.out.cell HI.out.l3 (HI.out.c3 k hlt)
      obtain ⟨x0, h0⟩ := M.out.row.cellG (j := k * 12 + 1) (by omega)
      have fg := M.out.row.frG
      have lg := M.out.row.ltG
      go_wp2_with fail
      have HK := Lib.hid (HI.out.k3 k hlt)
      have d2 := fun (w2 : World) (o : Own wr w2) (v : Value) => cell_set_ne (i := k * 12 + 1) (v := v) (Nat.ne_of_lt HI.out.l2) ((OW.out.go o).cell HI.out.l2 (HI.out.c2 k hlt))
      have d3 := fun (w2 : World) (o : Own wr w2) (v : Value) => cell_set_ne (i := k * 12 + 1) (v := v) (Nat.ne_of_lt HI.out.l3) ((OW.out.go o).cell HI.out.l3 (HI.out.c3 k hlt))
      have D2 := Lib.hid d2
      have D3 := Lib.hid d3
      clear d2 d3 h0 fg lg
      go_region_with (first | (go_at_call 16; refine (row16 M.out.row (Own.refl _).drew (k * 12 + 1) (by omega) (K k) HK.out (T k)).mono ?_; rintro e w2 ⟨t, y, x0, rfl, R2, KP, OO, LT, h0, fg, lg⟩))
      all_goals
        have d2 := D2.out w2 OO.out (.iface t y)
        have d3 := D3.out w2 OO.out (.iface t y)
        have R3 := Lib.hid (R2.out.setG (k * 12 + 1) (.iface t y))
        have K3 := Lib.hid (KP.out.set (g := w.heap.size) (by omega) (k * 12 + 1) (.iface t y))
        have L3 := Lib.hid (LT.out.keep ((Keep.refl _ _).set (g := w.heap.size) (by omega) (k * 12 + 1) (.iface t y)))
        clear R2 KP OO LT h0 fg lg D2 D3
        generalize World.setCell _ _ _ = y0 at *
        cases hb : B k
        · rw [hb] at d3
          go_wp2
          clear d2 d3
          go_roundw
          case rel => exact ⟨k + 1, by omega, by go_num, Lib.hid (M.out.stepF hlt R3.out K3.out L3.out hb)⟩
          case measure => first | (simp [intOf]; done) | (simp [intOf]; omega)
        · rw [hb] at d3
          go_wp2_with fail
          refine (row16 R3.out (Own.refl _) (k * 12 + 5) (by omega) 0 (by omega) (T k)).mono ?_
          rintro e w5 ⟨t5, y5, x5, rfl, R5, K5, O5, L5, h5, fg, lg⟩
          have lg1 : w.heap.size < w5.heap.size + 1 := by omega
          have lg2 : w.heap.size < w5.heap.size + 1 + 1 := by omega
          go_wp2_with fail
          generalize hW : World.alloc _ _ = y6
          have NEW : Hid (∃ cg, DSt w y6 n (k + 1) K T B cg) := by
            rw [← hW]
            have q5 := (((Keep.refl (w.heap.size + 1) w5).set (g := w.heap.size) (by omega) (k * 12 + 5) (.pointer (some ⟨w5.heap.size + 1, 0, none⟩))).al (.cells #[.slice none 0 0, .string ⟨#[120]⟩, .slice none 0 0, .slice none 0 0, .iface t5 y5, .pointer none, .string ⟨#[]⟩, .int .i64 0, .int .i64 0, .int .i64 0, .int .i64 0] 55)).al (.cells #[.slice none 0 0, .slice none 0 0, .nilIface, .slice (some ⟨w5.heap.size, 0, none⟩) 1 1, .slice none 0 0, .pointer none, .slice none 0 0, .pointer none, .string ⟨#[]⟩, .int .i64 0, .int .i64 0, .int .i64 0, .int .i64 0, .bool false] 64)
            exact M.out.stepT hlt (((R5.out.setG _ _).al _).al _) ((K3.out.go K5.out).go q5) ((L3.out.keep K5.out).keep q5) ⟨w5.heap.size + 1, _, w5.heap.size, _, _, rfl, by omega, at_new (by simp), rfl, rfl, rfl, by omega, at_old (at_new (by simp)), rfl, rfl, rfl, rfl, L5.out.keep q5⟩ hb
          clear hW
          go_roundw
          case rel => exact ⟨k + 1, by omega, by go_num, NEW⟩
          case measure => first | (simp [intOf]; done) | (simp [intOf]; omega)
    · have hkn : k = n := by omega
      subst hkn
      go_wp2_with fail
      refine (lit_mk (w.heap.size + 1) 2 (by omega) c _ M.out.row.ltG).mono ?_
      rintro e w2 ⟨v, rfl, ow, lt⟩
      obtain ⟨t, y, hy⟩ := lt.face
      subst hy
      have OW := Lib.hid ow
      have LT := Lib.hid lt
      clear ow lt
      go_wp2_with fail
      go_ret
      refine ⟨_, _, _, cg, rfl, ⟨(M.out.row.go OW.out).al _, M.out.zs, M.out.z5, fun i hi => (M.out.bs i hi).keep ((Keep.of_own OW.out).al _) rfl rfl⟩, at_new (by simp), rfl, rfl, LT.out.keep ((Keep.refl _ _).al _)⟩
end Go.Proofs.Ytnmceagiofjdnaa
