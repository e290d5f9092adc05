/- The bound functions, the clone, the count, File. -/
import Derived.Test.YtfmmpllnhmehnaaNode
import Derived.Test.YtfmmpllnhmehnaaRecP
namespace Go.Proofs.Ytfmmpllnhmehnaa
open Go.RowKit
def SomeB (w : World) (e : Ending) (w' : World) : Prop := ∃ bb, e = .returned (.bool bb) ∧ w = w'
def IsRow8 (w : World) (a : Option Addr) (len cap : Nat) (zs : List Int) : Prop :=
  (a = none ∧ len = 0 ∧ cap = 0 ∧ zs = []) ∨
  ∃ x, a = some x ∧ len ≤ cap ∧ cap ≤ maxLen ∧ zs.length = cap ∧ (∀ i, i < zs.length → w.cell? (x.add i) = some (.int .u8 (zs.getD i 0))) ∧ ∀ n ∈ zs, (Lit.int .u8 n).wf = true
theorem bytes8_any (a0 a1 : Option Addr) (l0 c0 l1 c1 : Nat) (u : Value) (w : World) (h0 : l0 ≤ 9223372036854775807) (h1 : l1 ≤ 9223372036854775807) : Calls Try.prog 8 #[.slice a0 l0 c0, .slice a1 l1 c1, u] w (SomeB w) := by
  have e0 : (l0 : Int) ≤ 9223372036854775807 := by omega
  have e1 : (l1 : Int) ≤ 9223372036854775807 := by omega
  clear h0 h1
  by_cases k0 : (l0 : Int) ≤ 1048576
  rotate_left
  · go_enter Try.func8, Try.ntmps8
    go_wp2
    go_ret
    exact ⟨_, rfl, rfl⟩
  by_cases k1 : (l1 : Int) ≤ 1048576
  rotate_left
  · go_enter Try.func8, Try.ntmps8
    go_wp2
    go_ret
    exact ⟨_, rfl, rfl⟩
  by_cases k2 : (l0 : Int) + (l1 : Int) ≤ 1048576
  rotate_left
  · go_enter Try.func8, Try.ntmps8
    go_wp2
    go_ret
    exact ⟨_, rfl, rfl⟩
  · go_enter Try.func8, Try.ntmps8
    go_wp2
    go_ret
    exact ⟨_, rfl, rfl⟩
theorem bytes14_any (a0 a1 : Option Addr) (l0 c0 l1 c1 : Nat) (u : Value) (w : World) (h0 : l0 ≤ 9223372036854775807) (h1 : l1 ≤ 9223372036854775807) : Calls Try.prog 14 #[.slice a0 l0 c0, .slice a1 l1 c1, u] w (SomeB w) := by
  have e0 : (l0 : Int) ≤ 9223372036854775807 := by omega
  have e1 : (l1 : Int) ≤ 9223372036854775807 := by omega
  clear h0 h1
  by_cases k0 : (l0 : Int) ≤ 1048576
  rotate_left
  · go_enter Try.func14, Try.ntmps14
    go_wp2
    go_ret
    exact ⟨_, rfl, rfl⟩
  by_cases k1 : (l1 : Int) ≤ 1048576
  rotate_left
  · go_enter Try.func14, Try.ntmps14
    go_wp2
    go_ret
    exact ⟨_, rfl, rfl⟩
  by_cases k2 : (l0 : Int) + (l1 : Int) ≤ 1048576
  rotate_left
  · go_enter Try.func14, Try.ntmps14
    go_wp2
    go_ret
    exact ⟨_, rfl, rfl⟩
  · go_enter Try.func14, Try.ntmps14
    go_wp2
    go_ret
    exact ⟨_, rfl, rfl⟩
theorem bytes18_any (a0 a1 : Option Addr) (l0 c0 l1 c1 : Nat) (u : Value) (w : World) (h0 : l0 ≤ 9223372036854775807) (h1 : l1 ≤ 9223372036854775807) : Calls Try.prog 18 #[.slice a0 l0 c0, .slice a1 l1 c1, u] w (SomeB w) := by
  have e0 : (l0 : Int) ≤ 9223372036854775807 := by omega
  have e1 : (l1 : Int) ≤ 9223372036854775807 := by omega
  clear h0 h1
  by_cases k0 : (l0 : Int) ≤ 1048576
  rotate_left
  · go_enter Try.func18, Try.ntmps18
    go_wp2
    go_ret
    exact ⟨_, rfl, rfl⟩
  by_cases k1 : (l1 : Int) ≤ 1048576
  rotate_left
  · go_enter Try.func18, Try.ntmps18
    go_wp2
    go_ret
    exact ⟨_, rfl, rfl⟩
  by_cases k2 : (l0 : Int) + (l1 : Int) ≤ 1048576
  rotate_left
  · go_enter Try.func18, Try.ntmps18
    go_wp2
    go_ret
    exact ⟨_, rfl, rfl⟩
  · go_enter Try.func18, Try.ntmps18
    go_wp2
    go_ret
    exact ⟨_, rfl, rfl⟩
theorem bytes15_any (a0 a1 : Option Addr) (l0 c0 l1 c1 : Nat) (w : World) (h0 : l0 ≤ 9223372036854775807) (h1 : l1 ≤ 9223372036854775807) : Calls Try.prog 15 #[.slice a0 l0 c0, .slice a1 l1 c1] w (SomeB w) := by
  have e0 : (l0 : Int) ≤ 9223372036854775807 := by omega
  have e1 : (l1 : Int) ≤ 9223372036854775807 := by omega
  clear h0 h1
  by_cases k0 : (l0 : Int) ≤ 1048576
  rotate_left
  · go_enter Try.func15, Try.ntmps15
    go_wp2
    go_ret
    exact ⟨_, rfl, rfl⟩
  by_cases k1 : (l1 : Int) ≤ 1048576
  rotate_left
  · go_enter Try.func15, Try.ntmps15
    go_wp2
    go_ret
    exact ⟨_, rfl, rfl⟩
  by_cases k2 : (l0 : Int) + (l1 : Int) ≤ 1048576
  rotate_left
  · go_enter Try.func15, Try.ntmps15
    go_wp2
    go_ret
    exact ⟨_, rfl, rfl⟩
  · go_enter Try.func15, Try.ntmps15
    go_wp2
    go_ret
    exact ⟨_, rfl, rfl⟩
theorem bytes17_any (a0 a1 : Option Addr) (l0 c0 l1 c1 : Nat) (w : World) (h0 : l0 ≤ 9223372036854775807) (h1 : l1 ≤ 9223372036854775807) : Calls Try.prog 17 #[.slice a0 l0 c0, .slice a1 l1 c1] w (SomeB w) := by
  have e0 : (l0 : Int) ≤ 9223372036854775807 := by omega
  have e1 : (l1 : Int) ≤ 9223372036854775807 := by omega
  clear h0 h1
  by_cases k0 : (l0 : Int) ≤ 1048576
  rotate_left
  · go_enter Try.func17, Try.ntmps17
    go_wp2
    go_ret
    exact ⟨_, rfl, rfl⟩
  by_cases k1 : (l1 : Int) ≤ 1048576
  rotate_left
  · go_enter Try.func17, Try.ntmps17
    go_wp2
    go_ret
    exact ⟨_, rfl, rfl⟩
  by_cases k2 : (l0 : Int) + (l1 : Int) ≤ 1048576
  rotate_left
  · go_enter Try.func17, Try.ntmps17
    go_wp2
    go_ret
    exact ⟨_, rfl, rfl⟩
  · go_enter Try.func17, Try.ntmps17
    go_wp2
    go_ret
    exact ⟨_, rfl, rfl⟩
theorem info5 : (Try.prog.info? 5).map (fun i => (i.zero, i.size, i.bytes)) = some (some (.int .u8 0), 1, 1) := by kernel_rfl
def bz : Array Value := (Value.int .u8 0).cells
theorem mk22 (m : Nat) (hm : m ≤ 4096) (w : World) : (Instr.makeSlice 22 (.int .i64 (m : Int)) (.int .i64 (m : Int))).run Try.prog w = .ok (.slice (some ⟨w.heap.size, 0, none⟩) m m) (w.alloc (.cells (madeCells bz m) 5)) := by
  obtain ⟨i0, hi, hz0, hz1, hz2⟩ := info_parts info5
  have := run_make (P := Try.prog) w 22 5 i0 _ Try.underlying22 hi hz0 .i64 .i64 m m (by omega) (by omega) (by rw [hz2]; omega) (by omega)
  rw [hz1] at this
  simpa [bz] using this
theorem cell_lt {w : World} {a : Addr} {v : Value} (h : w.cell? a = some v) : a.block < w.heap.size := by
  unfold World.cell? at h
  cases hh : w.heap[a.block]? with
  | none => rw [hh] at h; simp at h
  | some x => exact lt_of_at hh
theorem eq_nil (w : World) : (binOp .eql 22 (.slice none 0 0) (.slice none 0 0)).run Try.prog w = .ok (.bool true) w := by kernel_rfl
theorem eq_some (x : Addr) (n c : Nat) (w : World) : (binOp .eql 22 (.slice (some x) n c) (.slice none 0 0)).run Try.prog w = .ok (.bool false) w := by kernel_rfl
theorem frozen_of {w : World} {A T : Nat} {c : Array Value} (h : w.heap[A]? = some (.cells c T (0, 0))) (i : Nat) : w.frozen? ⟨A, i, none⟩ = false := by simp [World.frozen?, h]
theorem CopySt_cell {w : World} {A T n k : Nat} {c : Array Value} (h : w.heap[A]? = some (.cells c T (0, 0))) (hs : c.size = n) (hk : k < n) : ∃ v, w.cell? ⟨A, k, none⟩ = some v := ⟨c[k]'(by omega), cell_of h (by simp [hs, hk])⟩
def toNats (zs : List Int) (n : Nat) : List Nat := (zs.take n).map Int.toNat
structure CopySt (w wr : World) (g n k : Nat) (zs : List Int) : Prop where
  own : Below w.heap.size w wr
  ge : w.heap.size ≤ g
  row : ∃ ce, wr.heap[g]? = some (.cells ce 5 (0, 0)) ∧ ce.size = n ∧ ∀ j, j < k → ce[j]? = some (.int .u8 (zs.getD j 0))
theorem CopySt.step {w wr : World} {g n k : Nat} {zs : List Int} (h : CopySt w wr g n k zs) (hk : k < n) : CopySt w (wr.setCell ⟨g, k, none⟩ (.int .u8 (zs.getD k 0))) g n (k + 1) zs := by
  obtain ⟨ce, h1, h2, h3⟩ := h.row
  refine ⟨⟨h.own.os, h.own.tape, h.own.output, by rw [size_set]; exact h.own.size, fun j hj => (Below.heap_setCell wr ⟨g, k, none⟩ _ j (by have := h.ge; show j ≠ g; omega)).trans (h.own.block j hj)⟩, h.ge, _, at_set h1, by simp [h2], fun j hj => ?_⟩
  rw [Array.getElem?_setIfInBounds]
  by_cases hjk : k = j
  · subst hjk
    simp [h2, hk]
  · rw [if_neg hjk]
    exact h3 j (by omega)
def ClonePost (w : World) (n : Nat) (zs : List Int) (e : Ending) (w' : World) : Prop := ∃ fa cap, e = .returned (.slice fa n cap) ∧ Below w.heap.size w w' ∧ Bytes w' (.slice fa n cap) (toNats zs n) ∧ (toNats zs n).length = n
set_option maxRecDepth 100000 in
set_option maxHeartbeats 4000000 in
theorem clone_any (a : Option Addr) (n cap : Nat) (zs : List Int) (w : World) (h : IsRow8 w a n cap zs) (hn : n ≤ 4096) : Calls Try.prog 9 #[.slice a n cap] w (ClonePost w n zs) := by
  rcases h with ⟨rfl, rfl, rfl, rfl⟩ | ⟨x, rfl, hl, hc, hz, hcell, hwf⟩
  · have en := eq_nil
    go_enter Try.func9, Try.ntmps9
    go_wp2
    go_ret
    exact ⟨none, 0, rfl, Below.refl _ _, .inl ⟨rfl, rfl⟩, rfl⟩
  · have mk := mk22 n hn
    have en := eq_some x n cap
    have HC := Lib.hid hcell
    have HW := Lib.hid hwf
    have HZ := Lib.hid hz
    have HL := Lib.hid hl
    have e0 : (n : Int) ≤ 4096 := by omega
    clear hcell hwf hz hl hc
    go_enter Try.func9, Try.ntmps9
    go_wp2_with fail
    generalize hW : World.alloc _ _ = W1
    have C0 : Hid (CopySt w W1 w.heap.size n 0 zs) := ⟨by rw [← hW]; exact (Below.refl _ _).alloc (Nat.le_refl _) _, Nat.le_refl _, _, by rw [← hW]; exact at_new rfl, by rw [size_madeCells], fun j hj => by omega⟩
    clear hW mk en
    go_loopw [4] (fun i wr => ∃ k : Nat, k ≤ n ∧ i = .int .i64 k ∧ Hid (CopySt w wr w.heap.size n k zs)) (fun i _ => n - (intOf i).toNat)
    case atStart => exact ⟨0, Nat.zero_le _, rfl, C0⟩
    case round =>
      obtain ⟨k, hk, rfl, hf⟩ := hrel
      by_cases hlt : k < n
      · have hs := HC.out k (by have := HZ.out; have := HL.out; omega)
        have hs1 := (hf.out.own.cell (cell_lt hs)).trans hs
        have HS := Lib.hid (hf.out.step hlt)
        obtain ⟨ce, r1, r2, r3⟩ := hf.out.row
        obtain ⟨v0, hd⟩ := CopySt_cell r1 r2 hlt
        have hz1 := frozen_of r1 k
        clear r1 r2 r3 hf hs
        go_wp2
        clear hs1 hd hz1
        go_roundw
        case rel => exact ⟨k + 1, by omega, by go_num, HS⟩
        case measure => first | (simp [intOf]; done) | (simp [intOf]; omega)
      · have hkn : k = n := by omega
        subst hkn
        go_wp2
        go_ret
        have hlen : (toNats zs k).length = k := by have := HZ.out; have := HL.out; simp [toNats]; omega
        refine ⟨_, _, rfl, hf.out.own, .inr ?_, hlen⟩
        obtain ⟨ce, r1, r2, r3⟩ := hf.out.row
        refine ⟨_, _, ce, by rw [hlen], r1, fun i y hy => ?_⟩
        have hi : i < k := by have := (List.getElem?_eq_some_iff.1 hy).1; omega
        have hz : i < zs.length := by have := HZ.out; have := HL.out; omega
        have hm : zs.getD i 0 ∈ zs := by rw [List.getD_eq_getElem?_getD, List.getElem?_eq_getElem hz]; exact List.getElem_mem hz
        have hwf := HW.out _ hm
        have hb := bounds_u8 hwf
        have hy2 : y = (zs.getD i 0).toNat := by
          simp [toNats, hi, hz] at hy
          rw [← hy]
          simp [List.getD_eq_getElem?_getD, List.getElem?_eq_getElem hz]
        refine ⟨by omega, ?_⟩
        rw [r3 i hi, hy2]
        congr 2
        omega
/-- v lists 0 .. n - 1. -/
def CountV (w : World) (v : Value) (n : Nat) : Prop := (v = .slice none 0 0 ∧ n = 0) ∨ ∃ g cap, v = .slice (some ⟨g, 0, none⟩) n cap ∧ ∀ i, i < n → w.cell? ⟨g, i, none⟩ = some (.int .i64 (i : Int))
theorem isCount_any (v : Value) (n : Nat) (w : World) (h : CountV w v n) (hn : (n : Int) ≤ 100000) : Calls Try.prog 13 #[v, .int .i64 (n : Int)] w fun e w' => e = .returned (.bool true) ∧ w' = w := by
  rcases h with ⟨rfl, rfl⟩ | ⟨g, cap, rfl, hc⟩
  · go_enter Try.func13, Try.ntmps13
    go_wp2_with fail
    go_loop [5] (fun i => i = .int .i64 0) (fun _ => 0)
    case atStart => rfl
    case round =>
      subst hrel
      go_wp2
      go_ret
      exact ⟨rfl, rfl⟩
  · have HC := Lib.hid hc
    clear hc
    go_enter Try.func13, Try.ntmps13
    go_wp2_with fail
    go_loop [5] (fun i => ∃ k : Nat, k ≤ n ∧ i = .int .i64 k) (fun i => n - (intOf i).toNat)
    case atStart => exact ⟨0, Nat.zero_le _, rfl⟩
    case round =>
      obtain ⟨k, hk, rfl⟩ := hrel
      by_cases hlt : k < n
      · have c1 := HC.out k hlt
        go_wp2
        go_round
        case rel => exact ⟨k + 1, by omega, by go_num⟩
        case measure => first | (simp [intOf]; done) | (simp [intOf]; omega)
      · go_wp2
        go_ret
        exact ⟨rfl, rfl⟩
theorem RecSt.start {T : Nat} {cnt : Nat → Int} {w : World} {B : Nat} (hc : cnt 0 = 0) (h : w.heap[B]? = some (.cells #[.slice none 0 0, .int .i64 0] T (0, 0))) : RecSt T cnt w B w [] :=
  ⟨rfl, rfl, rfl, Nat.le_refl _, fun _ _ _ => rfl, lt_of_at h, _, by rw [List.length_nil, hc]; exact h, World.ownsRow_nil _ _ _ _⟩
theorem RecSt.frm {T : Nat} {cnt : Nat → Int} {w0 w : World} {B : Nat} {xs : List Int} (h : RecSt T cnt w0 B w xs) : Frm w0 w B := ⟨h.os, h.tape, h.output, h.size, h.frame⟩
theorem RecSt.count {T n : Nat} {cnt : Nat → Int} {w0 w : World} {B : Nat} (h : RecSt T cnt w0 B w (tags 0 n)) : ∃ v, w.cell? ⟨B, 0, none⟩ = some v ∧ w.cell? ⟨B, 1, none⟩ = some (.int .i64 (cnt n)) ∧ CountV w v n := by
  obtain ⟨v, hv, ho⟩ := h.evs
  rw [tags_len] at hv ho
  refine ⟨v, cell_of hv rfl, cell_of hv rfl, ?_⟩
  rcases ho.2 with ⟨h1, h2⟩ | ⟨g, cap, cur, rfl, _, hg, _, _, _, ht⟩
  · exact .inl ⟨h1, h2⟩
  · refine .inr ⟨g, cap, rfl, fun i hi => cell_of hg ?_⟩
    have e : (ints (tags 0 n))[i]? = some (.int .i64 (i : Int)) := by simp [ints, tags, hi]
    rw [← e, ← ht, List.getElem?_take_of_lt (by omega), Array.getElem?_toList]
set_option maxRecDepth 100000 in
set_option maxHeartbeats 4000000 in
theorem fileP {TP B FEI : Nat} {ctx : Value} {St : World → List Int → Prop} (P : PassOK TP B FEI ctx St) (BCI : Nat) (hm : ∀ {w xs}, St w xs → (method 356 TP (.pointer (some ⟨B, 0, none⟩)) "BaseContext").run Try.prog w = .ok (BCI, .pointer (some ⟨B, 0, none⟩)) w) (hcf : ∀ (args : Array Value) (w : World), (callFunc BCI args).run Try.prog w = .ok (.enter BCI args) w)
    (hbc : ∀ w, Calls Try.prog BCI #[.pointer (some ⟨B, 0, none⟩), .iface TP (.pointer (some ⟨B, 0, none⟩))] w fun e w' => e = .returned ctx ∧ w = w') (b : Value) (Nn Ff : Nat) (w : World) (xs ys zs : List Int) (hV : VisS TP B ctx St w ⟨Nn, 0, none⟩ ys) (hF : FodS TP B ctx St w ⟨Ff, 0, none⟩ zs) (hst : St w xs) (hb : Fits (xs ++ (ys ++ zs))) :
    Calls Try.prog 12 #[b, .iface TP (.pointer (some ⟨B, 0, none⟩)), .pointer (some ⟨Nn, 0, none⟩), .pointer (some ⟨Ff, 0, none⟩)] w fun e w' => e = .returned (.tuple #[]) ∧ St w' (xs ++ (ys ++ zs)) ∧ Kept w w' := by
  have HP := Lib.hid P
  have S0 := Lib.hid hst
  have HV := Lib.hid hV
  have HF := Lib.hid hF
  have HB := Lib.hid hb
  have HC := Lib.hid hbc
  have m0 := hm hst
  clear P hst hV hF hb hm hbc
  go_enter Try.func12, Try.ntmps12
  go_wp2_with fail
  refine (HC.out _).mono ?_
  rintro e w' ⟨rfl, rfl⟩
  clear m0 hcf
  have m1 := HP.out.m_Visit S0.out
  go_wp2_with fail
  refine (HV.out _ (Kept.refl _) _ _ S0.out (HB.out.mono (by simp only [List.length_append]; omega))).mono ?_
  rintro e w1 ⟨rfl, hs1, hk1⟩
  have S1 := Lib.hid hs1
  have K1 := Lib.hid hk1
  clear hs1 hk1 m1
  have m1 := HP.out.m_Fodder S1.out
  go_wp2_with fail
  refine (HF.out _ K1.out _ _ S1.out (HB.out.mono (by simp only [List.length_append]; omega))).mono ?_
  rintro e w2 ⟨rfl, hs2, hk2⟩
  have S2 := Lib.hid hs2
  have K2 := Lib.hid (K1.out.go hk2)
  clear hs2 hk2 m1
  go_wp2
  go_end0
  exact ⟨rfl, by simpa only [List.append_assoc] using S2.out, K2.out⟩
theorem bc19_any (b p : Value) (w : World) : Calls Try.prog 19 #[b, p] w fun e w' => e = .returned .nilIface ∧ w = w' := by
  go_enter Try.func19, Try.ntmps19
  go_wp2
  go_ret
  exact ⟨rfl, rfl⟩
theorem bc70_any (B : Nat) (p : Value) (w : World) : Calls Try.prog 70 #[.pointer (some ⟨B, 0, none⟩), p] w fun e w' => e = .returned (.iface 47 (.pointer (some ⟨B, 0, none⟩))) ∧ w = w' := by
  go_enter Try.func70, Try.ntmps70
  go_wp2
  go_ret
  exact ⟨rfl, rfl⟩
theorem cf19 (args : Array Value) (w : World) : (callFunc 19 args).run Try.prog w = .ok (.enter 19 args) w := by kernel_rfl
theorem cf70 (args : Array Value) (w : World) : (callFunc 70 args).run Try.prog w = .ok (.enter 70 args) w := by kernel_rfl
theorem mbc_base (B : Nat) (w : World) : (method 356 44 (.pointer (some ⟨B, 0, none⟩)) "BaseContext").run Try.prog w = .ok (19, .pointer (some ⟨B, 0, none⟩)) w := by kernel_rfl
theorem mbc_ctx (B : Nat) (w : World) : (method 356 47 (.pointer (some ⟨B, 0, none⟩)) "BaseContext").run Try.prog w = .ok (70, .pointer (some ⟨B, 0, none⟩)) w := by kernel_rfl
theorem find_rec_BaseContext : ((Try.prog.info? 34).bind fun i => i.methods.find? (·.name == "BaseContext")).map (fun m => (m.path, m.func)) = some (#[{ struct := 39, index := 0, deref := true }], some (19, true)) := by kernel_rfl
theorem mbc_rec {cnt : Nat → Int} {w0 w : World} {B : Nat} {xs : List Int} (h : RecSt 39 cnt w0 B w xs) : (method 356 34 (.pointer (some ⟨B, 0, none⟩)) "BaseContext").run Try.prog w = .ok (19, .pointer (some ⟨B, 0, none⟩)) w := by
  obtain ⟨v, hv, _⟩ := h.evs
  exact run_method_34 355 "BaseContext" 19 find_rec_BaseContext _ _ _ hv
end Go.Proofs.Ytfmmpllnhmehnaa
