/- The maker of the Local with every fodder. -/
import Derived.Test.YtnmceagiofjdnaaMkD
namespace Go.Proofs.Ytnmceagiofjdnaa
open Go.RowKit
theorem info53 : (Try.prog.info? 53).map (fun i => (i.zero.isSome, i.size, i.bytes)) = some (true, 12, 168) := by kernel_rfl
theorem info75 : (Try.prog.info? 75).map (fun i => (i.zero.isSome, i.size, i.bytes)) = some (true, 4, 48) := by kernel_rfl
theorem mk39 (m : Nat) (hm : m ≤ 4096) (w : World) : ∃ z, z.size = m * 12 ∧ (Instr.makeSlice 39 (.int .i64 (m : Int)) (.int .i64 (m : Int))).run Try.prog w = .ok (.slice (some ⟨w.heap.size, 0, none⟩) m m) (w.alloc (.cells z 53)) := by
  obtain ⟨i0, hi, hh⟩ := Option.map_eq_some_iff.1 info53
  simp only [Prod.mk.injEq] at hh
  obtain ⟨z, hz⟩ := Option.isSome_iff_exists.1 hh.1
  have := run_make (P := Try.prog) w 39 53 i0 z Try.underlying39 hi hz .i64 .i64 m m (by omega) (by omega) (by rw [hh.2.2]; omega) (by omega)
  rw [hh.2.1] at this
  exact ⟨_, size_madeCells _ _, by simpa using this⟩
theorem mk44 (m : Nat) (hm : m ≤ 4096) (w : World) : ∃ z, z.size = m * 4 ∧ (Instr.makeSlice 44 (.int .i64 (m : Int)) (.int .i64 (m : Int))).run Try.prog w = .ok (.slice (some ⟨w.heap.size, 0, none⟩) m m) (w.alloc (.cells z 75)) := by
  obtain ⟨i0, hi, hh⟩ := Option.map_eq_some_iff.1 info75
  simp only [Prod.mk.injEq] at hh
  obtain ⟨z, hz⟩ := Option.isSome_iff_exists.1 hh.1
  have := run_make (P := Try.prog) w 44 75 i0 z Try.underlying44 hi hz .i64 .i64 m m (by omega) (by omega) (by rw [hh.2.2]; omega) (by omega)
  rw [hh.2.1] at this
  exact ⟨_, size_madeCells _ _, by simpa using this⟩
/-- A slice of strings, laid in a row of its own: reads ss. -/
def Strs (w : World) (O n : Nat) (ss : List ByteArray) : Prop := ss.length = n ∧ O < w.heap.size ∧ ∀ j, j < n → w.cell? ⟨O, j, none⟩ = some (.string (ss.getD j ByteArray.empty))
theorem Strs.keep {w w' : World} {O n : Nat} {ss : List ByteArray} (h : Strs w O n ss) (k : Own w w') : Strs w' O n ss := ⟨h.1, Nat.lt_of_lt_of_le h.2.1 k.size, fun j hj => k.cell h.2.1 (h.2.2 j hj)⟩
def Mk12Post (w : World) (n : Nat) (ss : List ByteArray) (e : Ending) (w' : World) : Prop := ∃ U cu L cl cg ch, e = .returned (.pointer (some ⟨U, 0, none⟩)) ∧ MkSt w w' n n ss cg ch ∧
  w'.heap[U]? = some (.cells cu 67 (0, 0)) ∧ cu[0]? = some (.slice (some ⟨w.heap.size, 0, none⟩) n n) ∧ cu[1]? = some (.iface 83 (.pointer (some ⟨L, 0, none⟩))) ∧
  w'.heap[L]? = some (.cells cl 86 (0, 0)) ∧ cl[3]? = some (.slice (some ⟨w.heap.size + 1, 0, none⟩) n n)
theorem stepH {w wr : World} {n : Nat} {cg ch : Array Value} (r : Row w wr n cg ch) (k : Nat) (hk : k < n) (c : ByteArray) :
    ∃ ch', Row w (((((wr.setCell ⟨w.heap.size + 1, k * 4, none⟩ (.slice (some ⟨wr.heap.size, 0, none⟩) 1 1)).setCell ⟨w.heap.size + 1, k * 4 + 1, none⟩ (.int .i64 2)).setCell ⟨w.heap.size + 1, k * 4 + 2, none⟩ (.int .i64 0)).setCell ⟨w.heap.size + 1, k * 4 + 3, none⟩ (.int .i64 0)).alloc (.cells #[.string c] 9)) n cg ch' ∧
      Keep (w.heap.size + 2) wr (((((wr.setCell ⟨w.heap.size + 1, k * 4, none⟩ (.slice (some ⟨wr.heap.size, 0, none⟩) 1 1)).setCell ⟨w.heap.size + 1, k * 4 + 1, none⟩ (.int .i64 2)).setCell ⟨w.heap.size + 1, k * 4 + 2, none⟩ (.int .i64 0)).setCell ⟨w.heap.size + 1, k * 4 + 3, none⟩ (.int .i64 0)).alloc (.cells #[.string c] 9)) ∧
      ElC (w.heap.size + 2) (((((wr.setCell ⟨w.heap.size + 1, k * 4, none⟩ (.slice (some ⟨wr.heap.size, 0, none⟩) 1 1)).setCell ⟨w.heap.size + 1, k * 4 + 1, none⟩ (.int .i64 2)).setCell ⟨w.heap.size + 1, k * 4 + 2, none⟩ (.int .i64 0)).setCell ⟨w.heap.size + 1, k * 4 + 3, none⟩ (.int .i64 0)).alloc (.cells #[.string c] 9)) ch' k c ∧
      ∀ j, j < k → ch'[j * 4]? = ch[j * 4]? := by
  have hh := r.ltH
  have hs := r.hs
  refine ⟨_, ((((r.setH _ _).setH _ _).setH _ _).setH _ _).al _, (((((Keep.refl _ _).set (by omega) _ _).set (by omega) _ _).set (by omega) _ _).set (by omega) _ _).al _, ⟨wr.heap.size, ?_, by omega, at_new (by simp)⟩, fun j hj => ?_⟩
  · rw [set_ne (by omega), set_ne (by omega), set_ne (by omega), set_eq (by omega)]
  · rw [set_ne (by omega), set_ne (by omega), set_ne (by omega), set_ne (by omega)]
theorem stepG {w y : World} {n : Nat} {cg ch : Array Value} (r : Row w y n cg ch) (j : Nat) (c : ByteArray) :
    Row w (((y.setCell ⟨w.heap.size, j, none⟩ (.slice (some ⟨y.heap.size + 1, 0, none⟩) 1 1)).alloc (.cells #[.string c] 9)).alloc (.cells (elC y.heap.size) 75)) n (cg.setIfInBounds j (.slice (some ⟨y.heap.size + 1, 0, none⟩) 1 1)) ch ∧
    Keep (w.heap.size + 2) y (((y.setCell ⟨w.heap.size, j, none⟩ (.slice (some ⟨y.heap.size + 1, 0, none⟩) 1 1)).alloc (.cells #[.string c] 9)).alloc (.cells (elC y.heap.size) 75)) ∧
    One (w.heap.size + 2) (((y.setCell ⟨w.heap.size, j, none⟩ (.slice (some ⟨y.heap.size + 1, 0, none⟩) 1 1)).alloc (.cells #[.string c] 9)).alloc (.cells (elC y.heap.size) 75)) (.slice (some ⟨y.heap.size + 1, 0, none⟩) 1 1) c := by
  have hh := r.ltH
  exact ⟨((r.setG _ _).al _).al _, (((Keep.refl _ _).set (by omega) _ _).al _).al _, ⟨y.heap.size + 1, y.heap.size, rfl, by omega, by omega, at_new (by simp), at_old (at_new (by simp))⟩⟩
set_option maxRecDepth 100000 in
set_option maxHeartbeats 8000000 in
theorem mk12 (O n cap : Nat) (ss : List ByteArray) (w : World) (h : Strs w O n ss) (hn : n ≤ 4096) : Calls Try.prog 12 #[.slice (some ⟨O, 0, none⟩) n cap] w (Mk12Post w n ss) := by
  obtain ⟨zg, zs, mg⟩ := mk39 n hn w
  obtain ⟨zh, zt, mh⟩ := mk44 n hn (w.alloc (.cells zg 53))
  have HS := Lib.hid h
  have HN := Lib.hid hn
  have e0 : (n : Int) ≤ 4096 := by omega
  have hsz : (w.alloc (.cells zg 53)).heap.size = w.heap.size + 1 := by simp
  rw [hsz] at mh
  clear h hn hsz
  go_enter Try.func12, Try.ntmps12
  go_wp2_with fail
  generalize hW : World.alloc _ _ = W1
  have M0 : Hid (MkSt w W1 n 0 ss zg zh) := ⟨by rw [← hW]; exact ⟨below_al (below_al (Below.refl _ _) _) _, at_old (at_new rfl), zs, at_new (by simp), zt⟩, fun i hi => by omega, fun i hi => by omega⟩
  clear hW mg mh
  go_loopw [6] (fun i wr => ∃ k : Nat, k ≤ n ∧ i = .int .i64 k ∧ Hid (∃ cg ch, MkSt w wr n k ss cg ch)) (fun i _ => n - (intOf i).toNat)
  case atStart => exact ⟨0, Nat.zero_le _, rfl, ⟨zg, zh, M0.out⟩⟩
  case round =>
    obtain ⟨k, hk, rfl, hM⟩ := hrel
    obtain ⟨cg, ch, hm⟩ := hM.out
    have M := Lib.hid hm
    clear hm hM
    by_cases hlt : k < n
    · have c1 := (show Own w _ from M.out.row.own).cell HS.out.2.1 (HS.out.2.2 k hlt)
      generalize hc : ss.getD k ByteArray.empty = c at c1
      obtain ⟨x0, h0⟩ := M.out.row.cellH (j := k * 4) (by omega)
      obtain ⟨x1, h1⟩ := M.out.row.cellH (j := k * 4 + 1) (by omega)
      obtain ⟨x2, h2⟩ := M.out.row.cellH (j := k * 4 + 2) (by omega)
      obtain ⟨x3, h3⟩ := M.out.row.cellH (j := k * 4 + 3) (by omega)
      have fh := M.out.row.frH
      have lh := M.out.row.ltH
      go_wp2_with fail
      generalize hW : World.alloc _ _ = y0
      obtain ⟨ch', r0, p0, el, q0⟩ : ∃ ch', Row w y0 n cg ch' ∧ Keep (w.heap.size + 2) _ y0 ∧ ElC (w.heap.size + 2) y0 ch' k c ∧ ∀ j, j < k → ch'[j * 4]? = ch[j * 4]? := by
        rw [← hW]
        exact stepH M.out.row k hlt c
      have R0 := Lib.hid r0
      have P0 := Lib.hid p0
      have EL := Lib.hid el
      have Q0 := Lib.hid q0
      clear hW h0 h1 h2 h3 fh lh r0 p0 el q0 c1
      obtain ⟨x0, h0⟩ := R0.out.cellG (j := k * 12) (by omega)
      have fg := R0.out.frG
      have lg := R0.out.ltG
      refine (one_mk _ _).mono ?_
      rintro e w' ⟨rfl, rfl⟩
      go_wp2_with fail
      generalize hW : World.alloc _ _ = y1
      obtain ⟨r, p, o⟩ : Row w y1 n _ ch' ∧ Keep (w.heap.size + 2) y0 y1 ∧ One (w.heap.size + 2) y1 _ c := by
        rw [← hW]
        exact stepG R0.out (k * 12) c
      have R1 := Lib.hid r
      have P1 := Lib.hid p
      have O0 := Lib.hid o
      clear hW h0 fg lg r p o
      obtain ⟨x0, h0⟩ := R1.out.cellG (j := k * 12 + 2) (by omega)
      have fg := R1.out.frG
      have lg := R1.out.ltG
      refine (one_mk _ _).mono ?_
      rintro e w' ⟨rfl, rfl⟩
      go_wp2_with fail
      generalize hW : World.alloc _ _ = y2
      obtain ⟨r, p, o⟩ : Row w y2 n _ ch' ∧ Keep (w.heap.size + 2) y1 y2 ∧ One (w.heap.size + 2) y2 _ c := by
        rw [← hW]
        exact stepG R1.out (k * 12 + 2) c
      have R2 := Lib.hid r
      have P2 := Lib.hid p
      have O1 := Lib.hid o
      clear hW h0 fg lg r p o
      obtain ⟨x0, h0⟩ := R2.out.cellG (j := k * 12 + 4) (by omega)
      have fg := R2.out.frG
      have lg := R2.out.ltG
      refine (one_mk _ _).mono ?_
      rintro e w' ⟨rfl, rfl⟩
      go_wp2_with fail
      generalize hW : World.alloc _ _ = y3
      obtain ⟨r, p, o⟩ : Row w y3 n _ ch' ∧ Keep (w.heap.size + 2) y2 y3 ∧ One (w.heap.size + 2) y3 _ c := by
        rw [← hW]
        exact stepG R2.out (k * 12 + 4) c
      have R3 := Lib.hid r
      have P3 := Lib.hid p
      have O2 := Lib.hid o
      clear hW h0 fg lg r p o
      obtain ⟨x0, h0⟩ := R3.out.cellG (j := k * 12 + 1) (by omega)
      have fg := R3.out.frG
      have lg := R3.out.ltG
      have lg1 : w.heap.size < y3.heap.size + 1 := by omega
      have lg2 : w.heap.size < y3.heap.size + 1 + 1 := by omega
      have lg3 : w.heap.size < y3.heap.size + 1 + 1 + 1 := by omega
      refine (one_mk _ _).mono ?_
      rintro e w' ⟨rfl, rfl⟩
      go_wp2_with fail
      generalize hW : World.alloc _ _ = y4
      obtain ⟨r, p, o⟩ : Row w y4 n _ ch' ∧ Keep (w.heap.size + 2) y3 y4 ∧ LitN (w.heap.size + 2) y4 _ c := by
        rw [← hW]
        have hh := R3.out.ltH
        exact ⟨(((R3.out.setG (k * 12 + 1) _).al _).al _).al _, ((((Keep.refl _ _).set (by omega) _ _).al _).al _).al _, y3.heap.size + 1 + 1, _, _, rfl, by omega, at_new (by simp), rfl, y3.heap.size + 1, y3.heap.size, rfl, by omega, by omega, at_old (at_new (by simp)), at_old (at_old (at_new (by simp)))⟩
      have R4 := Lib.hid r
      have P4 := Lib.hid p
      have L4 := Lib.hid o
      clear hW h0 fg lg lg1 lg2 lg3 r p o
      obtain ⟨x0, h0⟩ := R4.out.cellG (j := k * 12 + 5) (by omega)
      have fg := R4.out.frG
      have lg := R4.out.ltG
      have lg1 : w.heap.size < y4.heap.size + 1 := by omega
      have lg2 : w.heap.size < y4.heap.size + 1 + 1 := by omega
      have lg3 : w.heap.size < y4.heap.size + 1 + 1 + 1 := by omega
      have lg4 : w.heap.size < y4.heap.size + 1 + 1 + 1 + 1 := by omega
      have lg5 : w.heap.size < y4.heap.size + 1 + 1 + 1 + 1 + 1 := by omega
      have lg6 : w.heap.size < y4.heap.size + 1 + 1 + 1 + 1 + 1 + 1 := by omega
      have lg7 : w.heap.size < y4.heap.size + 1 + 1 + 1 + 1 + 1 + 1 + 1 := by omega
      have lg8 : w.heap.size < y4.heap.size + 1 + 1 + 1 + 1 + 1 + 1 + 1 + 1 := by omega
      have lg9 : w.heap.size < y4.heap.size + 1 + 1 + 1 + 1 + 1 + 1 + 1 + 1 + 1 := by omega
      have lg10 : w.heap.size < y4.heap.size + 1 + 1 + 1 + 1 + 1 + 1 + 1 + 1 + 1 + 1 := by omega
      have lg11 : w.heap.size < y4.heap.size + 1 + 1 + 1 + 1 + 1 + 1 + 1 + 1 + 1 + 1 + 1 := by omega
      have lg12 : w.heap.size < y4.heap.size + 1 + 1 + 1 + 1 + 1 + 1 + 1 + 1 + 1 + 1 + 1 + 1 := by omega
      have lg13 : w.heap.size < y4.heap.size + 1 + 1 + 1 + 1 + 1 + 1 + 1 + 1 + 1 + 1 + 1 + 1 + 1 := by omega
      go_wp2_with (first | (go_at_call 19; refine (one_mk _ _).mono ?_; rintro e w' ⟨rfl, rfl⟩))
      generalize hW : World.alloc _ _ = y5
      obtain ⟨r, p, o⟩ : Row w y5 n _ ch' ∧ Keep (w.heap.size + 2) y4 y5 ∧ FnC (w.heap.size + 2) y5 (.pointer (some ⟨y4.heap.size + 1 + 1 + 1 + 1 + 1 + 1 + 1 + 1 + 1 + 1 + 1 + 1, 0, none⟩)) c := by
        rw [← hW]
        have hh := R4.out.ltH
        refine ⟨(((((((((((((R4.out.setG (k * 12 + 5) (.pointer (some ⟨y4.heap.size + 1 + 1 + 1 + 1 + 1 + 1 + 1 + 1 + 1 + 1 + 1 + 1, 0, none⟩))).al _).al _).al _).al _).al _).al _).al _).al _).al _).al _).al _).al _).al _, ((((((((((((((Keep.refl _ _).set (by omega) _ _).al _).al _).al _).al _).al _).al _).al _).al _).al _).al _).al _).al _).al _, y4.heap.size + 1 + 1 + 1 + 1 + 1 + 1 + 1 + 1 + 1 + 1 + 1 + 1, _, y4.heap.size + 1 + 1 + 1 + 1 + 1 + 1 + 1 + 1 + 1 + 1 + 1, _, _, rfl, by omega, at_new (by simp), rfl, rfl, rfl, ⟨y4.heap.size + 1, y4.heap.size, rfl, by omega, by omega, at_old (at_old (at_old (at_old (at_old (at_old (at_old (at_old (at_old (at_old (at_old (at_new (by simp)))))))))))), at_old (at_old (at_old (at_old (at_old (at_old (at_old (at_old (at_old (at_old (at_old (at_old (at_new (by simp)))))))))))))⟩, ⟨y4.heap.size + 1 + 1 + 1, y4.heap.size + 1 + 1, rfl, by omega, by omega, at_old (at_old (at_old (at_old (at_old (at_old (at_old (at_old (at_old (at_new (by simp)))))))))), at_old (at_old (at_old (at_old (at_old (at_old (at_old (at_old (at_old (at_old (at_new (by simp)))))))))))⟩, ⟨by omega, _, y4.heap.size + 1 + 1 + 1 + 1 + 1 + 1 + 1 + 1, _, _, _, _, at_old (at_new (by simp)), rfl, rfl, rfl, rfl, by omega, at_old (at_old (at_old (at_old (at_new (by simp))))), rfl, ⟨y4.heap.size + 1 + 1 + 1 + 1 + 1, y4.heap.size + 1 + 1 + 1 + 1, rfl, by omega, by omega, at_old (at_old (at_old (at_old (at_old (at_old (at_old (at_new (by simp)))))))), at_old (at_old (at_old (at_old (at_old (at_old (at_old (at_old (at_new (by simp)))))))))⟩, ⟨y4.heap.size + 1 + 1 + 1 + 1 + 1 + 1 + 1, y4.heap.size + 1 + 1 + 1 + 1 + 1 + 1, rfl, by omega, by omega, at_old (at_old (at_old (at_old (at_old (at_new (by simp)))))), at_old (at_old (at_old (at_old (at_old (at_old (at_new (by simp)))))))⟩, ⟨y4.heap.size + 1 + 1 + 1 + 1 + 1 + 1 + 1 + 1 + 1 + 1, y4.heap.size + 1 + 1 + 1 + 1 + 1 + 1 + 1 + 1 + 1, rfl, by omega, by omega, at_old (at_old (at_new (by simp))), at_old (at_old (at_old (at_new (by simp))))⟩⟩⟩
      have R5 := Lib.hid r
      have P5 := Lib.hid p
      have F5 := Lib.hid o
      clear hW h0 fg lg lg1 lg2 lg3 lg4 lg5 lg6 lg7 lg8 lg9 lg10 lg11 lg12 lg13 r p o
      have NEW : Hid (∃ cg ch, MkSt w y5 n (k + 1) ss cg ch) := by
        have gs := M.out.row.gs
        have k15 := P1.out.go (P2.out.go (P3.out.go (P4.out.go P5.out)))
        refine ⟨_, ch', R5.out, fun i hi => ?_, fun i hi => ?_⟩
        · by_cases hik : i < k
          · exact (M.out.bs i hik).keep (P0.out.go k15) (fun j hj => by rw [set_ne (by omega), set_ne (by omega), set_ne (by omega), set_ne (by omega), set_ne (by omega)])
          · have e : i = k := by omega
            subst e
            rw [hc]
            refine ⟨⟨_, ?_, O0.out.keep (P2.out.go (P3.out.go (P4.out.go P5.out)))⟩, ⟨_, ?_, O1.out.keep (P3.out.go (P4.out.go P5.out))⟩, ⟨_, ?_, O2.out.keep (P4.out.go P5.out)⟩, ⟨_, ?_, L4.out.keep P5.out⟩, ⟨_, ?_, F5.out⟩⟩
            · rw [set_ne (by omega), set_ne (by omega), set_ne (by omega), set_ne (by omega), set_eq (by omega)]
            · rw [set_ne (by omega), set_ne (by omega), set_ne (by omega), set_eq (by simp only [Array.size_setIfInBounds]; omega)]
            · rw [set_ne (by omega), set_ne (by omega), set_eq (by simp only [Array.size_setIfInBounds]; omega)]
            · rw [set_ne (by omega), set_eq (by simp only [Array.size_setIfInBounds]; omega)]
            · rw [set_eq (by simp only [Array.size_setIfInBounds]; omega)]
        · by_cases hik : i < k
          · exact (M.out.es i hik).keep (P0.out.go k15) (Q0.out i hik)
          · have e : i = k := by omega
            subst e
            rw [hc]
            exact EL.out.keep k15 rfl
      clear R0 R1 R2 R3 R4 R5 P0 P1 P2 P3 P4 P5 O0 O1 O2 L4 F5 EL Q0 M
      go_roundw
      case rel => exact ⟨k + 1, by omega, by go_num, NEW⟩
      case measure => first | (simp [intOf]; done) | (simp [intOf]; omega)
    · have hkn : k = n := by omega
      subst hkn
      go_wp2
      go_ret
      refine ⟨_, _, _, _, cg, ch, rfl, ⟨(M.out.row.al _).al _, fun i hi => (M.out.bs i hi).keep (((Keep.refl _ _).al _).al _) (fun _ _ => rfl), fun i hi => (M.out.es i hi).keep (((Keep.refl _ _).al _).al _) rfl⟩, at_new (by simp), rfl, rfl, at_old (at_new rfl), rfl⟩
end Go.Proofs.Ytnmceagiofjdnaa
