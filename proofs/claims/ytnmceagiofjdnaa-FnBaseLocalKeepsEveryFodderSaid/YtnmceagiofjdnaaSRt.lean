/- A slice of strings among the arguments; its count of bytes; its copy. -/
import Derived.Test.YtnmceagiofjdnaaRd
namespace Go.Proofs.Ytnmceagiofjdnaa
open Go.RowKit
/-- A slice of strings that reads as the list ss. -/
def SR (w : World) (A : Option Addr) (n : Nat) (ss : List ByteArray) : Prop :=
  ss.length = n ∧ (0 < n → ∃ b off, A = some ⟨b, off, none⟩ ∧ b < w.heap.size ∧ ∀ j, j < n → w.cell? ⟨b, off + j, none⟩ = some (.string (ss.getD j ByteArray.empty)))
theorem SR.below {w w' : World} {A : Option Addr} {n : Nat} {ss : List ByteArray} (h : SR w A n ss) (hb : Below w.heap.size w w') : SR w' A n ss :=
  ⟨h.1, fun hn => by
    obtain ⟨b, off, e, hlt, hc⟩ := h.2 hn
    exact ⟨b, off, e, Nat.lt_of_lt_of_le hlt hb.size, fun j hj => (hb.cell (by exact hlt)).trans (hc j hj)⟩⟩
def RetB (e : Ending) : Prop := ∃ bb, e = .returned (.bool bb)
def RetI (e : Ending) : Prop := ∃ z : Int, e = .returned (.int .i64 z)
theorem at_size {ss : List ByteArray} (hs : ∀ s ∈ ss, s.size ≤ maxLen) (k : Nat) : (ss.getD k ByteArray.empty).size ≤ maxLen := by
  rw [List.getD_eq_getElem?_getD]
  rcases Nat.lt_or_ge k ss.length with h | h
  · rw [List.getElem?_eq_getElem h]
    exact hs _ (List.getElem_mem h)
  · rw [List.getElem?_eq_none h]
    exact Nat.zero_le _
set_option maxRecDepth 100000 in
theorem bytes11_any (A : Option Addr) (n cap : Nat) (ss : List ByteArray) (w : World) (h : SR w A n ss) (hm : n ≤ 9223372036854775807) (hs : ∀ s ∈ ss, s.size ≤ maxLen) : Calls Try.prog 11 #[.slice A n cap] w fun e w' => RetB e ∧ w = w' := by
  have HS := Lib.hid hs
  have HR := Lib.hid h
  clear hs h
  go_enter Try.func11, Try.ntmps11
  go_wp2
  · go_ret
    exact ⟨⟨false, rfl⟩, rfl⟩
  · go_loop [3, 4] (fun t i => ∃ (k : Nat) (z : Int), k ≤ n ∧ i = .int .i64 k ∧ t = .int .i64 z) (fun _ i => n - (intOf i).toNat)
    case atStart => exact ⟨0, _, Nat.zero_le _, rfl, rfl⟩
    case round =>
      obtain ⟨k, z, hk, rfl, rfl⟩ := hrel
      by_cases hlt : k < n
      · obtain ⟨b, off, rfl, hb, hc⟩ := HR.out.2 (by omega)
        have hcx := hc k hlt
        have hsz := at_size HS.out k
        clear hc
        generalize ss.getD k ByteArray.empty = s at hcx hsz
        unfold maxLen at hsz
        go_wp2
        all_goals first
          | (go_ret; exact ⟨⟨false, rfl⟩, rfl⟩)
          | (go_round
             case rel => exact ⟨k + 1, _, by omega, by go_num, rfl⟩
             case measure => simp [intOf]; omega)
      · have : k = n := by omega
        subst this
        go_wp2
        go_ret
        exact ⟨⟨true, rfl⟩, rfl⟩
theorem info9 : (Try.prog.info? 9).map (fun i => (i.zero, i.size, i.bytes)) = some (some (.string ByteArray.empty), 1, 16) := by kernel_rfl
theorem mk23 (m : Nat) (hm : m ≤ 4096) (w : World) : ∃ z, z.size = m ∧ (Instr.makeSlice 23 (.int .i64 (m : Int)) (.int .i64 (m : Int))).run Try.prog w = .ok (.slice (some ⟨w.heap.size, 0, none⟩) m m) (w.alloc (.cells z 9)) := by
  obtain ⟨i0, hi, hh⟩ := Option.map_eq_some_iff.1 info9
  simp only [Prod.mk.injEq] at hh
  have := run_make (P := Try.prog) w 23 9 i0 _ Try.underlying23 hi hh.1 .i64 .i64 m m (by omega) (by omega) (by rw [hh.2.2]; omega) (by omega)
  rw [hh.2.1] at this
  exact ⟨_, size_madeCells _ _, by simpa using this⟩
/-- k of n strings are copied into block g. -/
structure CopyS (w wr : World) (g n k : Nat) (ss : List ByteArray) : Prop where
  own : Below w.heap.size w wr
  ge : w.heap.size ≤ g
  row : ∃ ce, wr.heap[g]? = some (.cells ce 9 (0, 0)) ∧ ce.size = n ∧ ∀ j, j < k → ce[j]? = some (.string (ss.getD j ByteArray.empty))
theorem CopyS.step {w wr : World} {g n k : Nat} {ss : List ByteArray} (h : CopyS w wr g n k ss) (hk : k < n) : CopyS w (wr.setCell ⟨g, k, none⟩ (.string (ss.getD k ByteArray.empty))) g n (k + 1) ss := by
  obtain ⟨ce, h1, h2, h3⟩ := h.row
  refine ⟨below_set h.own h.ge _ _, h.ge, _, at_set h1, by simp [h2], fun j hj => ?_⟩
  by_cases hjk : k = j
  · subst hjk
    rw [set_eq (by omega)]
  · rw [set_ne hjk]
    exact h3 j (by omega)
theorem CopyS.cell {w wr : World} {g n k : Nat} {ss : List ByteArray} (h : CopyS w wr g n k ss) (hk : k < n) : (∃ v, wr.cell? ⟨g, k, none⟩ = some v) ∧ wr.frozen? ⟨g, k, none⟩ = false := by
  obtain ⟨ce, h1, h2, _⟩ := h.row
  exact ⟨⟨ce[k]'(by omega), cell_of h1 (by simp [h2, hk])⟩, by simp [World.frozen?, h1]⟩
theorem CopyS.strs {w wr : World} {g n : Nat} {ss : List ByteArray} (h : CopyS w wr g n n ss) (hl : ss.length = n) : Strs wr g n ss := by
  obtain ⟨ce, h1, _, h3⟩ := h.row
  exact ⟨hl, lt_of_at h1, fun j hj => cell_of h1 (h3 j hj)⟩
theorem com15q {lo : Nat} {w : World} {U g h n : Nat} {ss : List ByteArray} (x : LocC lo w U g h n ss) (j : Nat) (hj : j < n) (hn : n ≤ 4096) (q : Nat) : Calls Try.prog 15 #[.pointer (some ⟨U, 0, none⟩), .int .i64 (j : Int)] (w.drewN q) fun e w'' => e = .returned (.string (ss.getD j ByteArray.empty)) ∧ ∃ m, w'' = w.drewN m :=
  Calls.quiet_of_same ((com15 (x.keep (below_drewN (Own.refl w) q)) j hj hn).mono fun _ _ h => ⟨h.1, h.2.symm⟩)
theorem MkSt.loc {w w' : World} {n U L : Nat} {ss : List ByteArray} {cg ch cu cl : Array Value} (m : MkSt w w' n n ss cg ch) (h1 : w'.heap[U]? = some (.cells cu 67 (0, 0))) (h2 : cu[0]? = some (.slice (some ⟨w.heap.size, 0, none⟩) n n)) (h3 : cu[1]? = some (.iface 83 (.pointer (some ⟨L, 0, none⟩))))
    (h4 : w'.heap[L]? = some (.cells cl 86 (0, 0))) (h5 : cl[3]? = some (.slice (some ⟨w.heap.size + 1, 0, none⟩) n n)) : LocC (w.heap.size + 2) w' U w.heap.size (w.heap.size + 1) n ss :=
  ⟨⟨cu, L, cl, h1, h2, h3, h4, h5⟩, ⟨cg, m.row.g, m.bs⟩, ⟨ch, m.row.h, m.es⟩⟩
end Go.Proofs.Ytnmceagiofjdnaa
