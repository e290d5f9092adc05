/- The parser's cursor over the caller's slice: the contracts. -/
import Derived.Test.YtoopikedaojhjaaSets
import Derived.Laws.CopyOwn
namespace Go.Proofs.Ytoopikedaojhjaa
open Go.RowKit
set_option maxRecDepth 100000 in
theorem bytes12_any (A : Option Addr) (n cap : Nat) (ss : List ByteArray) (w : World) (h : SR w A n ss) (hm : n ≤ 9223372036854775807) (hs : ∀ s ∈ ss, s.size ≤ maxLen) : Calls Try.prog 12 #[.slice A n cap] w fun e w' => RetB e ∧ w = w' := by
  have HS := Lib.hid hs
  have HR := Lib.hid h
  clear hs h
  go_enter Try.func12, Try.ntmps12
  go_wp2
  · go_ret
    exact ⟨⟨false, rfl⟩, rfl⟩
  · go_loop [3, 4] (fun t i => ∃ (k : Nat) (z : Int), k ≤ n ∧ i = .int .i64 k ∧ t = .int .i64 z) (fun _ i => n - (intOf i).toNat)
    case atStart => exact ⟨0, _, Nat.zero_le _, rfl, rfl⟩
    case round =>
      obtain ⟨k, z, hk, rfl, rfl⟩ := hrel
      by_cases hlt : k < n
      · obtain ⟨b, off, rfl, hb, hc⟩ := HR.out.2 (by omega)
        have hcx := hc k hlt
        have hsz := at_size HS.out k
        clear hc
        generalize ss.getD k ByteArray.empty = s at hcx hsz
        unfold maxLen at hsz
        go_wp2
        all_goals first
          | (go_ret; exact ⟨⟨false, rfl⟩, rfl⟩)
          | (go_round
             case rel => exact ⟨k + 1, _, by omega, by go_num, rfl⟩
             case measure => simp [intOf]; omega)
      · have : k = n := by omega
        subst this
        go_wp2
        go_ret
        exact ⟨⟨true, rfl⟩, rfl⟩
set_option maxRecDepth 100000 in
theorem bytes13_any (A : Option Addr) (n cap : Nat) (ss : List ByteArray) (w : World) (h : SR w A n ss) (hm : n ≤ 9223372036854775807) (hs : ∀ s ∈ ss, s.size ≤ maxLen) : Calls Try.prog 13 #[.slice A n cap] w fun e w' => RetI e ∧ w = w' := by
  have HS := Lib.hid hs
  have HR := Lib.hid h
  clear hs h
  go_enter Try.func13, Try.ntmps13
  go_wp2
  go_loop [3, 4] (fun t i => ∃ (k : Nat) (z : Int), k ≤ n ∧ i = .int .i64 k ∧ t = .int .i64 z) (fun _ i => n - (intOf i).toNat)
  case atStart => exact ⟨0, _, Nat.zero_le _, rfl, rfl⟩
  case round =>
    obtain ⟨k, z, hk, rfl, rfl⟩ := hrel
    by_cases hlt : k < n
    · obtain ⟨b, off, rfl, hb, hc⟩ := HR.out.2 (by omega)
      have hcx := hc k hlt
      have hsz := at_size HS.out k
      clear hc
      generalize ss.getD k ByteArray.empty = s at hcx hsz
      unfold maxLen at hsz
      go_wp2
      all_goals first
        | (go_ret; exact ⟨⟨_, rfl⟩, rfl⟩)
        | (go_round
           case rel => exact ⟨k + 1, _, by omega, by go_num, rfl⟩
           case measure => simp [intOf]; omega)
    · have : k = n := by omega
      subst this
      go_wp2
      go_ret
      exact ⟨⟨_, rfl⟩, rfl⟩

theorem info55 : (Try.prog.info? 55).map (fun i => (i.zero, i.size, i.bytes)) = some (some (.agg #[.slice none 0 0, .string ByteArray.empty, .string ByteArray.empty, .string ByteArray.empty, .pointer none, .string ByteArray.empty, .int .i64 0, .int .i64 0, .int .i64 0, .int .i64 0, .int .i64 0]), 11, 136) := by kernel_rfl
/-- Block g holds n tokens; the i-th carries the text T i. -/
def TK (w : World) (g n : Nat) (T : Nat → ByteArray) : Prop := ∃ cur, w.heap[g]? = some (.cells cur 55 (0, 0)) ∧ cur.size = n * 11 ∧ ∀ i, i < n → cur[i * 11 + 1]? = some (.string (T i))
section
variable {w w' : World} {g n : Nat} {T : Nat → ByteArray}
theorem TK.lt (h : TK w g n T) : g < w.heap.size := by
  obtain ⟨cur, hg, _⟩ := h
  exact (Array.getElem?_eq_some_iff.1 hg).1
theorem TK.keep (h : TK w g n T) (he : w'.heap[g]? = w.heap[g]?) : TK w' g n T := by
  obtain ⟨cur, hg, r⟩ := h
  exact ⟨cur, he.trans hg, r⟩
theorem TK.cell (h : TK w g n T) {i : Nat} (hi : i < n) : w.cell? ⟨g, i * 11 + 1, none⟩ = some (.string (T i)) := by
  obtain ⟨cur, hg, _, hc⟩ := h
  rw [cell_of_row w g _ cur 55 (0, 0) hg, hc i hi]
theorem TK.frozen (h : TK w g n T) (j : Nat) : w.frozen? ⟨g, j, none⟩ = false := by
  obtain ⟨cur, hg, _⟩ := h
  exact frozen_of_row w g j cur 55 hg
theorem TK.set (h : TK w g n T) {i : Nat} (hi : i < n) (s : ByteArray) : TK (w.setCell ⟨g, i * 11 + 1, none⟩ (.string s)) g n (fun j => if j = i then s else T j) := by
  obtain ⟨cur, hg, hs, hc⟩ := h
  refine ⟨cur.setIfInBounds (i * 11 + 1) (.string s), heap_setCell_same w g _ cur 55 _ hg, by simpa using hs, fun j hj => ?_⟩
  rw [Array.getElem?_setIfInBounds]
  by_cases e : j = i
  · subst e
    rw [if_pos rfl, if_pos (by omega)]
    simp
  · rw [if_neg (by omega), hc j hj]
    simp [e]
end
/-- Block p is a parser over that slice, its cursor at k. -/
def PR (w : World) (p g n k : Nat) : Prop := w.heap[p]? = some (.cells #[.slice (some ⟨g, 0, none⟩) n n, .int .i64 k] 58 (0, 0))
theorem mk22_any (g n : Nat) (w : World) : Calls Try.prog 22 #[.slice (some ⟨g, 0, none⟩) n n] w fun e w' => e = .returned (.pointer (some ⟨w.heap.size, 0, none⟩)) ∧ PR w' w.heap.size g n 0 ∧ Below w.heap.size w w' := by
  go_enter Try.func22, Try.ntmps22
  go_wp2
  go_ret
  exact ⟨rfl, heap_alloc_new w _, (Below.refl _ _).alloc (Nat.le_refl _) _⟩
theorem mk_any (g n : Nat) (w : World) : Calls Try.prog 15 #[.slice (some ⟨g, 0, none⟩) n n] w fun e w' => e = .returned (.pointer (some ⟨w.heap.size, 0, none⟩)) ∧ PR w' w.heap.size g n 0 ∧ Below w.heap.size w w' := by
  go_enter Try.func15, Try.ntmps15
  go_wp2_with fail
  refine (mk22_any g n w).mono ?_
  rintro e w' ⟨rfl, h⟩
  go_wp2
  go_ret
  exact ⟨rfl, h⟩
theorem pos_any {p g n k : Nat} {w : World} (h : PR w p g n k) : Calls Try.prog 20 #[.pointer (some ⟨p, 0, none⟩)] w fun e w' => e = .returned (.int .i64 k) ∧ w' = w := by
  have c1 : w.cell? ⟨p, 1, none⟩ = some (.int .i64 k) := cell_of_row w p 1 _ 58 (0, 0) h
  go_enter Try.func20, Try.ntmps20
  go_wp2
  go_ret
  exact ⟨rfl, rfl⟩
theorem at_any {g n k : Nat} (w : World) (hk : k < n) : Calls Try.prog 19 #[.slice (some ⟨g, 0, none⟩) n n, .int .i64 k] w fun e w' => e = .returned (.pointer (some ⟨g, k * 11, none⟩)) ∧ w' = w := by
  go_enter Try.func19, Try.ntmps19
  go_wp2
  go_ret
  exact ⟨by simp, rfl⟩
theorem get_any {g n k : Nat} {T : Nat → ByteArray} {w : World} (h : TK w g n T) (hk : k < n) : Calls Try.prog 18 #[.pointer (some ⟨g, k * 11, none⟩)] w fun e w' => e = .returned (.string (T k)) ∧ w' = w := by
  have c1 := h.cell hk
  go_enter Try.func18, Try.ntmps18
  go_wp2
  go_ret
  exact ⟨rfl, rfl⟩
theorem put_any {g n k : Nat} {T : Nat → ByteArray} {w : World} (h : TK w g n T) (hk : k < n) (s : ByteArray) : Calls Try.prog 17 #[.pointer (some ⟨g, k * 11, none⟩), .string s] w fun e w' => e = .returned (.tuple #[]) ∧ w' = w.setCell ⟨g, k * 11 + 1, none⟩ (.string s) := by
  have c1 := h.cell hk
  have f1 := h.frozen (k * 11 + 1)
  go_enter Try.func17, Try.ntmps17
  go_wp2
  go_end0
  exact ⟨rfl, rfl⟩
theorem pop23_any {p g n k : Nat} {w : World} (h : PR w p g n k) (hk : k < n) (hn : n ≤ 4096) : Calls Try.prog 23 #[.pointer (some ⟨p, 0, none⟩)] w fun e w' => e = .returned (.pointer (some ⟨g, k * 11, none⟩)) ∧ PR w' p g n (k + 1) ∧ w.grownBy w' (some p) := by
  have c0 : w.cell? ⟨p, 0, none⟩ = some (.slice (some ⟨g, 0, none⟩) n n) := cell_of_row w p 0 _ 58 (0, 0) h
  have c1 : w.cell? ⟨p, 1, none⟩ = some (.int .i64 k) := cell_of_row w p 1 _ 58 (0, 0) h
  have f1 : w.frozen? ⟨p, 1, none⟩ = false := frozen_of_row w p 1 _ 58 h
  have H := Lib.hid h
  clear h
  go_enter Try.func23, Try.ntmps23
  go_wp2
  go_region
  go_wp2
  go_ret
  have hg := heap_setCell_same w p 1 _ 58 (.int .i64 ((k : Int) + 1)) H.out
  refine ⟨rfl, ?_, ⟨rfl, rfl, rfl, by simp, fun j _ hj => heap_setCell_other w ⟨p, 1, none⟩ j _ (fun e => hj (by simp [e]))⟩⟩
  unfold PR
  rw [Int.natCast_add]
  exact hg
theorem pop_any {p g n k : Nat} {w : World} (h : PR w p g n k) (hk : k < n) (hn : n ≤ 4096) : Calls Try.prog 16 #[.pointer (some ⟨p, 0, none⟩)] w fun e w' => e = .returned (.pointer (some ⟨g, k * 11, none⟩)) ∧ PR w' p g n (k + 1) ∧ w.grownBy w' (some p) := by
  have H := Lib.hid h
  clear h
  go_enter Try.func16, Try.ntmps16
  go_wp2_with fail
  refine (pop23_any H.out hk hn).mono ?_
  rintro e w' ⟨rfl, h⟩
  go_wp2
  go_ret
  exact ⟨rfl, h⟩
theorem made55 (n : Nat) (z : Value) (hz : z = .agg #[.slice none 0 0, .string ByteArray.empty, .string ByteArray.empty, .string ByteArray.empty, .pointer none, .string ByteArray.empty, .int .i64 0, .int .i64 0, .int .i64 0, .int .i64 0, .int .i64 0]) (i : Nat) (hi : i < n) : (madeCells z.cells (n * 11))[i * 11 + 1]? = some (.string ByteArray.empty) := by
  subst hz
  unfold madeCells
  rw [Array.getElem?_map, Array.getElem?_range, if_pos (by omega), Option.map_some]
  have e : (i * 11 + 1) % 11 = 1 := by omega
  refine congrArg some (Eq.trans (congrArg (fun k => (Value.cells (.agg #[.slice none 0 0, .string ByteArray.empty, .string ByteArray.empty, .string ByteArray.empty, .pointer none, .string ByteArray.empty, .int .i64 0, .int .i64 0, .int .i64 0, .int .i64 0, .int .i64 0]))[k]!) e) rfl)
set_option maxRecDepth 100000 in
theorem toks_any (A : Option Addr) (n cap : Nat) (ss : List ByteArray) (w : World) (h : SR w A n ss) (hm : n ≤ 4096) : Calls Try.prog 14 #[.slice A n cap] w fun e w' => e = .returned (.slice (some ⟨w.heap.size, 0, none⟩) n n) ∧ TK w' w.heap.size n (fun j => ss.getD j ByteArray.empty) ∧ Below w.heap.size w w' := by
  obtain ⟨i0, hi, hz0, hz1, hz2⟩ := info_parts info55
  have HR := Lib.hid h
  clear h
  go_enter Try.func14, Try.ntmps14
  go_wp2_with (first | (at_make; refine wpList_make_full _ rfl _ _ 32 rfl w.heap.size 55 i0 _ 11 Try.underlying32 hi hz0 hz1 _ _ _ _ n rfl rfl rfl rfl (by rw [hz2]; omega) (by unfold maxLen; omega) (Nat.le_refl _) ?_; intro w1 hown1 hgrow1) | go_in)
  have T0 : Hid (TK w1 w.heap.size n (fun _ => ByteArray.empty)) := by
    rcases hown1.2 with ⟨h', _⟩ | ⟨g, cap', cur, h', _, hg, _, _, hs, ht⟩
    · cases h'
    · cases h'
      refine ⟨cur, hg, hs, fun i hi => ?_⟩
      have h2 : (cur.toList.take (n * 11))[i * 11 + 1]? = some (.string ByteArray.empty) := by
        rw [ht, Array.getElem?_toList]
        exact made55 n _ rfl i hi
      rw [List.getElem?_take, if_pos (by omega), Array.getElem?_toList] at h2
      exact h2
  have B0 : Hid (Below w.heap.size w w1) := (Below.refl _ _).grown hgrow1 (Nat.le_refl _) (fun j hj => by cases hj)
  clear hown1 hgrow1
  go_loopw [4] (fun i wr => ∃ (k : Nat) (T : Nat → ByteArray), k ≤ n ∧ i = .int .i64 k ∧ TK wr w.heap.size n T ∧ (∀ j, j < k → T j = ss.getD j ByteArray.empty) ∧ Below w.heap.size w wr) (fun i _ => n - (intOf i).toNat)
  case atStart => exact ⟨0, _, Nat.zero_le _, rfl, T0.out, (fun j hj => by omega), B0.out⟩
  case round =>
    obtain ⟨k, T, hk, rfl, ht, hx, hbl⟩ := hrel
    by_cases hlt : k < n
    · obtain ⟨b, off, rfl, hb, hc⟩ := HR.out.2 (by omega)
      have hcx := (hbl.cell (by exact hb)).trans (hc k hlt)
      have hcy := ht.cell hlt
      have hfy := ht.frozen (k * 11 + 1)
      have X1 := Lib.hid (ht.set hlt (ss.getD k ByteArray.empty))
      have X2 : Hid (∀ j, j < k + 1 → (if j = k then ss.getD k ByteArray.empty else T j) = ss.getD j ByteArray.empty) := fun j hj => by
        split
        · rename_i e; rw [e]
        · exact hx j (by omega)
      have X3 := Lib.hid (hbl.setCell (p := ⟨w.heap.size, k * 11 + 1, none⟩) (Nat.le_refl _) (.string (ss.getD k ByteArray.empty)))
      generalize ss.getD k ByteArray.empty = s at hcx X1 X2 X3
      clear hc ht hx hbl T0 B0
      go_wp2
      go_roundw
      case rel => exact ⟨k + 1, _, by omega, by go_num, X1.out, X2.out, X3.out⟩
      case measure => first | (simp [intOf]; done) | (simp [intOf]; omega)
    · have : k = n := by omega
      subst this
      have X3 := Lib.hid hbl
      have X1 : Hid (TK wr w.heap.size k (fun j => ss.getD j ByteArray.empty)) := by
        obtain ⟨cur, h1, h2, h3⟩ := ht
        exact ⟨cur, h1, h2, fun i hi => by rw [h3 i hi, hx i hi]⟩
      clear ht hx hbl
      go_wp2
      go_ret
      exact ⟨rfl, X1.out, X3.out⟩
end Go.Proofs.Ytoopikedaojhjaa
