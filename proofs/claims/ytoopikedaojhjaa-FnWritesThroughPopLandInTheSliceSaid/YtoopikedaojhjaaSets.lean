/- The set's functions: adding, asking, counting; the keys' copy; the two counts of bytes. -/
import Derived.Test.YtoopikedaojhjaaProg
import Derived.WalkKit
import Derived.Maps.OwnSet
import Derived.Maps.AppendAt
import Derived.OwnWalk
import Derived.Lib.Hide
import Derived.WalkLawsBesides
import Derived.WalkSpells
import Derived.Laws.OwnMore
namespace Go.Proofs.Ytoopikedaojhjaa
open Go.RowKit Go.WideMaps Go.Maps
/-- A slice of strings that reads as the list ss. -/
def SR (w : World) (A : Option Addr) (n : Nat) (ss : List ByteArray) : Prop :=
  ss.length = n ∧ (0 < n → ∃ b off, A = some ⟨b, off, none⟩ ∧ b < w.heap.size ∧ ∀ j, j < n → w.cell? ⟨b, off + j, none⟩ = some (.string (ss.getD j ByteArray.empty)))
theorem SR.below {w w' : World} {A : Option Addr} {n : Nat} {ss : List ByteArray} (h : SR w A n ss) (hb : Below w.heap.size w w') : SR w' A n ss :=
  ⟨h.1, fun hn => by
    obtain ⟨b, off, e, hlt, hc⟩ := h.2 hn
    exact ⟨b, off, e, Nat.lt_of_lt_of_le hlt hb.size, fun j hj => (hb.cell (by exact hlt)).trans (hc j hj)⟩⟩
theorem law43 : Keyed Try.prog 43 := string_keyed Try.underlying43
theorem zero44 (w : World) : (zeroValue 44).run Try.prog w = .ok (.agg #[]) w := by kernel_rfl
theorem info9 : (Try.prog.info? 9).map (fun i => (i.zero, i.size, i.bytes)) = some (some (.string ByteArray.empty), 1, 16) := by kernel_rfl
/-- The key as a literal. -/
def lk (s : ByteArray) : Lit := .string s.data.toList
theorem lk_inj {s t : ByteArray} (h : lk s = lk t) : s = t := by
  unfold lk at h
  injection h with h
  have : s.data = t.data := Array.toList_inj.1 h
  cases s; cases t; simp_all
theorem key43 {s : ByteArray} (hs : s.size ≤ maxLen) : keyOf Try.prog 43 (.string s) = some (lk s) := keyOf_string_mk Try.underlying43 hs
/-- The map's datum is the set of the list L. -/
def IsSet (D : DataW Unit) (L : List ByteArray) : Prop := L.Nodup ∧ (∀ s, Maps.has D (lk s) = true ↔ s ∈ L) ∧ Maps.size D = L.length
theorem isSet_empty : IsSet (.map []) [] := ⟨List.nodup_nil, fun s => by simp [Maps.has], rfl⟩
theorem isSet_no {D : DataW Unit} {L : List ByteArray} (h : IsSet D L) {s : ByteArray} (hs : s ∉ L) : Maps.has D (lk s) = false := by
  cases hh : Maps.has D (lk s)
  · rfl
  · exact absurd ((h.2.1 s).1 hh) hs
theorem isSet_put {D : DataW Unit} {L : List ByteArray} (h : IsSet D L) (ht : Tidy D) {s : ByteArray} (hs : s ∉ L) : IsSet (D.put (lk s) (.agg [])) (s :: L) := by
  refine ⟨List.nodup_cons.2 ⟨hs, h.1⟩, fun t => ?_, ?_⟩
  · by_cases e : t = s
    · subst e
      rw [has_put_same ht.isMap (by exact trivial)]
      simp
    · rw [has_put_other (fun e' => e (lk_inj e')), h.2.1]
      simp [e]
  · rw [size_put ht, isSet_no h hs]
    simp [h.2.2]
theorem isSet_size {D E : DataW Unit} {L M : List ByteArray} (h : IsSet D L) (h' : IsSet E M) (hm : ∀ s, s ∈ L ↔ s ∈ M) : Maps.size D = Maps.size E := by
  rw [h.2.2, h'.2.2]
  exact ((List.perm_ext_iff_of_nodup h.1 h'.1).2 hm).length_eq
theorem ownsMap_below {w w' : World} {b n B : Nat} {D : DataW Unit} (h : w.ownsMap Try.prog 43 unitElem b n D) (hb : Below B w w') (hlt : b < B) : w'.ownsMap Try.prog 43 unitElem b n D := by
  obtain ⟨es, clock, h1, r⟩ := h
  exact ⟨es, clock, (hb.block b hlt).trans h1, r⟩
theorem new_any (w : World) : Calls Try.prog 8 #[] w fun e w' => e = .returned (.map (some w.heap.size)) ∧ w' = w.alloc (.map #[] 0) := by
  have hmm := @run_makeMap Try.prog
  go_enter Try.func8, Try.ntmps8
  go_wp2
  go_ret
  exact ⟨rfl, rfl⟩
theorem len_any {w : World} {b n : Nat} {D : DataW Unit} (h : w.ownsMap Try.prog 43 unitElem b n D) : Calls Try.prog 10 #[.map (some b)] w fun e w' => e = .returned (.int .i64 (Maps.size D)) ∧ w' = w := by
  go_enter Try.func10, Try.ntmps10
  go_wp2_with (first | (at_len; refine wpList_len_own _ rfl _ 27 rfl 43 44 Try.underlying27 _ b n D rfl h ?_) | go_in)
  go_ret
  exact ⟨rfl, rfl⟩
theorem has_any {w : World} {b n : Nat} {D : DataW Unit} (h : w.ownsMap Try.prog 43 unitElem b n D) {s : ByteArray} (hs : s.size ≤ maxLen) : Calls Try.prog 11 #[.map (some b), .string s] w fun e w' => e = .returned (.bool (Maps.has D (lk s))) ∧ Below w.heap.size w w' := by
  have hkey := key43 hs
  go_enter Try.func11, Try.ntmps11
  go_wp2_with (first | (at_lookup; refine wpList_lookup_own_unit _ rfl _ _ 27 rfl 43 44 law43 Try.underlying27 (zero44 _) b n D rfl h _ _ rfl hkey ?_) | go_in)
  go_ret
  exact ⟨rfl, (Below.refl _ _).alloc (Nat.le_refl _) _⟩
set_option maxRecDepth 100000 in
theorem add21_any {w : World} {b n : Nat} {D : DataW Unit} (h : w.ownsMap Try.prog 43 unitElem b n D) (hn : n < maxLen) {s : ByteArray} (hs : s.size ≤ maxLen) : Calls Try.prog 21 #[.map (some b), .string s] w fun e w' =>
    e = .returned (.bool (!Maps.has D (lk s))) ∧ Below b w w' ∧ (Maps.has D (lk s) = true → Below w.heap.size w w') ∧ (Maps.has D (lk s) = false → w'.ownsMap Try.prog 43 unitElem b (n + 1) (D.put (lk s) (.agg []))) := by
  have hkey := key43 hs
  have HN := Lib.hid hn
  clear hn
  have hb := h.lt
  have u0 := unitElem_mk (H := Unit)
  cases hh : Maps.has D (lk s)
  · go_enter Try.func21, Try.ntmps21
    go_wp2_with (first | (at_lookup; refine wpList_lookup_own_unit _ rfl _ _ 27 rfl 43 44 law43 Try.underlying27 (zero44 _) b n D rfl h _ _ rfl hkey ?_) | (at_mapUpdate; refine wpList_mapUpdate_own _ rfl _ _ _ 27 rfl 43 44 law43 Try.underlying27 (unitElem (H := Unit)) b n _ rfl (h.alloc _) HN.out _ _ _ rfl rfl hkey _ [] u0 ?_; intro w1 hown1 hgrow1) | go_in)
    go_ret
    exact ⟨rfl, ((Below.refl _ _).alloc (by omega) _).grown hgrow1 (by simp; omega) (fun j hj => by cases hj; exact Nat.le_refl _), (fun h => by cases h), fun _ => hown1⟩
  · go_enter Try.func21, Try.ntmps21
    go_wp2_with (first | (at_lookup; refine wpList_lookup_own_unit _ rfl _ _ 27 rfl 43 44 law43 Try.underlying27 (zero44 _) b n D rfl h _ _ rfl hkey ?_) | go_in)
    go_ret
    exact ⟨rfl, (Below.refl _ _).alloc (by omega) _, fun _ => (Below.refl _ _).alloc (Nat.le_refl _) _, (fun h => by cases h)⟩
theorem add_any {w : World} {b n : Nat} {D : DataW Unit} (h : w.ownsMap Try.prog 43 unitElem b n D) (hn : n < maxLen) {s : ByteArray} (hs : s.size ≤ maxLen) : Calls Try.prog 9 #[.map (some b), .string s] w fun e w' =>
    e = .returned (.bool (!Maps.has D (lk s))) ∧ Below b w w' ∧ (Maps.has D (lk s) = true → Below w.heap.size w w') ∧ (Maps.has D (lk s) = false → w'.ownsMap Try.prog 43 unitElem b (n + 1) (D.put (lk s) (.agg []))) := by
  have HA := Lib.hid (add21_any h hn hs)
  go_enter Try.func9, Try.ntmps9
  go_wp2_with fail
  refine HA.out.mono ?_
  rintro e w' ⟨rfl, h1⟩
  go_wp2
  go_ret
  exact ⟨rfl, h1⟩
def RetB (e : Ending) : Prop := ∃ bb, e = .returned (.bool bb)
def RetI (e : Ending) : Prop := ∃ z : Int, e = .returned (.int .i64 z)
theorem at_size {ss : List ByteArray} (hs : ∀ s ∈ ss, s.size ≤ maxLen) (k : Nat) : (ss.getD k ByteArray.empty).size ≤ maxLen := by
  rw [List.getD_eq_getElem?_getD]
  rcases Nat.lt_or_ge k ss.length with h | h
  · rw [List.getElem?_eq_getElem h]
    exact hs _ (List.getElem_mem h)
  · rw [List.getElem?_eq_none h]
    exact Nat.zero_le _
set_option maxRecDepth 100000 in
theorem bytes5_any (A : Option Addr) (n cap : Nat) (ss : List ByteArray) (w : World) (h : SR w A n ss) (hm : n ≤ 9223372036854775807) (hs : ∀ s ∈ ss, s.size ≤ maxLen) : Calls Try.prog 5 #[.slice A n cap] w fun e w' => RetB e ∧ w = w' := by
  have HS := Lib.hid hs
  have HR := Lib.hid h
  clear hs h
  go_enter Try.func5, Try.ntmps5
  go_wp2
  · go_ret
    exact ⟨⟨false, rfl⟩, rfl⟩
  · go_loop [3, 4] (fun t i => ∃ (k : Nat) (z : Int), k ≤ n ∧ i = .int .i64 k ∧ t = .int .i64 z) (fun _ i => n - (intOf i).toNat)
    case atStart => exact ⟨0, _, Nat.zero_le _, rfl, rfl⟩
    case round =>
      obtain ⟨k, z, hk, rfl, rfl⟩ := hrel
      by_cases hlt : k < n
      · obtain ⟨b, off, rfl, hb, hc⟩ := HR.out.2 (by omega)
        have hcx := hc k hlt
        have hsz := at_size HS.out k
        clear hc
        generalize ss.getD k ByteArray.empty = s at hcx hsz
        unfold maxLen at hsz
        go_wp2
        all_goals first
          | (go_ret; exact ⟨⟨false, rfl⟩, rfl⟩)
          | (go_round
             case rel => exact ⟨k + 1, _, by omega, by go_num, rfl⟩
             case measure => simp [intOf]; omega)
      · have : k = n := by omega
        subst this
        go_wp2
        go_ret
        exact ⟨⟨true, rfl⟩, rfl⟩
set_option maxRecDepth 100000 in
theorem bytes6_any (A : Option Addr) (n cap : Nat) (ss : List ByteArray) (w : World) (h : SR w A n ss) (hm : n ≤ 9223372036854775807) (hs : ∀ s ∈ ss, s.size ≤ maxLen) : Calls Try.prog 6 #[.slice A n cap] w fun e w' => RetI e ∧ w = w' := by
  have HS := Lib.hid hs
  have HR := Lib.hid h
  clear hs h
  go_enter Try.func6, Try.ntmps6
  go_wp2
  go_loop [3, 5, 8] (fun t _ i => ∃ (k : Nat) (z : Int), k ≤ n ∧ i = .int .i64 k ∧ t = .int .i64 z) (fun _ _ i => n - (intOf i).toNat)
  case atStart => exact ⟨0, _, Nat.zero_le _, rfl, rfl⟩
  case round =>
    obtain ⟨k, z, hk, rfl, rfl⟩ := hrel
    by_cases hlt : k < n
    · obtain ⟨b, off, rfl, hb, hc⟩ := HR.out.2 (by omega)
      have hcx := hc k hlt
      have hsz := at_size HS.out k
      clear hc
      generalize ss.getD k ByteArray.empty = s at hcx hsz
      unfold maxLen at hsz
      go_wp2
      all_goals first
        | (go_ret; exact ⟨⟨_, rfl⟩, rfl⟩)
        | (go_round
           case rel => exact ⟨k + 1, _, by omega, by go_num, rfl⟩
           case measure => simp [intOf]; omega)
    · have : k = n := by omega
      subst this
      go_wp2
      go_ret
      exact ⟨⟨_, rfl⟩, rfl⟩
theorem eq_nil (A : Option Addr) (n c : Nat) (w : World) : (binOp .eql 22 (.slice A n c) (.slice none 0 0)).run Try.prog w = .ok (.bool A.isNone) w := Lib.run_eql_slice_nil w 22 9 A n c 0 0 Try.underlying22
/-- The copy: nil stays nil. -/
theorem clone_nil (cap : Nat) (w : World) : Calls Try.prog 7 #[.slice none 0 cap] w fun e w' => e = .returned (.slice none 0 0) ∧ w' = w := by
  have q := eq_nil none 0 cap
  simp only [Option.isNone_none] at q
  go_enter Try.func7, Try.ntmps7
  go_wp2
  go_ret
  exact ⟨rfl, rfl⟩
theorem set_reads {xs : List Value} {ss : List ByteArray} {k : Nat} (h : ∀ j, j < k → xs[j]? = some (.string (ss.getD j ByteArray.empty))) (hk : k < xs.length) : ∀ j, j < k + 1 → (xs.set k (.string (ss.getD k ByteArray.empty)))[j]? = some (.string (ss.getD j ByteArray.empty)) := by
  intro j hj
  rw [List.getElem?_set]
  split
  · rename_i e
    subst e
    first | rfl | rw [if_pos hk]
  · exact h j (by omega)
set_option maxRecDepth 100000 in
theorem clone_some (ad : Addr) (n cap : Nat) (ss : List ByteArray) (w : World) (h : SR w (some ad) n ss) (hm : n ≤ 4096) : Calls Try.prog 7 #[.slice (some ad) n cap] w fun e w' => e = .returned (.slice (some ⟨w.heap.size, 0, none⟩) n n) ∧ SR w' (some ⟨w.heap.size, 0, none⟩) n ss ∧ Below w.heap.size w w' := by
  have q := eq_nil (some ad) n cap
  simp only [Option.isNone_some] at q
  obtain ⟨i0, hi, hz0, hz1, hz2⟩ := info_parts info9
  have HR := Lib.hid h
  clear h
  go_enter Try.func7, Try.ntmps7
  go_wp2_with (first | (at_make; refine wpList_make_full _ rfl _ _ 22 rfl w.heap.size 9 i0 (.string ByteArray.empty) 1 Try.underlying22 hi hz0 hz1 _ _ _ _ n rfl rfl rfl rfl (by rw [hz2]; omega) (by unfold maxLen; omega) (Nat.le_refl _) ?_; intro w1 hown1 hgrow1) | go_in)
  go_loopw [4] (fun i wr => ∃ (k : Nat) (xs : List Value), k ≤ n ∧ i = .int .i64 k ∧ wr.ownsRow w.heap.size 9 1 (.slice (some ⟨w.heap.size, 0, none⟩) n n) n xs ∧ (∀ j, j < k → xs[j]? = some (.string (ss.getD j ByteArray.empty))) ∧ Below w.heap.size w wr) (fun i _ => n - (intOf i).toNat)
  case atStart => exact ⟨0, _, Nat.zero_le _, rfl, hown1, (fun j hj => by omega), (Below.refl _ _).grown hgrow1 (Nat.le_refl _) (fun j hj => by cases hj)⟩
  case round =>
    obtain ⟨k, xs, hk, rfl, hown, hx, hbl⟩ := hrel
    by_cases hlt : k < n
    · obtain ⟨b, off, e, hb, hc⟩ := HR.out.2 (by omega)
      cases e
      have hcx : wr.cell? ⟨b, off + k, none⟩ = some (.string (ss.getD k ByteArray.empty)) := (hbl.cell (by exact hb)).trans (hc k hlt)
      have hlen : xs.length = n := by have := hown.1; omega
      have hcy : wr.cell? ⟨w.heap.size, k, none⟩ = some (xs[k]'(by omega)) := by rw [hown.cellAt k (by omega)]; exact List.getElem?_eq_getElem _
      have hfy := hown.frozenAt k
      have hst := (hown.stored k (.string (ss.getD k ByteArray.empty))).1
      have hx' := set_reads hx (by omega : k < xs.length)
      have hbl' := hbl.setCell (p := ⟨w.heap.size, k, none⟩) (Nat.le_refl _) (.string (ss.getD k ByteArray.empty))
      have X1 := Lib.hid hst
      have X2 := Lib.hid hx'
      have X3 := Lib.hid hbl'
      generalize ss.getD k ByteArray.empty = s at hcx X1 X2 X3
      generalize xs[k]'(by omega) = y at hcy
      clear hc hown hx hbl hst hx' hbl'
      go_wp2
      go_roundw
      case rel => exact ⟨k + 1, _, by omega, by go_num, X1.out, X2.out, X3.out⟩
      case measure => simp [intOf]; omega
    · have : k = n := by omega
      subst this
      have X3 := Lib.hid hbl
      have hlen : xs.length = k := by have := hown.1; omega
      have X1 : Hid (SR wr (some ⟨w.heap.size, 0, none⟩) k ss) := ⟨HR.out.1, fun hn => ⟨w.heap.size, 0, rfl, by
        rcases hown.2 with ⟨h', _⟩ | ⟨g, cap', cur, h', _, hg, _⟩
        · cases h'
        · cases h'
          exact (Array.getElem?_eq_some_iff.1 hg).1, fun j hj => by rw [Nat.zero_add, hown.cellAt j (by omega)]; exact hx j hj⟩⟩
      clear hown hx hbl
      go_wp2
      go_ret
      exact ⟨rfl, X1.out, X3.out⟩
end Go.Proofs.Ytoopikedaojhjaa
