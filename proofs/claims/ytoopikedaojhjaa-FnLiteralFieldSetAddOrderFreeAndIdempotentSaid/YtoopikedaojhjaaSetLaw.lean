/- The set's law, walked. -/
import Derived.Test.YtoopikedaojhjaaSets
namespace Go.Proofs.Ytoopikedaojhjaa
open Go.RowKit Go.WideMaps Go.Maps
def RetS (e : Ending) (w' : World) (n : Nat) (ss : List ByteArray) : Prop := ∃ A' c', e = .returned (.slice A' n c') ∧ SR w' A' n ss
theorem clone_any (A : Option Addr) (n cap : Nat) (ss : List ByteArray) (w : World) (h : SR w A n ss) (hnil : A = none → n = 0) (hm : n ≤ 4096) : Calls Try.prog 7 #[.slice A n cap] w fun e w' => RetS e w' n ss ∧ Below w.heap.size w w' := by
  cases A with
  | none =>
    cases hnil rfl
    refine (clone_nil cap w).mono ?_
    rintro e w' ⟨rfl, rfl⟩
    exact ⟨⟨_, _, rfl, h⟩, Below.refl _ _⟩
  | some ad =>
    refine (clone_some ad n cap ss w h hm).mono ?_
    rintro e w' ⟨rfl, h1, h2⟩
    exact ⟨⟨_, _, rfl, h1⟩, h2⟩
theorem add_rel {w w' : World} {b k : Nat} {D : DataW Unit} {L M M' : List ByteArray} {s : ByteArray} (hown : w.ownsMap Try.prog 43 unitElem b k D) (hset : IsSet D L) (hmem : ∀ t, t ∈ L ↔ t ∈ M) (hM : ∀ t, t ∈ M' ↔ (t ∈ M ∨ t = s))
    (h1 : Maps.has D (lk s) = true → Below w.heap.size w w') (h2 : Maps.has D (lk s) = false → w'.ownsMap Try.prog 43 unitElem b (k + 1) (D.put (lk s) (.agg []))) :
    ∃ (L' : List ByteArray) (D' : DataW Unit), w'.ownsMap Try.prog 43 unitElem b (k + 1) D' ∧ IsSet D' L' ∧ ∀ t, t ∈ L' ↔ t ∈ M' := by
  cases hh : Maps.has D (lk s)
  · have hs : s ∉ L := fun h => by rw [(hset.2.1 s).2 h] at hh; cases hh
    refine ⟨s :: L, _, h2 hh, isSet_put hset (hown.tidy law43) hs, fun t => ?_⟩
    rw [List.mem_cons, hM, hmem]
    exact Or.comm
  · refine ⟨L, D, (ownsMap_below hown (h1 hh) hown.lt).mono (Nat.le_succ _), hset, fun t => ?_⟩
    rw [hM, ← hmem]
    constructor
    · exact Or.inl
    · rintro (h | rfl)
      · exact h
      · exact (hset.2.1 _).1 hh
theorem mem_take_succ {ss : List ByteArray} {k : Nat} (hk : k < ss.length) (t : ByteArray) : t ∈ ss.take (k + 1) ↔ (t ∈ ss.take k ∨ t = ss.getD k ByteArray.empty) := by
  rw [List.take_succ_eq_append_getElem hk, List.mem_append, List.mem_singleton, List.getD_eq_getElem?_getD, List.getElem?_eq_getElem hk]
  rfl
theorem mem_drop_pred {ss : List ByteArray} {k : Nat} (hk : k < ss.length) (t : ByteArray) : t ∈ ss.drop k ↔ (t ∈ ss.drop (k + 1) ∨ t = ss.getD k ByteArray.empty) := by
  rw [List.drop_eq_getElem_cons hk, List.mem_cons, List.getD_eq_getElem?_getD, List.getElem?_eq_getElem hk]
  exact Or.comm
theorem has_yes {w : World} {b n : Nat} {D : DataW Unit} (h : w.ownsMap Try.prog 43 unitElem b n D) {s : ByteArray} (hs : s.size ≤ maxLen) (hh : Maps.has D (lk s) = true) : Calls Try.prog 11 #[.map (some b), .string s] w fun e w' => e = .returned (.bool true) ∧ Below w.heap.size w w' := by
  have := has_any h hs
  rwa [hh] at this
theorem add_yes {w : World} {b n : Nat} {D : DataW Unit} (h : w.ownsMap Try.prog 43 unitElem b n D) (hn : n < maxLen) {s : ByteArray} (hs : s.size ≤ maxLen) (hh : Maps.has D (lk s) = true) : Calls Try.prog 9 #[.map (some b), .string s] w fun e w' => e = .returned (.bool false) ∧ Below w.heap.size w w' := by
  refine (add_any h hn hs).mono ?_
  rintro e w' ⟨rfl, _, h1, _⟩
  exact ⟨by rw [hh]; rfl, h1 hh⟩
theorem SR.at_ {w : World} {A : Option Addr} {n : Nat} {ss : List ByteArray} (h : SR w A n ss) {k : Nat} (hk : k < n) : ∃ b off, A = some ⟨b, off, none⟩ ∧ b < w.heap.size ∧ w.cell? ⟨b, off + k, none⟩ = some (.string (ss.getD k ByteArray.empty)) := by
  obtain ⟨b, off, e, hb, hc⟩ := h.2 (by omega)
  exact ⟨b, off, e, hb, hc k hk⟩
set_option maxRecDepth 100000 in
set_option maxHeartbeats 2000000 in
theorem set_walk (A : Option Addr) (n cap : Nat) (ss : List ByteArray) (w : World) (h : SR w A n ss) (hnil : A = none → n = 0) (hm : n ≤ 9223372036854775807) (hs : ∀ s ∈ ss, s.size ≤ maxLen) :
    Calls Try.prog 3 #[.slice A n cap] w fun e w' => e = .returned (.bool true) ∧ Below w.heap.size w w' := by
  have HS := Lib.hid hs
  have HR := Lib.hid h
  have HNIL := Lib.hid hnil
  clear hs h hnil
  go_enter Try.func3, Try.ntmps3
  go_wp2_with fail
  refine (bytes5_any _ _ _ ss _ HR.out hm HS.out).mono ?_
  rintro e w' ⟨⟨bb, rfl⟩, rfl⟩
  cases bb
  · go_wp2
    go_ret
    exact ⟨rfl, Below.refl _ _⟩
  by_cases hn : n ≤ 4096
  · go_wp2_with fail
    refine (bytes6_any _ _ _ ss _ HR.out hm HS.out).mono ?_
    rintro e w' ⟨⟨z, rfl⟩, rfl⟩
    by_cases hz : z ≤ 1048576
    · go_wp2_with fail
      refine (clone_any _ _ _ ss _ HR.out HNIL.out hn).mono ?_
      rintro e w1 ⟨⟨A', c', rfl, hr1⟩, hb1⟩
      have HR1 := Lib.hid hr1
      have HB1 := Lib.hid hb1
      clear hr1 hb1
      go_wp2_with fail
      refine (new_any _).mono ?_
      rintro e w' ⟨rfl, rfl⟩
      have B0 : Hid (Below w1.heap.size w1 (w1.alloc (.map #[] 0))) := (Below.refl _ _).alloc (Nat.le_refl _) _
      have M0 := Lib.hid (World.ownsMap_made (H := Unit) w1 Try.prog 43 unitElem)
      generalize w1.alloc (.map #[] 0) = wa at B0 M0
      go_wp2_with fail
      go_loopw [4] (fun i wr => ∃ (k : Nat) (L : List ByteArray) (D : DataW Unit), k ≤ n ∧ i = .int .i64 k ∧ wr.ownsMap Try.prog 43 unitElem w1.heap.size k D ∧ IsSet D L ∧ (∀ t, t ∈ L ↔ t ∈ ss.take k) ∧ Below w1.heap.size w1 wr) (fun i _ => n - (intOf i).toNat)
      case atStart => exact ⟨0, [], _, Nat.zero_le _, rfl, M0.out, isSet_empty, (fun t => by simp), B0.out⟩
      case round =>
        obtain ⟨k, L, D, hk, rfl, hown, hset, hmem, hbl⟩ := hrel
        by_cases hlt : k < n
        · obtain ⟨b, off, rfl, hb, hc⟩ := HR1.out.at_ hlt
          have hcx := (hbl.cell (by exact hb)).trans hc
          have X1 := Lib.hid (mem_take_succ (ss := ss) (k := k) (by rw [HR.out.1]; exact hlt))
          have X2 := Lib.hid (at_size HS.out k)
          have X3 := Lib.hid hown
          have X4 := Lib.hid hset
          have X5 := Lib.hid hmem
          have X6 := Lib.hid hbl
          clear hc hown hset hmem hbl
          generalize ss.getD k ByteArray.empty = s at hcx X1 X2
          go_wp2_with (first | (go_at_call 9; refine (add_any X3.out (by unfold maxLen; omega) X2.out).mono ?_; rintro e w2 ⟨rfl, hb2, h1, h2⟩))
          obtain ⟨L', D', r1, r2, r3⟩ := add_rel X3.out X4.out X5.out X1.out h1 h2
          go_wp2
          go_roundw
          case rel => exact ⟨k + 1, L', D', by omega, by go_num, r1, r2, r3, X6.out.trans hb2⟩
          case measure => first | (simp [intOf]; done) | (simp [intOf]; omega)
        · have : k = n := by omega
          subst this
          have HA := Lib.hid hown
          have SA := Lib.hid hset
          have MA : Hid (∀ t, t ∈ L ↔ t ∈ ss) := fun t => by rw [hmem, ← HR.out.1, List.take_length]
          have RW := Lib.hid (HR1.out.below hbl)
          have BW := Lib.hid (HB1.out.trans (hbl.mono HB1.out.size))
          have hA : w1.heap.size < wr.heap.size := hown.lt
          clear hown hset hmem hbl
          generalize w1.heap.size = bA at HA hA
          go_wp2_with fail
          refine (new_any _).mono ?_
          rintro e w' ⟨rfl, rfl⟩
          have B0 : Hid (Below wr.heap.size wr (wr.alloc (.map #[] 0))) := (Below.refl _ _).alloc (Nat.le_refl _) _
          have M1 := Lib.hid (World.ownsMap_made (H := Unit) wr Try.prog 43 unitElem)
          generalize wr.alloc (.map #[] 0) = wb at B0 M1
          clear M0
          go_wp2_with fail
          go_loopw [6] (fun i wv => ∃ (j : Int) (L : List ByteArray) (D : DataW Unit), -1 ≤ j ∧ j < k ∧ i = .int .i64 j ∧ wv.ownsMap Try.prog 43 unitElem wr.heap.size (k - (j + 1).toNat) D ∧ IsSet D L ∧ (∀ t, t ∈ L ↔ t ∈ ss.drop (j + 1).toNat) ∧ Below wr.heap.size wr wv) (fun i _ => (intOf i + 1).toNat)
          case atStart => exact ⟨(k : Int) - 1, [], _, by omega, by omega, rfl, by rw [show k - ((k : Int) - 1 + 1).toNat = 0 by omega]; exact M1.out, isSet_empty, (fun t => by rw [show ((k : Int) - 1 + 1).toNat = k by omega, ← HR.out.1, List.drop_length]), B0.out⟩
          case round =>
            obtain ⟨j, L2, D2, hj0, hj1, rfl, hown, hset, hmem, hbl⟩ := hrel
            by_cases hlt : 0 ≤ j
            · obtain ⟨m, rfl⟩ : ∃ m : Nat, j = m := ⟨j.toNat, by omega⟩
              obtain ⟨b, off, rfl, hb, hc⟩ := RW.out.at_ (k := m) (by omega)
              have hcx := (hbl.cell (by exact hb)).trans hc
              have X1 := Lib.hid (mem_drop_pred (ss := ss) (k := m) (by rw [HR.out.1]; omega))
              have X2 := Lib.hid (at_size HS.out m)
              have X3 := Lib.hid hown
              have X4 := Lib.hid hset
              have X5 : Hid (∀ t, t ∈ L2 ↔ t ∈ ss.drop (m + 1)) := hmem
              have X6 := Lib.hid hbl
              clear hc hown hset hmem hbl
              generalize ss.getD m ByteArray.empty = s at hcx X1 X2
              go_wp2_with (first | (go_at_call 9; refine (add_any X3.out (by unfold maxLen; omega) X2.out).mono ?_; rintro e w2 ⟨rfl, hb2, h1, h2⟩))
              obtain ⟨L', D', r1, r2, r3⟩ := add_rel X3.out X4.out X5.out X1.out h1 h2
              go_wp2
              go_roundw
              case rel => exact ⟨(m : Int) - 1, L', D', by omega, by omega, by go_num, by rw [show k - ((m : Int) - 1 + 1).toNat = k - ((m : Int) + 1).toNat + 1 by omega]; exact r1, r2, (fun t => by rw [r3, show ((m : Int) - 1 + 1).toNat = m by omega]), X6.out.trans hb2⟩
              case measure => first | (simp [intOf]; done) | (simp [intOf]; omega)
            · have : j = -1 := by omega
              subst this
              have HAw := Lib.hid (ownsMap_below HA.out hbl hA)
              have HBw := Lib.hid hown
              have SB := Lib.hid hset
              have MB : Hid (∀ t, t ∈ L2 ↔ t ∈ ss) := fun t => by rw [hmem]; simp
              have RV := Lib.hid (RW.out.below hbl)
              have BV := Lib.hid (BW.out.trans (hbl.mono BW.out.size))
              have hsz : Maps.size D = Maps.size D2 := isSet_size SA.out hset (fun t => (MA.out t).trans (MB.out t).symm)
              have hB := hown.lt
              clear hown hset hmem hbl HA BW RW B0 M1
              generalize (k - ((-1 : Int) + 1).toNat) = cB at HBw
              go_wp2_with (first | (go_at_call 10; refine (len_any HAw.out).mono ?_; rintro e w' ⟨rfl, rfl⟩) | (go_at_call 10; refine (len_any HBw.out).mono ?_; rintro e w' ⟨rfl, rfl⟩))
              go_wp2_with fail
              go_loopw [7] (fun i wv => ∃ (m : Nat), m ≤ k ∧ i = .int .i64 m ∧ Below w'.heap.size w' wv) (fun i _ => k - (intOf i).toNat)
              case atStart => exact ⟨0, Nat.zero_le _, rfl, Below.refl _ _⟩
              case round =>
                obtain ⟨m, hmk, rfl, hbl⟩ := hrel
                by_cases hlt : m < k
                · obtain ⟨b, off, rfl, hb, hc⟩ := RV.out.at_ (k := m) hlt
                  have hcx := (hbl.cell (by exact hb)).trans hc
                  have hin : ss.getD m ByteArray.empty ∈ ss := by
                    rw [List.getD_eq_getElem?_getD, List.getElem?_eq_getElem (by rw [HR.out.1]; exact hlt)]
                    exact List.getElem_mem _
                  have X1 := Lib.hid ((SA.out.2.1 _).2 ((MA.out _).2 hin))
                  have X0 := Lib.hid ((SB.out.2.1 _).2 ((MB.out _).2 hin))
                  have X2 := Lib.hid (at_size HS.out m)
                  have X3 := Lib.hid (ownsMap_below HAw.out hbl HAw.out.lt)
                  have X4 := Lib.hid (ownsMap_below HBw.out hbl HBw.out.lt)
                  have X6 := Lib.hid hbl
                  clear hc hbl hin
                  generalize ss.getD m ByteArray.empty = s at hcx X1 X0 X2
                  go_wp2_with fail
                  refine (has_yes X3.out X2.out X1.out).mono ?_
                  rintro e w2 ⟨rfl, hb2⟩
                  have hcx2 := (hb2.cell (by exact Nat.lt_of_lt_of_le hb X6.out.size)).trans hcx
                  have X5 := Lib.hid (ownsMap_below X4.out hb2 X4.out.lt)
                  clear hcx
                  go_wp2_with fail
                  refine (has_yes X5.out X2.out X0.out).mono ?_
                  rintro e w3 ⟨rfl, hb3⟩
                  go_wp2_with fail
                  go_roundw
                  case rel => exact ⟨m + 1, by omega, by go_num, (X6.out.trans (hb2.mono X6.out.size)).trans (hb3.mono (Nat.le_trans X6.out.size hb2.size))⟩
                  case measure => first | (simp [intOf]; done) | (simp [intOf]; omega)
                · have : m = k := by omega
                  subst this
                  have HAx := Lib.hid (ownsMap_below HAw.out hbl HAw.out.lt)
                  have RX := Lib.hid (RV.out.below hbl)
                  have BX := Lib.hid (BV.out.trans (hbl.mono BV.out.size))
                  clear hbl HAw HBw RV BV hsz
                  go_wp2_with fail
                  refine (len_any HAx.out).mono ?_
                  rintro e w4 ⟨rfl, rfl⟩
                  go_wp2_with fail
                  go_loopw [9] (fun i wx => ∃ (q : Nat), q ≤ m ∧ i = .int .i64 q ∧ Below w4.heap.size w4 wx) (fun i _ => m - (intOf i).toNat)
                  case atStart => exact ⟨0, Nat.zero_le _, rfl, Below.refl _ _⟩
                  case round =>
                    obtain ⟨q, hqm, rfl, hbl⟩ := hrel
                    by_cases hlt : q < m
                    · obtain ⟨b, off, rfl, hb, hc⟩ := RX.out.at_ (k := q) hlt
                      have hcx := (hbl.cell (by exact hb)).trans hc
                      have hin : ss.getD q ByteArray.empty ∈ ss := by
                        rw [List.getD_eq_getElem?_getD, List.getElem?_eq_getElem (by rw [HR.out.1]; exact hlt)]
                        exact List.getElem_mem _
                      have X1 := Lib.hid ((SA.out.2.1 _).2 ((MA.out _).2 hin))
                      have X2 := Lib.hid (at_size HS.out q)
                      have X3 := Lib.hid (ownsMap_below HAx.out hbl HAx.out.lt)
                      have X6 := Lib.hid hbl
                      clear hc hbl hin
                      generalize ss.getD q ByteArray.empty = s at hcx X1 X2
                      go_wp2_with fail
                      refine (add_yes X3.out (by unfold maxLen; omega) X2.out X1.out).mono ?_
                      rintro e w5 ⟨rfl, hb5⟩
                      go_wp2_with fail
                      go_roundw
                      case rel => exact ⟨q + 1, by omega, by go_num, X6.out.trans (hb5.mono X6.out.size)⟩
                      case measure => first | (simp [intOf]; done) | (simp [intOf]; omega)
                    · have : q = m := by omega
                      subst this
                      have HAy := Lib.hid (ownsMap_below HAx.out hbl HAx.out.lt)
                      have BY := Lib.hid (BX.out.trans (hbl.mono BX.out.size))
                      clear hbl
                      go_wp2_with fail
                      refine (len_any HAy.out).mono ?_
                      rintro e w6 ⟨rfl, rfl⟩
                      go_wp2
                      go_ret
                      exact ⟨by simp, BY.out⟩
    · go_wp2
      go_ret
      exact ⟨rfl, Below.refl _ _⟩
  · go_wp2
    go_ret
    exact ⟨rfl, Below.refl _ _⟩
end Go.Proofs.Ytoopikedaojhjaa
