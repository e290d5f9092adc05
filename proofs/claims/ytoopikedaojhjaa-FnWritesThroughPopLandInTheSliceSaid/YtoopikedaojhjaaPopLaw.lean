/- The cursor's law, walked. -/
import Derived.Test.YtoopikedaojhjaaToks
import Derived.Deep.QuietTactic
import Derived.BigQuiet
import Derived.IntWalk
namespace Go.Proofs.Ytoopikedaojhjaa
open Go.RowKit
theorem PR.lt {w : World} {p g n k : Nat} (h : PR w p g n k) : p < w.heap.size := (Array.getElem?_eq_some_iff.1 h).1
theorem below_dN {B : Nat} {a w : World} (h : Below B a w) (n : Nat) : Below B a (w.drewN n) := ⟨h.os, h.tape, h.output, h.size, h.block⟩
theorem grown_dN {a w : World} {r : Option Nat} (h : a.grownBy w r) (n : Nat) : a.grownBy (w.drewN n) r := ⟨h.os, h.tape, h.output, h.size, h.block⟩
theorem get_is {g n k : Nat} {T : Nat → ByteArray} {w : World} {s : ByteArray} (h : TK w g n T) (hk : k < n) (hs : T k = s) : Calls Try.prog 18 #[.pointer (some ⟨g, k * 11, none⟩)] w fun e w' => e = .returned (.string s) ∧ w' = w := hs ▸ get_any h hk
theorem neq_nil (A : Option Addr) (n c : Nat) (w : World) : (binOp .neq 22 (.slice A n c) (.slice none 0 0)).run Try.prog w = .ok (.bool (!A.isNone)) w := run_neq_slice_nil_any w 22 9 A n c 0 0 Try.underlying22
theorem size9 : (Try.prog.info? 9).map (·.size) = some 1 := by kernel_rfl
theorem sr_splice {w' : World} {g n : Nat} {cur : List Value} {ss : List ByteArray} (hs : ss.length = n) (hc : cur.length = n) (h : w'.heap[g]? = some (.cells (splice cur 0 (ss.map Value.string)).toArray 9 (0, 0))) : SR w' (some ⟨g, 0, none⟩) n ss := by
  refine ⟨hs, fun _ => ⟨g, 0, rfl, (Array.getElem?_eq_some_iff.1 h).1, fun j hj => ?_⟩⟩
  rw [cell_of_row w' g _ _ 9 (0, 0) h]
  have : splice cur 0 (ss.map Value.string) = ss.map Value.string := by
    simp [splice, hs, hc]
  rw [this]
  simp [show j < ss.length by omega]
theorem wpList_copy22 {w w0 : World} {ad : Addr} {n cap : Nat} {ss : List ByteArray} {xs : List Value} (h : SR w (some ad) n ss) (hown0 : w0.ownsRow w.heap.size 9 1 (.slice (some ⟨w.heap.size, 0, none⟩) n n) n xs) (hgrow0 : w.grownBy w0 none)
    {ops : Array Oper} {rest : List Oper} {o : Oper} {a : Act} {Q : Exit → Act → World → Prop} (hgd : o.guard = none) (ho : o.op = .call { callee := .builtin .copy, args := #[.tmp 27, .tmp 28], argTypes := #[22, 22] })
    (hd : a.eval (.tmp 27) = .slice (some ⟨w.heap.size, 0, none⟩) n n) (hs : a.eval (.tmp 28) = .slice (some ad) n cap)
    (hK : ∀ w1, Hid (SR w1 (some ⟨w.heap.size, 0, none⟩) n ss) → Hid (Below w.heap.size w w1) → wpList Try.prog ops Q rest (a.put o.dst (goInt (ss.map Value.string).length)) w1) : wpList Try.prog ops Q (o :: rest) a w0 := by
  have hb0 : Below w.heap.size w w0 := (Below.refl _ _).grown hgrow0 (Nat.le_refl _) (fun j hj => by cases hj)
  obtain ⟨cur, hcur, hcl⟩ : ∃ cur : List Value, w0.heap[w.heap.size]? = some (.cells cur.toArray 9 (0, 0)) ∧ cur.length = n := by
    rcases hown0.2 with ⟨h', _⟩ | ⟨g, cap', cur, h', _, hg, _, _, hs, ht⟩
    · cases h'
    · cases h'
      exact ⟨cur.toList, hg, by simpa using hs⟩
  refine wpList_copy_splice hgd _ _ 22 22 ho 9 Try.underlying22 size9 _ _ _ _ _ _ hd hs w.heap.size 0 cur 9 hcur (ss.map Value.string) (by rw [List.length_map, h.1]; exact (Nat.min_self n).symm) (fun h0 => ?_)
    (by rw [List.length_map, h.1, hcl]; omega) (fun v hv => ?_) w.heap.size w hb0 (Nat.le_refl _) (fun w1 g1 b1 => hK w1 (sr_splice h.1 hcl g1) b1)
  · refine ⟨rfl, ad, rfl, fun j v hv => ?_⟩
    obtain ⟨b, off, e, hb, hc⟩ := h.2 (by rw [List.length_map, h.1] at h0; exact h0)
    cases e
    rw [List.getElem?_map] at hv
    cases hj : ss[j]? with
    | none => rw [hj] at hv; cases hv
    | some s =>
      rw [hj] at hv
      cases hv
      have hjn : j < n := by rw [← h.1]; exact (List.getElem?_eq_some_iff.1 hj).1
      rw [WideShapes.add_plain, hb0.cell (by exact hb), hc j hjn]
      simp [hj]
  · obtain ⟨s, _, rfl⟩ := List.mem_map.1 hv
    rfl
set_option maxRecDepth 100000 in
set_option maxHeartbeats 2000000 in
theorem pop_walk (A : Option Addr) (n cap : Nat) (ss : List ByteArray) (w : World) (h : SR w A n ss) (hnil : A = none → n = 0) (hm : n ≤ 9223372036854775807) (hs : ∀ s ∈ ss, s.size ≤ maxLen) :
    Calls Try.prog 4 #[.slice A n cap] w fun e w' => e = .returned (.bool true) ∧ Below w.heap.size w w' := by
  have HS := Lib.hid hs
  have HR := Lib.hid h
  have qq := neq_nil A n cap
  clear hs h
  cases A with
  | none =>
    cases hnil rfl
    clear hnil
    simp only [Option.isNone_none, Bool.not_true] at qq
    go_enter Try.func4, Try.ntmps4
    go_wp2_with fail
    refine (bytes12_any _ _ _ ss _ HR.out hm HS.out).mono ?_
    rintro e w' ⟨⟨bb, rfl⟩, rfl⟩
    cases bb
    · go_wp2
      go_ret
      exact ⟨rfl, Below.refl _ _⟩
    go_wp2_with fail
    refine (bytes13_any _ _ _ ss _ HR.out hm HS.out).mono ?_
    rintro e w' ⟨⟨z, rfl⟩, rfl⟩
    by_cases hz : z ≤ 1048576
    · have hn : 0 ≤ 4096 := by omega
      have HR1 : Hid (SR w none 0 ss) := HR
      have HB1 : Hid (Below w.heap.size w w) := Below.refl _ _
      go_wp2_with fail
      refine (toks_any _ _ _ ss _ HR1.out hn).mono ?_
      rintro e w2 ⟨rfl, ht, hb2⟩
      have HT2 := Lib.hid ht
      have HB2 := Lib.hid hb2
      have HG : w.heap.size < w2.heap.size := ht.lt
      clear ht hb2
      go_wp2_with fail
      refine (mk_any _ _ _).mono ?_
      rintro e w3 ⟨rfl, hp, hb3⟩
      have HT3 := Lib.hid (HT2.out.keep (hb3.block _ HG))
      have HP3 := Lib.hid hp
      have HB3 := Lib.hid (HB2.out.trans (hb3.mono HB2.out.size))
      clear hp hb3
      go_wp2_with fail
      go_loopw [7, 8] (fun i _ wr => ∃ (k : Nat) (T : Nat → ByteArray), k ≤ 0 ∧ i = .int .i64 k ∧ TK wr w.heap.size 0 T ∧ (∀ j, j < k → T j = ss.getD (0 - 1 - j) ByteArray.empty) ∧ PR wr w2.heap.size w.heap.size 0 k ∧ Below w.heap.size w wr) (fun i _ _ => 0 - (intOf i).toNat)
      case atStart => exact ⟨0, _, Nat.zero_le _, rfl, HT3.out, (fun j hj => by omega), HP3.out, HB3.out⟩
      case round =>
        obtain ⟨k, T, hk, rfl, ht, hx, hp, hbl⟩ := hrel
        · have : k = 0 := by omega
          subst this
          have U1 := Lib.hid ht
          have U2 := Lib.hid hx
          have U3 := Lib.hid hp
          have U4 := Lib.hid hbl
          have UR := Lib.hid (HR1.out.below hbl)
          have hwr := ht.lt
          clear ht hx hp hbl HT2 HT3 HP3 HB2 HB3
          go_wp2_with fail
          go_loopw [9] (fun i wv => ∃ (m : Nat), m ≤ 0 ∧ i = .int .i64 m ∧ Below wr.heap.size wr wv) (fun i _ => 0 - (intOf i).toNat)
          case atStart => exact ⟨0, Nat.zero_le _, rfl, Below.refl _ _⟩
          case round =>
            obtain ⟨m, hmk, rfl, hbl⟩ := hrel
            · have : m = 0 := by omega
              subst this
              have V1 := Lib.hid (U1.out.keep (hbl.block _ hwr))
              have V3 : Hid (PR wr w2.heap.size w.heap.size 0 0) := (hbl.block _ (PR.lt U3.out)).trans U3.out
              have VR := Lib.hid (UR.out.below hbl)
              have VB := Lib.hid (HB1.out.trans ((U4.out.mono HB1.out.size).trans (hbl.mono (Nat.le_trans HB1.out.size U4.out.size))))
              have hwv : w.heap.size < wr.heap.size := V1.out.lt
              clear hbl U1 U3 UR U4 hwr
              go_wp2_with fail
              refine (mk_any _ _ _).mono ?_
              rintro e w6 ⟨rfl, hp, hb6⟩
              have W1 := Lib.hid (V1.out.keep (hb6.block _ hwv))
              have W3 : Hid (PR w6 w2.heap.size w.heap.size 0 0) := (hb6.block _ (PR.lt V3.out)).trans V3.out
              have WP := Lib.hid hp
              have WR := Lib.hid (VR.out.below hb6)
              have WB := Lib.hid (VB.out.trans (hb6.mono VB.out.size))
              have h6 : wr.heap.size < w6.heap.size := PR.lt hp
              have hpw : w2.heap.size < wr.heap.size := PR.lt V3.out
              have WV : Hid (0 < 0 → ∀ b off, (none : Option Addr) = some ⟨b, off, none⟩ → b < wr.heap.size) := fun h0 b off e => by
                obtain ⟨b', off', e', hb', _⟩ := VR.out.2 h0
                rw [e] at e'
                cases e'
                exact hb'
              clear hp hb6 V1 V3 VR VB
              generalize wr.heap.size = pb at WP h6 hpw hwv WV
              go_wp2_with fail
              go_loopw [11, 12] (fun i _ wv => ∃ (q : Nat), q ≤ 0 ∧ i = .int .i64 q ∧ PR wv pb w.heap.size 0 q ∧ w6.grownBy wv (some pb)) (fun i _ _ => 0 - (intOf i).toNat)
              case atStart => exact ⟨0, Nat.zero_le _, rfl, WP.out, World.grownBy.refl _ _⟩
              case round =>
                obtain ⟨q, hqm, rfl, hp, hgr⟩ := hrel
                · have : q = 0 := by omega
                  subst this
                  have Y3 : Hid (PR wr w2.heap.size w.heap.size 0 0) := (hgr.block _ (PR.lt W3.out) (by simp; omega)).trans W3.out
                  have Y4 := Lib.hid hp
                  have YB := Lib.hid (WB.out.grown hgr WB.out.size (fun j hj => by cases hj; have := HB1.out.size; omega))
                  clear hp hgr
                  go_wp2_with (first | (go_at_call 20; refine (pos_any Y3.out).mono ?_; rintro e w' ⟨rfl, rfl⟩) | (go_at_call 20; refine (pos_any Y4.out).mono ?_; rintro e w' ⟨rfl, rfl⟩))
                  go_ret
                  exact ⟨rfl, YB.out⟩
    · go_wp2
      go_ret
      exact ⟨rfl, Below.refl _ _⟩
  | some ad =>
    clear hnil
    simp only [Option.isNone_some, Bool.not_false] at qq
    obtain ⟨i0, hi, hz0, hz1, hz2⟩ := info_parts info9
    go_enter Try.func4, Try.ntmps4
    go_wp2_with fail
    refine (bytes12_any _ _ _ ss _ HR.out hm HS.out).mono ?_
    rintro e w' ⟨⟨bb, rfl⟩, rfl⟩
    cases bb
    · go_wp2
      go_ret
      exact ⟨rfl, Below.refl _ _⟩
    by_cases hn : n ≤ 4096
    · go_wp2_with fail
      refine (bytes13_any _ _ _ ss _ HR.out hm HS.out).mono ?_
      rintro e w' ⟨⟨z, rfl⟩, rfl⟩
      by_cases hz : z ≤ 1048576
      · go_wp2_with (first | (at_make; refine wpList_make_full _ rfl _ _ 22 rfl w.heap.size 9 i0 (.string ByteArray.empty) 1 Try.underlying22 hi hz0 hz1 _ _ _ _ n rfl rfl rfl rfl (by rw [hz2]; omega) (by unfold maxLen; omega) (Nat.le_refl _) ?_; intro w0 hown0 hgrow0) | (with_reducible refine wpList_copy22 HR.out hown0 hgrow0 rfl rfl rfl rfl ?_; intro w1 HR1 HB1; clear hown0 hgrow0))
        go_wp2_with fail
        refine (toks_any _ _ _ ss _ HR1.out hn).mono ?_
        rintro e w2 ⟨rfl, ht, hb2⟩
        have HT2 := Lib.hid ht
        have HB2 := Lib.hid hb2
        have HG : w1.heap.size < w2.heap.size := ht.lt
        clear ht hb2
        go_wp2_with fail
        refine (mk_any _ _ _).mono ?_
        rintro e w3 ⟨rfl, hp, hb3⟩
        have HT3 := Lib.hid (HT2.out.keep (hb3.block _ HG))
        have HP3 := Lib.hid hp
        have HB3 := Lib.hid (HB2.out.trans (hb3.mono HB2.out.size))
        clear hp hb3
        go_wp2_with fail
        go_loopw [7, 8] (fun i _ wr => ∃ (k : Nat) (T : Nat → ByteArray), k ≤ n ∧ i = .int .i64 k ∧ TK wr w1.heap.size n T ∧ (∀ j, j < k → T j = ss.getD (n - 1 - j) ByteArray.empty) ∧ PR wr w2.heap.size w1.heap.size n k ∧ Below w1.heap.size w1 wr) (fun i _ _ => n - (intOf i).toNat)
        case atStart => exact ⟨0, _, Nat.zero_le _, rfl, HT3.out, (fun j hj => by omega), HP3.out, HB3.out⟩
        case round =>
          obtain ⟨k, T, hk, rfl, ht, hx, hp, hbl⟩ := hrel
          by_cases hlt : k < n
          · obtain ⟨b, off, e, hb, hc⟩ := HR1.out.2 (by omega)
            cases e
            have X0 := Lib.hid (hc (n - 1 - k) (by omega))
            have X1 := Lib.hid ht
            have X2 := Lib.hid hx
            have X3 := Lib.hid hp
            have X4 := Lib.hid hbl
            have hwr := ht.lt
            clear hc ht hx hp hbl
            go_wp2_with fail
            refine (pop_any X3.out hlt hn).mono ?_
            rintro e w4 ⟨rfl, hp4, hg4⟩
            have HP4 := Lib.hid hp4
            have HT4 := Lib.hid (X1.out.keep (hg4.block _ X1.out.lt (by simp; omega)))
            have HB4 := Lib.hid (X4.out.grown hg4 (by omega) (fun j hj => by cases hj; omega))
            have hcx := (HB4.out.cell (by exact hb)).trans X0.out
            simp only [Nat.zero_add] at hcx
            have Y2 : Hid (∀ j, j < k + 1 → (if j = k then ss.getD (n - 1 - k) ByteArray.empty else T j) = ss.getD (n - 1 - j) ByteArray.empty) := fun j hj => by
              split
              · rename_i e; rw [e]
              · exact X2.out j (by omega)
            clear hp4 hg4 X0
            generalize ss.getD (n - 1 - k) ByteArray.empty = s at hcx Y2
            go_wp2_with fail
            refine (put_any HT4.out hlt s).mono ?_
            rintro e w5 ⟨rfl, rfl⟩
            have Z1 := Lib.hid (HT4.out.set hlt s)
            have Z2 : Hid (PR (w4.setCell ⟨w1.heap.size, k * 11 + 1, none⟩ (.string s)) w2.heap.size w1.heap.size n (k + 1)) := (heap_setCell_other w4 _ _ _ (by simp; omega)).trans HP4.out
            have Z3 := Lib.hid (HB4.out.setCell (p := ⟨w1.heap.size, k * 11 + 1, none⟩) (Nat.le_refl _) (.string s))
            generalize w4.setCell ⟨w1.heap.size, k * 11 + 1, none⟩ (.string s) = w5 at Z1 Z2 Z3
            go_wp2
            go_roundw
            case rel => exact ⟨k + 1, _, by omega, by go_num, Z1.out, Y2.out, Z2.out, Z3.out⟩
            case measure => first | (simp [intOf]; done) | (simp [intOf]; omega)
          · have : k = n := by omega
            subst this
            have U1 := Lib.hid ht
            have U2 := Lib.hid hx
            have U3 := Lib.hid hp
            have U4 := Lib.hid hbl
            have UR := Lib.hid (HR1.out.below hbl)
            have hwr := ht.lt
            clear ht hx hp hbl HT2 HT3 HP3 HB2 HB3
            go_wp2_with fail
            go_loopw [9] (fun i wv => ∃ (m : Nat), m ≤ k ∧ i = .int .i64 m ∧ Below wr.heap.size wr wv) (fun i _ => k - (intOf i).toNat)
            case atStart => exact ⟨0, Nat.zero_le _, rfl, Below.refl _ _⟩
            case round =>
              obtain ⟨m, hmk, rfl, hbl⟩ := hrel
              by_cases hlt : m < k
              · obtain ⟨b, off, e, hb, hc⟩ := UR.out.2 (by omega)
                cases e
                have X0 := (hbl.cell (by exact hb)).trans (hc (k - 1 - m) (by omega))
                simp only [Nat.zero_add] at X0
                have X1 := Lib.hid (U1.out.keep (hbl.block _ hwr))
                have X2 := Lib.hid (U2.out m hlt)
                have X4 := Lib.hid hbl
                clear hc hbl
                generalize ss.getD (k - 1 - m) ByteArray.empty = s at X0 X2
                have e1 : IntKind.i64.wrap ((k : Int) - 1) = (k : Int) - 1 := IntWalk.i64_in _ (by omega)
                have e2 : IntKind.i64.wrap ((k : Int) - 1 - (m : Int)) = (k : Int) - 1 - (m : Int) := IntWalk.i64_in _ (by omega)
                have e3 : 0 ≤ (k : Int) - 1 - (m : Int) := by omega
                have e4 : ((k : Int) - 1 - (m : Int)).toNat = k - 1 - m := by omega
                have e5 : k - 1 - m < k := by omega
                go_wp2_with fail
                go_quiet (first | (go_at_call 19; exact Calls.quiet_of_same (at_any _ hlt)) | (go_at_call 18; refine Calls.quiet_of_same (get_is ?_ hlt X2.out); exact X1.out))
                clear e1 e2 e3 e4 e5
                go_wp2
                go_roundw
                case rel => exact ⟨m + 1, by omega, by go_num, below_dN X4.out _⟩
                case measure => first | (simp [intOf]; done) | (simp [intOf]; omega)
              · have : m = k := by omega
                subst this
                have V1 := Lib.hid (U1.out.keep (hbl.block _ hwr))
                have V3 : Hid (PR wr w2.heap.size w1.heap.size m m) := (hbl.block _ (PR.lt U3.out)).trans U3.out
                have VR := Lib.hid (UR.out.below hbl)
                have VB := Lib.hid (HB1.out.trans ((U4.out.mono HB1.out.size).trans (hbl.mono (Nat.le_trans HB1.out.size U4.out.size))))
                have hwv : w1.heap.size < wr.heap.size := V1.out.lt
                clear hbl U1 U3 UR U4 hwr
                go_wp2_with fail
                refine (mk_any _ _ _).mono ?_
                rintro e w6 ⟨rfl, hp, hb6⟩
                have W1 := Lib.hid (V1.out.keep (hb6.block _ hwv))
                have W3 : Hid (PR w6 w2.heap.size w1.heap.size m m) := (hb6.block _ (PR.lt V3.out)).trans V3.out
                have WP := Lib.hid hp
                have WR := Lib.hid (VR.out.below hb6)
                have WB := Lib.hid (VB.out.trans (hb6.mono VB.out.size))
                have h6 : wr.heap.size < w6.heap.size := PR.lt hp
                have hpw : w2.heap.size < wr.heap.size := PR.lt V3.out
                have WV : Hid (0 < m → ∀ b off, some (⟨w.heap.size, 0, none⟩ : Addr) = some ⟨b, off, none⟩ → b < wr.heap.size) := fun h0 b off e => by
                  obtain ⟨b', off', e', hb', _⟩ := VR.out.2 h0
                  rw [e] at e'
                  cases e'
                  exact hb'
                clear hp hb6 V1 V3 VR VB
                generalize wr.heap.size = pb at WP h6 hpw hwv WV
                go_wp2_with fail
                go_loopw [11, 12] (fun i _ wv => ∃ (q : Nat), q ≤ m ∧ i = .int .i64 q ∧ PR wv pb w1.heap.size m q ∧ w6.grownBy wv (some pb)) (fun i _ _ => m - (intOf i).toNat)
                case atStart => exact ⟨0, Nat.zero_le _, rfl, WP.out, World.grownBy.refl _ _⟩
                case round =>
                  obtain ⟨q, hqm, rfl, hp, hgr⟩ := hrel
                  by_cases hlt : q < m
                  · obtain ⟨b, off, e, hb, hc⟩ := WR.out.2 (by omega)
                    have hb0 : b < pb := WV.out (by omega) b off e
                    cases e
                    have X0 := Lib.hid (hc (m - 1 - q) (by omega))
                    have X1 := Lib.hid (W1.out.keep (hgr.block _ W1.out.lt (by simp; omega)))
                    have X2 := Lib.hid (U2.out q hlt)
                    have X3 := Lib.hid hp
                    have X4 := Lib.hid hgr
                    clear hc hp hgr
                    go_wp2_with fail
                    refine (pop_any X3.out hlt hn).mono ?_
                    rintro e w7 ⟨rfl, hp7, hg7⟩
                    have Z1 := Lib.hid hp7
                    have Z2 := Lib.hid (X4.out.trans hg7)
                    have Z3 := Lib.hid (X1.out.keep (hg7.block _ X1.out.lt (by simp; omega)))
                    have Z0 := (World.cell?_of_block (a := ⟨w.heap.size, 0 + (m - 1 - q), none⟩) (Z2.out.block w.heap.size hb (by simp; omega))).trans X0.out
                    simp only [Nat.zero_add] at Z0
                    clear hp7 hg7 X0 X1 X3 X4
                    generalize ss.getD (m - 1 - q) ByteArray.empty = s at Z0 X2
                    have e1 : IntKind.i64.wrap ((m : Int) - 1) = (m : Int) - 1 := IntWalk.i64_in _ (by omega)
                    have e2 : IntKind.i64.wrap ((m : Int) - 1 - (q : Int)) = (m : Int) - 1 - (q : Int) := IntWalk.i64_in _ (by omega)
                    have e3 : 0 ≤ (m : Int) - 1 - (q : Int) := by omega
                    have e4 : ((m : Int) - 1 - (q : Int)).toNat = m - 1 - q := by omega
                    have e5 : m - 1 - q < m := by omega
                    go_wp2_with fail
                    go_quiet ((go_at_call 18; refine Calls.quiet_of_same (get_is ?_ hlt X2.out); exact Z3.out))
                    clear e1 e2 e3 e4 e5
                    go_wp2
                    go_roundw
                    case rel => exact ⟨q + 1, by omega, by go_num, Z1.out, grown_dN Z2.out _⟩
                    case measure => first | (simp [intOf]; done) | (simp [intOf]; omega)
                  · have : q = m := by omega
                    subst this
                    have Y3 : Hid (PR wr w2.heap.size w1.heap.size q q) := (hgr.block _ (PR.lt W3.out) (by simp; omega)).trans W3.out
                    have Y4 := Lib.hid hp
                    have YB := Lib.hid (WB.out.grown hgr WB.out.size (fun j hj => by cases hj; have := HB1.out.size; omega))
                    clear hp hgr
                    go_wp2_with (first | (go_at_call 20; refine (pos_any Y3.out).mono ?_; rintro e w' ⟨rfl, rfl⟩) | (go_at_call 20; refine (pos_any Y4.out).mono ?_; rintro e w' ⟨rfl, rfl⟩))
                    go_ret
                    exact ⟨rfl, YB.out⟩
      · go_wp2
        go_ret
        exact ⟨rfl, Below.refl _ _⟩
    · go_wp2
      go_ret
      exact ⟨rfl, Below.refl _ _⟩
end Go.Proofs.Ytoopikedaojhjaa
