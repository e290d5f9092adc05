/- FnBaseLocalKeepsEveryFodder, walked. -/
import Derived.Test.YtnmceagiofjdnaaSRt
namespace Go.Proofs.Ytnmceagiofjdnaa
open Go.RowKit
set_option maxRecDepth 100000 in
set_option maxHeartbeats 8000000 in
theorem law4 (A : Option Addr) (n cap : Nat) (ss : List ByteArray) (w : World) (h : SR w A n ss) (_h0 : A = none → n = 0) (hm : n ≤ 9223372036854775807) (hs : ∀ s ∈ ss, s.size ≤ maxLen) :
    Calls Try.prog 4 #[.slice A n cap] w fun e w' => e = .returned (.bool true) ∧ Below w.heap.size w w' := by
  have HR := Lib.hid h
  have HS := Lib.hid hs
  have HM := Lib.hid hm
  have e1 : (n : Int) ≤ 9223372036854775807 := by omega
  clear h hs hm _h0
  go_enter Try.func4, Try.ntmps4
  go_wp2_with fail
  refine (bytes11_any _ _ _ ss _ HR.out HM.out HS.out).mono ?_
  rintro e w' ⟨⟨bb, rfl⟩, rfl⟩
  cases bb
  · go_wp2
    go_ret
    exact ⟨rfl, Below.refl _ _⟩
  by_cases k0 : (n : Int) ≤ 4096
  rotate_left
  · go_wp2
    go_ret
    exact ⟨rfl, Below.refl _ _⟩
  have HN := Lib.hid (show n ≤ 4096 by omega)
  clear e1
  go_wp2_with fail
  go_loop [3, 4] (fun t i => ∃ (k : Nat) (z : Int), k ≤ n ∧ i = .int .i64 k ∧ t = .int .i64 z) (fun _ i => n - (intOf i).toNat)
  case atStart => exact ⟨0, _, Nat.zero_le _, rfl, rfl⟩
  case round =>
    obtain ⟨k, z, hk, rfl, rfl⟩ := hrel
    by_cases hlt : k < n
    · obtain ⟨b, off, rfl, hb, hc⟩ := HR.out.2 (by omega)
      have hcx := hc k hlt
      have hsz := at_size HS.out k
      clear hc
      generalize ss.getD k ByteArray.empty = s at hcx hsz
      unfold maxLen at hsz
      go_wp2
      go_round
      case rel => exact ⟨k + 1, _, by omega, by go_num, rfl⟩
      case measure => first | (simp [intOf]; done) | (simp [intOf]; omega)
    · have hkn : k = n := by omega
      subst hkn
      by_cases hz : z ≤ 1048576
      rotate_left
      · go_wp2
        go_ret
        exact ⟨rfl, Below.refl _ _⟩
      obtain ⟨zc, zs, mk⟩ := mk23 k HN.out w
      go_wp2_with fail
      generalize hW : World.alloc _ _ = W1
      have C0 : Hid (CopyS w W1 w.heap.size k 0 ss) := ⟨by rw [← hW]; exact below_al (Below.refl _ _) _, Nat.le_refl _, _, by rw [← hW]; exact at_new rfl, zs, fun j hj => by omega⟩
      clear hW mk zs zc hz
      go_loopw [6] (fun i wr => ∃ j : Nat, j ≤ k ∧ i = .int .i64 j ∧ Hid (CopyS w wr w.heap.size k j ss)) (fun i _ => k - (intOf i).toNat)
      case atStart => exact ⟨0, Nat.zero_le _, rfl, C0⟩
      case round =>
        obtain ⟨j, hj, rfl, hf⟩ := hrel
        by_cases hjt : j < k
        · obtain ⟨b, off, rfl, hb, hc⟩ := HR.out.2 (by omega)
          have hcx := (hf.out.own.cell (p := ⟨b, off + j, none⟩) hb).trans (hc j hjt)
          obtain ⟨⟨v0, hd⟩, hz1⟩ := hf.out.cell hjt
          have HT := Lib.hid (hf.out.step hjt)
          clear hc hf
          go_wp2
          clear hcx hd hz1
          go_roundw
          case rel => exact ⟨j + 1, by omega, by go_num, HT⟩
          case measure => first | (simp [intOf]; done) | (simp [intOf]; omega)
        · have hjk : j = k := by omega
          subst hjk
          have OW := Lib.hid (show Own w _ from hf.out.own)
          have ST := Lib.hid (hf.out.strs HR.out.1)
          clear hf C0
          go_wp2_with fail
          refine (mk12 _ _ _ ss _ ST.out HN.out).mono ?_
          rintro e w2 ⟨U, cu, L, cl, cg, ch, rfl, hmk, u1, u2, u3, u4, u5⟩
          have LC := Lib.hid (hmk.loc u1 u2 u3 u4 u5)
          have O2 := Lib.hid (show Own _ w2 from hmk.row.own)
          clear hmk u1 u2 u3 u4 u5
          go_wp2_with fail
          refine (LC.out.base HN.out).mono ?_
          rintro e w3 ⟨rfl, hs3⟩
          have L3 := Lib.hid (LC.out.keep hs3)
          have O3 := Lib.hid (O2.out.go hs3)
          clear hs3 LC O2
          go_wp2_with fail
          refine (count8 L3.out).mono ?_
          rintro e w' ⟨rfl, rfl⟩
          go_wp2_with fail
          go_loopw [9] (fun i wr => ∃ p : Nat, p ≤ j ∧ i = .int .i64 p ∧ Hid (Own w3 wr)) (fun i _ => j - (intOf i).toNat)
          case atStart => exact ⟨0, Nat.zero_le _, rfl, Lib.hid (Own.refl _)⟩
          case round =>
            obtain ⟨p, hp, rfl, hO⟩ := hrel
            by_cases hpt : p < j
            · have ST3 := Lib.hid (ST.out.keep (O3.out.go hO.out))
              go_wp2_with fail
              go_loopw [10] (fun i wv => ∃ q : Nat, q ≤ 9 ∧ i = .int .i64 q ∧ Hid (Own w3 wv)) (fun i _ => 9 - (intOf i).toNat)
              case atStart => exact ⟨0, Nat.zero_le _, rfl, hO⟩
              case round =>
                obtain ⟨q, hq, rfl, hV⟩ := hrel
                by_cases hqt : q < 9
                · go_wp2_with fail
                  refine (fod13 (L3.out.keep hV.out) p q hpt HN.out hqt).mono ?_
                  rintro e w' ⟨rfl, mm, rfl⟩
                  have cs := (ST.out.keep (O3.out.go hV.out)).2.2 p hpt
                  generalize ss.getD p ByteArray.empty = c at cs
                  have HV := Lib.hid (below_drewN hV.out mm)
                  clear hV
                  go_wp2
                  clear cs
                  go_roundw
                  case rel => exact ⟨q + 1, by omega, by go_num, HV⟩
                  case measure => first | (simp [intOf]; done) | (simp [intOf]; omega)
                · have hq9 : q = 9 := by omega
                  subst hq9
                  go_wp2
                  go_roundw
                  case rel => exact ⟨p + 1, by omega, by go_num, hV⟩
                  case measure => first | (simp [intOf]; done) | (simp [intOf]; omega)
            · have L4 := Lib.hid (L3.out.keep hO.out)
              have O4 := Lib.hid (O3.out.go hO.out)
              clear hO L3 O3
              go_wp2_with fail
              refine (len14 L4.out).mono ?_
              rintro e w' ⟨rfl, rfl⟩
              have E0 : Hid (Own w _ ∧ (∃ lo g h, LocC lo _ U g h j ss) ∧ Strs _ w.heap.size j ss) := ⟨OW.out.go O4.out, ⟨_, _, _, L4.out⟩, ST.out.keep O4.out⟩
              clear OW ST O4 L4
              go_wp2_with fail
              go_loopw [13] (fun i wz => ∃ q : Nat, q ≤ j ∧ i = .int .i64 q ∧ Hid (Own w wz ∧ (∃ lo g h, LocC lo wz U g h j ss) ∧ Strs wz w.heap.size j ss)) (fun i _ => j - (intOf i).toNat)
              case atStart => exact ⟨0, Nat.zero_le _, rfl, E0⟩
              case round =>
                obtain ⟨q, hq, rfl, hV⟩ := hrel
                by_cases hqt : q < j
                · obtain ⟨o1, ⟨lo, g, h, lc⟩, st⟩ := hV.out
                  have cs := st.2.2 q hqt
                  have LQ := Lib.hid (com15q lc q hqt HN.out)
                  generalize ss.getD q ByteArray.empty = c at cs LQ
                  have HO := Lib.hid o1
                  have HLC := Lib.hid lc
                  have HST := Lib.hid st
                  clear o1 lc st hV
                  go_wp2_with fail
                  go_quiet ((go_at_call 15; exact LQ.out _))
                  have NW : Hid (Own w _ ∧ (∃ lo g h, LocC lo _ U g h j ss) ∧ Strs _ w.heap.size j ss) := ⟨below_drewN HO.out nq, ⟨_, _, _, HLC.out.keep (below_drewN (Own.refl _) nq)⟩, HST.out.keep (below_drewN (Own.refl _) nq)⟩
                  clear cs LQ HO HLC HST
                  go_wp2
                  go_roundw
                  case rel => exact ⟨q + 1, by omega, by go_num, NW⟩
                  case measure => first | (simp [intOf]; done) | (simp [intOf]; omega)
                · go_wp2
                  go_ret
                  exact ⟨rfl, hV.out.1⟩
end Go.Proofs.Ytnmceagiofjdnaa
