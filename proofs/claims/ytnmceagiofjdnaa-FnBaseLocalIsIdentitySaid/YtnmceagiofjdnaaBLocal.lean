/- Base.Parameters over one defaulted parameter and Base.Local, by pass.Base itself: what was there stays. -/
import Derived.Test.YtnmceagiofjdnaaBBase
namespace Go.Proofs.Ytnmceagiofjdnaa
open Go.RowKit
/-- A function's one parameter that pass.Base can walk. -/
structure ParIn (w : World) (F : Nat) : Prop where
  lt : F < w.heap.size
  l : FodS w ⟨F, 0, none⟩
  r : FodS w ⟨F, 1, none⟩
  par : ∃ Q t v, w.cell? ⟨F, 3, none⟩ = some (.slice (some ⟨Q, 0, none⟩) 1 1) ∧ Q < w.heap.size ∧ w.cell? ⟨Q, 4, none⟩ = some (.iface t v) ∧ FodS w ⟨Q, 0, none⟩ ∧ FodS w ⟨Q, 3, none⟩ ∧ Vis w ⟨Q, 4, none⟩ ∧ FodS w ⟨Q, 2, none⟩
theorem ParIn.keep {w w1 : World} {F : Nat} (h : ParIn w F) (k : Own w w1) : ParIn w1 F := by
  obtain ⟨Q, t, v, h1, h2, h3, h4, h5, h6, h7⟩ := h.par
  exact ⟨Nat.lt_of_lt_of_le h.lt k.size, h.l.keep k, h.r.keep k, Q, t, v, k.cell h.lt h1, Nat.lt_of_lt_of_le h2 k.size, k.cell h2 h3, h4.keep k, h5.keep k, h6.keep k, h7.keep k⟩
set_option maxRecDepth 100000 in
set_option maxHeartbeats 4000000 in
theorem parametersB (b ctx : Value) (B : Addr) (F : Nat) (w : World) (h : ParIn w F) :
    Calls Try.prog 44 #[b, .iface 68 (.pointer (some B)), .pointer (some ⟨F, 0, none⟩), .pointer (some ⟨F, 3, none⟩), .pointer (some ⟨F, 1, none⟩), ctx] w fun e w' => e = .returned (.tuple #[]) ∧ Own w w' := by
  obtain ⟨Q, t, v, h1, h2, h3, h4, h5, h6, h7⟩ := h.par
  have HL := Lib.hid h.lt
  have HQ := Lib.hid h2
  have C1 := Lib.hid h1
  have C3 := Lib.hid h3
  have A0 := Lib.hid h.l
  have A1 := Lib.hid h.r
  have D0 := Lib.hid h4
  have D3 := Lib.hid h5
  have D4 := Lib.hid h6
  have D2 := Lib.hid h7
  have n1 := nil_Visit B
  have m1 := m_Visit B
  have n2 := nil_Fodder B
  have m2 := m_Fodder B
  clear h h1 h2 h3 h4 h5 h6 h7
  go_enter Try.func44, Try.ntmps44
  go_wp2_with fail
  refine (A0.out _ (Own.refl _) _ _ _).mono ?_
  rintro e w1 ⟨rfl, hs⟩
  have S1 := Lib.hid hs
  clear hs
  have c1 := S1.out.cell HL.out C1.out
  go_wp2_with fail
  clear c1
  go_loopw [23] (fun i wr => ∃ k : Nat, k ≤ 1 ∧ i = .int .i64 k ∧ Hid (Own w wr)) (fun i _ => 1 - (intOf i).toNat)
  case atStart => exact ⟨0, Nat.zero_le _, rfl, S1⟩
  case round =>
    obtain ⟨k, hk, rfl, hO⟩ := hrel
    by_cases hlt : k < 1
    · have hk0 : k = 0 := by omega
      subst hk0
      have c1 := hO.out.cell HL.out C1.out
      have c3 := hO.out.cell HQ.out C3.out
      go_wp2_with fail
      go_region_with (first | (go_at_call 43; refine (D0.out _ hO.out.drew _ _ _).mono ?_; rintro e w2 ⟨rfl, hs⟩))
      have S2 := Lib.hid (hO.out.drew.go hs)
      clear hs c1 c3 hO
      have c3 := S2.out.cell HQ.out C3.out
      go_wp2_with fail
      go_region_with (first | (go_at_call 43; refine (D3.out _ S2.out.drew _ _ _).mono ?_; rintro e w3 ⟨rfl, hs⟩))
      have S3 := Lib.hid (S2.out.drew.go hs)
      clear hs c3 S2
      go_wp2_with fail
      go_region_with (first | (go_at_call 45; refine (D4.out _ S3.out.drew _ _ _).mono ?_; rintro e w4 ⟨rfl, hs⟩))
      have S4 := Lib.hid (S3.out.drew.go hs)
      clear hs S3
      go_wp2_with fail
      go_region_with (first | (go_at_call 43; refine (D2.out _ S4.out.drew _ _ _).mono ?_; rintro e w5 ⟨rfl, hs⟩))
      have S5 := Lib.hid (S4.out.drew.go hs)
      clear hs S4
      go_wp2
      go_roundw
      case rel => exact ⟨1, by omega, rfl, S5⟩
      case measure => first | (simp [intOf]; done) | (simp [intOf]; omega)
    · have hk1 : k = 1 := by omega
      subst hk1
      go_wp2_with fail
      refine (A1.out _ hO.out _ _ _).mono ?_
      rintro e w6 ⟨rfl, hs⟩
      have S6 := Lib.hid (hO.out.go hs)
      clear hs hO
      go_wp2
      go_end0
      exact ⟨rfl, S6.out⟩
/-- The i-th bind that pass.Base can walk; the binds lie in block g. -/
structure BindIn (w : World) (g i : Nat) : Prop where
  f0 : FodS w ⟨g, i * 12, none⟩
  f2 : FodS w ⟨g, i * 12 + 2, none⟩
  v1 : Vis w ⟨g, i * 12 + 1, none⟩
  f4 : FodS w ⟨g, i * 12 + 4, none⟩
  fn : w.cell? ⟨g, i * 12 + 5, none⟩ = some (.pointer none) ∨ ∃ F, w.cell? ⟨g, i * 12 + 5, none⟩ = some (.pointer (some ⟨F, 0, none⟩)) ∧ ParIn w F
theorem ptr46_nil (w : World) : (binOp .neq 46 (.pointer none) (.pointer none)).run Try.prog w = .ok (.bool false) w := by kernel_rfl
theorem ptr46_some (a : Addr) (w : World) : (binOp .neq 46 (.pointer (some a)) (.pointer none)).run Try.prog w = .ok (.bool true) w := by kernel_rfl
set_option maxRecDepth 100000 in
set_option maxHeartbeats 8000000 in
theorem localB (b ctx : Value) (B : Addr) (U g n cap : Nat) (w : World) (hl : U < w.heap.size) (hg : g < w.heap.size) (hn : n ≤ 4096) (hc : w.cell? ⟨U, 0, none⟩ = some (.slice (some ⟨g, 0, none⟩) n cap)) (hB : ∀ i, i < n → BindIn w g i) (hV : Vis w ⟨U, 1, none⟩) :
    Calls Try.prog 17 #[b, .iface 68 (.pointer (some B)), .pointer (some ⟨U, 0, none⟩), ctx] w fun e w' => e = .returned (.tuple #[]) ∧ Own w w' := by
  have HL := Lib.hid hl
  have HG := Lib.hid hg
  have HC := Lib.hid hc
  have HB := Lib.hid hB
  have HV := Lib.hid hV
  have HN := Lib.hid hn
  have e0 : (n : Int) ≤ 4096 := by omega
  have n1 := nil_Visit B
  have m1 := m_Visit B
  have n2 := nil_Fodder B
  have m2 := m_Fodder B
  have n3 := nil_Parameters B
  have m3 := m_Parameters B
  clear hl hg hB hV hn
  go_enter Try.func17, Try.ntmps17
  go_wp2_with fail
  clear hc
  go_loopw [15] (fun i wr => ∃ k : Nat, k ≤ n ∧ i = .int .i64 k ∧ Hid (Own w wr)) (fun i _ => n - (intOf i).toNat)
  case atStart => exact ⟨0, Nat.zero_le _, rfl, Lib.hid (Own.refl _)⟩
  case round =>
    obtain ⟨k, hk, rfl, hO⟩ := hrel
    by_cases hlt : k < n
    · have BI := Lib.hid (HB.out k hlt)
      have c1 := hO.out.cell HL.out HC.out
      go_wp2_with fail
      go_region_with (first | (go_at_call 43; refine (BI.out.f0 _ hO.out.drew _ _ _).mono ?_; rintro e w2 ⟨rfl, hs⟩))
      have S2 := Lib.hid (hO.out.drew.go hs)
      clear hs c1 hO
      rcases BI.out.fn with hf | ⟨F, hf, hp⟩
      · have p1 := ptr46_nil
        have c2 := S2.out.cell HG.out hf
        clear hf
        go_wp2_with fail
        clear c2 p1
        go_region_with (first | (go_at_call 43; refine (BI.out.f2 _ S2.out.drew _ _ _).mono ?_; rintro e w3 ⟨rfl, hs⟩))
        have S3 := Lib.hid (S2.out.drew.go hs)
        clear hs S2
        go_wp2_with fail
        go_region_with (first | (go_at_call 45; refine (BI.out.v1 _ S3.out.drew _ _ _).mono ?_; rintro e w4 ⟨rfl, hs⟩))
        have S4 := Lib.hid (S3.out.drew.go hs)
        clear hs S3
        go_wp2_with fail
        go_region_with (first | (go_at_call 43; refine (BI.out.f4 _ S4.out.drew _ _ _).mono ?_; rintro e w5 ⟨rfl, hs⟩))
        have S5 := Lib.hid (S4.out.drew.go hs)
        clear hs S4
        go_wp2
        go_roundw
        case rel => exact ⟨k + 1, by omega, by go_num, S5⟩
        case measure => first | (simp [intOf]; done) | (simp [intOf]; omega)
      · have p1 := ptr46_some
        have c2 := S2.out.cell HG.out hf
        have HP := Lib.hid hp
        clear hf hp
        go_wp2_with fail
        refine wp_region_still_tail 24 (by kernel_rfl) (by kernel_rfl) ?_
        simp only [List.take_succ_cons, List.take_zero, List.drop_succ_cons, List.drop_zero]
        repeat still_step
        try refine wpStill_nil ?_
        change wpList _ _ _ _ _ w2.drew
        clear c2 p1
        have S3 := Lib.hid S2.out.drew
        generalize w2.drew = W2 at S3 ⊢
        go_wp2_with fail
        refine (parametersB _ _ _ _ _ (HP.out.keep S3.out)).mono ?_
        rintro e w3 ⟨rfl, hs⟩
        have S4 := Lib.hid (S3.out.go hs)
        clear hs S2 S3 HP
        go_wp2_with fail
        go_region_with (first | (go_at_call 43; refine (BI.out.f2 _ S4.out.drew _ _ _).mono ?_; rintro e w4 ⟨rfl, hs⟩))
        have S5 := Lib.hid (S4.out.drew.go hs)
        clear hs S4
        go_wp2_with fail
        go_region_with (first | (go_at_call 45; refine (BI.out.v1 _ S5.out.drew _ _ _).mono ?_; rintro e w5 ⟨rfl, hs⟩))
        have S6 := Lib.hid (S5.out.drew.go hs)
        clear hs S5
        go_wp2_with fail
        go_region_with (first | (go_at_call 43; refine (BI.out.f4 _ S6.out.drew _ _ _).mono ?_; rintro e w6 ⟨rfl, hs⟩))
        have S7 := Lib.hid (S6.out.drew.go hs)
        clear hs S6
        go_wp2
        go_roundw
        case rel => exact ⟨k + 1, by omega, by go_num, S7⟩
        case measure => first | (simp [intOf]; done) | (simp [intOf]; omega)
    · go_wp2_with fail
      go_region_with (first | (go_at_call 45; refine (HV.out _ hO.out.drew _ _ _).mono ?_; rintro e w2 ⟨rfl, hs⟩))
      have S2 := Lib.hid (hO.out.drew.go hs)
      clear hs hO
      go_wp2
      go_end0
      exact ⟨rfl, S2.out⟩
theorem baseLocal (U g n cap : Nat) (w : World) (hl : U < w.heap.size) (hg : g < w.heap.size) (hn : n ≤ 4096) (hc : w.cell? ⟨U, 0, none⟩ = some (.slice (some ⟨g, 0, none⟩) n cap)) (hB : ∀ i, i < n → BindIn w g i) (hV : Vis w ⟨U, 1, none⟩) :
    Calls Try.prog 7 #[.pointer (some ⟨U, 0, none⟩)] w fun e w' => e = .returned (.tuple #[]) ∧ Own w w' := by
  have HH := Lib.hid (And.intro (And.intro hl hg) (And.intro hc (And.intro hB hV)))
  have HN := Lib.hid hn
  clear hl hg hn hc hB hV
  go_enter Try.func7, Try.ntmps7
  go_wp2_with fail
  generalize hW : World.alloc _ _ = W1
  have O := Lib.hid (show Own w W1 by rw [← hW]; exact below_al (Own.refl _) _)
  clear hW
  obtain ⟨⟨h1, h2⟩, h3, h4, h5⟩ := HH.out
  refine (localB _ _ _ U g n cap W1 (Nat.lt_of_lt_of_le h1 O.out.size) (Nat.lt_of_lt_of_le h2 O.out.size) HN.out (O.out.cell h1 h3) (fun i hi => ?_) (h5.keep O.out)).mono ?_
  · have x := h4 i hi
    exact ⟨x.f0.keep O.out, x.f2.keep O.out, x.v1.keep O.out, x.f4.keep O.out, x.fn.imp (fun y => O.out.cell h2 y) (fun ⟨F, y, z⟩ => ⟨F, O.out.cell h2 y, z.keep O.out⟩)⟩
  rintro e w2 ⟨rfl, hs⟩
  have S2 := Lib.hid (O.out.go hs)
  clear hs h1 h2 h3 h4 h5 HH HN
  go_wp2
  go_end0
  exact ⟨rfl, S2.out⟩
end Go.Proofs.Ytnmceagiofjdnaa
