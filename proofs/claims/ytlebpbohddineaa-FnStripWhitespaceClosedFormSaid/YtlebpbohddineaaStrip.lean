/- stripWhitespace: what it hands back, over the runes of its argument. -/
import Derived.Test.YtlebpbohddineaaWalks
namespace Go.Proofs.Ytlebpbohddineaa
open Go.RowKit

theorem conv_runes (w : World) (s : ByteArray) (hs : s.size ≤ 4194304) : ∃ (W1 : World) (cap : Nat), (convert 9 31 (.string s)).run Try.prog w = .ok (.slice (some ⟨w.heap.size, 0, none⟩) (runesOf s).length cap) W1 ∧ (runesOf s).length ≤ cap ∧
    (∀ j, (h : j < (runesOf s).length) → W1.cell? ⟨w.heap.size, j, none⟩ = some (.int .i32 (runesOf s)[j])) ∧ Below w.heap.size w W1 := by
  have hl := runesOf_length s
  have hsz : (Conv.runesFrom s s.size 0 #[]).size = (runesOf s).length := by rw [runesFrom_of]; simp
  have hrun := run_runes_of_string (P := Try.prog) w 9 31 21 s Try.underlying9 Try.underlying31 Try.underlying21 (by omega)
  rw [hsz] at hrun
  refine ⟨_, _, hrun, ?_, fun j h => ?_, ?_⟩
  · have := grownCap_ge w (runesOf s).length 0 21
    omega
  · refine (World.cell?_alloc_mark w.drew _ 21 _ j).trans ?_
    rw [runesFrom_of, Array.getElem?_append_left (by simpa using h)]
    simp [h]
  · exact ((Below.refl _ _).drew).alloc (Nat.le_refl _) _
theorem conv_piece (w W1 : World) (rs : List Int) (i j c : Nat) (hij : i ≤ j) (hj : j ≤ rs.length) (hc : ∀ j, (h : j < rs.length) → W1.cell? ⟨w.heap.size, j, none⟩ = some (.int .i32 rs[j])) :
    (convert 31 9 (.slice (some ⟨w.heap.size, i, none⟩) (j - i) c)).run Try.prog W1 = .ok (.string (runesBytes ((rs.drop i).take (j - i)))) W1 := by
  refine run_convert_runes (P := Try.prog) W1 31 9 21 ⟨w.heap.size, i, none⟩ (j - i) c (rs.drop i) (by rw [List.length_drop]; omega) Try.underlying31 Try.underlying21 Try.underlying9 (fun k hk => ?_)
  have hadd : (⟨w.heap.size, i, none⟩ : Addr).add k = ⟨w.heap.size, i + k, none⟩ := by
    unfold Addr.add
    split
    · rename_i h; subst h; rfl
    · simp
  rw [List.length_drop] at hk
  rw [hadd, hc (i + k) (by omega)]
  simp [List.getElem?_eq_getElem (show i + k < rs.length by omega)]
theorem conv_none (W1 : World) (A : Option Addr) (c : Nat) : (convert 31 9 (.slice A 0 c)).run Try.prog W1 = .ok (.string (runesBytes [])) W1 := by
  cases A with
  | none => exact run_convert_runes_nil (P := Try.prog) W1 31 9 21 0 c Try.underlying31 Try.underlying21 Try.underlying9
  | some a => exact run_convert_runes (P := Try.prog) W1 31 9 21 a 0 c [] (Nat.le_refl _) Try.underlying31 Try.underlying21 Try.underlying9 (fun k hk => absurd hk (by simp))
theorem empty_eq (m : Int) (s : ByteArray) (h : s.size = 0) : s = runesBytes (stripR (runesOf s) m) := by
  have hl := runesOf_length s
  have hr : runesOf s = [] := List.eq_nil_of_length_eq_zero (by omega)
  rw [hr]
  obtain ⟨⟨l⟩⟩ := s
  have : l = [] := List.eq_nil_of_length_eq_zero h
  subst this
  rfl
set_option maxHeartbeats 1000000 in
theorem strip_any (s : ByteArray) (m : Int) (w : World) (hs : s.size ≤ 4194304) (hm0 : -9223372036854775808 ≤ m) (hm1 : m ≤ 9223372036854775807) :
    Calls Try.prog 18 #[.string s, .int .i64 m] w fun e w' => e = .returned (.string (runesBytes (stripR (runesOf s) m))) ∧ Below w.heap.size w w' := by
  obtain ⟨W1, cap, hrun, hcap, hcell, hbel⟩ := conv_runes w s hs
  have hl := runesOf_length s
  obtain ⟨rs, hrs⟩ : ∃ rs, runesOf s = rs := ⟨_, rfl⟩
  have HE : Hid (s.size = 0 → s = runesBytes (stripR rs m)) := by rw [← hrs]; exact empty_eq m s
  rw [hrs] at hrun hcap hcell hl ⊢
  clear hrs
  obtain ⟨n, hn⟩ : ∃ n, rs.length = n := ⟨_, rfl⟩
  have HN := Lib.hid hn
  rw [hn] at hrun hcap hl
  have HB := Lib.hid hbel
  have HC := Lib.hid hcell
  clear hcell hbel hn
  by_cases h0 : s.size = 0
  · have h0b : ((s.size : Int) == 0) = true := by simp [h0]
    have h1 := HE.out h0
    have H1 := Lib.hid h1
    clear h0 h1
    go_enter Try.func18, Try.ntmps18
    go_wp2
    go_ret
    exact ⟨ret_str H1.out, HB.out⟩
  · have h0b : ((s.size : Int) == 0) = false := by simpa using h0
    clear h0
    go_enter Try.func18, Try.ntmps18
    go_wp2
    go_loop [6] (fun i => ∃ k : Nat, k ≤ n ∧ i = .int .i64 k ∧ ((k : Int) ≤ m ∨ k = 0) ∧ Hid (∀ t, t < k → (h : t < rs.length) → hw rs[t] = true)) (fun i => n - (intOf i).toNat)
    case atStart => exact ⟨0, Nat.zero_le _, rfl, .inr rfl, fun t h => absurd h (by omega)⟩
    case round =>
      obtain ⟨k, hk, rfl, hkm, hall⟩ := hrel
      by_cases hgo : ∃ h : k < rs.length, hw rs[k] = true ∧ (k : Int) < m
      · obtain ⟨hlt, hwk, hkm2⟩ := hgo
        have hltn : k < n := by rw [← HN.out]; exact hlt
        have hck := HC.out k hlt
        clear hkm
        go_wp2_with (go_at_call 16; refine (hw_any _ _).mono ?_; rintro e w' ⟨rfl, rfl⟩)
        go_round
        case rel => exact ⟨k + 1, by omega, by go_num, .inl (by omega), fun t ht h => by
          by_cases e : t = k
          · subst e; exact hwk
          · exact hall t (by omega) h⟩
        case measure => simp [intOf]; omega
      · have HL : Hid (lo hw rs m = k) := by
          refine lo_eq hw rs m k (by rw [HN.out]; exact hk) hall.out hkm ?_
          by_cases hlt : k < rs.length
          · by_cases hwk : hw rs[k] = true
            · exact .inr (.inr (Int.not_lt.1 fun h => hgo ⟨hlt, hwk, h⟩))
            · exact .inr (.inl ⟨hlt, by simpa using hwk⟩)
          · exact .inl (by have := HN.out; omega)
        have hways : (k < n ∧ hw (rs.getD k 0) = true ∧ ¬ (k : Int) < m) ∨ (k < n ∧ hw (rs.getD k 0) = false) ∨ ¬ k < n := by
          by_cases hlt : k < n
          · have hlt' : k < rs.length := by rw [HN.out]; exact hlt
            have hg : rs.getD k 0 = rs[k] := by simp [hlt']
            rw [hg]
            by_cases hwk : hw rs[k] = true
            · exact .inl ⟨hlt, hwk, fun h => hgo ⟨hlt', hwk, h⟩⟩
            · exact .inr (.inl ⟨hlt, by simpa using hwk⟩)
          · exact .inr (.inr hlt)
        have HA := Lib.hid hall.out
        clear hgo hkm hall
        have hck : k < n → W1.cell? ⟨w.heap.size, k, none⟩ = some (.int .i32 (rs.getD k 0)) := fun hlt => by
          have hlt' : k < rs.length := by rw [HN.out]; exact hlt
          rw [HC.out k hlt']
          simp [hlt']
        obtain ⟨r, hr⟩ : ∃ r, rs.getD k 0 = r := ⟨_, rfl⟩
        rw [hr] at hways hck
        clear hr
        rcases hways with ⟨c1, c2, c3⟩ | ⟨c1, c2⟩ | c1
        all_goals
          first | (have hck := hck c1) | skip
          go_wp2_with (go_at_call 16; refine (hw_any _ _).mono ?_; rintro e w' ⟨rfl, rfl⟩)
          go_loop [7] (fun j => ∃ q : Nat, k ≤ q ∧ q ≤ n ∧ j = .int .i64 q ∧ Hid (∀ t, q ≤ t → (h : t < rs.length) → hw rs[t] = true)) (fun j => (intOf j).toNat)
          case atStart => exact ⟨n, hk, Nat.le_refl _, rfl, fun t ht h => absurd h (by have := HN.out; omega)⟩
          case round =>
            obtain ⟨q, hq1, hq2, rfl, hall⟩ := hrel
            have hfin : (q = k ∨ ∃ h : q - 1 < rs.length, hw rs[q - 1] = false) → Hid (runesBytes ((rs.drop k).take (q - k)) = runesBytes (stripR rs m)) := fun hend => by
              show _ = _
              unfold stripR
              rw [HL.out, trim_piece hw rs k q hq1 (by rw [HN.out]; exact hq2) hall.out hend]
            have hcv : ∀ c, (convert 31 9 (.slice (some ⟨w.heap.size, k, none⟩) (q - k) c)).run Try.prog W1 = .ok (.string (runesBytes ((rs.drop k).take (q - k)))) W1 := fun c => conv_piece w W1 rs k q c hq1 (by rw [HN.out]; exact hq2) HC.out
            by_cases hgt : k < q
            · first
              | (exfalso; omega)
              | (have hlt' : q - 1 < rs.length := by rw [HN.out]; omega
                 have hcq := HC.out (q - 1) hlt'
                 by_cases hwq : hw rs[q - 1] = true
                 · clear hcv hfin
                   have hcq' : W1.cell? ⟨w.heap.size, q - 1, none⟩ = some (.int .i32 rs[q - 1]) := hcq
                   obtain ⟨x, hx⟩ : ∃ x, rs[q - 1] = x := ⟨_, rfl⟩
                   have HX := Lib.hid hx
                   rw [hx] at hcq' hwq
                   clear hcq hx
                   go_wp2_with (go_at_call 16; refine (hw_any _ _).mono ?_; rintro e w' ⟨rfl, rfl⟩)
                   go_round
                   case rel => exact ⟨q - 1, by omega, by omega, by go_num, fun t ht h => by
                     by_cases e : t = q - 1
                     · subst e; rw [HX.out]; exact hwq
                     · exact hall t (by omega) h⟩
                   case measure => simp [intOf]; omega
                 · have hwq : hw rs[q - 1] = false := by simpa using hwq
                   have HF := hfin (.inr ⟨hlt', hwq⟩)
                   have hcq' : W1.cell? ⟨w.heap.size, q - 1, none⟩ = some (.int .i32 rs[q - 1]) := hcq
                   obtain ⟨x, hx⟩ : ∃ x, rs[q - 1] = x := ⟨_, rfl⟩
                   rw [hx] at hcq' hwq
                   clear hcq hx hfin
                   have hck2 : ¬ cap = k := by omega
                   go_wp2_with (go_at_call 16; refine (hw_any _ _).mono ?_; rintro e w' ⟨rfl, rfl⟩)
                   go_ret
                   exact ⟨ret_str HF.out, HB.out⟩)
            · obtain rfl : q = k := by omega
              have HF : Hid (runesBytes [] = runesBytes (stripR rs m)) := by
                have h := (hfin (.inl rfl)).out
                rw [Nat.sub_self, List.take_zero] at h
                exact h
              clear hfin hcv
              have hcn := fun A c => conv_none W1 A c
              by_cases hck2 : cap = q
              · go_wp2
                go_ret
                exact ⟨ret_str HF.out, HB.out⟩
              · go_wp2
                go_ret
                exact ⟨ret_str HF.out, HB.out⟩
end Go.Proofs.Ytlebpbohddineaa
