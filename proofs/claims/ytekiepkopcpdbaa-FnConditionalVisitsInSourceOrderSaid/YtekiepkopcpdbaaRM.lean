/- Base.Binary, Base.Assert, Base.Conditional under the recording pass; the comparison of two logs. -/
import Derived.Test.YtekiepkopcpdbaaRec
namespace Go.Proofs.Ytekiepkopcpdbaa
open Go.RowKit
theorem nilr_Visit (a : Addr) (w : World) : (nilAhead 354 44 (.pointer (some a)) "Visit").run Try.prog w = .ok (some false) w := by kernel_rfl
theorem nilr_Fodder (a : Addr) (w : World) : (nilAhead 354 44 (.pointer (some a)) "Fodder").run Try.prog w = .ok (some false) w := by kernel_rfl
theorem mr_Visit (a : Addr) (w : World) : (method 354 44 (.pointer (some a)) "Visit").run Try.prog w = .ok (72, .pointer (some a)) w := by kernel_rfl
theorem mr_Fodder (a : Addr) (w : World) : (method 354 44 (.pointer (some a)) "Fodder").run Try.prog w = .ok (52, .pointer (some a)) w := by kernel_rfl
set_option maxRecDepth 100000 in
set_option maxHeartbeats 4000000 in
theorem binaryR {w0 : World} {B U G H : Nat} {cu : Array Value} (C : Ctx w0 B U 74 G H cu [1, 0] [2, 3]) (h : RecSt w0 w0 B (slv G 2) (slv H 2) []) (b ctx : Value) :
    Calls Try.prog 21 #[b, .iface 44 (.pointer (some ⟨B, 0, none⟩)), .pointer (some ⟨U, 0, none⟩), ctx] w0 fun e w' => e = .returned (.tuple #[]) ∧ RecSt w0 w' B (slv G 2) (slv H 2) [0, 10, 1] := by
  have S0 := Lib.hid h
  have HC := Lib.hid C
  clear h C
  have n1 := nilr_Visit ⟨B, 0, none⟩
  have m1 := mr_Visit ⟨B, 0, none⟩
  have n2 := nilr_Fodder ⟨B, 0, none⟩
  have m2 := mr_Fodder ⟨B, 0, none⟩
  go_enter Try.func21, Try.ntmps21
  go_wp2_with fail
  go_region_with (first | (go_at_call 72; refine (rec_visit HC.out S0.out.drew (by simp) _ _ 0 1 (by omega) rfl (by decide)).mono ?_; rintro e w1 ⟨rfl, hs⟩))
  have S1 := Lib.hid hs
  clear hs S0
  go_wp2_with fail
  go_region_with (first | (go_at_call 52; refine (rec_fodder HC.out S1.out.drew (by simp) _ _ 0 2 (by omega) rfl (by decide)).mono ?_; rintro e w2 ⟨rfl, hs⟩))
  have S2 := Lib.hid hs
  clear hs S1
  go_wp2_with fail
  go_region_with (first | (go_at_call 72; refine (rec_visit HC.out S2.out.drew (by simp) _ _ 1 0 (by omega) rfl (by decide)).mono ?_; rintro e w3 ⟨rfl, hs⟩))
  have S3 := Lib.hid hs
  clear hs S2
  go_wp2
  go_end0
  exact ⟨rfl, by simpa using S3.out⟩
set_option maxRecDepth 100000 in
set_option maxHeartbeats 4000000 in
theorem assertR0 {w0 : World} {B U G H : Nat} {cu : Array Value} (C : Ctx w0 B U 42 G H cu [0, 1, 2] [3, 4, 5]) (h : RecSt w0 w0 B (slv G 3) (slv H 3) []) (g : cu[1]? = some .nilIface) (b ctx : Value) :
    Calls Try.prog 13 #[b, .iface 44 (.pointer (some ⟨B, 0, none⟩)), .pointer (some ⟨U, 0, none⟩), ctx] w0 fun e w' => e = .returned (.tuple #[]) ∧ RecSt w0 w' B (slv G 3) (slv H 3) [0, 11, 2] := by
  have S0 := Lib.hid h
  have HC := Lib.hid C
  clear h C
  have n1 := nilr_Visit ⟨B, 0, none⟩
  have m1 := mr_Visit ⟨B, 0, none⟩
  have n2 := nilr_Fodder ⟨B, 0, none⟩
  have m2 := mr_Fodder ⟨B, 0, none⟩
  have HG := Lib.hid g
  clear g
  have c0 := cell_of (S0.out.at HC.out.u HC.out.uB) HG.out
  go_enter Try.func13, Try.ntmps13
  go_wp2_with fail
  go_region_with (first | (go_at_call 72; refine (rec_visit HC.out S0.out.drew (by simp) _ _ 0 0 (by omega) rfl (by decide)).mono ?_; rintro e w1 ⟨rfl, hs⟩))
  have S1 := Lib.hid hs
  clear hs S0
  clear c0
  have c0 := cell_of (S1.out.at HC.out.u HC.out.uB) HG.out
  go_wp2_with fail
  go_region_with (first | (go_at_call 52; refine (rec_fodder HC.out S1.out.drew (by simp) _ _ 1 4 (by omega) rfl (by decide)).mono ?_; rintro e w2 ⟨rfl, hs⟩))
  have S2 := Lib.hid hs
  clear hs S1
  clear c0
  have c0 := cell_of (S2.out.at HC.out.u HC.out.uB) HG.out
  go_wp2_with fail
  go_region_with (first | (go_at_call 72; refine (rec_visit HC.out S2.out.drew (by simp) _ _ 2 2 (by omega) rfl (by decide)).mono ?_; rintro e w3 ⟨rfl, hs⟩))
  have S3 := Lib.hid hs
  clear hs S2
  clear c0
  have c0 := cell_of (S3.out.at HC.out.u HC.out.uB) HG.out
  go_wp2
  go_end0
  exact ⟨rfl, by simpa using S3.out⟩
set_option maxRecDepth 100000 in
set_option maxHeartbeats 4000000 in
theorem assertR1 {w0 : World} {B U G H : Nat} {cu : Array Value} (C : Ctx w0 B U 42 G H cu [0, 1, 2] [3, 4, 5]) (h : RecSt w0 w0 B (slv G 3) (slv H 3) []) (tg : Nat) (vg : Value) (g : cu[1]? = some (.iface tg vg)) (b ctx : Value) :
    Calls Try.prog 13 #[b, .iface 44 (.pointer (some ⟨B, 0, none⟩)), .pointer (some ⟨U, 0, none⟩), ctx] w0 fun e w' => e = .returned (.tuple #[]) ∧ RecSt w0 w' B (slv G 3) (slv H 3) [0, 10, 1, 11, 2] := by
  have S0 := Lib.hid h
  have HC := Lib.hid C
  clear h C
  have n1 := nilr_Visit ⟨B, 0, none⟩
  have m1 := mr_Visit ⟨B, 0, none⟩
  have n2 := nilr_Fodder ⟨B, 0, none⟩
  have m2 := mr_Fodder ⟨B, 0, none⟩
  have HG := Lib.hid g
  clear g
  have c0 := cell_of (S0.out.at HC.out.u HC.out.uB) HG.out
  go_enter Try.func13, Try.ntmps13
  go_wp2_with fail
  go_region_with (first | (go_at_call 72; refine (rec_visit HC.out S0.out.drew (by simp) _ _ 0 0 (by omega) rfl (by decide)).mono ?_; rintro e w1 ⟨rfl, hs⟩))
  have S1 := Lib.hid hs
  clear hs S0
  clear c0
  have c0 := cell_of (S1.out.at HC.out.u HC.out.uB) HG.out
  go_wp2_with fail
  go_region_with (first | (go_at_call 52; refine (rec_fodder HC.out S1.out.drew (by simp) _ _ 0 3 (by omega) rfl (by decide)).mono ?_; rintro e w2 ⟨rfl, hs⟩))
  have S2 := Lib.hid hs
  clear hs S1
  clear c0
  have c0 := cell_of (S2.out.at HC.out.u HC.out.uB) HG.out
  go_wp2_with fail
  go_region_with (first | (go_at_call 72; refine (rec_visit HC.out S2.out.drew (by simp) _ _ 1 1 (by omega) rfl (by decide)).mono ?_; rintro e w3 ⟨rfl, hs⟩))
  have S3 := Lib.hid hs
  clear hs S2
  clear c0
  have c0 := cell_of (S3.out.at HC.out.u HC.out.uB) HG.out
  go_wp2_with fail
  go_region_with (first | (go_at_call 52; refine (rec_fodder HC.out S3.out.drew (by simp) _ _ 1 4 (by omega) rfl (by decide)).mono ?_; rintro e w4 ⟨rfl, hs⟩))
  have S4 := Lib.hid hs
  clear hs S3
  clear c0
  have c0 := cell_of (S4.out.at HC.out.u HC.out.uB) HG.out
  go_wp2_with fail
  go_region_with (first | (go_at_call 72; refine (rec_visit HC.out S4.out.drew (by simp) _ _ 2 2 (by omega) rfl (by decide)).mono ?_; rintro e w5 ⟨rfl, hs⟩))
  have S5 := Lib.hid hs
  clear hs S4
  clear c0
  have c0 := cell_of (S5.out.at HC.out.u HC.out.uB) HG.out
  go_wp2
  go_end0
  exact ⟨rfl, by simpa using S5.out⟩
set_option maxRecDepth 100000 in
set_option maxHeartbeats 4000000 in
theorem conditionalR0 {w0 : World} {B U G H : Nat} {cu : Array Value} (C : Ctx w0 B U 63 G H cu [0, 1, 2] [3, 4, 5]) (h : RecSt w0 w0 B (slv G 3) (slv H 3) []) (g : cu[2]? = some .nilIface) (b ctx : Value) :
    Calls Try.prog 17 #[b, .iface 44 (.pointer (some ⟨B, 0, none⟩)), .pointer (some ⟨U, 0, none⟩), ctx] w0 fun e w' => e = .returned (.tuple #[]) ∧ RecSt w0 w' B (slv G 3) (slv H 3) [0, 10, 1] := by
  have S0 := Lib.hid h
  have HC := Lib.hid C
  clear h C
  have n1 := nilr_Visit ⟨B, 0, none⟩
  have m1 := mr_Visit ⟨B, 0, none⟩
  have n2 := nilr_Fodder ⟨B, 0, none⟩
  have m2 := mr_Fodder ⟨B, 0, none⟩
  have HG := Lib.hid g
  clear g
  have c0 := cell_of (S0.out.at HC.out.u HC.out.uB) HG.out
  go_enter Try.func17, Try.ntmps17
  go_wp2_with fail
  go_region_with (first | (go_at_call 72; refine (rec_visit HC.out S0.out.drew (by simp) _ _ 0 0 (by omega) rfl (by decide)).mono ?_; rintro e w1 ⟨rfl, hs⟩))
  have S1 := Lib.hid hs
  clear hs S0
  clear c0
  have c0 := cell_of (S1.out.at HC.out.u HC.out.uB) HG.out
  go_wp2_with fail
  go_region_with (first | (go_at_call 52; refine (rec_fodder HC.out S1.out.drew (by simp) _ _ 0 3 (by omega) rfl (by decide)).mono ?_; rintro e w2 ⟨rfl, hs⟩))
  have S2 := Lib.hid hs
  clear hs S1
  clear c0
  have c0 := cell_of (S2.out.at HC.out.u HC.out.uB) HG.out
  go_wp2_with fail
  go_region_with (first | (go_at_call 72; refine (rec_visit HC.out S2.out.drew (by simp) _ _ 1 1 (by omega) rfl (by decide)).mono ?_; rintro e w3 ⟨rfl, hs⟩))
  have S3 := Lib.hid hs
  clear hs S2
  clear c0
  have c0 := cell_of (S3.out.at HC.out.u HC.out.uB) HG.out
  go_wp2
  go_end0
  exact ⟨rfl, by simpa using S3.out⟩
set_option maxRecDepth 100000 in
set_option maxHeartbeats 4000000 in
theorem conditionalR1 {w0 : World} {B U G H : Nat} {cu : Array Value} (C : Ctx w0 B U 63 G H cu [0, 1, 2] [3, 4, 5]) (h : RecSt w0 w0 B (slv G 3) (slv H 3) []) (tg : Nat) (vg : Value) (g : cu[2]? = some (.iface tg vg)) (b ctx : Value) :
    Calls Try.prog 17 #[b, .iface 44 (.pointer (some ⟨B, 0, none⟩)), .pointer (some ⟨U, 0, none⟩), ctx] w0 fun e w' => e = .returned (.tuple #[]) ∧ RecSt w0 w' B (slv G 3) (slv H 3) [0, 10, 1, 11, 2] := by
  have S0 := Lib.hid h
  have HC := Lib.hid C
  clear h C
  have n1 := nilr_Visit ⟨B, 0, none⟩
  have m1 := mr_Visit ⟨B, 0, none⟩
  have n2 := nilr_Fodder ⟨B, 0, none⟩
  have m2 := mr_Fodder ⟨B, 0, none⟩
  have HG := Lib.hid g
  clear g
  have c0 := cell_of (S0.out.at HC.out.u HC.out.uB) HG.out
  go_enter Try.func17, Try.ntmps17
  go_wp2_with fail
  go_region_with (first | (go_at_call 72; refine (rec_visit HC.out S0.out.drew (by simp) _ _ 0 0 (by omega) rfl (by decide)).mono ?_; rintro e w1 ⟨rfl, hs⟩))
  have S1 := Lib.hid hs
  clear hs S0
  clear c0
  have c0 := cell_of (S1.out.at HC.out.u HC.out.uB) HG.out
  go_wp2_with fail
  go_region_with (first | (go_at_call 52; refine (rec_fodder HC.out S1.out.drew (by simp) _ _ 0 3 (by omega) rfl (by decide)).mono ?_; rintro e w2 ⟨rfl, hs⟩))
  have S2 := Lib.hid hs
  clear hs S1
  clear c0
  have c0 := cell_of (S2.out.at HC.out.u HC.out.uB) HG.out
  go_wp2_with fail
  go_region_with (first | (go_at_call 72; refine (rec_visit HC.out S2.out.drew (by simp) _ _ 1 1 (by omega) rfl (by decide)).mono ?_; rintro e w3 ⟨rfl, hs⟩))
  have S3 := Lib.hid hs
  clear hs S2
  clear c0
  have c0 := cell_of (S3.out.at HC.out.u HC.out.uB) HG.out
  go_wp2_with fail
  go_region_with (first | (go_at_call 52; refine (rec_fodder HC.out S3.out.drew (by simp) _ _ 1 4 (by omega) rfl (by decide)).mono ?_; rintro e w4 ⟨rfl, hs⟩))
  have S4 := Lib.hid hs
  clear hs S3
  clear c0
  have c0 := cell_of (S4.out.at HC.out.u HC.out.uB) HG.out
  go_wp2_with fail
  go_region_with (first | (go_at_call 72; refine (rec_visit HC.out S4.out.drew (by simp) _ _ 2 2 (by omega) rfl (by decide)).mono ?_; rintro e w5 ⟨rfl, hs⟩))
  have S5 := Lib.hid hs
  clear hs S4
  clear c0
  have c0 := cell_of (S5.out.at HC.out.u HC.out.uB) HG.out
  go_wp2
  go_end0
  exact ⟨rfl, by simpa using S5.out⟩
def IntsAt (w : World) (g : Nat) (xs : List Int) : Prop := ∀ k (h : k < xs.length), w.cell? ⟨g, k, none⟩ = some (.int .i64 xs[k])
theorem eq_any (w : World) (g h n c1 c2 : Nat) (xs : List Int) (hn : xs.length = n) (hl : n ≤ 1000) (h1 : IntsAt w g xs) (h2 : IntsAt w h xs) :
    Calls Try.prog 14 #[.slice (some ⟨g, 0, none⟩) n c1, .slice (some ⟨h, 0, none⟩) n c2] w fun e w' => e = .returned (.bool true) ∧ Own w w' := by
  have H1 := Lib.hid h1
  have H2 := Lib.hid h2
  have HN := Lib.hid hn
  clear h1 h2 hn
  go_enter Try.func14, Try.ntmps14
  go_wp2_with fail
  go_loopw [5] (fun i wr => ∃ k m : Nat, k ≤ n ∧ i = .int .i64 k ∧ wr = w.drewN m) (fun i _ => n - (intOf i).toNat)
  case atStart => exact ⟨0, 0, Nat.zero_le _, rfl, rfl⟩
  case round =>
    obtain ⟨k, m, hk, rfl, rfl⟩ := hrel
    by_cases hlt : k < n
    · have e1 := H1.out k (by have := HN.out; omega)
      have e2 := H2.out k (by have := HN.out; omega)
      go_wp2_with fail
      go_quiet (fail)
      go_wp2
      go_roundw
      case rel => exact ⟨k + 1, m + nq, by omega, by go_num, rfl⟩
      case measure => first | (simp [intOf]; done) | (simp [intOf]; omega)
    · go_wp2
      go_ret
      exact ⟨rfl, below_drewN (Below.refl _ _) m⟩
theorem RecSt.ints {w0 w : World} {B : Nat} {nd fd : Value} {xs : List Int} (h : RecSt w0 w B nd fd xs) (hn : xs ≠ []) : ∃ g cap, xs.length ≤ cap ∧ g < w.heap.size ∧ w.cell? ⟨B, 2, none⟩ = some (.slice (some ⟨g, 0, none⟩) xs.length cap) ∧ IntsAt w g xs := by
  obtain ⟨v, hv, ho⟩ := h.evs
  rcases ho.2 with ⟨_, h0⟩ | ⟨g, cap, cur, rfl, _, hg, hc, _, _, ht⟩
  · exact absurd (List.length_eq_zero_iff.1 h0) hn
  · refine ⟨g, cap, hc, lt_of_at hg, cell_of hv rfl, fun k hk => ?_⟩
    have h1 : (cur.toList.take (xs.length * 1))[k]? = (Go.Proofs.Ytekiepkopcpdbaa.ints xs)[k]? := by rw [ht]
    rw [List.getElem?_take_of_lt (by omega)] at h1
    have h2 : (Go.Proofs.Ytekiepkopcpdbaa.ints xs)[k]? = some (.int .i64 xs[k]) := by simp [Go.Proofs.Ytekiepkopcpdbaa.ints, hk]
    exact cell_of hg (by rw [← Array.getElem?_toList, h1, h2])
end Go.Proofs.Ytekiepkopcpdbaa
