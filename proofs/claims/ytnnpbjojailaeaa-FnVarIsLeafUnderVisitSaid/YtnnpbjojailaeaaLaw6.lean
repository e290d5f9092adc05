/- FnVarIsLeafUnderVisit, walked. -/
import Derived.Test.YtnnpbjojailaeaaVVar
import Derived.Test.YtnnpbjojailaeaaTail
import Derived.Handy
import Derived.IntWalk
namespace Go.Proofs.Ytnnpbjojailaeaa
open Go.RowKit
theorem visit_VarE {w0 w : World} {B : Nat} {es : List Ev} (h : RecE w0 w B es) (hn : es.length ≤ 90000) (b : Value) (fa : Option Addr) (fl fc U N : Nat) (cu : Array Value)
    (hN : w.heap[N]? = some (.cells #[.iface 64 (.pointer (some ⟨U, 0, none⟩))] 32 (0, 0))) (hU : w.heap[U]? = some (.cells cu 67 (0, 0))) (hF : cu[1]? = some (.slice fa fl fc)) (hNB : N ≠ B) (hUB : U ≠ B) :
    Calls Try.prog 9 #[b, .iface 24 (.pointer (some ⟨B, 0, none⟩)), .pointer (some ⟨N, 0, none⟩), .nilIface] w fun e w' => e = .returned (.tuple #[]) ∧ ∃ f, RecE w0 w' B (es ++ [(false, none, some f)]) ∧ Kept37 B w w' := by
  refine visit_Var h hn b fa fl fc U N cu hN hU hF hNB hUB (fun w' => ∃ f, RecE w0 w' B (es ++ [(false, none, some f)]) ∧ Kept37 B w w') ?_
  intro w1 hr hk
  refine (var_any _ _ _ _ w1).mono ?_
  rintro e w' ⟨rfl, rfl⟩
  exact ⟨rfl, ⟨w.heap.size, 0, none⟩, by unfold RecE; rw [evc_snoc, List.length_append]; exact hr, hk⟩
/-- All events are fodder callbacks with a fodder. -/
def AllF (es : List Ev) : Prop := ∀ e ∈ es, e.1 = false ∧ e.2.2.isSome = true
/-- The loop's state. -/
def Loop6 (w W wr : World) (B U N n : Nat) : Prop := ∃ es, es.length = n ∧ AllF es ∧ RecE W wr B es ∧ (∃ cu, wr.heap[U]? = some (.cells cu 67 (0, 0)) ∧ cu[1]? = some (.slice none 0 0)) ∧ wr.heap[N]? = some (.cells #[.iface 64 (.pointer (some ⟨U, 0, none⟩))] 32 (0, 0)) ∧ Below w.heap.size w W
theorem Loop6.drew {w W wr : World} {B U N n : Nat} (h : Loop6 w W wr B U N n) : Loop6 w W wr.drew B U N n := by
  obtain ⟨es, h1, h2, h3, h4⟩ := h
  exact ⟨es, h1, h2, h3.drew, h4⟩
theorem Loop6.step {w W wr : World} {B U N n : Nat} (h : Loop6 w W wr B U N n) (hn : n ≤ 90000) (hNB : N ≠ B) (hUB : U ≠ B) (b : Value) :
    Calls Try.prog 9 #[b, .iface 24 (.pointer (some ⟨B, 0, none⟩)), .pointer (some ⟨N, 0, none⟩), .nilIface] wr fun e w' => e = .returned (.tuple #[]) ∧ Loop6 w W w' B U N (n + 1) := by
  obtain ⟨es, rfl, ha, hr, ⟨cu, hU, hF⟩, hN, hb⟩ := h
  refine (visit_VarE hr hn b none 0 0 U N cu hN hU hF hNB hUB).mono ?_
  rintro e w' ⟨rfl, f, hr', hk⟩
  refine ⟨rfl, _, by simp, ?_, hr', ⟨cu, hk.2 _ _ _ _ hU hUB (by decide), hF⟩, hk.2 _ _ _ _ hN hNB (by decide), hb⟩
  intro e he
  rcases List.mem_append.1 he with h | h
  · exact ha e h
  · simp at h; subst h; simp
/-- What the last loop reads. -/
def Read6 (w : World) (B n : Nat) (ao : Option Addr) (cap : Nat) : Prop := w.cell? ⟨B, 0, none⟩ = some (.slice ao n cap) ∧ n ≤ cap ∧ ∀ j, j < n → ∃ g f, ao = some ⟨g, 0, none⟩ ∧ w.cell? ⟨g, j * 3, none⟩ = some (.bool false) ∧ w.cell? ⟨g, j * 3 + 2, none⟩ = some (.pointer (some f))
theorem read6 {W wr : World} {B : Nat} {es : List Ev} (h : RecE W wr B es) (ha : AllF es) : ∃ ao cap, Read6 wr B es.length ao cap := by
  by_cases hpos : 0 < es.length
  · obtain ⟨g, cap, hcap, hv, hc⟩ := h.held hpos
    refine ⟨some ⟨g, 0, none⟩, cap, by simp [World.cell?, hv], hcap, fun j hj => ?_⟩
    have e := evc_get es j hj
    obtain ⟨a1, a2⟩ := ha es[j] (List.getElem_mem hj)
    obtain ⟨f, hf⟩ := Option.isSome_iff_exists.1 a2
    refine ⟨g, f, rfl, (hc _ (by omega)).trans (by rw [e.1, a1]), (hc _ (by omega)).trans (by rw [e.2.2, hf])⟩
  · obtain ⟨v, hv, ho⟩ := RecSt.evs h
    have hz : es.length = 0 := by omega
    rw [hz] at ho ⊢
    rcases ho.2 with ⟨rfl, _⟩ | ⟨g, cap, cur, rfl, _, _, hc, _⟩
    · exact ⟨none, 0, by simp [World.cell?, hv], Nat.le_refl _, fun j hj => by omega⟩
    · exact ⟨some ⟨g, 0, none⟩, cap, by simp [World.cell?, hv], hc, fun j hj => by omega⟩
set_option maxRecDepth 100000 in
set_option maxHeartbeats 8000000 in
theorem law6 (k : Int) (hk : -9223372036854775808 ≤ k) (hk' : k ≤ 9223372036854775807) (w : World) : Calls Try.prog 6 #[.int .i64 k] w fun e w' => e = .returned (.bool true) ∧ Below w.heap.size w w' := by
  by_cases h0 : k < 0
  · go_enter Try.func6, Try.ntmps6
    go_wp2
    go_ret
    exact ⟨rfl, Below.refl _ _⟩
  by_cases h1 : 4096 < k
  · have : ¬ k < 0 := h0
    go_enter Try.func6, Try.ntmps6
    go_wp2
    go_ret
    exact ⟨rfl, Below.refl _ _⟩
  obtain ⟨m, rfl⟩ : ∃ m : Nat, k = (m : Int) := ⟨k.toNat, by omega⟩
  have hm : m ≤ 4096 := by omega
  clear hk hk' h0 h1
  go_enter Try.func6, Try.ntmps6
  go_wp2
  generalize hW : World.alloc _ _ = W1
  have L0 : Hid (Loop6 w W1 W1 (w.heap.size + 1 + 1) w.heap.size (w.heap.size + 1) 0) := by
    rw [← hW]
    exact ⟨[], rfl, fun e he => by simp at he, recE_of (by repeat (first | exact at_new (by simp) | refine at_old ?_)), ⟨_, by repeat (first | exact at_new (by simp) | refine at_old ?_), rfl⟩, by repeat (first | exact at_new (by simp) | refine at_old ?_), by repeat (first | exact Below.refl _ _ | refine below_al ?_ _)⟩
  clear hW
  go_loopw [6, 7] (fun v i wr => ∃ k c : Nat, k ≤ m ∧ c ≤ k ∧ v = .int .i64 c ∧ i = .int .i64 k ∧ Loop6 w W1 wr (w.heap.size + 1 + 1) w.heap.size (w.heap.size + 1) c) (fun _ i _ => m - (intOf i).toNat)
  case atStart => exact ⟨0, 0, by omega, by omega, rfl, rfl, L0.out⟩
  case round =>
    obtain ⟨k, c, hkm, hck, rfl, rfl, hl⟩ := hrel
    have HL := Lib.hid hl
    have hp : (partAt ⟨w.heap.size + 1 + 1, 0, none⟩ 0 0).run Try.prog wr = .ok ⟨w.heap.size + 1 + 1, 0, none⟩ wr := by
      obtain ⟨es, h1, h2, h3, h4⟩ := hl
      obtain ⟨v, hv, _⟩ := RecSt.evs h3
      exact part_of hv
    clear hl L0
    by_cases hlt : k < m
    · by_cases he : k % 2 = 0
      · have hb : ((k : Int) % 2 == 0) = true := by simp; omega
        go_wp2_with (first | (go_at_call 15; refine (var_any _ _ _ _ _).mono ?_; rintro e w' ⟨rfl, rfl⟩))
        go_roundw
        case rel => exact ⟨k + 1, c, by omega, by omega, rfl, by go_num, HL.out⟩
        case measure => first | (simp [intOf]; done) | (simp [intOf]; omega)
      · have hb : ((k : Int) % 2 == 0) = false := by simp; omega
        go_wp2_with (first | (go_at_call 9; refine (HL.out.step (by omega) (by omega) (by omega) _).mono ?_; rintro e w' ⟨rfl, hl'⟩; have HL' := Lib.hid hl'; clear hl'))
        go_roundw
        case rel => exact ⟨k + 1, c + 1, by omega, by omega, by go_num, by go_num, HL'.out⟩
        case measure => first | (simp [intOf]; done) | (simp [intOf]; omega)
    · have : k = m := by omega
      subst this
      obtain ⟨es, rfl, ha, hr, -, -, hb⟩ := HL.out
      have BW := Lib.hid (hr.below hb (by omega))
      obtain ⟨ao, cap, c1, hcap, hc⟩ := read6 hr ha
      have HC := Lib.hid hc
      generalize es.length = n at *
      clear HL hp ha hb hr hc
      go_wp2
      go_loop [8] (fun i => ∃ j : Nat, j ≤ n ∧ i = .int .i64 j) (fun i => n - (intOf i).toNat)
      case atStart => exact ⟨0, Nat.zero_le _, rfl⟩
      case round =>
        obtain ⟨j, hj, rfl⟩ := hrel
        by_cases hlt : j < n
        · obtain ⟨g, f, rfl, k1, k2⟩ := HC.out j hlt
          go_wp2
          go_round
          case rel => exact ⟨j + 1, by omega, by go_num⟩
          case measure => first | (simp [intOf]; done) | (simp [intOf]; omega)
        · go_wp2
          go_ret
          exact ⟨rfl, BW.out⟩
end Go.Proofs.Ytnnpbjojailaeaa
