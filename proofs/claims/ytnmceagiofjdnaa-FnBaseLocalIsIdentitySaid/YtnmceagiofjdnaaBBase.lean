/- pass.Base as its own pass: its leaves. -/
import Derived.Test.YtnmceagiofjdnaaProg
import Derived.WalkKit
import Derived.WalkLawsBesides
import Derived.WalkSpells
import Derived.Lib.Hide
import Derived.OwnWalk
import Derived.Outline
import Derived.StillTailTactics
import Derived.Deep.RegionWith
import Derived.Deep.QuietTactic
import Derived.BigQuiet
import Derived.Handy
namespace Go.Proofs.Ytnmceagiofjdnaa
open Go.RowKit
theorem nil_FodderElement (a : Addr) (w : World) : (nilAhead 356 68 (.pointer (some a)) "FodderElement").run Try.prog w = .ok (some false) w := by kernel_rfl
theorem m_FodderElement (a : Addr) (w : World) : (method 356 68 (.pointer (some a)) "FodderElement").run Try.prog w = .ok (63, .pointer (some a)) w := by kernel_rfl
theorem nil_Fodder (a : Addr) (w : World) : (nilAhead 356 68 (.pointer (some a)) "Fodder").run Try.prog w = .ok (some false) w := by kernel_rfl
theorem m_Fodder (a : Addr) (w : World) : (method 356 68 (.pointer (some a)) "Fodder").run Try.prog w = .ok (43, .pointer (some a)) w := by kernel_rfl
theorem nil_Visit (a : Addr) (w : World) : (nilAhead 356 68 (.pointer (some a)) "Visit").run Try.prog w = .ok (some false) w := by kernel_rfl
theorem m_Visit (a : Addr) (w : World) : (method 356 68 (.pointer (some a)) "Visit").run Try.prog w = .ok (45, .pointer (some a)) w := by kernel_rfl
theorem nil_Parameters (a : Addr) (w : World) : (nilAhead 356 68 (.pointer (some a)) "Parameters").run Try.prog w = .ok (some false) w := by kernel_rfl
theorem m_Parameters (a : Addr) (w : World) : (method 356 68 (.pointer (some a)) "Parameters").run Try.prog w = .ok (44, .pointer (some a)) w := by kernel_rfl
theorem nil_LiteralNull (a : Addr) (w : World) : (nilAhead 356 68 (.pointer (some a)) "LiteralNull").run Try.prog w = .ok (some false) w := by kernel_rfl
theorem m_LiteralNull (a : Addr) (w : World) : (method 356 68 (.pointer (some a)) "LiteralNull").run Try.prog w = .ok (72, .pointer (some a)) w := by kernel_rfl
theorem nil_LiteralNumber (a : Addr) (w : World) : (nilAhead 356 68 (.pointer (some a)) "LiteralNumber").run Try.prog w = .ok (some false) w := by kernel_rfl
theorem m_LiteralNumber (a : Addr) (w : World) : (method 356 68 (.pointer (some a)) "LiteralNumber").run Try.prog w = .ok (73, .pointer (some a)) w := by kernel_rfl
theorem nil_LiteralString (a : Addr) (w : World) : (nilAhead 356 68 (.pointer (some a)) "LiteralString").run Try.prog w = .ok (some false) w := by kernel_rfl
theorem m_LiteralString (a : Addr) (w : World) : (method 356 68 (.pointer (some a)) "LiteralString").run Try.prog w = .ok (74, .pointer (some a)) w := by kernel_rfl
theorem heap_alloc_new (w : World) (o : Obj) : (w.alloc o).heap[w.heap.size]? = some o := by
  show (w.heap.push o)[w.heap.size]? = _
  simp
theorem at_new {W : World} {o : Obj} {k : Nat} (h : k = W.heap.size) : (W.alloc o).heap[k]? = some o := by subst h; exact heap_alloc_new W o
theorem at_old {W : World} {o x : Obj} {k : Nat} (h : W.heap[k]? = some x) : (W.alloc o).heap[k]? = some x := (Below.heap_alloc W o k (Array.getElem?_eq_some_iff.1 h).1).trans h
theorem below_al {a w : World} (h : Below a.heap.size a w) (o : Obj) : Below a.heap.size a (w.alloc o) := h.alloc h.size o
theorem below_drewN {B : Nat} {a w : World} (h : Below B a w) (n : Nat) : Below B a (w.drewN n) := ⟨h.os, h.tape, h.output, h.size, h.block⟩
theorem below_drew {B : Nat} {a w : World} (h : Below B a w) : Below B a w.drew := ⟨h.os, h.tape, h.output, h.size, h.block⟩
theorem setCell_same {w : World} {g i : Nat} {v : Value} (h : w.cell? ⟨g, i, none⟩ = some v) : w.setCell ⟨g, i, none⟩ v = w := by
  have hh : w.heap.modify g (fun o => match o with | .cells c elem fr => .cells (if (none : Option Nat).isSome then c else c.setIfInBounds i v) elem fr | x => x) = w.heap := by
    apply Array.ext
    · simp
    · intro k h1 h2
      rw [Array.getElem_modify]
      split
      · rename_i e
        subst e
        have hk : w.heap[g]? = some w.heap[g] := Array.getElem?_eq_getElem h2
        unfold World.cell? at h
        rw [hk] at h
        cases ho : w.heap[g] with
        | cells c elem fr =>
          rw [ho] at h
          simp at h
          simp only [Option.isSome_none, Bool.false_eq_true, if_false]
          congr 1
          apply Array.ext
          · simp
          · intro m h3 h4
            rw [Array.getElem_setIfInBounds]
            split
            · rename_i e
              subst e
              obtain ⟨_, he⟩ := Array.getElem?_eq_some_iff.1 h
              exact he.symm
            · rfl
        | _ => rfl
      · rfl
  exact congrArg (fun h => { w with heap := h }) hh
theorem open_any (S o : Nat) (w : World) : Calls Try.prog 36 #[.pointer (some ⟨S, o, none⟩)] w fun e w' => e = .returned (.pointer (some ⟨S, o, none⟩)) ∧ w = w' := by
  go_enter Try.func36, Try.ntmps36
  go_wp2
  go_ret
  exact ⟨rfl, rfl⟩
theorem fe_any (b p x ctx : Value) (w : World) : Calls Try.prog 63 #[b, p, x, ctx] w fun e w' => e = .returned (.tuple #[]) ∧ w = w' := by
  go_enter Try.func63, Try.ntmps63
  go_wp2
  go_end0
  exact ⟨rfl, rfl⟩
theorem fod_zero (b p ctx : Value) (F o : Nat) (fa : Option Addr) (cap : Nat) (w : World) (hF : w.cell? ⟨F, o, none⟩ = some (.slice fa 0 cap)) :
    Calls Try.prog 43 #[b, p, .pointer (some ⟨F, o, none⟩), ctx] w fun e w' => e = .returned (.tuple #[]) ∧ ∃ m, w' = w.drewN m := by
  go_enter Try.func43, Try.ntmps43
  go_wp2
  go_loopw [13] (fun i wr => i = .int .i64 0 ∧ wr = w) (fun _ _ => 0)
  case atStart => exact ⟨rfl, rfl⟩
  case round =>
    obtain ⟨rfl, rfl⟩ := hrel
    go_wp2
    go_end0
    exact ⟨rfl, 0, rfl⟩
set_option maxRecDepth 100000 in
theorem fod_some (b ctx : Value) (B : Addr) (F o g go n cap : Nat) (w : World) (hn : n ≤ 100000) (hF : w.cell? ⟨F, o, none⟩ = some (.slice (some ⟨g, go, none⟩) n cap)) :
    Calls Try.prog 43 #[b, .iface 68 (.pointer (some B)), .pointer (some ⟨F, o, none⟩), ctx] w fun e w' => e = .returned (.tuple #[]) ∧ ∃ m, w' = w.drewN m := by
  have n1 := nil_FodderElement B
  have m1 := m_FodderElement B
  go_enter Try.func43, Try.ntmps43
  go_wp2
  go_loopw [13] (fun i wr => ∃ k m : Nat, k ≤ n ∧ i = .int .i64 k ∧ wr = w.drewN m) (fun i _ => n - (intOf i).toNat)
  case atStart => exact ⟨0, 0, Nat.zero_le _, rfl, rfl⟩
  case round =>
    obtain ⟨k, m, hk, rfl, rfl⟩ := hrel
    by_cases hlt : k < n
    · go_wp2_with fail
      go_region_with (first | (go_at_call 63; refine (fe_any _ _ _ _ _).mono ?_; rintro e w' ⟨rfl, rfl⟩))
      all_goals
        go_wp2
        go_roundw
        case rel => exact ⟨k + 1, m + 1, by omega, by go_num, rfl⟩
        case measure => first | (simp [intOf]; done) | (simp [intOf]; omega)
    · go_wp2
      go_end0
      exact ⟨rfl, m, rfl⟩
/-- A fodder's slice value that the pass can walk. -/
def FodV (v : Value) : Prop := (∃ fa cap, v = .slice fa 0 cap) ∨ ∃ g go n cap, v = .slice (some ⟨g, go, none⟩) n cap ∧ n ≤ 100000
theorem fod_any (b ctx v : Value) (B : Addr) (F o : Nat) (w : World) (hv : FodV v) (hF : w.cell? ⟨F, o, none⟩ = some v) :
    Calls Try.prog 43 #[b, .iface 68 (.pointer (some B)), .pointer (some ⟨F, o, none⟩), ctx] w fun e w' => e = .returned (.tuple #[]) ∧ ∃ m, w' = w.drewN m := by
  rcases hv with ⟨fa, cap, rfl⟩ | ⟨g, go, n, cap, rfl, hn⟩
  · exact fod_zero b _ ctx F o fa cap w hF
  · exact fod_some b ctx B F o g go n cap w hn hF
theorem fod_below (b ctx v : Value) (B : Addr) (F o : Nat) (w : World) (hv : FodV v) (hF : w.cell? ⟨F, o, none⟩ = some v) :
    Calls Try.prog 43 #[b, .iface 68 (.pointer (some B)), .pointer (some ⟨F, o, none⟩), ctx] w fun e w' => e = .returned (.tuple #[]) ∧ Below w.heap.size w w' :=
  (fod_any b ctx v B F o w hv hF).mono fun _ _ ⟨h1, m, h2⟩ => ⟨h1, by subst h2; exact below_drewN (Below.refl _ _) m⟩
theorem cell_of {w : World} {A k T : Nat} {c : Array Value} {v : Value} {fr : Nat × Nat} (h : w.heap[A]? = some (.cells c T fr)) (hv : c[k]? = some v) : w.cell? ⟨A, k, none⟩ = some v := by simp [World.cell?, h, hv]
theorem lt_of_at {w : World} {A : Nat} {x : Obj} (h : w.heap[A]? = some x) : A < w.heap.size := (Array.getElem?_eq_some_iff.1 h).1
/-- Nothing that lay in a has turned in b. -/
def Own (a b : World) : Prop := Below a.heap.size a b
theorem Own.refl (w : World) : Own w w := Below.refl _ _
theorem Own.go {a b c : World} (h : Own a b) (k : Own b c) : Own a c := Below.trans h (Below.mono k h.size)
theorem Own.drew {a b : World} (h : Own a b) : Own a b.drew := below_drew h
theorem Own.at {a b : World} {A : Nat} {x : Obj} (h : Own a b) (hx : a.heap[A]? = some x) : b.heap[A]? = some x := (h.block A (lt_of_at hx)).trans hx
theorem Own.cell {a b : World} {A k : Nat} {v : Value} (h : Own a b) (hl : A < a.heap.size) (hx : a.cell? ⟨A, k, none⟩ = some v) : b.cell? ⟨A, k, none⟩ = some v := (Below.cell h (p := ⟨A, k, none⟩) hl).trans hx
/-- From w on, pass.Base walks the node slot at a and turns nothing old. -/
def Vis (w : World) (a : Addr) : Prop := ∀ w1, Own w w1 → ∀ (b ctx : Value) (B : Addr), Calls Try.prog 45 #[b, .iface 68 (.pointer (some B)), .pointer (some a), ctx] w1 fun e w' => e = .returned (.tuple #[]) ∧ Own w1 w'
/-- The same for a fodder slot. -/
def FodS (w : World) (a : Addr) : Prop := ∀ w1, Own w w1 → ∀ (b ctx : Value) (B : Addr), Calls Try.prog 43 #[b, .iface 68 (.pointer (some B)), .pointer (some a), ctx] w1 fun e w' => e = .returned (.tuple #[]) ∧ Own w1 w'
theorem Vis.keep {w w1 : World} {a : Addr} (h : Vis w a) (k : Own w w1) : Vis w1 a := fun w2 h2 => h w2 (k.go h2)
theorem FodS.keep {w w1 : World} {a : Addr} (h : FodS w a) (k : Own w w1) : FodS w1 a := fun w2 h2 => h w2 (k.go h2)
theorem fodS_of {w : World} {F o : Nat} {v : Value} (hl : F < w.heap.size) (hv : FodV v) (hF : w.cell? ⟨F, o, none⟩ = some v) : FodS w ⟨F, o, none⟩ :=
  fun w1 h b ctx B => fod_below b ctx v B F o w1 hv (h.cell hl hF)
theorem keep {W w1 : World} {A : Nat} {x : Obj} (hb : Below W.heap.size W w1) (h : W.heap[A]? = some x) : w1.heap[A]? = some x := (hb.block A (lt_of_at h)).trans h
end Go.Proofs.Ytnmceagiofjdnaa
