/- The recording pass's events as a list; Base.Unary, Base.SuperIndex, Base.Var over it. -/
import Derived.Test.YtnnpbjojailaeaaPass
namespace Go.Proofs.Ytnnpbjojailaeaa
open Go.RowKit
abbrev Ev := Bool × Option Addr × Option Addr
def evc (es : List Ev) : List Value := es.flatMap fun e => [.bool e.1, .pointer e.2.1, .pointer e.2.2]
theorem evc_snoc (es : List Ev) (e : Ev) : evc (es ++ [e]) = evc es ++ [.bool e.1, .pointer e.2.1, .pointer e.2.2] := by simp [evc]
theorem evc_len (es : List Ev) : (evc es).length = es.length * 3 := by
  induction es with
  | nil => rfl
  | cons e es ih => simp [evc] at ih ⊢; omega
theorem evc_get (es : List Ev) : ∀ k (h : k < es.length), (evc es)[k * 3]? = some (.bool es[k].1) ∧ (evc es)[k * 3 + 1]? = some (.pointer es[k].2.1) ∧ (evc es)[k * 3 + 2]? = some (.pointer es[k].2.2) := by
  induction es with
  | nil => intro k h; simp at h
  | cons e es ih =>
    intro k h
    cases k with
    | zero => simp [evc]
    | succ k =>
      have := ih k (by simpa using h)
      have e1 : (k + 1) * 3 = k * 3 + 1 + 1 + 1 := by omega
      simp only [evc, List.flatMap_cons] at this ⊢
      rw [e1]
      simpa using this
/-- Block B records the events es. -/
def RecE (w0 w : World) (B : Nat) (es : List Ev) : Prop := RecSt w0 w B es.length (evc es)
theorem RecE.drew {w0 w : World} {B : Nat} {es : List Ev} (h : RecE w0 w B es) : RecE w0 w.drew B es := RecSt.drew h
theorem RecE.alloc {w0 w : World} {B : Nat} {es : List Ev} (h : RecE w0 w B es) (o : Obj) : RecE w0 (w.alloc o) B es := RecSt.alloc h o
theorem visit_E {w0 w : World} {B : Nat} {es : List Ev} (h : RecE w0 w B es) (hn : es.length ≤ 100000) (p ctx : Value) (np : Option Addr) :
    Calls Try.prog 59 #[.pointer (some ⟨B, 0, none⟩), p, .pointer np, ctx] w fun e w' => e = .returned (.tuple #[]) ∧ RecE w0 w' B (es ++ [(true, np, none)]) ∧ Kept37 B w w' :=
  (rec_visit h hn p ctx np).mono fun e w' ⟨h1, h2, h3⟩ => ⟨h1, by unfold RecE; rw [evc_snoc, List.length_append]; exact h2, h3⟩
theorem fodder_E {w0 w : World} {B : Nat} {es : List Ev} (h : RecE w0 w B es) (hn : es.length ≤ 100000) (p ctx : Value) (np : Option Addr) :
    Calls Try.prog 43 #[.pointer (some ⟨B, 0, none⟩), p, .pointer np, ctx] w fun e w' => e = .returned (.tuple #[]) ∧ RecE w0 w' B (es ++ [(false, none, np)]) ∧ Kept37 B w w' :=
  (rec_fodder h hn p ctx np).mono fun e w' ⟨h1, h2, h3⟩ => ⟨h1, by unfold RecE; rw [evc_snoc, List.length_append]; exact h2, h3⟩
theorem unary_E {w0 w : World} {B : Nat} {es : List Ev} (h : RecE w0 w B es) (hn : es.length ≤ 1000) (b ctx : Value) (U : Nat) :
    Calls Try.prog 14 #[b, .iface 24 (.pointer (some ⟨B, 0, none⟩)), .pointer (some ⟨U, 0, none⟩), ctx] w fun e w' => e = .returned (.tuple #[]) ∧ RecE w0 w' B (es ++ [(true, some ⟨U, 0, none⟩, none)]) ∧ Kept37 B w w' :=
  (unary_any h hn b ctx U).mono fun e w' ⟨h1, h2, h3⟩ => ⟨h1, by unfold RecE; rw [evc_snoc, List.length_append]; exact h2, h3⟩
theorem var_any (b p v ctx : Value) (w : World) : Calls Try.prog 15 #[b, p, v, ctx] w fun e w' => e = .returned (.tuple #[]) ∧ w = w' := by
  go_enter Try.func15, Try.ntmps15
  go_wp2
  go_end0
  exact ⟨rfl, rfl⟩
/-- While a node's own method runs: the events, the node's cells, what else is kept. -/
structure NodeSt (w0 ws w : World) (B U T : Nat) (cu : Array Value) (es : List Ev) : Prop where
  rcd : RecE w0 w B es
  node : w.heap[U]? = some (.cells cu T (0, 0))
  kept : Kept37 B ws w
  ne : U ≠ B
  ty : T ≠ 37
theorem NodeSt.start {w0 w : World} {B U T : Nat} {cu : Array Value} {es : List Ev} (h : RecE w0 w B es) (hU : w.heap[U]? = some (.cells cu T (0, 0))) (hUB : U ≠ B) (hT : T ≠ 37) : NodeSt w0 w w B U T cu es :=
  ⟨h, hU, ⟨Nat.le_refl _, fun _ _ _ _ h _ _ => h⟩, hUB, hT⟩
theorem NodeSt.step {w0 ws w w' : World} {B U T : Nat} {cu : Array Value} {es es' : List Ev} (h : NodeSt w0 ws w B U T cu es) (hr : RecE w0 w' B es') (hk : Kept37 B w w') : NodeSt w0 ws w' B U T cu es' :=
  ⟨hr, hk.2 _ _ _ _ h.node h.ne h.ty, h.kept.trans hk, h.ne, h.ty⟩
theorem NodeSt.cell {w0 ws w : World} {B U T : Nat} {cu : Array Value} {es : List Ev} (h : NodeSt w0 ws w B U T cu es) {k : Nat} {v : Value} (hv : cu[k]? = some v) : w.cell? ⟨U, k, none⟩ = some v := by simp [World.cell?, h.node, hv]
theorem NodeSt.drew {w0 ws w : World} {B U T : Nat} {cu : Array Value} {es : List Ev} (h : NodeSt w0 ws w B U T cu es) : NodeSt w0 ws w.drew B U T cu es := ⟨h.rcd.drew, h.node, h.kept.drew, h.ne, h.ty⟩
theorem visit_S {w0 ws w : World} {B U T : Nat} {cu : Array Value} {es : List Ev} (h : NodeSt w0 ws w B U T cu es) (hn : es.length ≤ 100000) (p ctx : Value) (np : Option Addr) :
    Calls Try.prog 59 #[.pointer (some ⟨B, 0, none⟩), p, .pointer np, ctx] w fun e w' => e = .returned (.tuple #[]) ∧ NodeSt w0 ws w' B U T cu (es ++ [(true, np, none)]) :=
  (visit_E h.rcd hn p ctx np).mono fun _ _ ⟨h1, h2, h3⟩ => ⟨h1, h.step h2 h3⟩
theorem fodder_S {w0 ws w : World} {B U T : Nat} {cu : Array Value} {es : List Ev} (h : NodeSt w0 ws w B U T cu es) (hn : es.length ≤ 100000) (p ctx : Value) (np : Option Addr) :
    Calls Try.prog 43 #[.pointer (some ⟨B, 0, none⟩), p, .pointer np, ctx] w fun e w' => e = .returned (.tuple #[]) ∧ NodeSt w0 ws w' B U T cu (es ++ [(false, none, np)]) :=
  (fodder_E h.rcd hn p ctx np).mono fun _ _ ⟨h1, h2, h3⟩ => ⟨h1, h.step h2 h3⟩
end Go.Proofs.Ytnnpbjojailaeaa
