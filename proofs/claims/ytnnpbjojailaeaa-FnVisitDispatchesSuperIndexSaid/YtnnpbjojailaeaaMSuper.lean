/- Base.SuperIndex under the recording pass. -/
import Derived.Test.YtnnpbjojailaeaaEv
namespace Go.Proofs.Ytnnpbjojailaeaa
open Go.RowKit
def evSuper (U : Nat) (p : Option Addr) : List Ev :=
  match p with
  | none => [(false, none, some ⟨U, 2, none⟩), (true, some ⟨U, 1, none⟩, none), (false, none, some ⟨U, 0, none⟩)]
  | some _ => [(false, none, some ⟨U, 2, none⟩), (false, none, some ⟨U, 0, none⟩)]
set_option maxRecDepth 100000 in
set_option maxHeartbeats 4000000 in
theorem super_none {w0 w : World} {B : Nat} {es : List Ev} (h : RecE w0 w B es) (hn : es.length ≤ 1000) (b ctx : Value) (U : Nat) (cu : Array Value) (hU : w.heap[U]? = some (.cells cu 128 (0, 0))) (hI : cu[3]? = some (.pointer none)) (hUB : U ≠ B) :
    Calls Try.prog 12 #[b, .iface 24 (.pointer (some ⟨B, 0, none⟩)), .pointer (some ⟨U, 0, none⟩), ctx] w fun e w' => e = .returned (.tuple #[]) ∧ RecE w0 w' B (es ++ evSuper U none) ∧ Kept37 B w w' := by
  have S0 := Lib.hid (NodeSt.start h hU hUB (by decide))
  have HN := Lib.hid hn
  clear h hn hU
  have n1 := nil_visit ⟨B, 0, none⟩
  have m1 := m_visit ⟨B, 0, none⟩
  have n2 := nil_fodder ⟨B, 0, none⟩
  have m2 := m_fodder ⟨B, 0, none⟩
  have KI := Lib.hid hI
  clear hI
  go_enter Try.func12, Try.ntmps12
  go_wp2_with fail
  go_region_with (first | (go_at_call 43; refine (fodder_S S0.out.drew (by have := HN.out; simp; omega) _ _ _).mono ?_; rintro e w1 ⟨rfl, hs⟩))
  have S1 := Lib.hid hs
  clear hs S0
  have c3 := S1.out.cell KI.out
  go_wp2_with fail
  go_region_with (first | (go_at_call 59; refine (visit_S S1.out.drew (by have := HN.out; simp; omega) _ _ _).mono ?_; rintro e w2 ⟨rfl, hs⟩))
  have S2 := Lib.hid hs
  clear hs S1
  clear c3
  have c3 := S2.out.cell KI.out
  go_wp2_with fail
  go_region_with (first | (go_at_call 43; refine (fodder_S S2.out.drew (by have := HN.out; simp; omega) _ _ _).mono ?_; rintro e w3 ⟨rfl, hs⟩))
  have S3 := Lib.hid hs
  clear hs S2
  clear c3
  have c3 := S3.out.cell KI.out
  go_wp2
  go_end0
  exact ⟨rfl, by simpa [evSuper] using S3.out.rcd, S3.out.kept⟩
set_option maxRecDepth 100000 in
set_option maxHeartbeats 4000000 in
theorem super_some {w0 w : World} {B : Nat} {es : List Ev} (h : RecE w0 w B es) (hn : es.length ≤ 1000) (b ctx : Value) (U : Nat) (cu : Array Value) (hU : w.heap[U]? = some (.cells cu 128 (0, 0))) (a : Addr) (hI : cu[3]? = some (.pointer (some a))) (hUB : U ≠ B) :
    Calls Try.prog 12 #[b, .iface 24 (.pointer (some ⟨B, 0, none⟩)), .pointer (some ⟨U, 0, none⟩), ctx] w fun e w' => e = .returned (.tuple #[]) ∧ RecE w0 w' B (es ++ evSuper U (some a)) ∧ Kept37 B w w' := by
  have S0 := Lib.hid (NodeSt.start h hU hUB (by decide))
  have HN := Lib.hid hn
  clear h hn hU
  have n1 := nil_visit ⟨B, 0, none⟩
  have m1 := m_visit ⟨B, 0, none⟩
  have n2 := nil_fodder ⟨B, 0, none⟩
  have m2 := m_fodder ⟨B, 0, none⟩
  have KI := Lib.hid hI
  clear hI
  go_enter Try.func12, Try.ntmps12
  go_wp2_with fail
  go_region_with (first | (go_at_call 43; refine (fodder_S S0.out.drew (by have := HN.out; simp; omega) _ _ _).mono ?_; rintro e w1 ⟨rfl, hs⟩))
  have S1 := Lib.hid hs
  clear hs S0
  have c3 := S1.out.cell KI.out
  go_wp2_with fail
  go_region_with (first | (go_at_call 43; refine (fodder_S S1.out.drew (by have := HN.out; simp; omega) _ _ _).mono ?_; rintro e w2 ⟨rfl, hs⟩))
  have S2 := Lib.hid hs
  clear hs S1
  clear c3
  have c3 := S2.out.cell KI.out
  go_wp2
  go_end0
  exact ⟨rfl, by simpa [evSuper] using S2.out.rcd, S2.out.kept⟩
theorem super_any {w0 w : World} {B : Nat} {es : List Ev} (h : RecE w0 w B es) (hn : es.length ≤ 1000) (b ctx : Value) (U : Nat) (cu : Array Value) (hU : w.heap[U]? = some (.cells cu 128 (0, 0))) (p : Option Addr) (hI : cu[3]? = some (.pointer p)) (hUB : U ≠ B) :
    Calls Try.prog 12 #[b, .iface 24 (.pointer (some ⟨B, 0, none⟩)), .pointer (some ⟨U, 0, none⟩), ctx] w fun e w' => e = .returned (.tuple #[]) ∧ RecE w0 w' B (es ++ evSuper U p) ∧ Kept37 B w w' := by
  cases p with
  | none => exact super_none h hn b ctx U cu hU hI hUB
  | some a => exact super_some h hn b ctx U cu hU a hI hUB
end Go.Proofs.Ytnnpbjojailaeaa
