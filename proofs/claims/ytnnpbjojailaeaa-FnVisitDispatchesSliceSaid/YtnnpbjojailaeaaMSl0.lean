/- Base.Slice under the recording pass. -/
import Derived.Test.YtnnpbjojailaeaaEv
namespace Go.Proofs.Ytnnpbjojailaeaa
open Go.RowKit
def evSl0 (U : Nat) (b2 b4 b6 : Bool) : List Ev := [(true, some ⟨U, 0, none⟩, none), (false, none, some ⟨U, 1, none⟩)] ++ (if b2 then [(true, some ⟨U, 2, none⟩, none)] else []) ++ [(false, none, some ⟨U, 3, none⟩)] ++ (if b4 then [(true, some ⟨U, 4, none⟩, none)] else []) ++ [(false, none, some ⟨U, 5, none⟩)] ++ (if b6 then [(true, some ⟨U, 6, none⟩, none)] else []) ++ [(false, none, some ⟨U, 7, none⟩)]
set_option maxRecDepth 100000 in
set_option maxHeartbeats 4000000 in
theorem slice_000 {w0 w : World} {B : Nat} {es : List Ev} (h : RecE w0 w B es) (hn : es.length ≤ 1000) (b ctx : Value) (U : Nat) (cu : Array Value) (hU : w.heap[U]? = some (.cells cu 71 (0, 0))) (h2 : cu[2]? = some (.nilIface)) (h4 : cu[4]? = some (.nilIface)) (h6 : cu[6]? = some (.nilIface)) (hUB : U ≠ B) :
    Calls Try.prog 8 #[b, .iface 24 (.pointer (some ⟨B, 0, none⟩)), .pointer (some ⟨U, 0, none⟩), ctx] w fun e w' => e = .returned (.tuple #[]) ∧ RecE w0 w' B (es ++ evSl0 U false false false) ∧ Kept37 B w w' := by
  have S0 := Lib.hid (NodeSt.start h hU hUB (by decide))
  have HN := Lib.hid hn
  clear h hn hU
  have n1 := nil_visit ⟨B, 0, none⟩
  have m1 := m_visit ⟨B, 0, none⟩
  have n2 := nil_fodder ⟨B, 0, none⟩
  have m2 := m_fodder ⟨B, 0, none⟩
  have K2 := Lib.hid h2
  have K4 := Lib.hid h4
  have K6 := Lib.hid h6
  clear h2 h4 h6
  go_enter Try.func8, Try.ntmps8
  go_wp2_with fail
  go_region_with (first | (go_at_call 59; refine (visit_S S0.out.drew (by have := HN.out; simp; omega) _ _ _).mono ?_; rintro e w1 ⟨rfl, hs⟩))
  have S1 := Lib.hid hs
  clear hs S0
  have c2 := S1.out.cell K2.out
  have c4 := S1.out.cell K4.out
  have c6 := S1.out.cell K6.out
  go_wp2_with fail
  go_region_with (first | (go_at_call 43; refine (fodder_S S1.out.drew (by have := HN.out; simp; omega) _ _ _).mono ?_; rintro e w2 ⟨rfl, hs⟩))
  have S2 := Lib.hid hs
  clear hs S1
  clear c2
  have c2 := S2.out.cell K2.out
  clear c4
  have c4 := S2.out.cell K4.out
  clear c6
  have c6 := S2.out.cell K6.out
  go_wp2_with fail
  go_region_with (first | (go_at_call 43; refine (fodder_S S2.out.drew (by have := HN.out; simp; omega) _ _ _).mono ?_; rintro e w3 ⟨rfl, hs⟩))
  have S3 := Lib.hid hs
  clear hs S2
  clear c2
  have c2 := S3.out.cell K2.out
  clear c4
  have c4 := S3.out.cell K4.out
  clear c6
  have c6 := S3.out.cell K6.out
  go_wp2_with fail
  go_region_with (first | (go_at_call 43; refine (fodder_S S3.out.drew (by have := HN.out; simp; omega) _ _ _).mono ?_; rintro e w4 ⟨rfl, hs⟩))
  have S4 := Lib.hid hs
  clear hs S3
  clear c2
  have c2 := S4.out.cell K2.out
  clear c4
  have c4 := S4.out.cell K4.out
  clear c6
  have c6 := S4.out.cell K6.out
  go_wp2_with fail
  go_region_with (first | (go_at_call 43; refine (fodder_S S4.out.drew (by have := HN.out; simp; omega) _ _ _).mono ?_; rintro e w5 ⟨rfl, hs⟩))
  have S5 := Lib.hid hs
  clear hs S4
  clear c2
  have c2 := S5.out.cell K2.out
  clear c4
  have c4 := S5.out.cell K4.out
  clear c6
  have c6 := S5.out.cell K6.out
  go_wp2
  go_end0
  exact ⟨rfl, by simpa [evSl0] using S5.out.rcd, S5.out.kept⟩
set_option maxRecDepth 100000 in
set_option maxHeartbeats 4000000 in
theorem slice_001 {w0 w : World} {B : Nat} {es : List Ev} (h : RecE w0 w B es) (hn : es.length ≤ 1000) (b ctx : Value) (U : Nat) (cu : Array Value) (hU : w.heap[U]? = some (.cells cu 71 (0, 0))) (a6 : Addr) (h2 : cu[2]? = some (.nilIface)) (h4 : cu[4]? = some (.nilIface)) (h6 : cu[6]? = some (.iface 64 (.pointer (some a6)))) (hUB : U ≠ B) :
    Calls Try.prog 8 #[b, .iface 24 (.pointer (some ⟨B, 0, none⟩)), .pointer (some ⟨U, 0, none⟩), ctx] w fun e w' => e = .returned (.tuple #[]) ∧ RecE w0 w' B (es ++ evSl0 U false false true) ∧ Kept37 B w w' := by
  have S0 := Lib.hid (NodeSt.start h hU hUB (by decide))
  have HN := Lib.hid hn
  clear h hn hU
  have n1 := nil_visit ⟨B, 0, none⟩
  have m1 := m_visit ⟨B, 0, none⟩
  have n2 := nil_fodder ⟨B, 0, none⟩
  have m2 := m_fodder ⟨B, 0, none⟩
  have K2 := Lib.hid h2
  have K4 := Lib.hid h4
  have K6 := Lib.hid h6
  clear h2 h4 h6
  go_enter Try.func8, Try.ntmps8
  go_wp2_with fail
  go_region_with (first | (go_at_call 59; refine (visit_S S0.out.drew (by have := HN.out; simp; omega) _ _ _).mono ?_; rintro e w1 ⟨rfl, hs⟩))
  have S1 := Lib.hid hs
  clear hs S0
  have c2 := S1.out.cell K2.out
  have c4 := S1.out.cell K4.out
  have c6 := S1.out.cell K6.out
  go_wp2_with fail
  go_region_with (first | (go_at_call 43; refine (fodder_S S1.out.drew (by have := HN.out; simp; omega) _ _ _).mono ?_; rintro e w2 ⟨rfl, hs⟩))
  have S2 := Lib.hid hs
  clear hs S1
  clear c2
  have c2 := S2.out.cell K2.out
  clear c4
  have c4 := S2.out.cell K4.out
  clear c6
  have c6 := S2.out.cell K6.out
  go_wp2_with fail
  go_region_with (first | (go_at_call 43; refine (fodder_S S2.out.drew (by have := HN.out; simp; omega) _ _ _).mono ?_; rintro e w3 ⟨rfl, hs⟩))
  have S3 := Lib.hid hs
  clear hs S2
  clear c2
  have c2 := S3.out.cell K2.out
  clear c4
  have c4 := S3.out.cell K4.out
  clear c6
  have c6 := S3.out.cell K6.out
  go_wp2_with fail
  go_region_with (first | (go_at_call 43; refine (fodder_S S3.out.drew (by have := HN.out; simp; omega) _ _ _).mono ?_; rintro e w4 ⟨rfl, hs⟩))
  have S4 := Lib.hid hs
  clear hs S3
  clear c2
  have c2 := S4.out.cell K2.out
  clear c4
  have c4 := S4.out.cell K4.out
  clear c6
  have c6 := S4.out.cell K6.out
  go_wp2_with fail
  go_region_with (first | (go_at_call 59; refine (visit_S S4.out.drew (by have := HN.out; simp; omega) _ _ _).mono ?_; rintro e w5 ⟨rfl, hs⟩))
  have S5 := Lib.hid hs
  clear hs S4
  clear c2
  have c2 := S5.out.cell K2.out
  clear c4
  have c4 := S5.out.cell K4.out
  clear c6
  have c6 := S5.out.cell K6.out
  go_wp2_with fail
  go_region_with (first | (go_at_call 43; refine (fodder_S S5.out.drew (by have := HN.out; simp; omega) _ _ _).mono ?_; rintro e w6 ⟨rfl, hs⟩))
  have S6 := Lib.hid hs
  clear hs S5
  clear c2
  have c2 := S6.out.cell K2.out
  clear c4
  have c4 := S6.out.cell K4.out
  clear c6
  have c6 := S6.out.cell K6.out
  go_wp2
  go_end0
  exact ⟨rfl, by simpa [evSl0] using S6.out.rcd, S6.out.kept⟩
set_option maxRecDepth 100000 in
set_option maxHeartbeats 4000000 in
theorem slice_010 {w0 w : World} {B : Nat} {es : List Ev} (h : RecE w0 w B es) (hn : es.length ≤ 1000) (b ctx : Value) (U : Nat) (cu : Array Value) (hU : w.heap[U]? = some (.cells cu 71 (0, 0))) (a4 : Addr) (h2 : cu[2]? = some (.nilIface)) (h4 : cu[4]? = some (.iface 64 (.pointer (some a4)))) (h6 : cu[6]? = some (.nilIface)) (hUB : U ≠ B) :
    Calls Try.prog 8 #[b, .iface 24 (.pointer (some ⟨B, 0, none⟩)), .pointer (some ⟨U, 0, none⟩), ctx] w fun e w' => e = .returned (.tuple #[]) ∧ RecE w0 w' B (es ++ evSl0 U false true false) ∧ Kept37 B w w' := by
  have S0 := Lib.hid (NodeSt.start h hU hUB (by decide))
  have HN := Lib.hid hn
  clear h hn hU
  have n1 := nil_visit ⟨B, 0, none⟩
  have m1 := m_visit ⟨B, 0, none⟩
  have n2 := nil_fodder ⟨B, 0, none⟩
  have m2 := m_fodder ⟨B, 0, none⟩
  have K2 := Lib.hid h2
  have K4 := Lib.hid h4
  have K6 := Lib.hid h6
  clear h2 h4 h6
  go_enter Try.func8, Try.ntmps8
  go_wp2_with fail
  go_region_with (first | (go_at_call 59; refine (visit_S S0.out.drew (by have := HN.out; simp; omega) _ _ _).mono ?_; rintro e w1 ⟨rfl, hs⟩))
  have S1 := Lib.hid hs
  clear hs S0
  have c2 := S1.out.cell K2.out
  have c4 := S1.out.cell K4.out
  have c6 := S1.out.cell K6.out
  go_wp2_with fail
  go_region_with (first | (go_at_call 43; refine (fodder_S S1.out.drew (by have := HN.out; simp; omega) _ _ _).mono ?_; rintro e w2 ⟨rfl, hs⟩))
  have S2 := Lib.hid hs
  clear hs S1
  clear c2
  have c2 := S2.out.cell K2.out
  clear c4
  have c4 := S2.out.cell K4.out
  clear c6
  have c6 := S2.out.cell K6.out
  go_wp2_with fail
  go_region_with (first | (go_at_call 43; refine (fodder_S S2.out.drew (by have := HN.out; simp; omega) _ _ _).mono ?_; rintro e w3 ⟨rfl, hs⟩))
  have S3 := Lib.hid hs
  clear hs S2
  clear c2
  have c2 := S3.out.cell K2.out
  clear c4
  have c4 := S3.out.cell K4.out
  clear c6
  have c6 := S3.out.cell K6.out
  go_wp2_with fail
  go_region_with (first | (go_at_call 59; refine (visit_S S3.out.drew (by have := HN.out; simp; omega) _ _ _).mono ?_; rintro e w4 ⟨rfl, hs⟩))
  have S4 := Lib.hid hs
  clear hs S3
  clear c2
  have c2 := S4.out.cell K2.out
  clear c4
  have c4 := S4.out.cell K4.out
  clear c6
  have c6 := S4.out.cell K6.out
  go_wp2_with fail
  go_region_with (first | (go_at_call 43; refine (fodder_S S4.out.drew (by have := HN.out; simp; omega) _ _ _).mono ?_; rintro e w5 ⟨rfl, hs⟩))
  have S5 := Lib.hid hs
  clear hs S4
  clear c2
  have c2 := S5.out.cell K2.out
  clear c4
  have c4 := S5.out.cell K4.out
  clear c6
  have c6 := S5.out.cell K6.out
  go_wp2_with fail
  go_region_with (first | (go_at_call 43; refine (fodder_S S5.out.drew (by have := HN.out; simp; omega) _ _ _).mono ?_; rintro e w6 ⟨rfl, hs⟩))
  have S6 := Lib.hid hs
  clear hs S5
  clear c2
  have c2 := S6.out.cell K2.out
  clear c4
  have c4 := S6.out.cell K4.out
  clear c6
  have c6 := S6.out.cell K6.out
  go_wp2
  go_end0
  exact ⟨rfl, by simpa [evSl0] using S6.out.rcd, S6.out.kept⟩
set_option maxRecDepth 100000 in
set_option maxHeartbeats 4000000 in
theorem slice_011 {w0 w : World} {B : Nat} {es : List Ev} (h : RecE w0 w B es) (hn : es.length ≤ 1000) (b ctx : Value) (U : Nat) (cu : Array Value) (hU : w.heap[U]? = some (.cells cu 71 (0, 0))) (a4 : Addr) (a6 : Addr) (h2 : cu[2]? = some (.nilIface)) (h4 : cu[4]? = some (.iface 64 (.pointer (some a4)))) (h6 : cu[6]? = some (.iface 64 (.pointer (some a6)))) (hUB : U ≠ B) :
    Calls Try.prog 8 #[b, .iface 24 (.pointer (some ⟨B, 0, none⟩)), .pointer (some ⟨U, 0, none⟩), ctx] w fun e w' => e = .returned (.tuple #[]) ∧ RecE w0 w' B (es ++ evSl0 U false true true) ∧ Kept37 B w w' := by
  have S0 := Lib.hid (NodeSt.start h hU hUB (by decide))
  have HN := Lib.hid hn
  clear h hn hU
  have n1 := nil_visit ⟨B, 0, none⟩
  have m1 := m_visit ⟨B, 0, none⟩
  have n2 := nil_fodder ⟨B, 0, none⟩
  have m2 := m_fodder ⟨B, 0, none⟩
  have K2 := Lib.hid h2
  have K4 := Lib.hid h4
  have K6 := Lib.hid h6
  clear h2 h4 h6
  go_enter Try.func8, Try.ntmps8
  go_wp2_with fail
  go_region_with (first | (go_at_call 59; refine (visit_S S0.out.drew (by have := HN.out; simp; omega) _ _ _).mono ?_; rintro e w1 ⟨rfl, hs⟩))
  have S1 := Lib.hid hs
  clear hs S0
  have c2 := S1.out.cell K2.out
  have c4 := S1.out.cell K4.out
  have c6 := S1.out.cell K6.out
  go_wp2_with fail
  go_region_with (first | (go_at_call 43; refine (fodder_S S1.out.drew (by have := HN.out; simp; omega) _ _ _).mono ?_; rintro e w2 ⟨rfl, hs⟩))
  have S2 := Lib.hid hs
  clear hs S1
  clear c2
  have c2 := S2.out.cell K2.out
  clear c4
  have c4 := S2.out.cell K4.out
  clear c6
  have c6 := S2.out.cell K6.out
  go_wp2_with fail
  go_region_with (first | (go_at_call 43; refine (fodder_S S2.out.drew (by have := HN.out; simp; omega) _ _ _).mono ?_; rintro e w3 ⟨rfl, hs⟩))
  have S3 := Lib.hid hs
  clear hs S2
  clear c2
  have c2 := S3.out.cell K2.out
  clear c4
  have c4 := S3.out.cell K4.out
  clear c6
  have c6 := S3.out.cell K6.out
  go_wp2_with fail
  go_region_with (first | (go_at_call 59; refine (visit_S S3.out.drew (by have := HN.out; simp; omega) _ _ _).mono ?_; rintro e w4 ⟨rfl, hs⟩))
  have S4 := Lib.hid hs
  clear hs S3
  clear c2
  have c2 := S4.out.cell K2.out
  clear c4
  have c4 := S4.out.cell K4.out
  clear c6
  have c6 := S4.out.cell K6.out
  go_wp2_with fail
  go_region_with (first | (go_at_call 43; refine (fodder_S S4.out.drew (by have := HN.out; simp; omega) _ _ _).mono ?_; rintro e w5 ⟨rfl, hs⟩))
  have S5 := Lib.hid hs
  clear hs S4
  clear c2
  have c2 := S5.out.cell K2.out
  clear c4
  have c4 := S5.out.cell K4.out
  clear c6
  have c6 := S5.out.cell K6.out
  go_wp2_with fail
  go_region_with (first | (go_at_call 59; refine (visit_S S5.out.drew (by have := HN.out; simp; omega) _ _ _).mono ?_; rintro e w6 ⟨rfl, hs⟩))
  have S6 := Lib.hid hs
  clear hs S5
  clear c2
  have c2 := S6.out.cell K2.out
  clear c4
  have c4 := S6.out.cell K4.out
  clear c6
  have c6 := S6.out.cell K6.out
  go_wp2_with fail
  go_region_with (first | (go_at_call 43; refine (fodder_S S6.out.drew (by have := HN.out; simp; omega) _ _ _).mono ?_; rintro e w7 ⟨rfl, hs⟩))
  have S7 := Lib.hid hs
  clear hs S6
  clear c2
  have c2 := S7.out.cell K2.out
  clear c4
  have c4 := S7.out.cell K4.out
  clear c6
  have c6 := S7.out.cell K6.out
  go_wp2
  go_end0
  exact ⟨rfl, by simpa [evSl0] using S7.out.rcd, S7.out.kept⟩
end Go.Proofs.Ytnnpbjojailaeaa
