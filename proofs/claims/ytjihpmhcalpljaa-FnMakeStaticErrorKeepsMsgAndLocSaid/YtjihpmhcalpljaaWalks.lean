/- The contracts of the static errors and of the tokens' locations. -/
import Derived.Test.YtjihpmhcalpljaaProg
import Derived.WalkKit
import Derived.WalkLawsBesides
import Derived.WalkSpells
import Derived.Lib.Hide
import Derived.LaidEqlPtr
import Derived.Lib.Builder
namespace Go.Proofs.Ytjihpmhcalpljaa
open Go.RowKit

theorem ret_bool {a b : Bool} (h : a = b) : Ending.returned (.bool a) = .returned (.bool b) := by rw [h]
theorem ret_true {p : Prop} [Decidable p] (h : p) : Ending.returned (.bool true) = .returned (.bool (decide p)) := by rw [decide_eq_true h]
theorem ret_false {p : Prop} [Decidable p] (h : ¬ p) : Ending.returned (.bool false) = .returned (.bool (decide p)) := by rw [decide_eq_false h]
theorem below_2 {w : World} {x y : Obj} : Below w.heap.size w ((w.alloc x).alloc y) := ((Below.refl _ _).alloc (Nat.le_refl _) _).alloc (by simp) _

theorem ptr_info : (Try.prog.info? 44).isSome = true := by kernel_rfl
theorem eq_none (w : World) : (binOp .eql 25 (.pointer none) (.pointer none)).run Try.prog w = .ok (.bool true) w := by kernel_rfl
theorem ne_none (w : World) : (binOp .neq 25 (.pointer none) (.pointer none)).run Try.prog w = .ok (.bool false) w := by kernel_rfl
theorem eq_same (f : Option Addr) (w : World) : (binOp .eql 25 (.pointer f) (.pointer f)).run Try.prog w = .ok (.bool true) w := by
  obtain ⟨j, hj⟩ := Option.isSome_iff_exists.mp ptr_info
  cases f with
  | none => exact eq_none w
  | some p => exact run_eql_ptr_same w p Try.underlying25 hj
theorem ne_same (f : Option Addr) (w : World) : (binOp .neq 25 (.pointer f) (.pointer f)).run Try.prog w = .ok (.bool false) w := by
  obtain ⟨j, hj⟩ := Option.isSome_iff_exists.mp ptr_info
  cases f with
  | none => exact ne_none w
  | some p => exact Lib.run_neq_ptr_same w p Try.underlying25 hj

theorem mk_any (msg : ByteArray) (f : Option Addr) (fn : ByteArray) (a b c d : Int) (w : World) :
    Calls Try.prog 24 #[.string msg, .agg #[.pointer f, .string fn, .int .i64 a, .int .i64 b, .int .i64 c, .int .i64 d]] w fun e w' => e = .returned (.iface 68 (.agg #[.string msg, .pointer f, .string fn, .int .i64 a, .int .i64 b, .int .i64 c, .int .i64 d])) ∧ Below w.heap.size w w' := by
  go_enter Try.func24, Try.ntmps24
  go_wp2
  go_ret
  exact ⟨rfl, (Below.refl _ _).alloc (Nat.le_refl _) _⟩
theorem mkMsg_any (msg : ByteArray) (w : World) :
    Calls Try.prog 25 #[.string msg] w fun e w' => e = .returned (.iface 68 (.agg #[.string msg, .pointer none, .string ⟨#[]⟩, .int .i64 0, .int .i64 0, .int .i64 0, .int .i64 0])) ∧ Below w.heap.size w w' := by
  go_enter Try.func25, Try.ntmps25
  go_wp2
  go_ret
  exact ⟨rfl, Below.refl _ _⟩
theorem loc_any (msg : ByteArray) (f : Option Addr) (fn : ByteArray) (a b c d : Int) (w : World) :
    Calls Try.prog 49 #[.agg #[.string msg, .pointer f, .string fn, .int .i64 a, .int .i64 b, .int .i64 c, .int .i64 d]] w fun e w' => e = .returned (.agg #[.pointer f, .string fn, .int .i64 a, .int .i64 b, .int .i64 c, .int .i64 d]) ∧ Below w.heap.size w w' := by
  go_enter Try.func49, Try.ntmps49
  go_wp2
  exact bodyPost_ret (v := .agg #[.pointer f, .string fn, .int .i64 a, .int .i64 b, .int .i64 c, .int .i64 d]) (by simp [results, Try.results49, go_sem]) rfl ⟨rfl, below_2⟩
theorem method_loc (msg : ByteArray) (f : Option Addr) (fn : ByteArray) (a b c d : Int) (w : World) : (method 204 68 (.agg #[.string msg, .pointer f, .string fn, .int .i64 a, .int .i64 b, .int .i64 c, .int .i64 d]) "Loc").run Try.prog w = .ok (49, .agg #[.string msg, .pointer f, .string fn, .int .i64 a, .int .i64 b, .int .i64 c, .int .i64 d]) w := by kernel_rfl
theorem bytes14_any (s : ByteArray) (w : World) : Calls Try.prog 14 #[.string s] w fun e w' => e = .returned (.bool (decide (s.size ≤ 1048576))) ∧ w = w' := by
  by_cases h : s.size ≤ 1048576
  · go_enter Try.func14, Try.ntmps14
    go_wp2
    go_ret
    exact ⟨ret_true h, rfl⟩
  · go_enter Try.func14, Try.ntmps14
    go_wp2
    go_ret
    exact ⟨ret_false (by omega), rfl⟩
def SomeB (w : World) (e : Ending) (w' : World) : Prop := ∃ b : Bool, e = .returned (.bool b) ∧ w = w'
theorem bcell {W w1 : World} (hb : Below W.heap.size W w1) : (∀ b o, b < W.heap.size → w1.cell? ⟨b, o, none⟩ = W.cell? ⟨b, o, none⟩) ∧ (∀ b o, b < W.heap.size → w1.frozen? ⟨b, o, none⟩ = W.frozen? ⟨b, o, none⟩) :=
  ⟨fun b o h => hb.cell (p := ⟨b, o, none⟩) h, fun b o h => hb.frozen (p := ⟨b, o, none⟩) h⟩
set_option maxHeartbeats 1000000 in
theorem zzLoc_any (msg : ByteArray) (f : Option Addr) (fn : ByteArray) (a b c d : Int) (w : World) :
    Calls Try.prog 15 #[.string msg, .agg #[.pointer f, .string fn, .int .i64 a, .int .i64 b, .int .i64 c, .int .i64 d]] w fun e w' => e = .returned (.agg #[.pointer f, .string fn, .int .i64 a, .int .i64 b, .int .i64 c, .int .i64 d]) ∧ Below w.heap.size w w' := by
  have hm := method_loc msg f fn a b c d
  go_enter Try.func15, Try.ntmps15
  go_wp2_with fail
  refine (mk_any _ _ _ _ _ _ _ _).mono ?_
  rintro e w1 ⟨rfl, hb1⟩
  go_wp2_with fail
  refine (loc_any _ _ _ _ _ _ _ _).mono ?_
  rintro e w2 ⟨rfl, hb2⟩
  have hb := hb1.trans (hb2.mono hb1.size)
  have hz : w.heap.size + 1 < w2.heap.size := by have := hb.size; simp at this; omega
  obtain ⟨hc, hf⟩ := bcell hb
  have HB := Lib.hid hb
  clear hb1 hb2 hb
  go_wp2
  refine bodyPost_ret (v := .agg #[.pointer f, .string fn, .int .i64 a, .int .i64 b, .int .i64 c, .int .i64 d]) (by simp [results, Try.results15, go_sem, hc]) rfl ⟨rfl, ?_⟩
  exact ((((((below_2.trans (HB.out.mono (by simp; omega))).setCell (by simp) _).setCell (by simp) _).setCell (by simp) _).setCell (by simp) _).setCell (by simp) _).setCell (by simp) _
set_option maxHeartbeats 1000000 in
theorem zzMsgLoc_any (msg : ByteArray) (w : World) :
    Calls Try.prog 16 #[.string msg] w fun e w' => e = .returned (.agg #[.pointer none, .string ⟨#[]⟩, .int .i64 0, .int .i64 0, .int .i64 0, .int .i64 0]) ∧ Below w.heap.size w w' := by
  have hm := method_loc msg none ⟨#[]⟩ 0 0 0 0
  go_enter Try.func16, Try.ntmps16
  go_wp2_with fail
  refine (mkMsg_any _ _).mono ?_
  rintro e w1 ⟨rfl, hb1⟩
  go_wp2_with fail
  refine (loc_any _ _ _ _ _ _ _ _).mono ?_
  rintro e w2 ⟨rfl, hb2⟩
  have hb := hb1.trans (hb2.mono hb1.size)
  have hz : w.heap.size < w2.heap.size := by have := hb.size; simp at this; omega
  obtain ⟨hc, hf⟩ := bcell hb
  have HB := Lib.hid hb
  clear hb1 hb2 hb
  go_wp2
  refine bodyPost_ret (v := .agg #[.pointer none, .string ⟨#[]⟩, .int .i64 0, .int .i64 0, .int .i64 0, .int .i64 0]) (by simp [results, Try.results16, go_sem, hc]) rfl ⟨rfl, ?_⟩
  exact (((((((((Below.refl _ _).alloc (Nat.le_refl _) _).trans (HB.out.mono (by simp))).setCell (by simp) _).setCell (by simp) _).setCell (by simp) _).setCell (by simp) _).setCell (by simp) _).setCell (by simp) _)
theorem assert_any (v : Value) (w : World) : (Instr.typeAssert (.iface 68 v) 63 68 false).run Try.prog w = .ok v w := by kernel_rfl
theorem field_any (msg : ByteArray) (f : Option Addr) (fn : ByteArray) (a b c d : Int) (w : World) : (Instr.field 68 (.agg #[.string msg, .pointer f, .string fn, .int .i64 a, .int .i64 b, .int .i64 c, .int .i64 d]) 0).run Try.prog w = .ok (.string msg) w := by kernel_rfl
theorem zzField_any (msg : ByteArray) (f : Option Addr) (fn : ByteArray) (a b c d : Int) (w : World) :
    Calls Try.prog 18 #[.string msg, .agg #[.pointer f, .string fn, .int .i64 a, .int .i64 b, .int .i64 c, .int .i64 d]] w fun e w' => e = .returned (.string msg) ∧ Below w.heap.size w w' := by
  have ha := assert_any
  have hfl := field_any msg f fn a b c d
  go_enter Try.func18, Try.ntmps18
  go_wp2_with (go_at_call 24; refine (mk_any _ _ _ _ _ _ _ _).mono ?_; rintro e w1 ⟨rfl, hb1⟩)
  go_ret
  exact ⟨rfl, ((Below.refl _ _).alloc (Nat.le_refl _) _).trans (hb1.mono (by simp))⟩
theorem zzMsgField_any (msg : ByteArray) (w : World) :
    Calls Try.prog 19 #[.string msg] w fun e w' => e = .returned (.string msg) ∧ Below w.heap.size w w' := by
  have ha := assert_any
  have hfl := field_any msg none ⟨#[]⟩ 0 0 0 0
  go_enter Try.func19, Try.ntmps19
  go_wp2_with (go_at_call 25; refine (mkMsg_any _ _).mono ?_; rintro e w1 ⟨rfl, hb1⟩)
  go_ret
  exact ⟨rfl, hb1⟩
set_option maxHeartbeats 1000000 in
theorem same17_any (f : Option Addr) (fn : ByteArray) (a b c d : Int) (w : World) :
    Calls Try.prog 17 #[.agg #[.pointer f, .string fn, .int .i64 a, .int .i64 b, .int .i64 c, .int .i64 d], .agg #[.pointer f, .string fn, .int .i64 a, .int .i64 b, .int .i64 c, .int .i64 d]] w fun e w' => e = .returned (.bool true) ∧ Below w.heap.size w w' := by
  have he := eq_same f
  have hn := ne_same f
  go_enter Try.func17, Try.ntmps17
  go_wp2
  go_ret
  exact ⟨rfl, below_2⟩
set_option maxHeartbeats 1000000 in
theorem same12_any (f : Option Addr) (fn : ByteArray) (a b c d : Int) (w : World) :
    Calls Try.prog 12 #[.agg #[.pointer f, .string fn, .int .i64 a, .int .i64 b, .int .i64 c, .int .i64 d], .agg #[.pointer f, .string fn, .int .i64 a, .int .i64 b, .int .i64 c, .int .i64 d]] w fun e w' => e = .returned (.bool true) ∧ Below w.heap.size w w' := by
  have he := eq_same f
  have hn := ne_same f
  go_enter Try.func12, Try.ntmps12
  go_wp2
  go_ret
  exact ⟨rfl, below_2⟩
end Go.Proofs.Ytjihpmhcalpljaa
