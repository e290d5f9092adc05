/-
  Proved: Rows.FnMakeStaticErrorZeroLocAgreesWithMsgOnlySaid, for every input the law FnMakeStaticErrorZeroLocAgreesWithMsgOnly returns true; no condition of mine.
  The frame behind the walk was written by the kit's program proof-skeleton.mjs; the walk is mine.
-/
import Derived.Test.YtjihpmhcalpljaaRows
import Derived.Test.YtjihpmhcalpljaaPost
import Derived.Test.YtjihpmhcalpljaaHead
import Derived.Test.YtjihpmhcalpljaaBlk
import Derived.WalkKit
import Derived.ProofKit
import Derived.OpenShut
import Derived.ShutString
namespace Go.Proofs.Ytjihpmhcalpljaa.fnMakeStaticErrorZeroLocAgreesWithMsgOnly
open Go.ChangeShapes Go.WideShapes Go.ChangeAt Go.RowKit
open Go.ChangeMaps (open_string shut_string)
set_option linter.unusedVariables false      -- a walk need not use every 'w<i>' (that an integer argument fits its kind)

theorem own : ownKnob Try.prog.godebug = none := by kernel_rfl

/-! ### The walk -/
theorem walk (a0 : ByteArray) (w0 : a0.size ≤ maxLen) (w : World) :
    Calls Try.prog 5 #[.string a0] w fun e w' => e = .returned (.bool true) ∧ Below w.heap.size w w' := by
  by_cases hs : a0.size ≤ 1048576
  · have hn := ne_none
    go_enter Try.func5, Try.ntmps5
    go_wp2_with (go_at_call 14; refine (bytes14_any _ _).mono ?_; rintro e w' ⟨rfl, rfl⟩)
    refine (zzLoc_any _ _ _ _ _ _ _ _).mono ?_
    rintro e w1 ⟨rfl, hb1⟩
    have B0 := Lib.hid ((Blk.new _ _).keep hb1)
    have L1 := Lib.hid (Below.step below_1 hb1)
    clear hb1
    go_wp2_with fail
    refine (zzMsgLoc_any _ _).mono ?_
    rintro e w2 ⟨rfl, hb2⟩
    have B1 := Lib.hid ((B0.out.alloc _).keep hb2)
    have A1 := Lib.hid ((Blk.new _ _).keep hb2)
    have L2 := Lib.hid (Below.step (Below.step L1.out below_1) hb2)
    have hlt : w1.heap.size < w2.heap.size := A1.out.lt
    have c0 := A1.out.cell 0
    have c1 := A1.out.cell 1
    have c2 := A1.out.cell 2
    have c3 := A1.out.cell 3
    have c4 := A1.out.cell 4
    have c5 := A1.out.cell 5
    clear hb2 B0 L1
    go_wp2_with fail
    refine (same17_any _ _ _ _ _ _ _).mono ?_
    rintro e w3 ⟨rfl, hb3⟩
    have B2 := Lib.hid ((B1.out.alloc _).keep hb3)
    have A2 := Lib.hid ((A1.out.alloc _).keep hb3)
    have L3 := Lib.hid (Below.step (Below.step L2.out below_1) hb3)
    clear c0 c1 c2 c3 c4 c5 hb3 B1 A1 L2
    have c0 := A2.out.cell 0
    have c1 := A2.out.cell 1
    have c2 := A2.out.cell 2
    have c3 := A2.out.cell 3
    have c4 := A2.out.cell 4
    have c5 := A2.out.cell 5
    have d0 := B2.out.cell 0
    have d1 := B2.out.cell 1
    have d2 := B2.out.cell 2
    have d3 := B2.out.cell 3
    have d4 := B2.out.cell 4
    have d5 := B2.out.cell 5
    go_wp2_with (first | (go_at_call 18; refine (zzField_any _ _ _ _ _ _ _ _).mono ?_; rintro e w4 ⟨rfl, hb4⟩) | (go_at_call 19; refine (zzMsgField_any _ _).mono ?_; rintro e w5 ⟨rfl, hb5⟩))
    go_ret
    exact ⟨ret_bool (by simp), Below.step (Below.step L3.out hb4) hb5⟩
  · have hd : decide (a0.size ≤ 1048576) = false := decide_eq_false hs
    go_enter Try.func5, Try.ntmps5
    go_wp2_with (go_at_call 14; refine (bytes14_any _ _).mono ?_; rintro e w' ⟨rfl, rfl⟩)
    go_ret
    exact ⟨rfl, Below.refl _ _⟩

/-! ### THE ROW's STEP: WRITTEN OUT: LEAVE IT -/
set_option maxRecDepth 100000 in
theorem lifted (os : Os) (started : os.Started) (H : Type) (enc : TypeId × Value → H) :
    ReturnsInHanded {} Try.checked os 5 .any (Rows.fnMakeStaticErrorZeroLocAgreesWithMsgOnlySpec.pre6 enc Try.prog Try.f5 Rows.fnMakeStaticErrorZeroLocAgreesWithMsgOnlyRow.domain false) (Rows.fnMakeStaticErrorZeroLocAgreesWithMsgOnlySpec.post enc Try.prog Try.f5 false true false false) := by
  refine returnsInHanded_of_change (C := Try.checked) own started (by kernel_rfl) Try.func5
    (ChangeSpec.witness6 (enc := enc) (C := Try.checked) false ⟨#[], #[.string ByteArray.empty], []⟩ 8 (by kernel_rfl) (by kernel_rfl) (by kernel_rfl) (by kernel_rfl)) ?_
  intro W base args ds gs before hval0 hW hcnd _
  have hval : ∀ (j : Nat) t v, Try.f5.params[j]? = some t → args[j]? = some v → Value.okWide Try.prog W .any base t v := hval0
  have hW' := hW
  obtain ⟨p, q, hA0, hV, rfl, hfz, hnd⟩ := hW
  have hA : DataW.TrodAll enc Try.prog W 0 (fun _ => true) true Try.f5.params.toList args.toList ds p := hA0
  rw [Try.params5] at hA hval
  obtain ⟨v0, vs0, d0, ds0, p0, q0, hargs, rfl, rfl, h0, r0⟩ := trodAll_cons hA
  obtain ⟨rfl, rfl, rfl⟩ := trodAll_nil r0
  obtain rfl : args = #[v0] := by cases args; simp_all
  obtain ⟨rfl, rfl⟩ := trodVars_none hV
  obtain ⟨a0, rfl, rfl, rfl, w0⟩ := open_string Try.underlying9 (hval 0 9 v0 rfl rfl) h0
  clear hA0 hval0
  simp only [List.append_nil] at hW'
  refine (walk a0 w0 W).mono fun e W' ⟨he, hg⟩ => ?_
  subst he
  exact ⟨_, rfl, post_of_below (pa := []) (pv := []) hW' (fun _ _ _ => (trodAll_cons_mk (shut_bool Try.underlying4 _) trodAll_mk0)) (fun sp _ => (trodAll_cons_mk (shut_string Try.underlying9 w0) trodAll_mk0)) (fun _ _ => rfl) rfl hg
    (ok_one (by kernel_rfl) rfl (okWide_bool_mk Try.underlying4 _))⟩

theorem closed : joinedFacts Try.prog 5 Try.f5 Rows.fnMakeStaticErrorZeroLocAgreesWithMsgOnlySpec Rows.fnMakeStaticErrorZeroLocAgreesWithMsgOnlyRow = true := by
  simp only [joinedFacts, Bool.and_eq_true]
  repeat' refine And.intro ?_ ?_
  all_goals first | (with_reducible exact enters) | (with_reducible exact lifted_of rfl) | (with_reducible exact made_of rfl) | (as_aux_lemma => kernel_rfl)
theorem over : Rows.fnMakeStaticErrorZeroLocAgreesWithMsgOnlyRow.holds Try.pinned (OpenSpec.ofChange Rows.fnMakeStaticErrorZeroLocAgreesWithMsgOnlySpec) :=
  OpenClaim.holds_of_wide 5 Try.f5 rfl rfl rfl rfl rfl rfl rfl ⟨rfl, rfl, rfl, rfl, rfl⟩ rfl rfl rfl rfl rfl (by kernel_rfl) Try.func5 closed
    (of_decide_eq_true (by kernel_rfl)) (by unfold Func.isWrapper; rw [if_neg (of_decide_eq_false (by kernel_rfl))]; exact ⟨rfl, rfl⟩)
    (fun os started H enc _ => lifted os started H enc)

/-- The statement. -/
theorem proved : Rows.FnMakeStaticErrorZeroLocAgreesWithMsgOnlySaid :=
  over
#print axioms proved
end Go.Proofs.Ytjihpmhcalpljaa.fnMakeStaticErrorZeroLocAgreesWithMsgOnly
