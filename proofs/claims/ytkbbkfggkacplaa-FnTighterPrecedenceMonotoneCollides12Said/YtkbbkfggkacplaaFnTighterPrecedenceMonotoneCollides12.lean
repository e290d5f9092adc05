/-
  Proved: Rows.FnTighterPrecedenceMonotoneCollides12Said, for every input the law FnTighterPrecedenceMonotoneCollides12 returns true; no condition of mine.
  The frame behind the walk was written by the kit's program proof-skeleton.mjs; the walk is mine.
-/
import Derived.Test.YtkbbkfggkacplaaRows
import Derived.Test.YtkbbkfggkacplaaPost
import Derived.Test.YtkbbkfggkacplaaHead
import Derived.Test.YtkbbkfggkacplaaKeys
import Derived.WalkKit
import Derived.ProofKit
import Derived.OpenShut
import Derived.ShutString
namespace Go.Proofs.Ytkbbkfggkacplaa.fnTighterPrecedenceMonotoneCollides12
open Go.ChangeShapes Go.WideShapes Go.ChangeAt Go.RowKit
open Go.ChangeMaps (open_string shut_string)
set_option linter.unusedVariables false      -- a walk need not use every 'w<i>' (that an integer argument fits its kind)

theorem own : ownKnob Try.prog.godebug = none := by kernel_rfl

/-! ### The walk -/
theorem walk (a0 : Int) (a1 : Int) (w0 : (Lit.int .i64 a0).wf = true) (w1 : (Lit.int .i64 a1).wf = true) (w : World) :
    Calls Try.prog 3 #[.int .i64 a0, .int .i64 a1] w fun e w' => e = .returned (.bool true) ∧ Below w.heap.size w w' := by
  obtain ⟨hp0, hp1⟩ := bounds_i64 w0
  obtain ⟨hq0, hq1⟩ := bounds_i64 w1
  by_cases h1 : a0 < 1
  · go_enter Try.func3, Try.ntmps3
    go_wp2
    go_ret
    refine ⟨?_, Below.refl _ _⟩; first | rfl | (refine ret_bool ?_; rw [beq_iff_eq, Bool.eq_iff_iff]; simp; omega) | (refine ret_bool ?_; simp; omega) | (refine ret_bool ?_; rw [beq_iff_eq, Bool.eq_iff_iff, beq_iff_eq, beq_iff_eq]; omega)
  · by_cases h2 : a1 < 1
    · go_enter Try.func3, Try.ntmps3
      go_wp2
      go_ret
      refine ⟨?_, Below.refl _ _⟩; first | rfl | (refine ret_bool ?_; rw [beq_iff_eq, Bool.eq_iff_iff]; simp; omega) | (refine ret_bool ?_; simp; omega) | (refine ret_bool ?_; rw [beq_iff_eq, Bool.eq_iff_iff, beq_iff_eq, beq_iff_eq]; omega)
    · by_cases e0 : a0 = 1
      · subst e0
        by_cases e1 : a1 = 1
        · subst e1
          go_enter Try.func3, Try.ntmps3
          go_wp2
          go_ret
          refine ⟨?_, Below.refl _ _⟩; first | rfl | (refine ret_bool ?_; rw [beq_iff_eq, Bool.eq_iff_iff]; simp; omega) | (refine ret_bool ?_; simp; omega) | (refine ret_bool ?_; rw [beq_iff_eq, Bool.eq_iff_iff, beq_iff_eq, beq_iff_eq]; omega)
        · by_cases e2 : a1 = 2
          · subst e2
            go_enter Try.func3, Try.ntmps3
            go_wp2
            go_ret
            refine ⟨?_, Below.refl _ _⟩; first | rfl | (refine ret_bool ?_; rw [beq_iff_eq, Bool.eq_iff_iff]; simp; omega) | (refine ret_bool ?_; simp; omega) | (refine ret_bool ?_; rw [beq_iff_eq, Bool.eq_iff_iff, beq_iff_eq, beq_iff_eq]; omega)
          · have h3 : 3 ≤ a1 := by omega
            go_enter Try.func3, Try.ntmps3
            go_wp2
            go_ret
            refine ⟨?_, Below.refl _ _⟩; first | rfl | (refine ret_bool ?_; rw [beq_iff_eq, Bool.eq_iff_iff]; simp; omega) | (refine ret_bool ?_; simp; omega) | (refine ret_bool ?_; rw [beq_iff_eq, Bool.eq_iff_iff, beq_iff_eq, beq_iff_eq]; omega)
      · by_cases e1 : a1 = 1
        · subst e1
          by_cases e2 : a0 = 2
          · subst e2
            go_enter Try.func3, Try.ntmps3
            go_wp2
            go_ret
            refine ⟨?_, Below.refl _ _⟩; first | rfl | (refine ret_bool ?_; rw [beq_iff_eq, Bool.eq_iff_iff]; simp; omega) | (refine ret_bool ?_; simp; omega) | (refine ret_bool ?_; rw [beq_iff_eq, Bool.eq_iff_iff, beq_iff_eq, beq_iff_eq]; omega)
          · have h3 : 3 ≤ a0 := by omega
            go_enter Try.func3, Try.ntmps3
            go_wp2
            go_ret
            refine ⟨?_, Below.refl _ _⟩; first | rfl | (refine ret_bool ?_; rw [beq_iff_eq, Bool.eq_iff_iff]; simp; omega) | (refine ret_bool ?_; simp; omega) | (refine ret_bool ?_; rw [beq_iff_eq, Bool.eq_iff_iff, beq_iff_eq, beq_iff_eq]; omega)
        · have g0 : 2 ≤ a0 := by omega
          have g1 : 2 ≤ a1 := by omega
          by_cases e : a0 = a1
          · subst e
            go_enter Try.func3, Try.ntmps3
            go_wp2
            go_ret
            refine ⟨?_, Below.refl _ _⟩; first | rfl | (refine ret_bool ?_; rw [beq_iff_eq, Bool.eq_iff_iff]; simp; omega) | (refine ret_bool ?_; simp; omega) | (refine ret_bool ?_; rw [beq_iff_eq, Bool.eq_iff_iff, beq_iff_eq, beq_iff_eq]; omega)
          · by_cases hlt : a0 < a1
            · go_enter Try.func3, Try.ntmps3
              go_wp2
              all_goals
                go_ret
                refine ⟨?_, Below.refl _ _⟩; first | rfl | (refine ret_bool ?_; rw [beq_iff_eq, Bool.eq_iff_iff]; simp; omega) | (refine ret_bool ?_; simp; omega) | (refine ret_bool ?_; rw [beq_iff_eq, Bool.eq_iff_iff, beq_iff_eq, beq_iff_eq]; omega)
            · have hgt : a1 < a0 := by omega
              go_enter Try.func3, Try.ntmps3
              go_wp2
              all_goals
                go_ret
                refine ⟨?_, Below.refl _ _⟩; first | rfl | (refine ret_bool ?_; rw [beq_iff_eq, Bool.eq_iff_iff]; simp; omega) | (refine ret_bool ?_; simp; omega) | (refine ret_bool ?_; rw [beq_iff_eq, Bool.eq_iff_iff, beq_iff_eq, beq_iff_eq]; omega)

/-! ### THE ROW's STEP: WRITTEN OUT: LEAVE IT -/
set_option maxRecDepth 100000 in
theorem lifted (os : Os) (started : os.Started) (H : Type) (enc : TypeId × Value → H) :
    ReturnsInHanded {} Try.checked os 3 .any (Rows.fnTighterPrecedenceMonotoneCollides12Spec.pre6 enc Try.prog Try.f3 Rows.fnTighterPrecedenceMonotoneCollides12Row.domain false) (Rows.fnTighterPrecedenceMonotoneCollides12Spec.post enc Try.prog Try.f3 false true false false) := by
  refine returnsInHanded_of_change (C := Try.checked) own started (by kernel_rfl) Try.func3
    (ChangeSpec.witness6 (enc := enc) (C := Try.checked) false ⟨#[], #[.int .i64 0, .int .i64 0], []⟩ 8 (by kernel_rfl) (by kernel_rfl) (by kernel_rfl) (by kernel_rfl)) ?_
  intro W base args ds gs before hval0 hW hcnd _
  have hval : ∀ (j : Nat) t v, Try.f3.params[j]? = some t → args[j]? = some v → Value.okWide Try.prog W .any base t v := hval0
  have hW' := hW
  obtain ⟨p, q, hA0, hV, rfl, hfz, hnd⟩ := hW
  have hA : DataW.TrodAll enc Try.prog W 0 (fun _ => true) true Try.f3.params.toList args.toList ds p := hA0
  rw [Try.params3] at hA hval
  obtain ⟨v0, vs0, d0, ds0, p0, q0, hargs, rfl, rfl, h0, r0⟩ := trodAll_cons hA
  obtain ⟨v1, vs1, d1, ds1, p1, q1, rfl, rfl, rfl, h1, r1⟩ := trodAll_cons r0
  obtain ⟨rfl, rfl, rfl⟩ := trodAll_nil r1
  obtain rfl : args = #[v0, v1] := by cases args; simp_all
  obtain ⟨rfl, rfl⟩ := trodVars_none hV
  obtain ⟨a0, rfl, rfl, rfl, w0⟩ := open_int Try.underlying3 (hval 0 3 v0 rfl rfl) h0
  obtain ⟨a1, rfl, rfl, rfl, w1⟩ := open_int Try.underlying3 (hval 1 3 v1 rfl rfl) h1
  clear hA0 hval0
  simp only [List.append_nil] at hW'
  refine (walk a0 a1 w0 w1 W).mono fun e W' ⟨he, hg⟩ => ?_
  subst he
  exact ⟨_, rfl, post_of_below (pa := []) (pv := []) hW' (fun _ _ _ => (trodAll_cons_mk (shut_bool Try.underlying4 _) trodAll_mk0)) (fun sp _ => (trodAll_cons_mk (shut_int Try.underlying3 w0) (trodAll_cons_mk (shut_int Try.underlying3 w1) trodAll_mk0))) (fun _ _ => rfl) rfl hg
    (ok_one (by kernel_rfl) rfl (okWide_bool_mk Try.underlying4 _))⟩

theorem closed : joinedFacts Try.prog 3 Try.f3 Rows.fnTighterPrecedenceMonotoneCollides12Spec Rows.fnTighterPrecedenceMonotoneCollides12Row = true := by
  simp only [joinedFacts, Bool.and_eq_true]
  repeat' refine And.intro ?_ ?_
  all_goals first | (with_reducible exact enters) | (with_reducible exact lifted_of rfl) | (with_reducible exact made_of rfl) | (as_aux_lemma => kernel_rfl)
theorem over : Rows.fnTighterPrecedenceMonotoneCollides12Row.holds Try.pinned (OpenSpec.ofChange Rows.fnTighterPrecedenceMonotoneCollides12Spec) :=
  OpenClaim.holds_of_wide 3 Try.f3 rfl rfl rfl rfl rfl rfl rfl ⟨rfl, rfl, rfl, rfl, rfl⟩ rfl rfl rfl rfl rfl (by kernel_rfl) Try.func3 closed
    (of_decide_eq_true (by kernel_rfl)) (by unfold Func.isWrapper; rw [if_neg (of_decide_eq_false (by kernel_rfl))]; exact ⟨rfl, rfl⟩)
    (fun os started H enc _ => lifted os started H enc)

/-- The statement. -/
theorem proved : Rows.FnTighterPrecedenceMonotoneCollides12Said :=
  over
#print axioms proved
end Go.Proofs.Ytkbbkfggkacplaa.fnTighterPrecedenceMonotoneCollides12
