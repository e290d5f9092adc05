/-
  Proved: Rows.FnTighterPrecedenceStepsSaturateSaid, for every input the law FnTighterPrecedenceStepsSaturate returns true; no condition of mine.
  The frame behind the walk was written by the kit's program proof-skeleton.mjs; the walk is mine.
-/
import Derived.Test.YtkbbkfggkacplaaRows
import Derived.Test.YtkbbkfggkacplaaPost
import Derived.Test.YtkbbkfggkacplaaHead
import Derived.Test.YtkbbkfggkacplaaKeys
import Derived.WalkKit
import Derived.ProofKit
import Derived.OpenShut
import Derived.ShutString
namespace Go.Proofs.Ytkbbkfggkacplaa.fnTighterPrecedenceStepsSaturate
open Go.ChangeShapes Go.WideShapes Go.ChangeAt Go.RowKit
open Go.ChangeMaps (open_string shut_string)
set_option linter.unusedVariables false      -- a walk need not use every 'w<i>' (that an integer argument fits its kind)

theorem own : ownKnob Try.prog.godebug = none := by kernel_rfl

/-! ### The walk -/
theorem walk (a0 : Int) (a1 : Int) (w0 : (Lit.int .i64 a0).wf = true) (w1 : (Lit.int .i64 a1).wf = true) (w : World) :
    Calls Try.prog 7 #[.int .i64 a0, .int .i64 a1] w fun e w' => e = .returned (.bool true) ∧ Below w.heap.size w w' := by
  obtain ⟨hp0, hp1⟩ := bounds_i64 w0
  obtain ⟨hq0, hq1⟩ := bounds_i64 w1
  by_cases h1 : a0 < 1
  · go_enter Try.func7, Try.ntmps7
    go_wp2
    go_ret
    exact ⟨rfl, Below.refl _ _⟩
  · by_cases h2 : a1 < 0
    · go_enter Try.func7, Try.ntmps7
      go_wp2
      go_ret
      exact ⟨rfl, Below.refl _ _⟩
    · by_cases h3 : 65536 < a1
      · go_enter Try.func7, Try.ntmps7
        go_wp2
        go_ret
        exact ⟨rfl, Below.refl _ _⟩
      · go_enter Try.func7, Try.ntmps7
        go_wp2
        go_loop [5, 6] (fun c i => ∃ n k : Int, 1 ≤ n ∧ n ≤ a0 ∧ 0 ≤ k ∧ k ≤ a1 ∧ c = .int .i64 n ∧ i = .int .i64 k ∧ Hid (n = 1 ∧ a0 - k ≤ 1 ∨ n = a0 - k)) (fun _ i => (a1 - intOf i).toNat)
        case atStart => exact ⟨a0, 0, by omega, by omega, by omega, by omega, rfl, rfl, .inr (by omega)⟩
        case round =>
          obtain ⟨n, k, hn1, hn2, hk1, hk2, rfl, rfl, hr⟩ := hrel
          by_cases hlt : k < a1
          · by_cases e : n = 1
            · subst e
              go_wp2_with (go_at_call 10; refine (tight_one _).mono ?_; rintro e w' ⟨rfl, rfl⟩)
              go_round
              case rel => exact ⟨1, k + 1, by omega, by omega, by omega, by omega, rfl, rfl, .inl (by rcases hr.out with h | h <;> omega)⟩
              case measure => simp [intOf]; omega
            · have hn3 : 2 ≤ n := by omega
              go_wp2_with (go_at_call 10; refine (tight_more _ _ (by omega) (by omega)).mono ?_; rintro e w' ⟨rfl, rfl⟩)
              go_round
              case rel => exact ⟨n - 1, k + 1, by omega, by omega, by omega, by omega, rfl, rfl, by
                rcases hr.out with h | h
                · exact absurd h.1 e
                · exact .inr (by omega)⟩
              case measure => simp [intOf]; omega
          · have hk : k = a1 := by omega
            subst hk
            by_cases hd : 1 < a0 - k
            · obtain rfl : n = a0 - k := by rcases hr.out with h | h <;> omega
              go_wp2
              go_ret
              exact ⟨ret_bool (by simp), Below.refl _ _⟩
            · obtain rfl : n = 1 := by rcases hr.out with h | h <;> omega
              go_wp2
              go_ret
              exact ⟨ret_bool (by simp), Below.refl _ _⟩

/-! ### THE ROW's STEP: WRITTEN OUT: LEAVE IT -/
set_option maxRecDepth 100000 in
theorem lifted (os : Os) (started : os.Started) (H : Type) (enc : TypeId × Value → H) :
    ReturnsInHanded {} Try.checked os 7 .any (Rows.fnTighterPrecedenceStepsSaturateSpec.pre6 enc Try.prog Try.f7 Rows.fnTighterPrecedenceStepsSaturateRow.domain false) (Rows.fnTighterPrecedenceStepsSaturateSpec.post enc Try.prog Try.f7 false true false false) := by
  refine returnsInHanded_of_change (C := Try.checked) own started (by kernel_rfl) Try.func7
    (ChangeSpec.witness6 (enc := enc) (C := Try.checked) false ⟨#[], #[.int .i64 0, .int .i64 0], []⟩ 8 (by kernel_rfl) (by kernel_rfl) (by kernel_rfl) (by kernel_rfl)) ?_
  intro W base args ds gs before hval0 hW hcnd _
  have hval : ∀ (j : Nat) t v, Try.f7.params[j]? = some t → args[j]? = some v → Value.okWide Try.prog W .any base t v := hval0
  have hW' := hW
  obtain ⟨p, q, hA0, hV, rfl, hfz, hnd⟩ := hW
  have hA : DataW.TrodAll enc Try.prog W 0 (fun _ => true) true Try.f7.params.toList args.toList ds p := hA0
  rw [Try.params7] at hA hval
  obtain ⟨v0, vs0, d0, ds0, p0, q0, hargs, rfl, rfl, h0, r0⟩ := trodAll_cons hA
  obtain ⟨v1, vs1, d1, ds1, p1, q1, rfl, rfl, rfl, h1, r1⟩ := trodAll_cons r0
  obtain ⟨rfl, rfl, rfl⟩ := trodAll_nil r1
  obtain rfl : args = #[v0, v1] := by cases args; simp_all
  obtain ⟨rfl, rfl⟩ := trodVars_none hV
  obtain ⟨a0, rfl, rfl, rfl, w0⟩ := open_int Try.underlying3 (hval 0 3 v0 rfl rfl) h0
  obtain ⟨a1, rfl, rfl, rfl, w1⟩ := open_int Try.underlying3 (hval 1 3 v1 rfl rfl) h1
  clear hA0 hval0
  simp only [List.append_nil] at hW'
  refine (walk a0 a1 w0 w1 W).mono fun e W' ⟨he, hg⟩ => ?_
  subst he
  exact ⟨_, rfl, post_of_below (pa := []) (pv := []) hW' (fun _ _ _ => (trodAll_cons_mk (shut_bool Try.underlying4 _) trodAll_mk0)) (fun sp _ => (trodAll_cons_mk (shut_int Try.underlying3 w0) (trodAll_cons_mk (shut_int Try.underlying3 w1) trodAll_mk0))) (fun _ _ => rfl) rfl hg
    (ok_one (by kernel_rfl) rfl (okWide_bool_mk Try.underlying4 _))⟩

theorem closed : joinedFacts Try.prog 7 Try.f7 Rows.fnTighterPrecedenceStepsSaturateSpec Rows.fnTighterPrecedenceStepsSaturateRow = true := by
  simp only [joinedFacts, Bool.and_eq_true]
  repeat' refine And.intro ?_ ?_
  all_goals first | (with_reducible exact enters) | (with_reducible exact lifted_of rfl) | (with_reducible exact made_of rfl) | (as_aux_lemma => kernel_rfl)
theorem over : Rows.fnTighterPrecedenceStepsSaturateRow.holds Try.pinned (OpenSpec.ofChange Rows.fnTighterPrecedenceStepsSaturateSpec) :=
  OpenClaim.holds_of_wide 7 Try.f7 rfl rfl rfl rfl rfl rfl rfl ⟨rfl, rfl, rfl, rfl, rfl⟩ rfl rfl rfl rfl rfl (by kernel_rfl) Try.func7 closed
    (of_decide_eq_true (by kernel_rfl)) (by unfold Func.isWrapper; rw [if_neg (of_decide_eq_false (by kernel_rfl))]; exact ⟨rfl, rfl⟩)
    (fun os started H enc _ => lifted os started H enc)

/-- The statement. -/
theorem proved : Rows.FnTighterPrecedenceStepsSaturateSaid :=
  over
#print axioms proved
end Go.Proofs.Ytkbbkfggkacplaa.fnTighterPrecedenceStepsSaturate
