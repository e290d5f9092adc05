/-
  Proved: Rows.FnCheckWhitespaceMatchesModelSaid, for every input the law FnCheckWhitespaceMatchesModel returns true; no condition of mine.
  The frame behind the walk was written by the kit's program proof-skeleton.mjs; the walk is mine.
-/
import Derived.Test.YtkbbkfggkacplaaRows
import Derived.Test.YtkbbkfggkacplaaPost
import Derived.Test.YtkbbkfggkacplaaHead
import Derived.Test.YtkbbkfggkacplaaKeys
import Derived.WalkKit
import Derived.ProofKit
import Derived.OpenShut
import Derived.ShutString
namespace Go.Proofs.Ytkbbkfggkacplaa.fnCheckWhitespaceMatchesModel
open Go.ChangeShapes Go.WideShapes Go.ChangeAt Go.RowKit
open Go.ChangeMaps (open_string shut_string)
set_option linter.unusedVariables false      -- a walk need not use every 'w<i>' (that an integer argument fits its kind)

theorem own : ownKnob Try.prog.godebug = none := by kernel_rfl

/-! ### The walk -/
theorem walk (a0 : ByteArray) (a1 : ByteArray) (w0 : a0.size ≤ maxLen) (w1 : a1.size ≤ maxLen) (w : World) :
    Calls Try.prog 5 #[.string a0, .string a1] w fun e w' => e = .returned (.bool true) ∧ Below w.heap.size w w' := by
  have hwl := wsLen_le a0.data.toList
  rw [Array.length_toList] at hwl
  have hwl : wsLen a0.data.toList ≤ a0.size := hwl
  by_cases ha : a0.size ≤ 524288
  · by_cases hb : a1.size ≤ 524288
    · by_cases hp : begins a1.data.toList (List.take (wsLen a0.data.toList) a0.data.toList) = true
      · have HM : Hid (cwL a0.data.toList a1.data.toList 0 = wsLen a0.data.toList) := by
          show _ = _
          rw [cwL_model, if_pos hp, Nat.zero_add]
        go_enter Try.func5, Try.ntmps5
        go_wp2_with fail
        refine (bytes14_any _ _ _).mono ?_
        rintro e w' ⟨bb, rfl, rfl⟩
        cases bb
        · go_wp2
          go_ret
          exact ⟨rfl, Below.refl _ _⟩
        · go_wp2_with (first | (go_at_call 15; refine (wsLen_any _ _ (by omega)).mono ?_; rintro e w' ⟨rfl, rfl⟩) | (go_at_call 16; refine (begins_any _ _ _ (by omega)).mono ?_; rintro e w' ⟨rfl, n, rfl⟩) | (go_at_call 17; refine (zzCheck_any _ _ _ (by omega)).mono ?_; rintro e w' ⟨rfl, n', rfl⟩))
          go_ret
          exact ⟨ret_bool (by rw [HM.out]; simp), below_drewN (Below.refl _ _) _⟩
      · have hp : begins a1.data.toList (List.take (wsLen a0.data.toList) a0.data.toList) = false := by simpa using hp
        have HM : Hid (cwL a0.data.toList a1.data.toList 0 = 0) := by
          show _ = _
          rw [cwL_model, hp]
          rfl
        go_enter Try.func5, Try.ntmps5
        go_wp2_with fail
        refine (bytes14_any _ _ _).mono ?_
        rintro e w' ⟨bb, rfl, rfl⟩
        cases bb
        · go_wp2
          go_ret
          exact ⟨rfl, Below.refl _ _⟩
        · go_wp2_with (first | (go_at_call 15; refine (wsLen_any _ _ (by omega)).mono ?_; rintro e w' ⟨rfl, rfl⟩) | (go_at_call 16; refine (begins_any _ _ _ (by omega)).mono ?_; rintro e w' ⟨rfl, n, rfl⟩) | (go_at_call 17; refine (zzCheck_any _ _ _ (by omega)).mono ?_; rintro e w' ⟨rfl, n', rfl⟩))
          go_ret
          exact ⟨ret_bool (by rw [HM.out]; simp), below_drewN (Below.refl _ _) _⟩
    · go_enter Try.func5, Try.ntmps5
      go_wp2_with fail
      refine (bytes14_any _ _ _).mono ?_
      rintro e w' ⟨bb, rfl, rfl⟩
      cases bb
      · go_wp2
        go_ret
        exact ⟨rfl, Below.refl _ _⟩
      · go_wp2
        go_ret
        exact ⟨rfl, Below.refl _ _⟩
  · go_enter Try.func5, Try.ntmps5
    go_wp2_with fail
    refine (bytes14_any _ _ _).mono ?_
    rintro e w' ⟨bb, rfl, rfl⟩
    cases bb
    · go_wp2
      go_ret
      exact ⟨rfl, Below.refl _ _⟩
    · go_wp2
      go_ret
      exact ⟨rfl, Below.refl _ _⟩

/-! ### THE ROW's STEP: WRITTEN OUT: LEAVE IT -/
set_option maxRecDepth 100000 in
theorem lifted (os : Os) (started : os.Started) (H : Type) (enc : TypeId × Value → H) :
    ReturnsInHanded {} Try.checked os 5 .any (Rows.fnCheckWhitespaceMatchesModelSpec.pre6 enc Try.prog Try.f5 Rows.fnCheckWhitespaceMatchesModelRow.domain false) (Rows.fnCheckWhitespaceMatchesModelSpec.post enc Try.prog Try.f5 false true false false) := by
  refine returnsInHanded_of_change (C := Try.checked) own started (by kernel_rfl) Try.func5
    (ChangeSpec.witness6 (enc := enc) (C := Try.checked) false ⟨#[], #[.string ByteArray.empty, .string ByteArray.empty], []⟩ 8 (by kernel_rfl) (by kernel_rfl) (by kernel_rfl) (by kernel_rfl)) ?_
  intro W base args ds gs before hval0 hW hcnd _
  have hval : ∀ (j : Nat) t v, Try.f5.params[j]? = some t → args[j]? = some v → Value.okWide Try.prog W .any base t v := hval0
  have hW' := hW
  obtain ⟨p, q, hA0, hV, rfl, hfz, hnd⟩ := hW
  have hA : DataW.TrodAll enc Try.prog W 0 (fun _ => true) true Try.f5.params.toList args.toList ds p := hA0
  rw [Try.params5] at hA hval
  obtain ⟨v0, vs0, d0, ds0, p0, q0, hargs, rfl, rfl, h0, r0⟩ := trodAll_cons hA
  obtain ⟨v1, vs1, d1, ds1, p1, q1, rfl, rfl, rfl, h1, r1⟩ := trodAll_cons r0
  obtain ⟨rfl, rfl, rfl⟩ := trodAll_nil r1
  obtain rfl : args = #[v0, v1] := by cases args; simp_all
  obtain ⟨rfl, rfl⟩ := trodVars_none hV
  obtain ⟨a0, rfl, rfl, rfl, w0⟩ := open_string Try.underlying9 (hval 0 9 v0 rfl rfl) h0
  obtain ⟨a1, rfl, rfl, rfl, w1⟩ := open_string Try.underlying9 (hval 1 9 v1 rfl rfl) h1
  clear hA0 hval0
  simp only [List.append_nil] at hW'
  refine (walk a0 a1 w0 w1 W).mono fun e W' ⟨he, hg⟩ => ?_
  subst he
  exact ⟨_, rfl, post_of_below (pa := []) (pv := []) hW' (fun _ _ _ => (trodAll_cons_mk (shut_bool Try.underlying4 _) trodAll_mk0)) (fun sp _ => (trodAll_cons_mk (shut_string Try.underlying9 w0) (trodAll_cons_mk (shut_string Try.underlying9 w1) trodAll_mk0))) (fun _ _ => rfl) rfl hg
    (ok_one (by kernel_rfl) rfl (okWide_bool_mk Try.underlying4 _))⟩

theorem closed : joinedFacts Try.prog 5 Try.f5 Rows.fnCheckWhitespaceMatchesModelSpec Rows.fnCheckWhitespaceMatchesModelRow = true := by
  simp only [joinedFacts, Bool.and_eq_true]
  repeat' refine And.intro ?_ ?_
  all_goals first | (with_reducible exact enters) | (with_reducible exact lifted_of rfl) | (with_reducible exact made_of rfl) | (as_aux_lemma => kernel_rfl)
theorem over : Rows.fnCheckWhitespaceMatchesModelRow.holds Try.pinned (OpenSpec.ofChange Rows.fnCheckWhitespaceMatchesModelSpec) :=
  OpenClaim.holds_of_wide 5 Try.f5 rfl rfl rfl rfl rfl rfl rfl ⟨rfl, rfl, rfl, rfl, rfl⟩ rfl rfl rfl rfl rfl (by kernel_rfl) Try.func5 closed
    (of_decide_eq_true (by kernel_rfl)) (by unfold Func.isWrapper; rw [if_neg (of_decide_eq_false (by kernel_rfl))]; exact ⟨rfl, rfl⟩)
    (fun os started H enc _ => lifted os started H enc)

/-- The statement. -/
theorem proved : Rows.FnCheckWhitespaceMatchesModelSaid :=
  over
#print axioms proved
end Go.Proofs.Ytkbbkfggkacplaa.fnCheckWhitespaceMatchesModel
