/-
  Proved: Rows.FnCheckWhitespaceTransitiveSaid, for every input the law FnCheckWhitespaceTransitive returns true; no condition of mine.
  The frame behind the walk was written by the kit's program proof-skeleton.mjs; the walk is mine.
-/
import Derived.Test.YtkbbkfggkacplaaRows
import Derived.Test.YtkbbkfggkacplaaPost
import Derived.Test.YtkbbkfggkacplaaHead
import Derived.Test.YtkbbkfggkacplaaKeys
import Derived.WalkKit
import Derived.ProofKit
import Derived.OpenShut
import Derived.ShutString
namespace Go.Proofs.Ytkbbkfggkacplaa.fnCheckWhitespaceTransitive
open Go.ChangeShapes Go.WideShapes Go.ChangeAt Go.RowKit
open Go.ChangeMaps (open_string shut_string)
set_option linter.unusedVariables false      -- a walk need not use every 'w<i>' (that an integer argument fits its kind)

theorem own : ownKnob Try.prog.godebug = none := by kernel_rfl

/-! ### The walk -/
theorem walk (a0 : ByteArray) (a1 : ByteArray) (a2 : ByteArray) (w0 : a0.size ≤ maxLen) (w1 : a1.size ≤ maxLen) (w2 : a2.size ≤ maxLen) (w : World) :
    Calls Try.prog 8 #[.string a0, .string a1, .string a2] w fun e w' => e = .returned (.bool true) ∧ Below w.heap.size w w' := by
  by_cases ha : a0.size ≤ 262144
  · by_cases hb : a1.size ≤ 262144
    · by_cases hc : a2.size ≤ 262144
      · by_cases hz : cwL a0.data.toList a1.data.toList 0 = 0
        · have hzb : ((cwL a0.data.toList a1.data.toList 0 : Int) == 0) = true := by simp [hz]
          clear hz
          go_enter Try.func8, Try.ntmps8
          go_wp2_with fail
          refine (bytes19_any _ _ _ _).mono ?_
          rintro e w' ⟨bb, rfl, rfl⟩
          cases bb
          · go_wp2
            go_ret
            exact ⟨rfl, Below.refl _ _⟩
          · go_wp2_with fail
            refine (zzCheck_any _ _ _ (by omega)).mono ?_
            rintro e w' ⟨rfl, n, rfl⟩
            go_wp2
            go_ret
            exact ⟨rfl, below_drewN (Below.refl _ _) _⟩
        · have hzb : ((cwL a0.data.toList a1.data.toList 0 : Int) == 0) = false := by simpa using hz
          by_cases hy : cwL a1.data.toList a2.data.toList 0 = 0
          · have hyb : ((cwL a1.data.toList a2.data.toList 0 : Int) == 0) = true := by simp [hy]
            clear hy hz
            go_enter Try.func8, Try.ntmps8
            go_wp2_with fail
            refine (bytes19_any _ _ _ _).mono ?_
            rintro e w' ⟨bb, rfl, rfl⟩
            cases bb
            · go_wp2
              go_ret
              exact ⟨rfl, Below.refl _ _⟩
            · go_wp2_with fail
              refine (zzCheck_any _ _ _ (by omega)).mono ?_
              rintro e w' ⟨rfl, n, rfl⟩
              go_wp2_with fail
              refine (zzCheck_any _ _ _ (by omega)).mono ?_
              rintro e w' ⟨rfl, n', rfl⟩
              go_wp2
              go_ret
              exact ⟨rfl, below_drewN (Below.refl _ _) _⟩
          · have hyb : ((cwL a1.data.toList a2.data.toList 0 : Int) == 0) = false := by simpa using hy
            have HM : Hid (cwL a0.data.toList a2.data.toList 0 = cwL a0.data.toList a1.data.toList 0) := cwL_trans _ _ _ 0 0 hz hy
            clear hy hz
            go_enter Try.func8, Try.ntmps8
            go_wp2_with fail
            refine (bytes19_any _ _ _ _).mono ?_
            rintro e w' ⟨bb, rfl, rfl⟩
            cases bb
            · go_wp2
              go_ret
              exact ⟨rfl, Below.refl _ _⟩
            · go_wp2_with fail
              refine (zzCheck_any _ _ _ (by omega)).mono ?_
              rintro e w' ⟨rfl, n, rfl⟩
              go_wp2_with fail
              refine (zzCheck_any _ _ _ (by omega)).mono ?_
              rintro e w' ⟨rfl, n', rfl⟩
              go_wp2_with fail
              refine (zzCheck_any _ _ _ (by omega)).mono ?_
              rintro e w' ⟨rfl, n'', rfl⟩
              go_wp2
              go_ret
              exact ⟨ret_bool (by rw [HM.out]; simp), below_drewN (Below.refl _ _) _⟩
      · go_enter Try.func8, Try.ntmps8
        go_wp2_with fail
        refine (bytes19_any _ _ _ _).mono ?_
        rintro e w' ⟨bb, rfl, rfl⟩
        cases bb
        · go_wp2
          go_ret
          exact ⟨rfl, Below.refl _ _⟩
        · go_wp2
          go_ret
          exact ⟨rfl, Below.refl _ _⟩
    · go_enter Try.func8, Try.ntmps8
      go_wp2_with fail
      refine (bytes19_any _ _ _ _).mono ?_
      rintro e w' ⟨bb, rfl, rfl⟩
      cases bb
      · go_wp2
        go_ret
        exact ⟨rfl, Below.refl _ _⟩
      · go_wp2
        go_ret
        exact ⟨rfl, Below.refl _ _⟩
  · go_enter Try.func8, Try.ntmps8
    go_wp2_with fail
    refine (bytes19_any _ _ _ _).mono ?_
    rintro e w' ⟨bb, rfl, rfl⟩
    cases bb
    · go_wp2
      go_ret
      exact ⟨rfl, Below.refl _ _⟩
    · go_wp2
      go_ret
      exact ⟨rfl, Below.refl _ _⟩

/-! ### THE ROW's STEP: WRITTEN OUT: LEAVE IT -/
set_option maxRecDepth 100000 in
theorem lifted (os : Os) (started : os.Started) (H : Type) (enc : TypeId × Value → H) :
    ReturnsInHanded {} Try.checked os 8 .any (Rows.fnCheckWhitespaceTransitiveSpec.pre6 enc Try.prog Try.f8 Rows.fnCheckWhitespaceTransitiveRow.domain false) (Rows.fnCheckWhitespaceTransitiveSpec.post enc Try.prog Try.f8 false true false false) := by
  refine returnsInHanded_of_change (C := Try.checked) own started (by kernel_rfl) Try.func8
    (ChangeSpec.witness6 (enc := enc) (C := Try.checked) false ⟨#[], #[.string ByteArray.empty, .string ByteArray.empty, .string ByteArray.empty], []⟩ 8 (by kernel_rfl) (by kernel_rfl) (by kernel_rfl) (by kernel_rfl)) ?_
  intro W base args ds gs before hval0 hW hcnd _
  have hval : ∀ (j : Nat) t v, Try.f8.params[j]? = some t → args[j]? = some v → Value.okWide Try.prog W .any base t v := hval0
  have hW' := hW
  obtain ⟨p, q, hA0, hV, rfl, hfz, hnd⟩ := hW
  have hA : DataW.TrodAll enc Try.prog W 0 (fun _ => true) true Try.f8.params.toList args.toList ds p := hA0
  rw [Try.params8] at hA hval
  obtain ⟨v0, vs0, d0, ds0, p0, q0, hargs, rfl, rfl, h0, r0⟩ := trodAll_cons hA
  obtain ⟨v1, vs1, d1, ds1, p1, q1, rfl, rfl, rfl, h1, r1⟩ := trodAll_cons r0
  obtain ⟨v2, vs2, d2, ds2, p2, q2, rfl, rfl, rfl, h2, r2⟩ := trodAll_cons r1
  obtain ⟨rfl, rfl, rfl⟩ := trodAll_nil r2
  obtain rfl : args = #[v0, v1, v2] := by cases args; simp_all
  obtain ⟨rfl, rfl⟩ := trodVars_none hV
  obtain ⟨a0, rfl, rfl, rfl, w0⟩ := open_string Try.underlying9 (hval 0 9 v0 rfl rfl) h0
  obtain ⟨a1, rfl, rfl, rfl, w1⟩ := open_string Try.underlying9 (hval 1 9 v1 rfl rfl) h1
  obtain ⟨a2, rfl, rfl, rfl, w2⟩ := open_string Try.underlying9 (hval 2 9 v2 rfl rfl) h2
  clear hA0 hval0
  simp only [List.append_nil] at hW'
  refine (walk a0 a1 a2 w0 w1 w2 W).mono fun e W' ⟨he, hg⟩ => ?_
  subst he
  exact ⟨_, rfl, post_of_below (pa := []) (pv := []) hW' (fun _ _ _ => (trodAll_cons_mk (shut_bool Try.underlying4 _) trodAll_mk0)) (fun sp _ => (trodAll_cons_mk (shut_string Try.underlying9 w0) (trodAll_cons_mk (shut_string Try.underlying9 w1) (trodAll_cons_mk (shut_string Try.underlying9 w2) trodAll_mk0)))) (fun _ _ => rfl) rfl hg
    (ok_one (by kernel_rfl) rfl (okWide_bool_mk Try.underlying4 _))⟩

theorem closed : joinedFacts Try.prog 8 Try.f8 Rows.fnCheckWhitespaceTransitiveSpec Rows.fnCheckWhitespaceTransitiveRow = true := by
  simp only [joinedFacts, Bool.and_eq_true]
  repeat' refine And.intro ?_ ?_
  all_goals first | (with_reducible exact enters) | (with_reducible exact lifted_of rfl) | (with_reducible exact made_of rfl) | (as_aux_lemma => kernel_rfl)
theorem over : Rows.fnCheckWhitespaceTransitiveRow.holds Try.pinned (OpenSpec.ofChange Rows.fnCheckWhitespaceTransitiveSpec) :=
  OpenClaim.holds_of_wide 8 Try.f8 rfl rfl rfl rfl rfl rfl rfl ⟨rfl, rfl, rfl, rfl, rfl⟩ rfl rfl rfl rfl rfl (by kernel_rfl) Try.func8 closed
    (of_decide_eq_true (by kernel_rfl)) (by unfold Func.isWrapper; rw [if_neg (of_decide_eq_false (by kernel_rfl))]; exact ⟨rfl, rfl⟩)
    (fun os started H enc _ => lifted os started H enc)

/-- The statement. -/
theorem proved : Rows.FnCheckWhitespaceTransitiveSaid :=
  over
#print axioms proved
end Go.Proofs.Ytkbbkfggkacplaa.fnCheckWhitespaceTransitive
