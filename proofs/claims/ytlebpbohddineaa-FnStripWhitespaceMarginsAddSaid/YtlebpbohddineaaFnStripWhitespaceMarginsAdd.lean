/-
  Proved: Rows.FnStripWhitespaceMarginsAddSaid, for every input the law FnStripWhitespaceMarginsAdd returns true; no condition of mine.
  The frame behind the walk was written by the kit's program proof-skeleton.mjs; the walk is mine.
-/
import Derived.Test.YtlebpbohddineaaRows
import Derived.Test.YtlebpbohddineaaPost
import Derived.Test.YtlebpbohddineaaHead
import Derived.Test.YtlebpbohddineaaLaws
import Derived.WalkKit
import Derived.ProofKit
import Derived.OpenShut
import Derived.ShutString
namespace Go.Proofs.Ytlebpbohddineaa.fnStripWhitespaceMarginsAdd
open Go.ChangeShapes Go.WideShapes Go.ChangeAt Go.RowKit
open Go.ChangeMaps (open_string shut_string)
set_option linter.unusedVariables false      -- a walk need not use every 'w<i>' (that an integer argument fits its kind)

theorem own : ownKnob Try.prog.godebug = none := by kernel_rfl

/-! ### The walk -/
theorem walk (a0 : ByteArray) (a1 : Int) (a2 : Int) (w0 : a0.size ≤ maxLen) (w1 : (Lit.int .i64 a1).wf = true) (w2 : (Lit.int .i64 a2).wf = true) (w : World) :
    Calls Try.prog 7 #[.string a0, .int .i64 a1, .int .i64 a2] w fun e w' => e = .returned (.bool true) ∧ Below w.heap.size w w' := by
  obtain ⟨hp0, hp1⟩ := bounds_i64 w1
  obtain ⟨hq0, hq1⟩ := bounds_i64 w2
  by_cases hs : a0.size ≤ 1048576
  · by_cases ha : a1 < 0
    · go_enter Try.func7, Try.ntmps7
      go_wp2_with (go_at_call 15; refine (bytes15_any _ _ _ _).mono ?_; rintro e w' ⟨rfl, rfl⟩)
      go_ret
      exact ⟨rfl, Below.refl _ _⟩
    · by_cases hb : a2 < 0
      · go_enter Try.func7, Try.ntmps7
        go_wp2_with (go_at_call 15; refine (bytes15_any _ _ _ _).mono ?_; rintro e w' ⟨rfl, rfl⟩)
        go_ret
        exact ⟨rfl, Below.refl _ _⟩
      · by_cases hsum : 9223372036854775807 - a1 < a2
        · go_enter Try.func7, Try.ntmps7
          go_wp2_with (go_at_call 15; refine (bytes15_any _ _ _ _).mono ?_; rintro e w' ⟨rfl, rfl⟩)
          go_ret
          exact ⟨rfl, Below.refl _ _⟩
        · have HT := Lib.hid (strip_twice a0 a1 a2 (by omega) (by omega))
          have hsz := stripped_size a0 a1 hs
          go_enter Try.func7, Try.ntmps7
          go_wp2_with (go_at_call 15; refine (bytes15_any _ _ _ _).mono ?_; rintro e w' ⟨rfl, rfl⟩)
          refine (zzStrip_any _ _ _ (by omega) (by omega) (by omega)).mono ?_
          rintro e w1 ⟨rfl, hb1⟩
          go_wp2_with fail
          refine (zzStrip_any _ _ _ hsz (by omega) (by omega)).mono ?_
          rintro e w2 ⟨rfl, hb2⟩
          go_wp2_with fail
          refine (zzStrip_any _ _ _ (by omega) (by omega) (by omega)).mono ?_
          rintro e w3 ⟨rfl, hb3⟩
          go_wp2
          go_ret
          exact ⟨ret_bool (by rw [HT.out]; simp), hb1.trans ((hb2.mono hb1.size).trans (hb3.mono (Nat.le_trans hb1.size hb2.size)))⟩
  · have hd : decide (a0.size ≤ 1048576) = false := decide_eq_false hs
    go_enter Try.func7, Try.ntmps7
    go_wp2_with (go_at_call 15; refine (bytes15_any _ _ _ _).mono ?_; rintro e w' ⟨rfl, rfl⟩)
    go_ret
    exact ⟨rfl, Below.refl _ _⟩

/-! ### THE ROW's STEP: WRITTEN OUT: LEAVE IT -/
set_option maxRecDepth 100000 in
theorem lifted (os : Os) (started : os.Started) (H : Type) (enc : TypeId × Value → H) :
    ReturnsInHanded {} Try.checked os 7 .any (Rows.fnStripWhitespaceMarginsAddSpec.pre6 enc Try.prog Try.f7 Rows.fnStripWhitespaceMarginsAddRow.domain false) (Rows.fnStripWhitespaceMarginsAddSpec.post enc Try.prog Try.f7 false true false false) := by
  refine returnsInHanded_of_change (C := Try.checked) own started (by kernel_rfl) Try.func7
    (ChangeSpec.witness6 (enc := enc) (C := Try.checked) false ⟨#[], #[.string ByteArray.empty, .int .i64 0, .int .i64 0], []⟩ 8 (by kernel_rfl) (by kernel_rfl) (by kernel_rfl) (by kernel_rfl)) ?_
  intro W base args ds gs before hval0 hW hcnd _
  have hval : ∀ (j : Nat) t v, Try.f7.params[j]? = some t → args[j]? = some v → Value.okWide Try.prog W .any base t v := hval0
  have hW' := hW
  obtain ⟨p, q, hA0, hV, rfl, hfz, hnd⟩ := hW
  have hA : DataW.TrodAll enc Try.prog W 0 (fun _ => true) true Try.f7.params.toList args.toList ds p := hA0
  rw [Try.params7] at hA hval
  obtain ⟨v0, vs0, d0, ds0, p0, q0, hargs, rfl, rfl, h0, r0⟩ := trodAll_cons hA
  obtain ⟨v1, vs1, d1, ds1, p1, q1, rfl, rfl, rfl, h1, r1⟩ := trodAll_cons r0
  obtain ⟨v2, vs2, d2, ds2, p2, q2, rfl, rfl, rfl, h2, r2⟩ := trodAll_cons r1
  obtain ⟨rfl, rfl, rfl⟩ := trodAll_nil r2
  obtain rfl : args = #[v0, v1, v2] := by cases args; simp_all
  obtain ⟨rfl, rfl⟩ := trodVars_none hV
  obtain ⟨a0, rfl, rfl, rfl, w0⟩ := open_string Try.underlying9 (hval 0 9 v0 rfl rfl) h0
  obtain ⟨a1, rfl, rfl, rfl, w1⟩ := open_int Try.underlying3 (hval 1 3 v1 rfl rfl) h1
  obtain ⟨a2, rfl, rfl, rfl, w2⟩ := open_int Try.underlying3 (hval 2 3 v2 rfl rfl) h2
  clear hA0 hval0
  simp only [List.append_nil] at hW'
  refine (walk a0 a1 a2 w0 w1 w2 W).mono fun e W' ⟨he, hg⟩ => ?_
  subst he
  exact ⟨_, rfl, post_of_below (pa := []) (pv := []) hW' (fun _ _ _ => (trodAll_cons_mk (shut_bool Try.underlying4 _) trodAll_mk0)) (fun sp _ => (trodAll_cons_mk (shut_string Try.underlying9 w0) (trodAll_cons_mk (shut_int Try.underlying3 w1) (trodAll_cons_mk (shut_int Try.underlying3 w2) trodAll_mk0)))) (fun _ _ => rfl) rfl hg
    (ok_one (by kernel_rfl) rfl (okWide_bool_mk Try.underlying4 _))⟩

theorem closed : joinedFacts Try.prog 7 Try.f7 Rows.fnStripWhitespaceMarginsAddSpec Rows.fnStripWhitespaceMarginsAddRow = true := by
  simp only [joinedFacts, Bool.and_eq_true]
  repeat' refine And.intro ?_ ?_
  all_goals first | (with_reducible exact enters) | (with_reducible exact lifted_of rfl) | (with_reducible exact made_of rfl) | (as_aux_lemma => kernel_rfl)
theorem over : Rows.fnStripWhitespaceMarginsAddRow.holds Try.pinned (OpenSpec.ofChange Rows.fnStripWhitespaceMarginsAddSpec) :=
  OpenClaim.holds_of_wide 7 Try.f7 rfl rfl rfl rfl rfl rfl rfl ⟨rfl, rfl, rfl, rfl, rfl⟩ rfl rfl rfl rfl rfl (by kernel_rfl) Try.func7 closed
    (of_decide_eq_true (by kernel_rfl)) (by unfold Func.isWrapper; rw [if_neg (of_decide_eq_false (by kernel_rfl))]; exact ⟨rfl, rfl⟩)
    (fun os started H enc _ => lifted os started H enc)

/-- The statement. -/
theorem proved : Rows.FnStripWhitespaceMarginsAddSaid :=
  over
#print axioms proved
end Go.Proofs.Ytlebpbohddineaa.fnStripWhitespaceMarginsAdd
