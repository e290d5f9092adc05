/-
  Proved: Rows.FnLocFromTokenASTAgreesWithLocFromTokensSaid, for every input the law FnLocFromTokenASTAgreesWithLocFromTokens returns true; no condition of mine.
  The frame behind the walk was written by the kit's program proof-skeleton.mjs; the walk is mine.
-/
import Derived.Test.YtjihpmhcalpljaaRows
import Derived.Test.YtjihpmhcalpljaaPost
import Derived.Test.YtjihpmhcalpljaaHead
import Derived.Test.YtjihpmhcalpljaaBounds
import Derived.WalkKit
import Derived.ProofKit
import Derived.OpenShut
import Derived.ShutString
namespace Go.Proofs.Ytjihpmhcalpljaa.fnLocFromTokenASTAgreesWithLocFromTokens
open Go.ChangeShapes Go.WideShapes Go.ChangeAt Go.RowKit
open Go.ChangeMaps (open_string shut_string)
set_option linter.unusedVariables false      -- a walk need not use every 'w<i>' (that an integer argument fits its kind)

theorem own : ownKnob Try.prog.godebug = none := by kernel_rfl

/-! ### The walk -/
theorem walk (a0 : ByteArray) (a1 : Int) (a2 : Int) (a3 : Int) (a4 : Int) (a5 : ByteArray) (a6 : Int) (a7 : Int) (a8 : Int) (a9 : Int) (w0 : a0.size ≤ maxLen) (w1 : (Lit.int .i64 a1).wf = true) (w2 : (Lit.int .i64 a2).wf = true) (w3 : (Lit.int .i64 a3).wf = true) (w4 : (Lit.int .i64 a4).wf = true) (w5 : a5.size ≤ maxLen) (w6 : (Lit.int .i64 a6).wf = true) (w7 : (Lit.int .i64 a7).wf = true) (w8 : (Lit.int .i64 a8).wf = true) (w9 : (Lit.int .i64 a9).wf = true) (w : World) :
    Calls Try.prog 3 #[.string a0, .int .i64 a1, .int .i64 a2, .int .i64 a3, .int .i64 a4, .string a5, .int .i64 a6, .int .i64 a7, .int .i64 a8, .int .i64 a9] w fun e w' => e = .returned (.bool true) ∧ Below w.heap.size w w' := by
  by_cases h1 : a0.size ≤ 65536
  · by_cases h2 : a5.size ≤ 65536
    · go_enter Try.func3, Try.ntmps3
      go_wp2_with fail
      refine (bytes7_any _ _ _ _ _ _ _ _ _ _ _).mono ?_
      rintro e w' ⟨bb, rfl, rfl⟩
      cases bb
      · go_wp2
        go_ret
        exact ⟨rfl, Below.refl _ _⟩
      · go_wp2_with fail
        refine (range_any _ _ _ _ _ _).mono ?_
        rintro e w1 ⟨rfl, hb⟩
        have LL := Lib.hid (Below.step (Below.refl _ _) hb)
        clear hb
        go_wp2_with fail
        refine (newTok_any _ _ _ _ _ _ _ _).mono ?_
        rintro e w2 ⟨kA, rfl, TA, hb⟩
        replace LL := Lib.hid (Below.step LL.out hb)
        replace TA := Lib.hid TA
        clear hb
        go_wp2_with fail
        refine (range_any _ _ _ _ _ _).mono ?_
        rintro e w3 ⟨rfl, hb⟩
        replace TA := Lib.hid (TA.out.keep hb)
        replace LL := Lib.hid (Below.step LL.out hb)
        clear hb
        go_wp2_with fail
        refine (tokAst_any (TA.out.alloc _)).mono ?_
        rintro e w4 ⟨rfl, hb⟩
        replace TA := Lib.hid ((TA.out.alloc _).keep hb)
        have RR := Lib.hid ((Blk.new _ _).keep hb)
        replace LL := Lib.hid (Below.step (Below.step LL.out below_1) hb)
        clear hb
        have xlt := RR.out.lt
        have x0 := RR.out.cell 0
        have x1 := RR.out.cell 1
        have x2 := RR.out.cell 2
        have x3 := RR.out.cell 3
        have x4 := RR.out.cell 4
        have x5 := RR.out.cell 5
        go_wp2_with fail
        refine (newTok_any _ _ _ _ _ _ _ _).mono ?_
        rintro e w5 ⟨kD, rfl, TD, hb⟩
        replace TA := Lib.hid ((TA.out.alloc _).keep hb)
        replace RR := Lib.hid ((RR.out.alloc _).keep hb)
        have VN := Lib.hid ((Blk.new _ _).keep hb)
        replace LL := Lib.hid (Below.step (Below.step LL.out below_1) hb)
        replace TD := Lib.hid TD
        clear hb
        clear xlt x0 x1 x2 x3 x4 x5
        go_wp2_with fail
        refine (zzLocTok_any TA.out TD.out).mono ?_
        rintro e w6 ⟨rfl, hb⟩
        replace TA := Lib.hid (TA.out.keep hb)
        replace TD := Lib.hid (TD.out.keep hb)
        replace RR := Lib.hid (RR.out.keep hb)
        replace VN := Lib.hid (VN.out.keep hb)
        replace LL := Lib.hid (Below.step LL.out hb)
        clear hb
        have xlt := VN.out.lt
        have x0 := VN.out.cell 0
        have x1 := VN.out.cell 1
        have x2 := VN.out.cell 2
        have x3 := VN.out.cell 3
        have x4 := VN.out.cell 4
        have x5 := VN.out.cell 5
        go_wp2_with fail
        refine (same12_any _ _ _ _ _ _ _).mono ?_
        rintro e w7 ⟨rfl, hb⟩
        replace TA := Lib.hid ((TA.out.alloc _).keep hb)
        replace TD := Lib.hid ((TD.out.alloc _).keep hb)
        replace RR := Lib.hid ((RR.out.alloc _).keep hb)
        replace VN := Lib.hid ((VN.out.alloc _).keep hb)
        replace LL := Lib.hid (Below.step (Below.step LL.out below_1) hb)
        clear hb
        clear xlt x0 x1 x2 x3 x4 x5
        go_wp2
        go_ret
        exact ⟨rfl, LL.out⟩
    · go_enter Try.func3, Try.ntmps3
      go_wp2_with fail
      refine (bytes7_any _ _ _ _ _ _ _ _ _ _ _).mono ?_
      rintro e w' ⟨bb, rfl, rfl⟩
      cases bb
      · go_wp2
        go_ret
        exact ⟨rfl, Below.refl _ _⟩
      · go_wp2
        go_ret
        exact ⟨rfl, Below.refl _ _⟩
  · go_enter Try.func3, Try.ntmps3
    go_wp2_with fail
    refine (bytes7_any _ _ _ _ _ _ _ _ _ _ _).mono ?_
    rintro e w' ⟨bb, rfl, rfl⟩
    cases bb
    · go_wp2
      go_ret
      exact ⟨rfl, Below.refl _ _⟩
    · go_wp2
      go_ret
      exact ⟨rfl, Below.refl _ _⟩

/-! ### THE ROW's STEP: WRITTEN OUT: LEAVE IT -/
set_option maxRecDepth 100000 in
theorem lifted (os : Os) (started : os.Started) (H : Type) (enc : TypeId × Value → H) :
    ReturnsInHanded {} Try.checked os 3 .any (Rows.fnLocFromTokenASTAgreesWithLocFromTokensSpec.pre6 enc Try.prog Try.f3 Rows.fnLocFromTokenASTAgreesWithLocFromTokensRow.domain false) (Rows.fnLocFromTokenASTAgreesWithLocFromTokensSpec.post enc Try.prog Try.f3 false true false false) := by
  refine returnsInHanded_of_change (C := Try.checked) own started (by kernel_rfl) Try.func3
    (ChangeSpec.witness6 (enc := enc) (C := Try.checked) false ⟨#[], #[.string ByteArray.empty, .int .i64 0, .int .i64 0, .int .i64 0, .int .i64 0, .string ByteArray.empty, .int .i64 0, .int .i64 0, .int .i64 0, .int .i64 0], []⟩ 8 (by kernel_rfl) (by kernel_rfl) (by kernel_rfl) (by kernel_rfl)) ?_
  intro W base args ds gs before hval0 hW hcnd _
  have hval : ∀ (j : Nat) t v, Try.f3.params[j]? = some t → args[j]? = some v → Value.okWide Try.prog W .any base t v := hval0
  have hW' := hW
  obtain ⟨p, q, hA0, hV, rfl, hfz, hnd⟩ := hW
  have hA : DataW.TrodAll enc Try.prog W 0 (fun _ => true) true Try.f3.params.toList args.toList ds p := hA0
  rw [Try.params3] at hA hval
  obtain ⟨v0, vs0, d0, ds0, p0, q0, hargs, rfl, rfl, h0, r0⟩ := trodAll_cons hA
  obtain ⟨v1, vs1, d1, ds1, p1, q1, rfl, rfl, rfl, h1, r1⟩ := trodAll_cons r0
  obtain ⟨v2, vs2, d2, ds2, p2, q2, rfl, rfl, rfl, h2, r2⟩ := trodAll_cons r1
  obtain ⟨v3, vs3, d3, ds3, p3, q3, rfl, rfl, rfl, h3, r3⟩ := trodAll_cons r2
  obtain ⟨v4, vs4, d4, ds4, p4, q4, rfl, rfl, rfl, h4, r4⟩ := trodAll_cons r3
  obtain ⟨v5, vs5, d5, ds5, p5, q5, rfl, rfl, rfl, h5, r5⟩ := trodAll_cons r4
  obtain ⟨v6, vs6, d6, ds6, p6, q6, rfl, rfl, rfl, h6, r6⟩ := trodAll_cons r5
  obtain ⟨v7, vs7, d7, ds7, p7, q7, rfl, rfl, rfl, h7, r7⟩ := trodAll_cons r6
  obtain ⟨v8, vs8, d8, ds8, p8, q8, rfl, rfl, rfl, h8, r8⟩ := trodAll_cons r7
  obtain ⟨v9, vs9, d9, ds9, p9, q9, rfl, rfl, rfl, h9, r9⟩ := trodAll_cons r8
  obtain ⟨rfl, rfl, rfl⟩ := trodAll_nil r9
  obtain rfl : args = #[v0, v1, v2, v3, v4, v5, v6, v7, v8, v9] := by cases args; simp_all
  obtain ⟨rfl, rfl⟩ := trodVars_none hV
  obtain ⟨a0, rfl, rfl, rfl, w0⟩ := open_string Try.underlying9 (hval 0 9 v0 rfl rfl) h0
  obtain ⟨a1, rfl, rfl, rfl, w1⟩ := open_int Try.underlying3 (hval 1 3 v1 rfl rfl) h1
  obtain ⟨a2, rfl, rfl, rfl, w2⟩ := open_int Try.underlying3 (hval 2 3 v2 rfl rfl) h2
  obtain ⟨a3, rfl, rfl, rfl, w3⟩ := open_int Try.underlying3 (hval 3 3 v3 rfl rfl) h3
  obtain ⟨a4, rfl, rfl, rfl, w4⟩ := open_int Try.underlying3 (hval 4 3 v4 rfl rfl) h4
  obtain ⟨a5, rfl, rfl, rfl, w5⟩ := open_string Try.underlying9 (hval 5 9 v5 rfl rfl) h5
  obtain ⟨a6, rfl, rfl, rfl, w6⟩ := open_int Try.underlying3 (hval 6 3 v6 rfl rfl) h6
  obtain ⟨a7, rfl, rfl, rfl, w7⟩ := open_int Try.underlying3 (hval 7 3 v7 rfl rfl) h7
  obtain ⟨a8, rfl, rfl, rfl, w8⟩ := open_int Try.underlying3 (hval 8 3 v8 rfl rfl) h8
  obtain ⟨a9, rfl, rfl, rfl, w9⟩ := open_int Try.underlying3 (hval 9 3 v9 rfl rfl) h9
  clear hA0 hval0
  simp only [List.append_nil] at hW'
  refine (walk a0 a1 a2 a3 a4 a5 a6 a7 a8 a9 w0 w1 w2 w3 w4 w5 w6 w7 w8 w9 W).mono fun e W' ⟨he, hg⟩ => ?_
  subst he
  exact ⟨_, rfl, post_of_below (pa := []) (pv := []) hW' (fun _ _ _ => (trodAll_cons_mk (shut_bool Try.underlying4 _) trodAll_mk0)) (fun sp _ => (trodAll_cons_mk (shut_string Try.underlying9 w0) (trodAll_cons_mk (shut_int Try.underlying3 w1) (trodAll_cons_mk (shut_int Try.underlying3 w2) (trodAll_cons_mk (shut_int Try.underlying3 w3) (trodAll_cons_mk (shut_int Try.underlying3 w4) (trodAll_cons_mk (shut_string Try.underlying9 w5) (trodAll_cons_mk (shut_int Try.underlying3 w6) (trodAll_cons_mk (shut_int Try.underlying3 w7) (trodAll_cons_mk (shut_int Try.underlying3 w8) (trodAll_cons_mk (shut_int Try.underlying3 w9) trodAll_mk0))))))))))) (fun _ _ => rfl) rfl hg
    (ok_one (by kernel_rfl) rfl (okWide_bool_mk Try.underlying4 _))⟩

theorem closed : joinedFacts Try.prog 3 Try.f3 Rows.fnLocFromTokenASTAgreesWithLocFromTokensSpec Rows.fnLocFromTokenASTAgreesWithLocFromTokensRow = true := by
  simp only [joinedFacts, Bool.and_eq_true]
  repeat' refine And.intro ?_ ?_
  all_goals first | (with_reducible exact enters) | (with_reducible exact lifted_of rfl) | (with_reducible exact made_of rfl) | (as_aux_lemma => kernel_rfl)
theorem over : Rows.fnLocFromTokenASTAgreesWithLocFromTokensRow.holds Try.pinned (OpenSpec.ofChange Rows.fnLocFromTokenASTAgreesWithLocFromTokensSpec) :=
  OpenClaim.holds_of_wide 3 Try.f3 rfl rfl rfl rfl rfl rfl rfl ⟨rfl, rfl, rfl, rfl, rfl⟩ rfl rfl rfl rfl rfl (by kernel_rfl) Try.func3 closed
    (of_decide_eq_true (by kernel_rfl)) (by unfold Func.isWrapper; rw [if_neg (of_decide_eq_false (by kernel_rfl))]; exact ⟨rfl, rfl⟩)
    (fun os started H enc _ => lifted os started H enc)

/-- The statement. -/
theorem proved : Rows.FnLocFromTokenASTAgreesWithLocFromTokensSaid :=
  over
#print axioms proved
end Go.Proofs.Ytjihpmhcalpljaa.fnLocFromTokenASTAgreesWithLocFromTokens
