/-
  Proved: Rows.FnIsSymbolPrintableAndDisjointSaid, for every rune the law FnIsSymbolPrintableAndDisjoint returns true; no condition.
  The frame behind the walk was written by the kit's program proof-skeleton.mjs; the walk is mine.
-/
import Derived.Test.YtmifaklghgognaaRows
import Derived.Test.YtmifaklghgognaaPost
import Derived.Test.YtmifaklghgognaaHead
import Derived.Test.YtmifaklghgognaaMore2
import Derived.WalkKit
import Derived.ProofKit
import Derived.OpenShut
import Derived.ShutString
namespace Go.Proofs.Ytmifaklghgognaa.fnIsSymbolPrintableAndDisjoint
open Go.ChangeShapes Go.WideShapes Go.ChangeAt Go.RowKit
open Go.ChangeMaps (open_string shut_string)
set_option linter.unusedVariables false      -- a walk need not use every 'w<i>' (that an integer argument fits its kind)

theorem own : ownKnob Try.prog.godebug = none := by kernel_rfl

/-! ### The walk -/
theorem walk (a0 : Int) (w0 : (Lit.int .i32 a0).wf = true) (w : World) :
    Calls Try.prog 14 #[.int .i32 a0] w fun e w' => e = .returned (.bool true) ∧ Below w.heap.size w w' := by
  by_cases hs : symB a0 = true
  · obtain ⟨h1, h2, h3, h4, h5⟩ := sym_lo a0 hs
    go_enter Try.func14, Try.ntmps14
    go_wp2_with (first | (go_at_call 23; refine (ZZisSymbol_any _ _).mono ?_; rintro e w' ⟨rfl, rfl⟩) | (go_at_call 18; refine (ZZisIdentifier_any _ _).mono ?_; rintro e w' ⟨rfl, rfl⟩) | (go_at_call 20; refine (ZZisIdentifierFirst_any _ _).mono ?_; rintro e w' ⟨rfl, rfl⟩) | (go_at_call 22; refine (ZZisNumber_any _ _).mono ?_; rintro e w' ⟨rfl, rfl⟩))
    go_loop [3, 4] (fun n c => ∃ k m : Int, 0 ≤ k ∧ k ≤ 128 ∧ 0 ≤ m ∧ m ≤ k ∧ c = .int .i32 k ∧ n = .int .i64 m ∧ Hid (m = symCount k.toNat)) (fun _ c => (128 - intOf c).toNat)
    case atStart => exact ⟨0, 0, by omega, by omega, by omega, by omega, rfl, rfl, rfl⟩
    case round =>
      obtain ⟨k, m, hk0, hk, hm0, hm, rfl, rfl, HC⟩ := hrel
      by_cases hlt : k < 128
      · by_cases hb : symB k = true
        · have HS : Hid (symCount (k + 1).toNat = symCount k.toNat + 1) := symCount_up k hk0 hb
          go_wp2_with (go_at_call 23; refine (ZZisSymbol_any _ _).mono ?_; rintro e w' ⟨rfl, rfl⟩)
          go_round
          case rel => exact ⟨k + 1, m + 1, by omega, by omega, by omega, by omega, rfl, rfl, by have h1 := HC.out; have h2 := HS.out; show _ = _; omega⟩
          case measure => simp [intOf]; omega
        · have hb : symB k = false := by simpa using hb
          have HS : Hid (symCount (k + 1).toNat = symCount k.toNat) := symCount_same k hk0 hb
          go_wp2_with (go_at_call 23; refine (ZZisSymbol_any _ _).mono ?_; rintro e w' ⟨rfl, rfl⟩)
          go_round
          case rel => exact ⟨k + 1, m, by omega, by omega, by omega, by omega, rfl, rfl, by have h1 := HC.out; have h2 := HS.out; show _ = _; omega⟩
          case measure => simp [intOf]; omega
      · have h15 : m = 15 := sym_fifteen k m hk (by omega) HC.out
        subst h15
        clear HC
        go_wp2
        go_ret
        exact ⟨rfl, Below.refl _ _⟩
  · have hs : symB a0 = false := by simpa using hs
    go_enter Try.func14, Try.ntmps14
    go_wp2_with (first | (go_at_call 23; refine (ZZisSymbol_any _ _).mono ?_; rintro e w' ⟨rfl, rfl⟩))
    go_loop [3, 4] (fun n c => ∃ k m : Int, 0 ≤ k ∧ k ≤ 128 ∧ 0 ≤ m ∧ m ≤ k ∧ c = .int .i32 k ∧ n = .int .i64 m ∧ Hid (m = symCount k.toNat)) (fun _ c => (128 - intOf c).toNat)
    case atStart => exact ⟨0, 0, by omega, by omega, by omega, by omega, rfl, rfl, rfl⟩
    case round =>
      obtain ⟨k, m, hk0, hk, hm0, hm, rfl, rfl, HC⟩ := hrel
      by_cases hlt : k < 128
      · by_cases hb : symB k = true
        · have HS : Hid (symCount (k + 1).toNat = symCount k.toNat + 1) := symCount_up k hk0 hb
          go_wp2_with (go_at_call 23; refine (ZZisSymbol_any _ _).mono ?_; rintro e w' ⟨rfl, rfl⟩)
          go_round
          case rel => exact ⟨k + 1, m + 1, by omega, by omega, by omega, by omega, rfl, rfl, by have h1 := HC.out; have h2 := HS.out; show _ = _; omega⟩
          case measure => simp [intOf]; omega
        · have hb : symB k = false := by simpa using hb
          have HS : Hid (symCount (k + 1).toNat = symCount k.toNat) := symCount_same k hk0 hb
          go_wp2_with (go_at_call 23; refine (ZZisSymbol_any _ _).mono ?_; rintro e w' ⟨rfl, rfl⟩)
          go_round
          case rel => exact ⟨k + 1, m, by omega, by omega, by omega, by omega, rfl, rfl, by have h1 := HC.out; have h2 := HS.out; show _ = _; omega⟩
          case measure => simp [intOf]; omega
      · have h15 : m = 15 := sym_fifteen k m hk (by omega) HC.out
        subst h15
        clear HC
        go_wp2
        go_ret
        exact ⟨rfl, Below.refl _ _⟩

/-! ### THE ROW's STEP: WRITTEN OUT: LEAVE IT -/
set_option maxRecDepth 100000 in
theorem lifted (os : Os) (started : os.Started) (H : Type) (enc : TypeId × Value → H) :
    ReturnsInHanded {} Try.checked os 14 .any (Rows.fnIsSymbolPrintableAndDisjointSpec.pre6 enc Try.prog Try.f14 Rows.fnIsSymbolPrintableAndDisjointRow.domain false) (Rows.fnIsSymbolPrintableAndDisjointSpec.post enc Try.prog Try.f14 false true false false) := by
  refine returnsInHanded_of_change (C := Try.checked) own started (by kernel_rfl) Try.func14
    (ChangeSpec.witness6 (enc := enc) (C := Try.checked) false ⟨#[], #[.int .i32 0], []⟩ 8 (by kernel_rfl) (by kernel_rfl) (by kernel_rfl) (by kernel_rfl)) ?_
  intro W base args ds gs before hval0 hW hcnd _
  have hval : ∀ (j : Nat) t v, Try.f14.params[j]? = some t → args[j]? = some v → Value.okWide Try.prog W .any base t v := hval0
  have hW' := hW
  obtain ⟨p, q, hA0, hV, rfl, hfz, hnd⟩ := hW
  have hA : DataW.TrodAll enc Try.prog W 0 (fun _ => true) true Try.f14.params.toList args.toList ds p := hA0
  rw [Try.params14] at hA hval
  obtain ⟨v0, vs0, d0, ds0, p0, q0, hargs, rfl, rfl, h0, r0⟩ := trodAll_cons hA
  obtain ⟨rfl, rfl, rfl⟩ := trodAll_nil r0
  obtain rfl : args = #[v0] := by cases args; simp_all
  obtain ⟨rfl, rfl⟩ := trodVars_none hV
  obtain ⟨a0, rfl, rfl, rfl, w0⟩ := open_int Try.underlying21 (hval 0 21 v0 rfl rfl) h0
  clear hA0 hval0
  simp only [List.append_nil] at hW'
  refine (walk a0 w0 W).mono fun e W' ⟨he, hg⟩ => ?_
  subst he
  exact ⟨_, rfl, post_of_below (pa := []) (pv := []) hW' (fun _ _ _ => (trodAll_cons_mk (shut_bool Try.underlying4 _) trodAll_mk0)) (fun sp _ => (trodAll_cons_mk (shut_int Try.underlying21 w0) trodAll_mk0)) (fun _ _ => rfl) rfl hg
    (ok_one (by kernel_rfl) rfl (okWide_bool_mk Try.underlying4 _))⟩

theorem closed : joinedFacts Try.prog 14 Try.f14 Rows.fnIsSymbolPrintableAndDisjointSpec Rows.fnIsSymbolPrintableAndDisjointRow = true := by
  simp only [joinedFacts, Bool.and_eq_true]
  repeat' refine And.intro ?_ ?_
  all_goals first | (with_reducible exact enters) | (with_reducible exact lifted_of rfl) | (with_reducible exact made_of rfl) | (as_aux_lemma => kernel_rfl)
theorem over : Rows.fnIsSymbolPrintableAndDisjointRow.holds Try.pinned (OpenSpec.ofChange Rows.fnIsSymbolPrintableAndDisjointSpec) :=
  OpenClaim.holds_of_wide 14 Try.f14 rfl rfl rfl rfl rfl rfl rfl ⟨rfl, rfl, rfl, rfl, rfl⟩ rfl rfl rfl rfl rfl (by kernel_rfl) Try.func14 closed
    (of_decide_eq_true (by kernel_rfl)) (by unfold Func.isWrapper; rw [if_neg (of_decide_eq_false (by kernel_rfl))]; exact ⟨rfl, rfl⟩)
    (fun os started H enc _ => lifted os started H enc)

/-- The statement. -/
theorem proved : Rows.FnIsSymbolPrintableAndDisjointSaid :=
  over
#print axioms proved
end Go.Proofs.Ytmifaklghgognaa.fnIsSymbolPrintableAndDisjoint
