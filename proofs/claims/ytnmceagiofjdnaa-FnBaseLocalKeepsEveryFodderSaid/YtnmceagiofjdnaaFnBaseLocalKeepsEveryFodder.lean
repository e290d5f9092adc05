/-
  Proved: Rows.FnBaseLocalKeepsEveryFodderSaid, for every input the law FnBaseLocalKeepsEveryFodder returns true; no condition of mine.
  The frame behind the walk follows the kit's proof-skeleton.mjs and its worked proofs over a []string; the walk is mine.
-/
import Derived.Test.YtnmceagiofjdnaaRows
import Derived.Test.YtnmceagiofjdnaaPost
import Derived.Test.YtnmceagiofjdnaaHead
import Derived.Test.YtnmceagiofjdnaaFrame
import Derived.Test.YtnmceagiofjdnaaLaw4
import Derived.WalkKit
import Derived.ProofKit
import Derived.OpenShut
import Derived.Carry
namespace Go.Proofs.Ytnmceagiofjdnaa.fnBaseLocalKeepsEveryFodder
open Go.ChangeShapes Go.WideShapes Go.ChangeAt Go.RowKit

theorem own : ownKnob Try.prog.godebug = none := by kernel_rfl

set_option maxRecDepth 100000 in
theorem lifted (os : Os) (started : os.Started) (H : Type) (enc : TypeId × Value → H) :
    ReturnsInHanded {} Try.checked os 4 .any (Rows.fnBaseLocalKeepsEveryFodderSpec.pre6 enc Try.prog Try.f4 Rows.fnBaseLocalKeepsEveryFodderRow.domain false) (Rows.fnBaseLocalKeepsEveryFodderSpec.post enc Try.prog Try.f4 false true false false) := by
  refine returnsInHanded_of_change (C := Try.checked) own started (by kernel_rfl) Try.func4
    (ChangeSpec.witness6 (enc := enc) (C := Try.checked) false ⟨#[], #[.slice none 0 0], []⟩ 8 (by kernel_rfl) (by kernel_rfl) (by kernel_rfl) (by kernel_rfl)) ?_
  intro W base args ds gs before hval0 hW hcnd _
  have hval : ∀ (j : Nat) t v, Try.f4.params[j]? = some t → args[j]? = some v → Value.okWide Try.prog W .any base t v := hval0
  have hW' := hW
  obtain ⟨p, q, hA0, hV, rfl, hfz, hnd⟩ := hW
  have hA : DataW.TrodAll enc Try.prog W 0 (fun _ => true) true Try.f4.params.toList args.toList ds p := hA0
  rw [Try.params4] at hA hval
  obtain ⟨v0, d0, rfl, rfl, h0⟩ := trodAll_one hA
  obtain ⟨rfl, rfl⟩ := trodVars_none hV
  obtain ⟨a0, len, cap, rfl⟩ := okWide_slice Try.underlying23 (hval 0 23 v0 rfl rfl)
  have h0k := h0
  obtain ⟨fuel, hf⟩ := h0
  clear hA0 hval0
  simp only [List.append_nil] at hW'
  have hlt : ∀ x ∈ p, x.block < W.heap.size := fun x hx => by simpa using hW'.lt x hx
  obtain ⟨ss, k1, k2, k3, k4⟩ := open_SR hf hlt
  refine (law4 a0 len cap ss W k1 k2 k3 k4).mono fun e W' ⟨he, hg⟩ => ?_
  subst he
  exact ⟨_, rfl, post_of_below (pa := p) (pv := []) hW' (fun _ _ _ => (trodAll_cons_mk (shut_bool Try.underlying4 _) trodAll_mk0))
    (fun sp hsp => trodAll_mk1 (WideElems.Trod_stays laidOut (by kernel_rfl) (of_decide_eq_true (by kernel_rfl)) h0k (fun x hx => hg.same (hlt x hx)) hsp)) (fun _ _ => rfl) (by simp) hg
    (ok_one (by kernel_rfl) rfl (okWide_bool_mk Try.underlying4 _))⟩

theorem closed : joinedFacts Try.prog 4 Try.f4 Rows.fnBaseLocalKeepsEveryFodderSpec Rows.fnBaseLocalKeepsEveryFodderRow = true := by
  simp only [joinedFacts, Bool.and_eq_true]
  repeat' refine And.intro ?_ ?_
  all_goals first | (with_reducible exact enters) | (with_reducible exact lifted_of rfl) | (with_reducible exact made_of rfl) | (as_aux_lemma => kernel_rfl)
theorem over : Rows.fnBaseLocalKeepsEveryFodderRow.holds Try.pinned (OpenSpec.ofChange Rows.fnBaseLocalKeepsEveryFodderSpec) :=
  OpenClaim.holds_of_wide 4 Try.f4 rfl rfl rfl rfl rfl rfl rfl ⟨rfl, rfl, rfl, rfl, rfl⟩ rfl rfl rfl rfl rfl (by kernel_rfl) Try.func4 closed
    (of_decide_eq_true (by kernel_rfl)) (by unfold Func.isWrapper; rw [if_neg (of_decide_eq_false (by kernel_rfl))]; exact ⟨rfl, rfl⟩)
    (fun os started H enc _ => lifted os started H enc)

/-- The statement. -/
theorem proved : Rows.FnBaseLocalKeepsEveryFodderSaid :=
  over
#print axioms proved
end Go.Proofs.Ytnmceagiofjdnaa.fnBaseLocalKeepsEveryFodder
