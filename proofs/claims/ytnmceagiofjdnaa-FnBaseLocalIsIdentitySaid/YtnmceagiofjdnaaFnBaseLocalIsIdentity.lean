/-
  Proved: Rows.FnBaseLocalIsIdentitySaid, for every input the law FnBaseLocalIsIdentity returns true; no condition of mine.
  The frame behind the walk follows the kit's proof-skeleton.mjs and its worked proofs over slices; the walk is mine.
-/
import Derived.Test.YtnmceagiofjdnaaRows
import Derived.Test.YtnmceagiofjdnaaPost
import Derived.Test.YtnmceagiofjdnaaHead
import Derived.Test.YtnmceagiofjdnaaFrameI
import Derived.Test.YtnmceagiofjdnaaLawI
import Derived.WalkKit
import Derived.ProofKit
import Derived.OpenShut
import Derived.Carry
namespace Go.Proofs.Ytnmceagiofjdnaa.fnBaseLocalIsIdentity
open Go.ChangeShapes Go.WideShapes Go.ChangeAt Go.RowKit

theorem own : ownKnob Try.prog.godebug = none := by kernel_rfl

set_option maxRecDepth 100000 in
theorem lifted (os : Os) (started : os.Started) (H : Type) (enc : TypeId × Value → H) :
    ReturnsInHanded {} Try.checked os 3 .any (Rows.fnBaseLocalIsIdentitySpec.pre6 enc Try.prog Try.f3 Rows.fnBaseLocalIsIdentityRow.domain false) (Rows.fnBaseLocalIsIdentitySpec.post enc Try.prog Try.f3 false true false false) := by
  refine returnsInHanded_of_change (C := Try.checked) own started (by kernel_rfl) Try.func3
    (ChangeSpec.witness6 (enc := enc) (C := Try.checked) false ⟨#[], #[.slice none 0 0, .slice none 0 0, .slice none 0 0, .string ⟨#[]⟩], []⟩ 8 (by kernel_rfl) (by kernel_rfl) (by kernel_rfl) (by kernel_rfl)) ?_
  intro W base args ds gs before hval0 hW hcnd _
  have hval : ∀ (j : Nat) t v, Try.f3.params[j]? = some t → args[j]? = some v → Value.okWide Try.prog W .any base t v := hval0
  have hW' := hW
  obtain ⟨p, q, hA0, hV, rfl, hfz, hnd⟩ := hW
  have hA : DataW.TrodAll enc Try.prog W 0 (fun _ => true) true Try.f3.params.toList args.toList ds p := hA0
  rw [Try.params3] at hA hval
  obtain ⟨v0, v1, v2, v3, d0, d1, d2, d3, p0, p1, p2, p3, rfl, rfl, rfl, h0, h1, h2, h3⟩ := trodAll_four hA
  obtain ⟨rfl, rfl⟩ := trodVars_none hV
  obtain ⟨a0, l0, c0, rfl⟩ := okWide_slice Try.underlying22 (hval 0 22 v0 rfl rfl)
  obtain ⟨a1, l1, c1, rfl⟩ := okWide_slice Try.underlying23 (hval 1 23 v1 rfl rfl)
  obtain ⟨a2, l2, c2, rfl⟩ := okWide_slice Try.underlying24 (hval 2 24 v2 rfl rfl)
  obtain ⟨s, rfl, rfl, rfl, hs⟩ := Go.ChangeMaps.open_string Try.underlying9 (hval 3 9 v3 rfl rfl) h3
  have h0k := h0
  have h1k := h1
  have h2k := h2
  obtain ⟨f0, g0⟩ := h0
  obtain ⟨f1, g1⟩ := h1
  obtain ⟨f2, g2⟩ := h2
  clear hA0 hval0
  have hlt : ∀ x ∈ p0 ++ p1 ++ p2, x.block < W.heap.size := fun x hx => hW'.lt x (by simpa using hx)
  have m0 : ∀ x ∈ p0, x ∈ p0 ++ p1 ++ p2 := fun x hx => by simp [hx]
  have m1 : ∀ x ∈ p1, x ∈ p0 ++ p1 ++ p2 := fun x hx => by simp [hx]
  have m2 : ∀ x ∈ p2, x ∈ p0 ++ p1 ++ p2 := fun x hx => by simp [hx]
  obtain ⟨Z, z1, z2⟩ := open_AI g0 (fun x hx => hlt x (m0 x hx))
  obtain ⟨S, s1, s2, s3⟩ := open_AS g1 (fun x hx => hlt x (m1 x hx))
  obtain ⟨B, b1, b2⟩ := open_AB g2 (fun x hx => hlt x (m2 x hx))
  refine (law3 a0 a1 a2 l0 l1 l2 c0 c1 c2 Z S B s W z1 s1 b1 z2 s2 b2 s3 hs).mono fun e W' ⟨he, hg⟩ => ?_
  subst he
  exact ⟨_, rfl, post_of_below (pa := p0 ++ (p1 ++ (p2 ++ []))) (pv := []) hW' (fun _ _ _ => (trodAll_cons_mk (shut_bool Try.underlying4 _) trodAll_mk0))
    (fun sp hsp => trodAll_mk4
      (WideElems.Trod_stays laidOutI (by kernel_rfl) (of_decide_eq_true (by kernel_rfl)) h0k (fun x hx => hg.same (hlt x (m0 x hx))) (fun x hx => hsp x (by simp [hx])))
      (WideElems.Trod_stays laidOutI (by kernel_rfl) (of_decide_eq_true (by kernel_rfl)) h1k (fun x hx => hg.same (hlt x (m1 x hx))) (fun x hx => hsp x (by simp [hx])))
      (WideElems.Trod_stays laidOutI (by kernel_rfl) (of_decide_eq_true (by kernel_rfl)) h2k (fun x hx => hg.same (hlt x (m2 x hx))) (fun x hx => hsp x (by simp [hx])))
      (Go.ChangeMaps.shut_string Try.underlying9 hs))
    (fun _ _ => rfl) (by simp) hg
    (ok_one (by kernel_rfl) rfl (okWide_bool_mk Try.underlying4 _))⟩

theorem closed : joinedFacts Try.prog 3 Try.f3 Rows.fnBaseLocalIsIdentitySpec Rows.fnBaseLocalIsIdentityRow = true := by
  simp only [joinedFacts, Bool.and_eq_true]
  repeat' refine And.intro ?_ ?_
  all_goals first | (with_reducible exact enters) | (with_reducible exact lifted_of rfl) | (with_reducible exact made_of rfl) | (as_aux_lemma => kernel_rfl)
theorem over : Rows.fnBaseLocalIsIdentityRow.holds Try.pinned (OpenSpec.ofChange Rows.fnBaseLocalIsIdentitySpec) :=
  OpenClaim.holds_of_wide 3 Try.f3 rfl rfl rfl rfl rfl rfl rfl ⟨rfl, rfl, rfl, rfl, rfl⟩ rfl rfl rfl rfl rfl (by kernel_rfl) Try.func3 closed
    (of_decide_eq_true (by kernel_rfl)) (by unfold Func.isWrapper; rw [if_neg (of_decide_eq_false (by kernel_rfl))]; exact ⟨rfl, rfl⟩)
    (fun os started H enc _ => lifted os started H enc)

/-- The statement. -/
theorem proved : Rows.FnBaseLocalIsIdentitySaid :=
  over
#print axioms proved
end Go.Proofs.Ytnmceagiofjdnaa.fnBaseLocalIsIdentity
