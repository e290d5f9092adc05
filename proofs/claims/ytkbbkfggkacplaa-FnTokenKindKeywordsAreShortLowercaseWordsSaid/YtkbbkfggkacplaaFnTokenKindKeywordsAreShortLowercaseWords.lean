/-
  Proved: Rows.FnTokenKindKeywordsAreShortLowercaseWordsSaid, for every input the law FnTokenKindKeywordsAreShortLowercaseWords returns true; no condition of mine.
  The frame behind the walk was written by the kit's program proof-skeleton.mjs; the walk is mine.
-/
import Derived.Test.YtkbbkfggkacplaaRows
import Derived.Test.YtkbbkfggkacplaaPost
import Derived.Test.YtkbbkfggkacplaaHead
import Derived.Test.YtkbbkfggkacplaaConv
import Derived.WalkKit
import Derived.ProofKit
import Derived.OpenShut
import Derived.ShutString
namespace Go.Proofs.Ytkbbkfggkacplaa.fnTokenKindKeywordsAreShortLowercaseWords
open Go.ChangeShapes Go.WideShapes Go.ChangeAt Go.RowKit
open Go.ChangeMaps (open_string shut_string)
set_option linter.unusedVariables false      -- a walk need not use every 'w<i>' (that an integer argument fits its kind)

theorem own : ownKnob Try.prog.godebug = none := by kernel_rfl

/-! ### The walk -/
theorem walk (a0 : ByteArray) (w0 : a0.size ≤ maxLen) (w : World) :
    Calls Try.prog 9 #[.string a0] w fun e w' => e = .returned (.bool true) ∧ Below w.heap.size w w' := by
  by_cases hs : a0.size ≤ 1048576
  · by_cases hk : kindL a0.toList = 10
    · have hb : (kindL a0.toList == 10) = true := by simp [hk]
      clear hk
      go_enter Try.func9, Try.ntmps9
      go_wp2_with (first | (go_at_call 20; refine (bytes20_any _ _).mono ?_; rintro e w' ⟨rfl, rfl⟩) | (go_at_call 12; refine (zzKind_any _ _).mono ?_; rintro e w' ⟨rfl, rfl⟩))
      go_ret
      exact ⟨rfl, Below.refl _ _⟩
    · have hb : (kindL a0.toList == 10) = false := by simpa using hk
      have hm : a0.toList ∈ kws := (kind_cases a0.toList).resolve_left hk
      obtain ⟨hl1, hl2⟩ := kws_len _ hm
      have hlen : a0.toList.length = a0.size := by rw [ByteArray.toList_eq, Array.length_toList]; rfl
      rw [hlen] at hl1 hl2
      have HL := Lib.hid (kws_low _ hm)
      have HC := Lib.hid (kws_cap _ hm)
      clear hk hm hlen
      go_enter Try.func9, Try.ntmps9
      go_wp2_with (first | (go_at_call 20; refine (bytes20_any _ _).mono ?_; rintro e w' ⟨rfl, rfl⟩) | (go_at_call 12; refine (zzKind_any _ _).mono ?_; rintro e w' ⟨rfl, rfl⟩))
      go_loop [3] (fun i => ∃ k : Nat, k ≤ a0.size ∧ i = .int .i64 k) (fun i => a0.size - (intOf i).toNat)
      case atStart => exact ⟨0, Nat.zero_le _, rfl⟩
      case round =>
        obtain ⟨k, hk, rfl⟩ := hrel
        by_cases hlt : k < a0.size
        · obtain ⟨hx1, hx2⟩ : 97 ≤ (a0[k].toNat : Int) ∧ (a0[k].toNat : Int) ≤ 122 := by
            have := HL.out a0[k] (by rw [ByteArray.toList_eq]; exact Array.getElem_mem_toList (xs := a0.data) hlt)
            omega
          go_wp2
          go_round
          case rel => exact ⟨k + 1, by omega, by go_num⟩
          case measure => simp [intOf]; omega
        · have h0 : 0 < a0.size := by omega
          obtain ⟨hx1, hx2⟩ : 97 ≤ (a0[0].toNat : Int) ∧ (a0[0].toNat : Int) ≤ 122 := by
            have := HL.out a0[0] (by rw [ByteArray.toList_eq]; exact Array.getElem_mem_toList (xs := a0.data) h0)
            omega
          obtain ⟨W1, cap, hrun, hcap, hcell, hfroz, hbel⟩ := conv_bytes w a0
          have hback := conv_back w W1 a0 cap h0 (by omega) hcell _ rfl
          have hc0 := hcell 0 h0
          have hf0 := hfroz 0 h0
          have HB := Lib.hid hbel
          have hkind : kindL (capL a0.toList) = 10 := HC.out
          clear hcell hfroz hbel HL HC
          go_wp2_with (go_at_call 12; refine (zzKind_any _ _).mono ?_; rintro e w' ⟨rfl, rfl⟩)
          go_ret
          refine ⟨?_, HB.out.setCell (Nat.le_refl _) _⟩
          rfl
  · have hd : decide (a0.size ≤ 1048576) = false := decide_eq_false hs
    go_enter Try.func9, Try.ntmps9
    go_wp2_with (first | (go_at_call 20; refine (bytes20_any _ _).mono ?_; rintro e w' ⟨rfl, rfl⟩))
    go_ret
    exact ⟨rfl, Below.refl _ _⟩

/-! ### THE ROW's STEP: WRITTEN OUT: LEAVE IT -/
set_option maxRecDepth 100000 in
theorem lifted (os : Os) (started : os.Started) (H : Type) (enc : TypeId × Value → H) :
    ReturnsInHanded {} Try.checked os 9 .any (Rows.fnTokenKindKeywordsAreShortLowercaseWordsSpec.pre6 enc Try.prog Try.f9 Rows.fnTokenKindKeywordsAreShortLowercaseWordsRow.domain false) (Rows.fnTokenKindKeywordsAreShortLowercaseWordsSpec.post enc Try.prog Try.f9 false true false false) := by
  refine returnsInHanded_of_change (C := Try.checked) own started (by kernel_rfl) Try.func9
    (ChangeSpec.witness6 (enc := enc) (C := Try.checked) false ⟨#[], #[.string ByteArray.empty], []⟩ 8 (by kernel_rfl) (by kernel_rfl) (by kernel_rfl) (by kernel_rfl)) ?_
  intro W base args ds gs before hval0 hW hcnd _
  have hval : ∀ (j : Nat) t v, Try.f9.params[j]? = some t → args[j]? = some v → Value.okWide Try.prog W .any base t v := hval0
  have hW' := hW
  obtain ⟨p, q, hA0, hV, rfl, hfz, hnd⟩ := hW
  have hA : DataW.TrodAll enc Try.prog W 0 (fun _ => true) true Try.f9.params.toList args.toList ds p := hA0
  rw [Try.params9] at hA hval
  obtain ⟨v0, vs0, d0, ds0, p0, q0, hargs, rfl, rfl, h0, r0⟩ := trodAll_cons hA
  obtain ⟨rfl, rfl, rfl⟩ := trodAll_nil r0
  obtain rfl : args = #[v0] := by cases args; simp_all
  obtain ⟨rfl, rfl⟩ := trodVars_none hV
  obtain ⟨a0, rfl, rfl, rfl, w0⟩ := open_string Try.underlying9 (hval 0 9 v0 rfl rfl) h0
  clear hA0 hval0
  simp only [List.append_nil] at hW'
  refine (walk a0 w0 W).mono fun e W' ⟨he, hg⟩ => ?_
  subst he
  exact ⟨_, rfl, post_of_below (pa := []) (pv := []) hW' (fun _ _ _ => (trodAll_cons_mk (shut_bool Try.underlying4 _) trodAll_mk0)) (fun sp _ => (trodAll_cons_mk (shut_string Try.underlying9 w0) trodAll_mk0)) (fun _ _ => rfl) rfl hg
    (ok_one (by kernel_rfl) rfl (okWide_bool_mk Try.underlying4 _))⟩

theorem closed : joinedFacts Try.prog 9 Try.f9 Rows.fnTokenKindKeywordsAreShortLowercaseWordsSpec Rows.fnTokenKindKeywordsAreShortLowercaseWordsRow = true := by
  simp only [joinedFacts, Bool.and_eq_true]
  repeat' refine And.intro ?_ ?_
  all_goals first | (with_reducible exact enters) | (with_reducible exact lifted_of rfl) | (with_reducible exact made_of rfl) | (as_aux_lemma => kernel_rfl)
theorem over : Rows.fnTokenKindKeywordsAreShortLowercaseWordsRow.holds Try.pinned (OpenSpec.ofChange Rows.fnTokenKindKeywordsAreShortLowercaseWordsSpec) :=
  OpenClaim.holds_of_wide 9 Try.f9 rfl rfl rfl rfl rfl rfl rfl ⟨rfl, rfl, rfl, rfl, rfl⟩ rfl rfl rfl rfl rfl (by kernel_rfl) Try.func9 closed
    (of_decide_eq_true (by kernel_rfl)) (by unfold Func.isWrapper; rw [if_neg (of_decide_eq_false (by kernel_rfl))]; exact ⟨rfl, rfl⟩)
    (fun os started H enc _ => lifted os started H enc)

/-- The statement. -/
theorem proved : Rows.FnTokenKindKeywordsAreShortLowercaseWordsSaid :=
  over
#print axioms proved
end Go.Proofs.Ytkbbkfggkacplaa.fnTokenKindKeywordsAreShortLowercaseWords
