/- The validator and the closed form, as the law's own file has them. -/
import Derived.Test.YtlebpbohddineaaLaws
namespace Go.Proofs.Ytlebpbohddineaa
open Go.RowKit

/-! ### stripModel -/
theorem lo_min (l : List UInt8) (m : Int) (lead : Nat) (hl : lead ≤ l.length) (hall : ∀ t, t < lead → (h : t < l.length) → hwb l[t] = true) (hend : lead = l.length ∨ ∃ h : lead < l.length, hwb l[lead] = false)
    (k : Nat) (hk : (m < 0 ∧ k = 0) ∨ (0 ≤ m ∧ (k : Int) = m ∧ k ≤ lead) ∨ ((lead : Int) < m ∧ k = lead)) : lo hwb l m = k := by
  refine lo_eq hwb l m k (by omega) (fun t ht h => hall t (by omega) h) (by omega) ?_
  rcases hk with ⟨h1, rfl⟩ | ⟨h1, h2, h3⟩ | ⟨h1, rfl⟩
  · exact .inr (.inr (by omega))
  · exact .inr (.inr (by omega))
  · rcases hend with h | h
    · exact .inl h
    · exact .inr (.inl h)
theorem model_all (l : List UInt8) (m : Int) (hall : ∀ t, (h : t < l.length) → hwb l[t] = true) : trim hwb (l.drop (lo hwb l m)) = [] := by
  apply trim_drop_nil
  apply trim_nil_all
  intro x hx
  obtain ⟨i, hi, rfl⟩ := List.getElem_of_mem hx
  exact hall i hi
theorem str_of (s t : ByteArray) (h : s.data.toList = t.data.toList) : s = t := by
  obtain ⟨⟨a⟩⟩ := s
  obtain ⟨⟨b⟩⟩ := t
  simp at h
  rw [h]
/-- What the model hands back. -/
def modelB (s : ByteArray) (m : Int) : ByteArray := ⟨(trim hwb (s.data.toList.drop (lo hwb s.data.toList m))).toArray⟩
theorem model_piece (s : ByteArray) (m : Int) (lead trail k : Nat) (hl : lead < s.size) (hall : ∀ t, t < lead → (h : t < s.data.toList.length) → hwb s.data.toList[t] = true) (hend : ∃ h : lead < s.data.toList.length, hwb s.data.toList[lead] = false)
    (htr : trail ≤ s.size) (htall : ∀ t, s.size - trail ≤ t → (h : t < s.data.toList.length) → hwb s.data.toList[t] = true) (htend : trail = s.size ∨ ∃ h : s.size - 1 - trail < s.data.toList.length, hwb s.data.toList[s.size - 1 - trail] = false)
    (hk : (m < 0 ∧ k = 0) ∨ (0 ≤ m ∧ (k : Int) = m ∧ k ≤ lead) ∨ ((lead : Int) < m ∧ k = lead)) : k ≤ s.size - trail ∧ s.extract k (s.size - trail) = modelB s m := by
  have hlen : s.data.toList.length = s.size := Array.length_toList
  have hlo := lo_min s.data.toList m lead (by omega) hall (.inr hend) k hk
  have hkl : k ≤ lead := by omega
  obtain ⟨hh, hf⟩ := hend
  have hlt : lead < s.size - trail := by
    rcases Nat.lt_or_ge lead (s.size - trail) with h | h
    · exact h
    · have := htall lead h hh
      rw [this] at hf
      cases hf
  refine ⟨by omega, str_of _ _ ?_⟩
  have hp := trim_piece hwb s.data.toList k (s.size - trail) (by omega) (by omega) htall (.inr ⟨by omega, by
    rcases htend with h | ⟨h, hf'⟩
    · omega
    · have e : s.size - trail - 1 = s.size - 1 - trail := by omega
      simp only [e]
      exact hf'⟩)
  rw [Lib.extract_data, modelB, hlo, hp]
set_option maxHeartbeats 1000000 in
theorem model_any (s : ByteArray) (m : Int) (w : World) (hs : s.size ≤ 1048576) (hm0 : -9223372036854775808 ≤ m) (hm1 : m ≤ 9223372036854775807) :
    Calls Try.prog 14 #[.string s, .int .i64 m] w fun e w' => e = .returned (.string (modelB s m)) ∧ w = w' := by
  have hlen : s.data.toList.length = s.size := Array.length_toList
  have HN := Lib.hid hlen
  clear hlen
  go_enter Try.func14, Try.ntmps14
  go_wp2
  go_loop [6] (fun i => ∃ k : Nat, k ≤ s.size ∧ i = .int .i64 k ∧ Hid (∀ t, t < k → (h : t < s.data.toList.length) → hwb s.data.toList[t] = true)) (fun i => s.size - (intOf i).toNat)
  case atStart => exact ⟨0, Nat.zero_le _, rfl, fun t h => absurd h (by omega)⟩
  case round =>
    obtain ⟨lead, hk, rfl, hall⟩ := hrel
    by_cases hlt : lead < s.size
    · by_cases hh : hwb s[lead] = true
      · go_wp2_with (go_at_call 20; refine (hwByte_any _ _).mono ?_; rintro e w' ⟨rfl, rfl⟩)
        go_round
        case rel => exact ⟨lead + 1, by omega, by go_num, fun t ht h => by
          by_cases e : t = lead
          · subst e; exact hh
          · exact hall t (by omega) h⟩
        case measure => simp [intOf]; omega
      · have hh : hwb s[lead] = false := by simpa using hh
        have HEnd : Hid (∃ h : lead < s.data.toList.length, hwb s.data.toList[lead] = false) := ⟨by rw [HN.out]; exact hlt, hh⟩
        have hne : ((lead : Int) == (s.size : Int)) = false := by simp; omega
        go_wp2_with (go_at_call 20; refine (hwByte_any _ _).mono ?_; rintro e w' ⟨rfl, rfl⟩)
        go_loop [7] (fun i => ∃ k : Nat, k ≤ s.size ∧ i = .int .i64 k ∧ Hid (∀ t, s.size - k ≤ t → (h : t < s.data.toList.length) → hwb s.data.toList[t] = true)) (fun i => s.size - (intOf i).toNat)
        case atStart => exact ⟨0, Nat.zero_le _, rfl, fun t h h' => absurd h' (by have := HN.out; omega)⟩
        case round =>
          obtain ⟨tr, htr, rfl, htall⟩ := hrel
          have hfin : (tr = s.size ∨ ∃ h : s.size - 1 - tr < s.data.toList.length, hwb s.data.toList[s.size - 1 - tr] = false) → ∀ k : Nat, ((m < 0 ∧ k = 0) ∨ (0 ≤ m ∧ (k : Int) = m ∧ k ≤ lead) ∨ ((lead : Int) < m ∧ k = lead)) → k ≤ s.size - tr ∧ Hid (s.extract k (s.size - tr) = modelB s m) :=
            fun hte k hkk => model_piece s m lead tr k hlt hall.out HEnd.out htr htall.out hte hkk
          by_cases htl : tr < s.size
          · have hidx : s.size - 1 - tr < s.size := by omega
            by_cases hb : hwb (s[s.size - 1 - tr]'hidx) = true
            · clear hfin
              go_wp2_with (go_at_call 20; refine (hwByte_any _ _).mono ?_; rintro e w' ⟨rfl, rfl⟩)
              go_round
              case rel => exact ⟨tr + 1, by omega, by go_num, fun t ht h => by
                by_cases e : t = s.size - 1 - tr
                · subst e; exact hb
                · exact htall t (by have := HN.out; omega) h⟩
              case measure => simp [intOf]; omega
            · have hb : hwb (s[s.size - 1 - tr]'hidx) = false := by simpa using hb
              have hf := hfin (.inr ⟨by rw [HN.out]; omega, hb⟩)
              clear hfin
              by_cases hm : m < 0
              · obtain ⟨hk1, HF⟩ := hf 0 (.inl ⟨hm, rfl⟩)
                clear hf
                go_wp2_with (go_at_call 20; refine (hwByte_any _ _).mono ?_; rintro e w' ⟨rfl, rfl⟩)
                go_ret
                exact ⟨ret_str HF.out, rfl⟩
              · by_cases hml : (lead : Int) < m
                · obtain ⟨hk1, HF⟩ := hf lead (.inr (.inr ⟨hml, rfl⟩))
                  clear hf
                  go_wp2_with (go_at_call 20; refine (hwByte_any _ _).mono ?_; rintro e w' ⟨rfl, rfl⟩)
                  go_ret
                  exact ⟨ret_str HF.out, rfl⟩
                · obtain ⟨k, rfl⟩ : ∃ k : Nat, m = k := ⟨m.toNat, by omega⟩
                  obtain ⟨hk1, HF⟩ := hf k (.inr (.inl ⟨by omega, rfl, by omega⟩))
                  clear hf
                  go_wp2_with (go_at_call 20; refine (hwByte_any _ _).mono ?_; rintro e w' ⟨rfl, rfl⟩)
                  go_ret
                  exact ⟨ret_str HF.out, rfl⟩
          · obtain rfl : tr = s.size := by omega
            exfalso
            obtain ⟨hh1, hf1⟩ := HEnd.out
            have := htall lead (by omega) hh1
            rw [this] at hf1
            cases hf1
    · obtain rfl : lead = s.size := by omega
      have HM : Hid ((⟨#[]⟩ : ByteArray) = modelB s m) := by
        show _ = _
        unfold modelB
        rw [model_all s.data.toList m fun t h => hall t (by rw [← HN.out]; exact h) h]
      go_wp2
      go_ret
      exact ⟨ret_str HM.out, rfl⟩
end Go.Proofs.Ytlebpbohddineaa
