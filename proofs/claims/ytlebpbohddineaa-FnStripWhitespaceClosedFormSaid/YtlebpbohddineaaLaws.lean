/- The strip of an x and one rune; the shims. -/
import Derived.Test.YtlebpbohddineaaStrip
namespace Go.Proofs.Ytlebpbohddineaa
open Go.RowKit

theorem zzStrip_any (s : ByteArray) (m : Int) (w : World) (hs : s.size ≤ 4194304) (hm0 : -9223372036854775808 ≤ m) (hm1 : m ≤ 9223372036854775807) :
    Calls Try.prog 11 #[.string s, .int .i64 m] w fun e w' => e = .returned (.string (runesBytes (stripR (runesOf s) m))) ∧ Below w.heap.size w w' := by
  go_enter Try.func11, Try.ntmps11
  go_wp2_with (go_at_call 18; refine (strip_any _ _ _ hs hm0 hm1).mono ?_; rintro e w' ⟨rfl, hb⟩)
  go_ret
  exact ⟨rfl, hb⟩
theorem x_runes (r : Int) : ∃ r', okR r' ∧ hw r' = hw r ∧ runesOf ((⟨#[120]⟩ : ByteArray) ++ Utf8.encode r) = [120, r'] := by
  have hx : encL 120 = [120] := by decide
  have h120 : okR 120 := by unfold okR; omega
  by_cases hok : okR r
  · refine ⟨r, hok, rfl, ?_⟩
    have he : ((⟨#[120]⟩ : ByteArray) ++ Utf8.encode r).data.toList = encAll [120, r] := by
      rw [ByteArray.data_append, Array.toList_append, encAll_cons, encAll_cons, hx]
      simp [encAll_nil, encL]
    unfold runesOf
    rw [he]
    refine decAll_enc [120, r] _ (fun x hxm => by simp at hxm; rcases hxm with rfl | rfl <;> assumption) ?_
    rw [← he, Array.length_toList]
    exact Nat.le_refl _
  · have hbad : hw r = false := by
      unfold okR at hok
      exact decide_eq_false (by omega)
    refine ⟨65533, okR_65533, by rw [hbad]; decide, ?_⟩
    have he : ((⟨#[120]⟩ : ByteArray) ++ Utf8.encode r).data.toList = encAll [120, 65533] := by
      rw [ByteArray.data_append, Array.toList_append, encAll_cons, encAll_cons, hx]
      have : (Utf8.encode r).data.toList = encL 65533 := encL_bad r hok
      rw [this]
      simp [encAll_nil]
    unfold runesOf
    rw [he]
    refine decAll_enc [120, 65533] _ (fun x hxm => by
      simp at hxm
      rcases hxm with rfl | rfl
      · exact h120
      · exact okR_65533) ?_
    rw [← he, Array.length_toList]
    exact Nat.le_refl _
theorem strip_x (r : Int) : ((runesBytes (stripR (runesOf ((⟨#[120]⟩ : ByteArray) ++ Utf8.encode r)) 0)).toList == [120]) = hw r := by
  obtain ⟨r', hok, hh, hr⟩ := x_runes r
  have hx : encL 120 = [120] := by decide
  have h120 : hw 120 = false := by decide
  rw [hr, ByteArray.toList_eq, runesBytes_data, ← hh]
  have hlo : lo hw [120, r'] 0 = 0 := by simp [lo]
  unfold stripR
  rw [hlo, List.drop_zero]
  cases hw' : hw r' with
  | true =>
    have ht : trim hw [120, r'] = [120] := by simp [trim, hw', h120]
    rw [ht, encAll_cons, hx]
    rfl
  | false =>
    have ht : trim hw [120, r'] = [120, r'] := by simp [trim, hw']
    rw [ht, encAll_cons, encAll_cons, hx]
    have hp := encL_pos r'
    cases he : encL r' with
    | nil => rw [he] at hp; simp at hp
    | cons b t => simp
theorem stripped_size (s : ByteArray) (m : Int) (hs : s.size ≤ 1048576) : (runesBytes (stripR (runesOf s) m)).size ≤ 4194304 := by
  have h1 := runesBytes_size_le (stripR (runesOf s) m)
  have h2 := runesOf_length s
  have h3 : (stripR (runesOf s) m).length ≤ (runesOf s).length := by
    unfold stripR
    refine Nat.le_trans (trim_len _ _) ?_
    rw [List.length_drop]
    omega
  omega
end Go.Proofs.Ytlebpbohddineaa
