/- A string's bytes in memory, the first made a capital, and read back as a string. -/
import Derived.Test.YtkbbkfggkacplaaKeys
import Derived.Laws.IdiomStrings
namespace Go.Proofs.Ytkbbkfggkacplaa
open Go.RowKit
theorem conv_bytes (w : World) (s : ByteArray) : ∃ (W1 : World) (cap : Nat), (convert 9 31 (.string s)).run Try.prog w = .ok (.slice (some ⟨w.heap.size, 0, none⟩) s.size cap) W1 ∧ s.size ≤ cap ∧
    (∀ j, (h : j < s.size) → W1.cell? ⟨w.heap.size, j, none⟩ = some (.int .u8 (s[j].toNat : Int))) ∧ (∀ j, j < s.size → W1.frozen? ⟨w.heap.size, j, none⟩ = false) ∧ Below w.heap.size w W1 := by
  have hcap := grownCap_ge w s.size 0 5
  have hrow : s.size ≤ (bytesRow s (grownCap w s.size 0 5)).size := by
    unfold bytesRow
    rw [Array.size_append, Array.size_map]
    show s.size ≤ s.size + _
    omega
  refine ⟨_, _, run_bytes_of_string (P := Try.prog) w 9 31 5 s Try.underlying9 Try.underlying31 Try.underlying5, by omega, fun j h => ?_, fun j h => ?_, ?_⟩
  · exact (World.cell?_alloc_mark w.drew _ 5 _ j).trans (bytesRow_at s _ j h)
  · refine (World.frozen?_alloc_mark w.drew _ 5 _ _ j).trans ?_
    rw [decide_eq_false (by omega), Bool.false_and]
  · exact ((Below.refl _ _).drew).alloc (Nat.le_refl _) _
theorem capL_get (s : ByteArray) (h0 : 0 < s.size) : capL s.toList = (s[0] - 32) :: s.toList.tail := by
  rw [ByteArray.toList_eq]
  match he : s.data.toList, (show 0 < s.data.toList.length by rw [Array.length_toList]; exact h0) with
  | x :: xs, _ =>
    have : s[0] = x := by
      show s.data[0] = x
      have := Array.getElem_toList (xs := s.data) (i := 0) h0
      rw [← this]
      simp [he]
    rw [this]
    rfl
theorem conv_back (w W1 : World) (s : ByteArray) (cap : Nat) (h0 : 0 < s.size) (hlo : 97 ≤ s[0].toNat) (hc : ∀ j, (h : j < s.size) → W1.cell? ⟨w.heap.size, j, none⟩ = some (.int .u8 (s[j].toNat : Int))) (v : Int) (hv : v = (s[0].toNat : Int) - 97 + 65) :
    (convert 31 9 (.slice (some ⟨w.heap.size, 0, none⟩) s.size cap)).run Try.prog (W1.setCell ⟨w.heap.size, 0, none⟩ (.int .u8 v)) = .ok (.string ⟨(capL s.toList).toArray⟩) (W1.setCell ⟨w.heap.size, 0, none⟩ (.int .u8 v)) := by
  have hlen : s.size = (capL s.toList).length := by
    have hl : s.toList.length = s.size := by rw [ByteArray.toList_eq, Array.length_toList]; rfl
    rw [capL_get s h0, List.length_cons, List.length_tail, hl]
    omega
  have hrun := run_convert_bytes_back (P := Try.prog) (W1.setCell ⟨w.heap.size, 0, none⟩ (.int .u8 v)) 31 9 5 ⟨w.heap.size, 0, none⟩ cap (capL s.toList) Try.underlying31 Try.underlying5 Try.underlying9 (fun j hj => by
    have hadd : (⟨w.heap.size, 0, none⟩ : Addr).add j = ⟨w.heap.size, j, none⟩ := by
      unfold Addr.add
      split
      · rename_i h; subst h; rfl
      · simp
    rw [hadd]
    by_cases hj0 : j = 0
    · subst hj0
      rw [World.cell?_setCell_same _ _ _ (by rw [hc 0 h0])]
      have e : (capL s.toList)[0]'hj = s[0] - 32 := by simp [capL_get s h0]
      rw [e, hv]
      have h32 : (32 : UInt8) ≤ s[0] := by rw [UInt8.le_iff_toNat_le]; show 32 ≤ _; omega
      rw [UInt8.toNat_sub_of_le _ _ h32]
      congr 2
      show _ = ((s[0].toNat - 32 : Nat) : Int)
      omega
    · rw [World.cell?_setCell_other _ _ _ _ (fun e => hj0 (by injection e with _ e; exact e.symm))]
      rw [hc j (by omega)]
      congr 3
      obtain ⟨k, rfl⟩ : ∃ k, j = k + 1 := ⟨j - 1, by omega⟩
      have e : (capL s.toList)[k + 1]'hj = s.toList.tail[k]'(by rw [capL_get s h0] at hj; simpa using hj) := by simp [capL_get s h0]
      rw [e, List.getElem_tail]
      simp only [ByteArray.toList_eq]
      rfl)
  rw [← hlen] at hrun
  exact hrun
end Go.Proofs.Ytkbbkfggkacplaa
