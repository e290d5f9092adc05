/- The builder's node: its contract; the leaf when the codes are spent. -/
import Derived.Test.YtfmmpllnhmehnaaFod
namespace Go.Proofs.Ytfmmpllnhmehnaa
open Go.RowKit
structure NodeR (w w' : World) (K : Nat) (vo vf : Value) (N pos slot next pos' slot' next' : Nat) (v : Value) : Prop where
  frm : Frm w w' K
  bk : BK w' K vo vf pos' slot' next'
  p1 : pos ≤ pos'
  p2 : pos' ≤ N
  s0 : slot ≤ slot'
  s1 : slot' ≤ slot + 6 * (pos' - pos) + 1
  n0 : next ≤ next'
  n1 : next' ≤ next + 2 * (slot' - slot)
  tr : Tr (mask w.heap.size w') v (tags next (next' - next))
def NodePost (w : World) (K : Nat) (vo vf : Value) (N pos slot next : Nat) (e : Ending) (w' : World) : Prop := ∃ tg vg pos' slot' next', e = .returned (.iface tg vg) ∧ NodeR w w' K vo vf N pos slot next pos' slot' next' (.iface tg vg)
def NodeC (N : Nat) (ol fl : List Nat) (r : Nat) : Prop := ∀ (w : World) (K : Nat) (vo vf : Value) (pos slot next : Nat), N - pos ≤ r → pos ≤ N → BK w K vo vf pos slot next → Bytes w vo ol → Bytes w vf fl → next ≤ 2 * slot → slot + 6 * (N - pos) + 1 ≤ 60000 →
  Calls Try.prog 10 #[.pointer (some ⟨K, 0, none⟩)] w (NodePost w K vo vf N pos slot next)
theorem Bytes.form {w : World} {v : Value} {l : List Nat} (h : Bytes w v l) : ∃ fa cap, v = .slice fa l.length cap := by
  rcases h with ⟨h1, h2⟩ | ⟨O, cap, c, h1, _⟩
  · exact ⟨none, 0, by rw [h1, h2]; rfl⟩
  · exact ⟨_, _, h1⟩
theorem Bytes.some {w : World} {v : Value} {l : List Nat} {i x : Nat} (h : Bytes w v l) (hx : l[i]? = some x) : ∃ (O cap : Nat) (c : Array Value), v = .slice (some ⟨O, 0, none⟩) l.length cap ∧ w.heap[O]? = some (.cells c 5 (0, 0)) ∧ x < 256 ∧ c[i]? = some (.int .u8 (x : Int)) := by
  rcases h with ⟨h1, h2⟩ | ⟨O, cap, c, h1, h2, h3⟩
  · rw [h2] at hx; simp at hx
  · exact ⟨O, cap, c, h1, h2, h3 i x hx⟩
set_option maxRecDepth 100000 in
set_option maxHeartbeats 4000000 in
theorem node_leaf (N : Nat) (ol fl : List Nat) (hN : ol.length = N) (hfl : fl.length ≤ 4096) (w : World) (K : Nat) (vo vf : Value) (slot next : Nat) (hK : BK w K vo vf N slot next) (ho : Bytes w vo ol) (hf : Bytes w vf fl) (hns : next ≤ 2 * slot) (hs : slot + 1 ≤ 60000) :
    Calls Try.prog 10 #[.pointer (some ⟨K, 0, none⟩)] w (NodePost w K vo vf N N slot next) := by
  obtain ⟨oa, oc, rfl⟩ := ho.form
  rw [hN] at hK ho ⊢
  have HK := Lib.hid hK
  have HF := Lib.hid hf
  have HL := Lib.hid hfl
  have HKl := Lib.hid (lt_of_at hK)
  have NS := Lib.hid hns
  have SS := Lib.hid hs
  unfold BK at hK
  have k0 := cell_of (k := 0) hK rfl
  have k1 := cell_of (k := 1) hK rfl
  clear hK ho hf hfl hns hs hN
  go_enter Try.func10, Try.ntmps10
  go_wp2_with fail
  go_quiet (fail)
  generalize hW : World.drewN _ _ = W1
  have B1 : Hid (BK W1 K (.slice oa N oc) vf N slot next) := by rw [← hW]; exact HK.out
  have F1 : Hid (Frm w W1 K) := by rw [← hW]; exact (Frm.refl w K).drewN _
  clear hW k0 k1
  go_wp2_with fail
  refine (fodder_any K slot next N _ vf fl W1 B1.out (HF.out.keep (F1.out.kept HK.out)) HL.out (by have := SS.out; omega) (by have := SS.out; have := NS.out; omega)).mono ?_
  rintro e w1 ⟨fa0, fl0, fc0, n1, rfl, R1⟩
  replace R1 := Lib.hid R1
  go_wp2
  go_ret
  refine ⟨_, _, N, slot + 1, n1, rfl, (F1.out.trans R1.out.frm).al _, at_old R1.out.bk, Nat.le_refl _, Nat.le_refl _, by omega, by omega, R1.out.n0, by have := R1.out.n1; omega, ?_⟩
  exact .null (mask_at (at_new rfl) (F1.out.trans R1.out.frm).size) rfl (R1.out.fod.keep (keepM ((Frm.refl w1 K).al _) (Nat.lt_of_lt_of_le HKl.out F1.out.size) F1.out.size))
end Go.Proofs.Ytfmmpllnhmehnaa
