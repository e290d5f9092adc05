/- An abstract pass that inherits all of pass.Base but FodderElement: its state, the walk over a fodder. -/
import Derived.Test.YtfmmpllnhmehnaaProg
import Derived.WalkKit
import Derived.WalkLawsBesides
import Derived.WalkSpells
import Derived.Lib.Hide
import Derived.OwnWalk
import Derived.Outline
import Derived.StillTailTactics
import Derived.Deep.RegionWith
import Derived.Deep.QuietTactic
import Derived.BigQuiet
import Derived.Handy
namespace Go.Proofs.Ytfmmpllnhmehnaa
open Go.RowKit
/-- Blocks of these types are no recorder and no row of ints. -/
def Old (t : Nat) : Prop := t ≠ 3 ∧ t ≠ 39 ∧ t ≠ 49 ∧ t ≠ 27
instance (t : Nat) : Decidable (Old t) := by unfold Old; infer_instance
def Kept (w w' : World) : Prop := w.heap.size ≤ w'.heap.size ∧ ∀ (k : Nat) (c : Array Value) (t : Nat), w.heap[k]? = some (.cells c t (0, 0)) → Old t → w'.heap[k]? = some (.cells c t (0, 0))
theorem Kept.refl (w : World) : Kept w w := ⟨Nat.le_refl _, fun _ _ _ h _ => h⟩
theorem Kept.go {a b c : World} (h : Kept a b) (k : Kept b c) : Kept a c := ⟨Nat.le_trans h.1 k.1, fun i x t hx ho => k.2 i x t (h.2 i x t hx ho) ho⟩
theorem Kept.drew {a b : World} (h : Kept a b) : Kept a b.drew := h
theorem Kept.at {a b : World} {A t : Nat} {c : Array Value} (h : Kept a b) (hx : a.heap[A]? = some (.cells c t (0, 0))) (ho : Old t) : b.heap[A]? = some (.cells c t (0, 0)) := h.2 A c t hx ho
theorem lt_of_at {w : World} {A : Nat} {x : Obj} (h : w.heap[A]? = some x) : A < w.heap.size := (Array.getElem?_eq_some_iff.1 h).1
theorem Kept.al {a b : World} (h : Kept a b) (o : Obj) : Kept a (b.alloc o) := ⟨Nat.le_trans h.1 (by simp), fun k c t hx ho => (Below.heap_alloc b o k (lt_of_at (h.2 k c t hx ho))).trans (h.2 k c t hx ho)⟩
def Fits (xs : List Int) : Prop := xs.length ≤ 1000000
theorem Fits.mono {a b : List Int} (h : Fits a) (hl : b.length ≤ a.length) : Fits b := Nat.le_trans hl h
structure PassOK (TP B FEI : Nat) (ctx : Value) (St : World → List Int → Prop) : Prop where
  al : ∀ {w xs} (o : Obj), St w xs → St (w.alloc o) xs
  dr : ∀ {w xs}, St w xs → St w.drew xs
  fe : ∀ {w xs} (b : Value) (E eo : Nat) (x : Int), St w xs → Fits (xs ++ [x]) → w.cell? ⟨E, eo + 2, none⟩ = some (.int .i64 x) → Calls Try.prog FEI #[.pointer (some ⟨B, 0, none⟩), b, .pointer (some ⟨E, eo, none⟩), ctx] w fun e w' => e = .returned (.tuple #[]) ∧ St w' (xs ++ [x]) ∧ Kept w w'
  cf : ∀ (args : Array Value) (w : World), (callFunc FEI args).run Try.prog w = .ok (.enter FEI args) w
  n_FodderElement : ∀ {w xs}, St w xs → (nilAhead 356 TP (.pointer (some ⟨B, 0, none⟩)) "FodderElement").run Try.prog w = .ok (some false) w
  m_FodderElement : ∀ {w xs}, St w xs → (method 356 TP (.pointer (some ⟨B, 0, none⟩)) "FodderElement").run Try.prog w = .ok (FEI, .pointer (some ⟨B, 0, none⟩)) w
  n_Fodder : ∀ {w xs}, St w xs → (nilAhead 356 TP (.pointer (some ⟨B, 0, none⟩)) "Fodder").run Try.prog w = .ok (some false) w
  m_Fodder : ∀ {w xs}, St w xs → (method 356 TP (.pointer (some ⟨B, 0, none⟩)) "Fodder").run Try.prog w = .ok (45, .pointer (some ⟨B, 0, none⟩)) w
  n_Visit : ∀ {w xs}, St w xs → (nilAhead 356 TP (.pointer (some ⟨B, 0, none⟩)) "Visit").run Try.prog w = .ok (some false) w
  m_Visit : ∀ {w xs}, St w xs → (method 356 TP (.pointer (some ⟨B, 0, none⟩)) "Visit").run Try.prog w = .ok (16, .pointer (some ⟨B, 0, none⟩)) w
  n_Array : ∀ {w xs}, St w xs → (nilAhead 356 TP (.pointer (some ⟨B, 0, none⟩)) "Array").run Try.prog w = .ok (some false) w
  m_Array : ∀ {w xs}, St w xs → (method 356 TP (.pointer (some ⟨B, 0, none⟩)) "Array").run Try.prog w = .ok (38, .pointer (some ⟨B, 0, none⟩)) w
  n_Binary : ∀ {w xs}, St w xs → (nilAhead 356 TP (.pointer (some ⟨B, 0, none⟩)) "Binary").run Try.prog w = .ok (some false) w
  m_Binary : ∀ {w xs}, St w xs → (method 356 TP (.pointer (some ⟨B, 0, none⟩)) "Binary").run Try.prog w = .ok (41, .pointer (some ⟨B, 0, none⟩)) w
  n_Conditional : ∀ {w xs}, St w xs → (nilAhead 356 TP (.pointer (some ⟨B, 0, none⟩)) "Conditional").run Try.prog w = .ok (some false) w
  m_Conditional : ∀ {w xs}, St w xs → (method 356 TP (.pointer (some ⟨B, 0, none⟩)) "Conditional").run Try.prog w = .ok (42, .pointer (some ⟨B, 0, none⟩)) w
  n_LiteralNull : ∀ {w xs}, St w xs → (nilAhead 356 TP (.pointer (some ⟨B, 0, none⟩)) "LiteralNull").run Try.prog w = .ok (some false) w
  m_LiteralNull : ∀ {w xs}, St w xs → (method 356 TP (.pointer (some ⟨B, 0, none⟩)) "LiteralNull").run Try.prog w = .ok (53, .pointer (some ⟨B, 0, none⟩)) w
  n_Parens : ∀ {w xs}, St w xs → (nilAhead 356 TP (.pointer (some ⟨B, 0, none⟩)) "Parens").run Try.prog w = .ok (some false) w
  m_Parens : ∀ {w xs}, St w xs → (method 356 TP (.pointer (some ⟨B, 0, none⟩)) "Parens").run Try.prog w = .ok (59, .pointer (some ⟨B, 0, none⟩)) w
  n_Unary : ∀ {w xs}, St w xs → (nilAhead 356 TP (.pointer (some ⟨B, 0, none⟩)) "Unary").run Try.prog w = .ok (some false) w
  m_Unary : ∀ {w xs}, St w xs → (method 356 TP (.pointer (some ⟨B, 0, none⟩)) "Unary").run Try.prog w = .ok (63, .pointer (some ⟨B, 0, none⟩)) w
  n_Var : ∀ {w xs}, St w xs → (nilAhead 356 TP (.pointer (some ⟨B, 0, none⟩)) "Var").run Try.prog w = .ok (some false) w
  m_Var : ∀ {w xs}, St w xs → (method 356 TP (.pointer (some ⟨B, 0, none⟩)) "Var").run Try.prog w = .ok (64, .pointer (some ⟨B, 0, none⟩)) w
theorem heap_alloc_new (w : World) (o : Obj) : (w.alloc o).heap[w.heap.size]? = some o := by
  show (w.heap.push o)[w.heap.size]? = _
  simp
theorem at_new {W : World} {o : Obj} {k : Nat} (h : k = W.heap.size) : (W.alloc o).heap[k]? = some o := by subst h; exact heap_alloc_new W o
theorem at_old {W : World} {o x : Obj} {k : Nat} (h : W.heap[k]? = some x) : (W.alloc o).heap[k]? = some x := (Below.heap_alloc W o k (Array.getElem?_eq_some_iff.1 h).1).trans h
theorem cell_of {w : World} {A k T : Nat} {c : Array Value} {v : Value} {fr : Nat × Nat} (h : w.heap[A]? = some (.cells c T fr)) (hv : c[k]? = some v) : w.cell? ⟨A, k, none⟩ = some v := by simp [World.cell?, h, hv]
theorem cell_drew {w : World} {a : Addr} {v : Value} (h : w.cell? a = some v) : w.drew.cell? a = some v := h
theorem setCell_same {w : World} {g i : Nat} {v : Value} (h : w.cell? ⟨g, i, none⟩ = some v) : w.setCell ⟨g, i, none⟩ v = w := by
  have hh : w.heap.modify g (fun o => match o with | .cells c elem fr => .cells (if (none : Option Nat).isSome then c else c.setIfInBounds i v) elem fr | x => x) = w.heap := by
    apply Array.ext
    · simp
    · intro k h1 h2
      rw [Array.getElem_modify]
      split
      · rename_i e
        subst e
        have hk : w.heap[g]? = some w.heap[g] := Array.getElem?_eq_getElem h2
        unfold World.cell? at h
        rw [hk] at h
        cases ho : w.heap[g] with
        | cells c elem fr =>
          rw [ho] at h
          simp at h
          simp only [Option.isSome_none, Bool.false_eq_true, if_false]
          congr 1
          apply Array.ext
          · simp
          · intro m h3 h4
            rw [Array.getElem_setIfInBounds]
            split
            · rename_i e
              subst e
              obtain ⟨_, he⟩ := Array.getElem?_eq_some_iff.1 h
              exact he.symm
            · rfl
        | _ => rfl
      · rfl
  exact congrArg (fun h => { w with heap := h }) hh
theorem open_any (S o : Nat) (w : World) : Calls Try.prog 76 #[.pointer (some ⟨S, o, none⟩)] w fun e w' => e = .returned (.pointer (some ⟨S, o, none⟩)) ∧ w = w' := by
  go_enter Try.func76, Try.ntmps76
  go_wp2
  go_ret
  exact ⟨rfl, rfl⟩
/-- f is a fodder whose elements bear the tags ys. -/
def FodT (w : World) (f : Value) (ys : List Int) : Prop := (∃ fa cap, f = .slice fa 0 cap ∧ ys = []) ∨
  ∃ g cap ce, f = .slice (some ⟨g, 0, none⟩) ys.length cap ∧ ys.length ≤ 8 ∧ w.heap[g]? = some (.cells ce 94 (0, 0)) ∧ ∀ i x, ys[i]? = some x → ce[i * 4 + 2]? = some (.int .i64 x)
theorem FodT.keep {w w' : World} {f : Value} {ys : List Int} (h : FodT w f ys) (k : Kept w w') : FodT w' f ys := by
  rcases h with h | ⟨g, cap, ce, h1, h2, h3, h4⟩
  · exact .inl h
  · exact .inr ⟨g, cap, ce, h1, h2, k.at h3 (by decide), h4⟩
theorem fodP_zero {TP B : Nat} {ctx : Value} {St : World → List Int → Prop} (b : Value) (F o : Nat) (fa : Option Addr) (cap : Nat) (w : World) (xs : List Int) (hst : St w xs) (hF : w.cell? ⟨F, o, none⟩ = some (.slice fa 0 cap)) :
    Calls Try.prog 45 #[b, .iface TP (.pointer (some ⟨B, 0, none⟩)), .pointer (some ⟨F, o, none⟩), ctx] w fun e w' => e = .returned (.tuple #[]) ∧ St w' (xs ++ []) ∧ Kept w w' := by
  have HS := Lib.hid hst
  clear hst
  go_enter Try.func45, Try.ntmps45
  go_wp2
  go_loopw [13] (fun i wr => i = .int .i64 0 ∧ wr = w) (fun _ _ => 0)
  case atStart => exact ⟨rfl, rfl⟩
  case round =>
    obtain ⟨rfl, rfl⟩ := hrel
    go_wp2
    go_end0
    exact ⟨rfl, by rw [List.append_nil]; exact HS.out, Kept.refl _⟩
set_option maxRecDepth 100000 in
set_option maxHeartbeats 4000000 in
theorem fodP_some {TP B FEI : Nat} {ctx : Value} {St : World → List Int → Prop} (P : PassOK TP B FEI ctx St) (b : Value) (F o T g cap : Nat) (cF ce : Array Value) (w : World) (xs ys : List Int) (hst : St w xs) (hF : w.heap[F]? = some (.cells cF T (0, 0))) (hT : Old T) (hv : cF[o]? = some (.slice (some ⟨g, 0, none⟩) ys.length cap)) (hl : ys.length ≤ 8)
    (hg : w.heap[g]? = some (.cells ce 94 (0, 0))) (he : ∀ i x, ys[i]? = some x → ce[i * 4 + 2]? = some (.int .i64 x)) (hb : Fits (xs ++ ys)) :
    Calls Try.prog 45 #[b, .iface TP (.pointer (some ⟨B, 0, none⟩)), .pointer (some ⟨F, o, none⟩), ctx] w fun e w' => e = .returned (.tuple #[]) ∧ St w' (xs ++ ys) ∧ Kept w w' := by
  have HP := Lib.hid P
  have HS := Lib.hid hst
  have HF := Lib.hid hF
  have HT := Lib.hid hT
  have HV := Lib.hid hv
  have HG := Lib.hid hg
  have HE := Lib.hid he
  have HB := Lib.hid hb
  have HL := Lib.hid hl
  have c1 := cell_of hF hv
  generalize hn : ys.length = n at *
  have HN := Lib.hid hn
  clear P hst hF hT hv hg he hb hn hl
  go_enter Try.func45, Try.ntmps45
  go_wp2
  clear c1
  go_loopw [13] (fun i wr => ∃ k : Nat, k ≤ n ∧ i = .int .i64 k ∧ Hid (St wr (xs ++ ys.take k)) ∧ Hid (Kept w wr)) (fun i _ => n - (intOf i).toNat)
  case atStart => exact ⟨0, Nat.zero_le _, rfl, Lib.hid (by simpa using HS.out), Lib.hid (Kept.refl _)⟩
  case round =>
    obtain ⟨k, hk, rfl, hst, hkp⟩ := hrel
    have c1 := cell_of (hkp.out.at HF.out HT.out) HV.out
    have hn8 := HL.out
    by_cases hlt : k < n
    · obtain ⟨x, hx⟩ : ∃ x, ys[k]? = some x := ⟨ys[k]'(by have := HN.out; omega), by simp [HN.out, hlt]⟩
      have HX := Lib.hid hx
      have ec := Lib.hid (cell_drew (cell_of (hkp.out.at HG.out (by decide)) (HE.out k x hx)))
      have FT := Lib.hid (show Fits ((xs ++ ys.take k) ++ [x]) from HB.out.mono (by have := HN.out; simp; omega))
      clear hx
      have n1 := HP.out.n_FodderElement (HP.out.dr hst.out)
      have m1 := HP.out.m_FodderElement (HP.out.dr hst.out)
      have cf := HP.out.cf
      go_wp2_with fail
      go_region_with (first | ((with_reducible refine (HP.out.fe _ _ _ x (HP.out.dr hst.out) FT.out ec.out).mono ?_); rintro e w2 ⟨rfl, hs2, hk2⟩))
      all_goals
        have S2 := Lib.hid (show St w2 (xs ++ ys.take (k + 1)) by rw [List.take_add_one, HX.out]; simpa only [Option.toList, List.append_assoc] using hs2)
        have K2 := Lib.hid (hkp.out.drew.go hk2)
        clear hs2 hk2 n1 m1 cf c1 hst hkp ec
        go_wp2
        go_roundw
        case rel => exact ⟨k + 1, by omega, by go_num, S2, K2⟩
        case measure => first | (simp [intOf]; done) | (simp [intOf]; omega)
    · have hkn : k = n := by omega
      clear hn8
      have S2 := Lib.hid (show St _ (xs ++ ys) by have := hst.out; rw [List.take_of_length_le (by have := HN.out; omega)] at this; exact this)
      go_wp2
      go_end0
      exact ⟨rfl, S2.out, hkp.out⟩
theorem fodP {TP B FEI : Nat} {ctx : Value} {St : World → List Int → Prop} (P : PassOK TP B FEI ctx St) (b f : Value) (F o T : Nat) (cF : Array Value) (w : World) (xs ys : List Int) (hst : St w xs) (hF : w.heap[F]? = some (.cells cF T (0, 0))) (hT : Old T) (hv : cF[o]? = some f) (hf : FodT w f ys) (hb : Fits (xs ++ ys)) :
    Calls Try.prog 45 #[b, .iface TP (.pointer (some ⟨B, 0, none⟩)), .pointer (some ⟨F, o, none⟩), ctx] w fun e w' => e = .returned (.tuple #[]) ∧ St w' (xs ++ ys) ∧ Kept w w' := by
  rcases hf with ⟨fa, cap, rfl, rfl⟩ | ⟨g, cap, ce, rfl, hl, hg, he⟩
  · exact fodP_zero b F o fa cap w xs hst (cell_of hF hv)
  · exact fodP_some P b F o T g cap cF ce w xs ys hst hF hT hv hl hg he hb
/-- From w on the pass walks the node slot at a and sees ys. -/
def VisS (TP B : Nat) (ctx : Value) (St : World → List Int → Prop) (w : World) (a : Addr) (ys : List Int) : Prop := ∀ w1, Kept w w1 → ∀ (b : Value) (xs : List Int), St w1 xs → Fits (xs ++ ys) →
  Calls Try.prog 16 #[b, .iface TP (.pointer (some ⟨B, 0, none⟩)), .pointer (some a), ctx] w1 fun e w' => e = .returned (.tuple #[]) ∧ St w' (xs ++ ys) ∧ Kept w1 w'
/-- .. the fodder slot at a. -/
def FodS (TP B : Nat) (ctx : Value) (St : World → List Int → Prop) (w : World) (a : Addr) (ys : List Int) : Prop := ∀ w1, Kept w w1 → ∀ (b : Value) (xs : List Int), St w1 xs → Fits (xs ++ ys) →
  Calls Try.prog 45 #[b, .iface TP (.pointer (some ⟨B, 0, none⟩)), .pointer (some a), ctx] w1 fun e w' => e = .returned (.tuple #[]) ∧ St w' (xs ++ ys) ∧ Kept w1 w'
theorem VisS.keep {TP B : Nat} {ctx : Value} {St : World → List Int → Prop} {w w1 : World} {a : Addr} {ys : List Int} (h : VisS TP B ctx St w a ys) (k : Kept w w1) : VisS TP B ctx St w1 a ys := fun w2 h2 => h w2 (k.go h2)
theorem FodS.keep {TP B : Nat} {ctx : Value} {St : World → List Int → Prop} {w w1 : World} {a : Addr} {ys : List Int} (h : FodS TP B ctx St w a ys) (k : Kept w w1) : FodS TP B ctx St w1 a ys := fun w2 h2 => h w2 (k.go h2)
theorem fodS_of {TP B FEI : Nat} {ctx : Value} {St : World → List Int → Prop} (P : PassOK TP B FEI ctx St) {w : World} {F o T : Nat} {cF : Array Value} {f : Value} {ys : List Int} (hF : w.heap[F]? = some (.cells cF T (0, 0))) (hT : Old T) (hv : cF[o]? = some f) (hf : FodT w f ys) : FodS TP B ctx St w ⟨F, o, none⟩ ys :=
  fun w1 k b xs hst hb => fodP P b f F o T cF w1 xs ys hst (k.at hF hT) hT hv (hf.keep k) hb
end Go.Proofs.Ytfmmpllnhmehnaa
