/- The tree in memory; the abstract pass sees its tags in the order of the source. -/
import Derived.Test.YtfmmpllnhmehnaaPVLiteralNull
import Derived.Test.YtfmmpllnhmehnaaPVVar
import Derived.Test.YtfmmpllnhmehnaaPVBinary
import Derived.Test.YtfmmpllnhmehnaaPVUnary
import Derived.Test.YtfmmpllnhmehnaaPVParens
import Derived.Test.YtfmmpllnhmehnaaPVConditional
import Derived.Test.YtfmmpllnhmehnaaPVArray
import Derived.Test.YtfmmpllnhmehnaaPMBinary
import Derived.Test.YtfmmpllnhmehnaaPMUnary
import Derived.Test.YtfmmpllnhmehnaaPMParens
import Derived.Test.YtfmmpllnhmehnaaPMConditional
import Derived.Test.YtfmmpllnhmehnaaPMArray
namespace Go.Proofs.Ytfmmpllnhmehnaa
open Go.RowKit
inductive Tr (w : World) : Value → List Int → Prop
  | null {U : Nat} {cu : Array Value} {f : Value} {ys : List Int} (hU : w.heap[U]? = some (.cells cu 66 (0, 0))) (hf : cu[0]? = some f) (hF : FodT w f ys) : Tr w (.iface 52 (.pointer (some ⟨U, 0, none⟩))) ys
  | var {U : Nat} {cu : Array Value} {f : Value} {ys : List Int} (hU : w.heap[U]? = some (.cells cu 70 (0, 0))) (hf : cu[1]? = some f) (hF : FodT w f ys) : Tr w (.iface 67 (.pointer (some ⟨U, 0, none⟩))) ys
  | binary {U : Nat} {cu : Array Value} {f : Value} {ys : List Int} (hU : w.heap[U]? = some (.cells cu 74 (0, 0))) (hf : cu[3]? = some f) (hF : FodT w f ys) {v0 : Value} {y0 : List Int} (c0 : cu[1]? = some v0) (h0 : Tr w v0 y0) {v1 : Value} {y1 : List Int} (c1 : cu[2]? = some v1) (h1 : FodT w v1 y1) {v2 : Value} {y2 : List Int} (c2 : cu[0]? = some v2) (h2 : Tr w v2 y2) : Tr w (.iface 71 (.pointer (some ⟨U, 0, none⟩))) (ys ++ (y0 ++ (y1 ++ (y2))))
  | unary {U : Nat} {cu : Array Value} {f : Value} {ys : List Int} (hU : w.heap[U]? = some (.cells cu 78 (0, 0))) (hf : cu[1]? = some f) (hF : FodT w f ys) {v0 : Value} {y0 : List Int} (c0 : cu[0]? = some v0) (h0 : Tr w v0 y0) : Tr w (.iface 75 (.pointer (some ⟨U, 0, none⟩))) (ys ++ (y0))
  | parens {U : Nat} {cu : Array Value} {f : Value} {ys : List Int} (hU : w.heap[U]? = some (.cells cu 81 (0, 0))) (hf : cu[2]? = some f) (hF : FodT w f ys) {v0 : Value} {y0 : List Int} (c0 : cu[0]? = some v0) (h0 : Tr w v0 y0) {v1 : Value} {y1 : List Int} (c1 : cu[1]? = some v1) (h1 : FodT w v1 y1) : Tr w (.iface 79 (.pointer (some ⟨U, 0, none⟩))) (ys ++ (y0 ++ (y1)))
  | cond0 {U : Nat} {cu : Array Value} {f : Value} {ys : List Int} (hU : w.heap[U]? = some (.cells cu 84 (0, 0))) (hf : cu[5]? = some f) (hF : FodT w f ys) {v0 : Value} {y0 : List Int} (c0 : cu[0]? = some v0) (h0 : Tr w v0 y0) {v1 : Value} {y1 : List Int} (c1 : cu[3]? = some v1) (h1 : FodT w v1 y1) {v2 : Value} {y2 : List Int} (c2 : cu[1]? = some v2) (h2 : Tr w v2 y2) (hg : cu[2]? = some .nilIface) : Tr w (.iface 82 (.pointer (some ⟨U, 0, none⟩))) (ys ++ (y0 ++ (y1 ++ (y2))))
  | cond1 {U : Nat} {cu : Array Value} {f : Value} {ys : List Int} (hU : w.heap[U]? = some (.cells cu 84 (0, 0))) (hf : cu[5]? = some f) (hF : FodT w f ys) {v0 : Value} {y0 : List Int} (c0 : cu[0]? = some v0) (h0 : Tr w v0 y0) {v1 : Value} {y1 : List Int} (c1 : cu[3]? = some v1) (h1 : FodT w v1 y1) {v2 : Value} {y2 : List Int} (c2 : cu[1]? = some v2) (h2 : Tr w v2 y2) {v3 : Value} {y3 : List Int} (c3 : cu[4]? = some v3) (h3 : FodT w v3 y3) {v4 : Value} {y4 : List Int} (c4 : cu[2]? = some v4) (h4 : Tr w v4 y4) {tg : Nat} {vg : Value} (hg : cu[2]? = some (.iface tg vg)) : Tr w (.iface 82 (.pointer (some ⟨U, 0, none⟩))) (ys ++ (y0 ++ (y1 ++ (y2 ++ (y3 ++ (y4))))))
  | array {U : Nat} {cu : Array Value} {f : Value} {ys : List Int} (hU : w.heap[U]? = some (.cells cu 90 (0, 0))) (hf : cu[2]? = some f) (hF : FodT w f ys) {g n cap : Nat} {ce : Array Value} {ve vf : Nat → Value} {es cs : Nat → List Int} {vz : Value} {zs : List Int} (hs : cu[0]? = some (.slice (some ⟨g, 0, none⟩) n cap)) (hn : n ≤ 8) (hg : w.heap[g]? = some (.cells ce 87 (0, 0))) (ce1 : ∀ i, i < n → ce[i * 2]? = some (ve i)) (ce2 : ∀ i, i < n → ce[i * 2 + 1]? = some (vf i)) (h1 : ∀ i, i < n → Tr w (ve i) (es i)) (h2 : ∀ i, i < n → FodT w (vf i) (cs i)) (cz : cu[1]? = some vz) (hz : FodT w vz zs) : Tr w (.iface 88 (.pointer (some ⟨U, 0, none⟩))) (ys ++ (flatE es cs n ++ zs))
theorem Tr.keep {w w' : World} (k : Kept w w') {v : Value} {ys : List Int} (h : Tr w v ys) : Tr w' v ys := by
  induction h with
  | null hU hf hF => exact .null (k.at hU (by decide)) hf (hF.keep k)
  | var hU hf hF => exact .var (k.at hU (by decide)) hf (hF.keep k)
  | binary hU hf hF c0 h0 c1 h1 c2 h2 i0 i2 => exact .binary (k.at hU (by decide)) hf (hF.keep k) c0 i0 c1 (h1.keep k) c2 i2
  | unary hU hf hF c0 h0 i0 => exact .unary (k.at hU (by decide)) hf (hF.keep k) c0 i0
  | parens hU hf hF c0 h0 c1 h1 i0 => exact .parens (k.at hU (by decide)) hf (hF.keep k) c0 i0 c1 (h1.keep k)
  | cond0 hU hf hF c0 h0 c1 h1 c2 h2 hg i0 i2 => exact .cond0 (k.at hU (by decide)) hf (hF.keep k) c0 i0 c1 (h1.keep k) c2 i2 hg
  | cond1 hU hf hF c0 h0 c1 h1 c2 h2 c3 h3 c4 h4 hg i0 i2 i4 => exact .cond1 (k.at hU (by decide)) hf (hF.keep k) c0 i0 c1 (h1.keep k) c2 i2 c3 (h3.keep k) c4 i4 hg
  | array hU hf hF hs hn hg ce1 ce2 h1 h2 cz hz ih => exact .array (k.at hU (by decide)) hf (hF.keep k) hs hn (k.at hg (by decide)) ce1 ce2 ih (fun i hi => (h2 i hi).keep k) cz (hz.keep k)
theorem visit_tr {TP B FEI : Nat} {ctx : Value} {St : World → List Int → Prop} (P : PassOK TP B FEI ctx St) {w : World} {v : Value} {ys : List Int} (h : Tr w v ys) : ∀ {N o TN : Nat} {cN : Array Value}, w.heap[N]? = some (.cells cN TN (0, 0)) → Old TN → cN[o]? = some v → VisS TP B ctx St w ⟨N, o, none⟩ ys := by
  induction h with
  | null hU hf hF => intro N o TN cN hN hT hc; exact vis_LiteralNull P hN hT hc hU hf hF
  | var hU hf hF => intro N o TN cN hN hT hc; exact vis_Var P hN hT hc hU hf hF
  | binary hU hf hF c0 h0 c1 h1 c2 h2 i0 i2 =>
    intro N o TN cN hN hT hc
    exact vis_Binary P hN hT hc hU hf hF fun w1 k xs hst hb => binaryP P _ _ _ w1 xs _ _ _ (k.at hU (by decide)) ((i0 hU (by decide) c0).keep k) ((fodS_of P hU (by decide) c1 h1).keep k) ((i2 hU (by decide) c2).keep k) hst hb
  | unary hU hf hF c0 h0 i0 =>
    intro N o TN cN hN hT hc
    exact vis_Unary P hN hT hc hU hf hF fun w1 k xs hst hb => unaryP P _ _ _ w1 xs _ (k.at hU (by decide)) ((i0 hU (by decide) c0).keep k) hst hb
  | parens hU hf hF c0 h0 c1 h1 i0 =>
    intro N o TN cN hN hT hc
    exact vis_Parens P hN hT hc hU hf hF fun w1 k xs hst hb => parensP P _ _ _ w1 xs _ _ (k.at hU (by decide)) ((i0 hU (by decide) c0).keep k) ((fodS_of P hU (by decide) c1 h1).keep k) hst hb
  | cond0 hU hf hF c0 h0 c1 h1 c2 h2 hg i0 i2 =>
    intro N o TN cN hN hT hc
    exact vis_Conditional P hN hT hc hU hf hF fun w1 k xs hst hb => conditionalP0 P _ _ _ w1 xs _ _ _ (k.at hU (by decide)) hg ((i0 hU (by decide) c0).keep k) ((fodS_of P hU (by decide) c1 h1).keep k) ((i2 hU (by decide) c2).keep k) hst hb
  | cond1 hU hf hF c0 h0 c1 h1 c2 h2 c3 h3 c4 h4 hg i0 i2 i4 =>
    intro N o TN cN hN hT hc
    exact vis_Conditional P hN hT hc hU hf hF fun w1 k xs hst hb => conditionalP1 P _ _ _ w1 xs _ _ _ _ _ (k.at hU (by decide)) _ _ hg ((i0 hU (by decide) c0).keep k) ((fodS_of P hU (by decide) c1 h1).keep k) ((i2 hU (by decide) c2).keep k) ((fodS_of P hU (by decide) c3 h3).keep k) ((i4 hU (by decide) c4).keep k) hst hb
  | array hU hf hF hs hn hg ce1 ce2 h1 h2 cz hz ih =>
    intro N o TN cN hN hT hc
    exact vis_Array P hN hT hc hU hf hF fun w1 k xs hst hb => arrayP P _ _ _ _ _ _ w1 xs _ _ _ hn (k.at hU (by decide)) hs (fun i hi => (ih i hi hg (by decide) (ce1 i hi)).keep k) (fun i hi => (fodS_of P hg (by decide) (ce2 i hi) (h2 i hi)).keep k) ((fodS_of P hU (by decide) cz hz).keep k) hst hb
end Go.Proofs.Ytfmmpllnhmehnaa
