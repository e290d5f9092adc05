/- FnBaseLocalIsIdentity, walked. -/
import Derived.Test.YtnmceagiofjdnaaRowI
namespace Go.Proofs.Ytnmceagiofjdnaa
open Go.RowKit
/-- A kind, brought between 0 and 2. -/
def kOf (z : Int) : Nat := (if z.tmod 3 < 0 then z.tmod 3 + 3 else z.tmod 3).toNat
theorem tmod3 (z : Int) : -3 < z.tmod 3 ∧ z.tmod 3 < 3 := by
  rcases Int.lt_or_le z 0 with h | h
  · have e : z = -(-z) := by omega
    rw [e, Int.neg_tmod, Int.tmod_eq_emod_of_nonneg (by omega)]
    omega
  · rw [Int.tmod_eq_emod_of_nonneg h]
    omega
theorem kOf_lt (z : Int) : kOf z < 3 := by
  have := tmod3 z
  unfold kOf
  split <;> omega
theorem own_set {w x : World} {g i : Nat} {v : Value} (o : Own w x) (hg : w.heap.size ≤ g) : Own w (x.setCell ⟨g, i, none⟩ v) := below_set o hg _ _
/-- The copies of the three arguments. -/
structure S3 (w x : World) (g1 g2 g3 n1 n2 n3 : Nat) (Z : Nat → Int) (S : Nat → ByteArray) (B : Nat → Bool) : Prop where
  own : Own w x
  r1 : RowV x g1 n1 n1 3 (fun j => .int .i64 (Z j)) (.int .i64 0)
  r2 : RowV x g2 n2 n2 9 (fun j => .string (S j)) (.string ByteArray.empty)
  r3 : RowV x g3 n3 n3 4 (fun j => .bool (B j)) (.bool false)
theorem S3.keep {w x y : World} {g1 g2 g3 n1 n2 n3 : Nat} {Z : Nat → Int} {S : Nat → ByteArray} {B : Nat → Bool} (s : S3 w x g1 g2 g3 n1 n2 n3 Z S B) (o : Own x y) : S3 w y g1 g2 g3 n1 n2 n3 Z S B := ⟨s.own.go o, s.r1.keep o, s.r2.keep o, s.r3.keep o⟩
theorem S3.set {w x : World} {g1 g2 g3 n1 n2 n3 g i : Nat} {v : Value} {Z : Nat → Int} {S : Nat → ByteArray} {B : Nat → Bool} (s : S3 w x g1 g2 g3 n1 n2 n3 Z S B) (hg : w.heap.size ≤ g) (h1 : g1 ≠ g) (h2 : g2 ≠ g) (h3 : g3 ≠ g) : S3 w (x.setCell ⟨g, i, none⟩ v) g1 g2 g3 n1 n2 n3 Z S B :=
  ⟨own_set s.own hg, s.r1.other h1, s.r2.other h2, s.r3.other h3⟩
def tOf (n : Nat) (S : Nat → ByteArray) (j : Nat) : ByteArray := if j < n then S j else ByteArray.empty
def bOf (n : Nat) (B : Nat → Bool) (j : Nat) : Bool := if j < n then B j else false
/-- k of the n1 binds' kinds, texts and flags are laid in the rows g, g + 1, g + 2. -/
structure S6 (w x : World) (g1 g2 g3 g n1 n2 n3 k : Nat) (Z : Nat → Int) (S : Nat → ByteArray) (B : Nat → Bool) : Prop where
  s : S3 w x g1 g2 g3 n1 n2 n3 Z S B
  r4 : RowV x g n1 k 3 (fun j => .int .i64 (kOf (Z j) : Int)) (.int .i64 0)
  r5 : RowV x (g + 1) n1 k 9 (fun j => .string (tOf n2 S j)) (.string ByteArray.empty)
  r6 : RowV x (g + 1 + 1) n1 k 4 (fun j => .bool (bOf n3 B j)) (.bool false)
theorem S6.stepA {w x : World} {g1 g2 g3 g n1 n2 n3 k : Nat} {Z : Nat → Int} {S : Nat → ByteArray} {B : Nat → Bool} {v : Value} (h : S6 w x g1 g2 g3 g n1 n2 n3 k Z S B) (l : w.heap.size ≤ g1 ∧ g1 < g2 ∧ g2 < g3 ∧ g3 < g) (hk : k < n1) (hv : v = .int .i64 (kOf (Z k) : Int)) (a2 : k < n2) (a3 : k < n3) :
    S6 w (((x.setCell ⟨g, k, none⟩ v).setCell ⟨g + 1, k, none⟩ (.string (S k))).setCell ⟨g + 1 + 1, k, none⟩ (.bool (B k))) g1 g2 g3 g n1 n2 n3 (k + 1) Z S B :=
  ⟨((h.s.set (by omega) (by omega) (by omega) (by omega)).set (by omega) (by omega) (by omega) (by omega)).set (by omega) (by omega) (by omega) (by omega),
    ((h.r4.put hk hv).other (by omega)).other (by omega), ((h.r5.other (by omega)).put hk (by simp [tOf, a2])).other (by omega), ((h.r6.other (by omega)).other (by omega)).put hk (by simp [bOf, a3])⟩
theorem S6.stepB {w x : World} {g1 g2 g3 g n1 n2 n3 k : Nat} {Z : Nat → Int} {S : Nat → ByteArray} {B : Nat → Bool} {v : Value} (h : S6 w x g1 g2 g3 g n1 n2 n3 k Z S B) (l : w.heap.size ≤ g1 ∧ g1 < g2 ∧ g2 < g3 ∧ g3 < g) (hk : k < n1) (hv : v = .int .i64 (kOf (Z k) : Int)) (a2 : k < n2) (a3 : ¬ k < n3) :
    S6 w ((x.setCell ⟨g, k, none⟩ v).setCell ⟨g + 1, k, none⟩ (.string (S k))) g1 g2 g3 g n1 n2 n3 (k + 1) Z S B :=
  ⟨(h.s.set (by omega) (by omega) (by omega) (by omega)).set (by omega) (by omega) (by omega) (by omega),
    (h.r4.put hk hv).other (by omega), (h.r5.other (by omega)).put hk (by simp [tOf, a2]), ((h.r6.other (by omega)).other (by omega)).skip (by simp [bOf, a3])⟩
theorem S6.stepC {w x : World} {g1 g2 g3 g n1 n2 n3 k : Nat} {Z : Nat → Int} {S : Nat → ByteArray} {B : Nat → Bool} {v : Value} (h : S6 w x g1 g2 g3 g n1 n2 n3 k Z S B) (l : w.heap.size ≤ g1 ∧ g1 < g2 ∧ g2 < g3 ∧ g3 < g) (hk : k < n1) (hv : v = .int .i64 (kOf (Z k) : Int)) (a2 : ¬ k < n2) (a3 : k < n3) :
    S6 w ((x.setCell ⟨g, k, none⟩ v).setCell ⟨g + 1 + 1, k, none⟩ (.bool (B k))) g1 g2 g3 g n1 n2 n3 (k + 1) Z S B :=
  ⟨(h.s.set (by omega) (by omega) (by omega) (by omega)).set (by omega) (by omega) (by omega) (by omega),
    (h.r4.put hk hv).other (by omega), ((h.r5.other (by omega)).other (by omega)).skip (by simp [tOf, a2]), (h.r6.other (by omega)).put hk (by simp [bOf, a3])⟩
theorem S6.stepD {w x : World} {g1 g2 g3 g n1 n2 n3 k : Nat} {Z : Nat → Int} {S : Nat → ByteArray} {B : Nat → Bool} {v : Value} (h : S6 w x g1 g2 g3 g n1 n2 n3 k Z S B) (l : w.heap.size ≤ g1 ∧ g1 < g2 ∧ g2 < g3 ∧ g3 < g) (hk : k < n1) (hv : v = .int .i64 (kOf (Z k) : Int)) (a2 : ¬ k < n2) (a3 : ¬ k < n3) :
    S6 w (x.setCell ⟨g, k, none⟩ v) g1 g2 g3 g n1 n2 n3 (k + 1) Z S B :=
  ⟨h.s.set (by omega) (by omega) (by omega) (by omega), h.r4.put hk hv, (h.r5.other (by omega)).skip (by simp [tOf, a2]), (h.r6.other (by omega)).skip (by simp [bOf, a3])⟩
theorem S6.in3 {w x : World} {g1 g2 g3 g n1 n2 n3 : Nat} {Z : Nat → Int} {S : Nat → ByteArray} {B : Nat → Bool} (h : S6 w x g1 g2 g3 g n1 n2 n3 n1 Z S B) : In3 x g (g + 1) (g + 1 + 1) n1 (fun j => kOf (Z j)) (tOf n2 S) (bOf n3 B) :=
  ⟨h.r4.lt, h.r5.lt, h.r6.lt, fun _ _ => kOf_lt _, fun _ hj => h.r4.full hj, fun _ hj => h.r5.full hj, fun _ hj => h.r6.full hj⟩
theorem Mk6Post.loc {w w' : World} {n U : Nat} {K : Nat → Nat} {T : Nat → ByteArray} {B : Nat → Bool} {c : ByteArray} {cu cg : Array Value} {vb : Value} (d : DSt w w' n n K T B cg) (u1 : w'.heap[U]? = some (.cells cu 67 (0, 0))) (u2 : cu[0]? = some (.slice (some ⟨w.heap.size, 0, none⟩) n n)) (u3 : cu[1]? = some vb) (u4 : LitK (w.heap.size + 1) w' vb 2 c) :
    LocD (w.heap.size + 1) w' U w.heap.size n K T B c := ⟨⟨cu, vb, u1, u2, u3, u4⟩, ⟨cg, d.row.g, fun i hi => ⟨d.zs i hi, d.bs i hi⟩⟩⟩
set_option maxRecDepth 100000 in
set_option maxHeartbeats 16000000 in
theorem law3 (A1 A2 A3 : Option Addr) (n1 n2 n3 q1 q2 q3 : Nat) (Z : Nat → Int) (S : Nat → ByteArray) (B : Nat → Bool) (c : ByteArray) (w : World)
    (h1 : AV w A1 n1 (fun j => .int .i64 (Z j))) (h2 : AV w A2 n2 (fun j => .string (S j))) (h3 : AV w A3 n3 (fun j => .bool (B j)))
    (m1 : n1 ≤ 9223372036854775807) (m2 : n2 ≤ 9223372036854775807) (m3 : n3 ≤ 9223372036854775807) (hs : ∀ j, (S j).size ≤ maxLen) (hc : c.size ≤ maxLen) :
    Calls Try.prog 3 #[.slice A1 n1 q1, .slice A2 n2 q2, .slice A3 n3 q3, .string c] w fun e w' => e = .returned (.bool true) ∧ Below w.heap.size w w' := by
  have H1 := Lib.hid h1
  have H2 := Lib.hid h2
  have H3 := Lib.hid h3
  have HS := Lib.hid hs
  have HC := Lib.hid hc
  have HM := Lib.hid (And.intro m1 (And.intro m2 m3))
  have e1 : (n1 : Int) ≤ 9223372036854775807 := by omega
  have e2 : (n2 : Int) ≤ 9223372036854775807 := by omega
  have e3 : (n3 : Int) ≤ 9223372036854775807 := by omega
  have e4 : (c.size : Int) ≤ 9223372036854775807 := by unfold maxLen at hc; omega
  clear h1 h2 h3 hs hc m1 m2 m3
  go_enter Try.func3, Try.ntmps3
  go_wp2_with fail
  refine (bytes5_any A1 A2 A3 n1 n2 n3 q1 q2 q3 S c _ H2.out HM.out.1 HM.out.2.1 HM.out.2.2 HS.out HC.out).mono ?_
  rintro e w' ⟨⟨bb, rfl⟩, rfl⟩
  clear HC HM
  cases bb
  · go_wp2
    go_ret
    exact ⟨rfl, Below.refl _ _⟩
  by_cases k1 : (n1 : Int) ≤ 4096
  rotate_left
  · go_wp2
    go_ret
    exact ⟨rfl, Below.refl _ _⟩
  by_cases k2 : (n2 : Int) ≤ 4096
  rotate_left
  · go_wp2
    go_ret
    exact ⟨rfl, Below.refl _ _⟩
  by_cases k3 : (n3 : Int) ≤ 4096
  rotate_left
  · go_wp2
    go_ret
    exact ⟨rfl, Below.refl _ _⟩
  by_cases k4 : (c.size : Int) ≤ 65536
  rotate_left
  · go_wp2
    go_ret
    exact ⟨rfl, Below.refl _ _⟩
  have N1 := Lib.hid (show n1 ≤ 4096 by omega)
  have N2 := Lib.hid (show n2 ≤ 4096 by omega)
  have N3 := Lib.hid (show n3 ≤ 4096 by omega)
  clear e1 e2 e3 e4
  go_wp2_with fail
  go_loop [9, 10] (fun t i => ∃ (k : Nat) (z : Int), k ≤ n2 ∧ i = .int .i64 k ∧ t = .int .i64 z) (fun _ i => n2 - (intOf i).toNat)
  case atStart => exact ⟨0, _, Nat.zero_le _, rfl, rfl⟩
  case round =>
    obtain ⟨k, z, hk, rfl, rfl⟩ := hrel
    by_cases hlt : k < n2
    · obtain ⟨b, off, rfl, hb, hc⟩ := H2.out (by omega)
      have hcx := hc k hlt
      have hsz := HS.out k
      clear hc
      generalize S k = s at hcx hsz
      unfold maxLen at hsz
      go_wp2
      go_round
      case rel => exact ⟨k + 1, _, by omega, by go_num, rfl⟩
      case measure => first | (simp [intOf]; done) | (simp [intOf]; omega)
    · have hkn : n2 = k := by omega
      subst hkn
      by_cases hz : z ≤ 1048576
      rotate_left
      · go_wp2
        go_ret
        exact ⟨rfl, Below.refl _ _⟩
      have mk := mk22 n1 N1.out w
      go_wp2_with fail
      generalize hW : World.alloc _ _ = W1
      have C0 : Hid (Own w W1 ∧ RowV W1 w.heap.size n1 0 3 (fun j => .int .i64 (Z j)) (.int .i64 0)) := by
        rw [← hW]
        exact ⟨below_al (Below.refl _ _) _, rowV_new _ _ _ _ _⟩
      obtain ⟨g1, hg1⟩ : ∃ g, g = w.heap.size := ⟨_, rfl⟩
      rw [← hg1] at C0 ⊢
      have G1 := Lib.hid (Nat.le_of_eq hg1.symm)
      clear hW mk hz hg1
      go_loopw [12] (fun i wr => ∃ j : Nat, j ≤ n1 ∧ i = .int .i64 j ∧ Hid (Own w wr ∧ RowV wr g1 n1 j 3 (fun j => .int .i64 (Z j)) (.int .i64 0))) (fun i _ => n1 - (intOf i).toNat)
      case atStart => exact ⟨0, Nat.zero_le _, rfl, C0⟩
      case round =>
        obtain ⟨j, hj, rfl, hf⟩ := hrel
        clear C0
        by_cases hjt : j < n1
        · obtain ⟨b, off, rfl, hb, hc⟩ := H1.out (by omega)
          have hcx := hf.out.1.cell hb (hc j hjt)
          obtain ⟨v0, hd⟩ := hf.out.2.cellAt hjt
          have hz1 := hf.out.2.fr j
          have HT := Lib.hid (And.intro (own_set (i := j) (v := .int .i64 (Z j)) hf.out.1 G1.out) (hf.out.2.put (v := .int .i64 (Z j)) hjt rfl))
          clear hc hf
          go_wp2
          clear hcx hd hz1
          go_roundw
          case rel => exact ⟨j + 1, by omega, by go_num, HT⟩
          case measure => first | (simp [intOf]; done) | (simp [intOf]; omega)
        · have hjn : n1 = j := by omega
          subst hjn
          have mk := mk23i n2 N2.out wr
          go_wp2_with fail
          generalize hW : World.alloc _ _ = W2
          have C1 : Hid (Own w W2 ∧ RowV W2 g1 n1 n1 3 (fun j => .int .i64 (Z j)) (.int .i64 0) ∧ RowV W2 wr.heap.size n2 0 9 (fun j => .string (S j)) (.string ByteArray.empty)) := by
            rw [← hW]
            exact ⟨below_al hf.out.1 _, hf.out.2.keep (below_al (Below.refl _ _) _), rowV_new _ _ _ _ _⟩
          have G2 := Lib.hid hf.out.2.lt
          obtain ⟨g2, hg2⟩ : ∃ g, g = wr.heap.size := ⟨_, rfl⟩
          rw [← hg2] at C1 G2 ⊢
          clear hW mk hg2 hf
          go_loopw [14] (fun i wr => ∃ j : Nat, j ≤ n2 ∧ i = .int .i64 j ∧ Hid (Own w wr ∧ RowV wr g1 n1 n1 3 (fun j => .int .i64 (Z j)) (.int .i64 0) ∧ RowV wr g2 n2 j 9 (fun j => .string (S j)) (.string ByteArray.empty))) (fun i _ => n2 - (intOf i).toNat)
          case atStart => exact ⟨0, Nat.zero_le _, rfl, C1⟩
          case round =>
            obtain ⟨j, hj, rfl, hf⟩ := hrel
            clear C1
            by_cases hjt : j < n2
            · obtain ⟨b, off, rfl, hb, hc⟩ := H2.out (by omega)
              have hcx := hf.out.1.cell hb (hc j hjt)
              obtain ⟨v0, hd⟩ := hf.out.2.2.cellAt hjt
              have hz1 := hf.out.2.2.fr j
              have HT := Lib.hid (And.intro (own_set (g := g2) (i := j) (v := .string (S j)) hf.out.1 (Nat.le_trans G1.out (Nat.le_of_lt G2.out))) (And.intro (hf.out.2.1.other (i := j) (v := .string (S j)) (Nat.ne_of_lt G2.out)) (hf.out.2.2.put (v := .string (S j)) hjt rfl)))
              clear hc hf
              go_wp2
              clear hcx hd hz1
              go_roundw
              case rel => exact ⟨j + 1, by omega, by go_num, HT⟩
              case measure => first | (simp [intOf]; done) | (simp [intOf]; omega)
            · have hjn : n2 = j := by omega
              subst hjn
              have mk := mk24 n3 N3.out wr
              go_wp2_with fail
              generalize hW : World.alloc _ _ = W3
              have C2 : Hid ((Own w W3 ∧ RowV W3 g1 n1 n1 3 (fun j => .int .i64 (Z j)) (.int .i64 0) ∧ RowV W3 g2 n2 n2 9 (fun j => .string (S j)) (.string ByteArray.empty)) ∧ RowV W3 wr.heap.size n3 0 4 (fun j => .bool (B j)) (.bool false)) := by
                rw [← hW]
                exact ⟨⟨below_al hf.out.1 _, hf.out.2.1.keep (below_al (Below.refl _ _) _), hf.out.2.2.keep (below_al (Below.refl _ _) _)⟩, rowV_new _ _ _ _ _⟩
              have G3 := Lib.hid hf.out.2.2.lt
              obtain ⟨g3, hg3⟩ : ∃ g, g = wr.heap.size := ⟨_, rfl⟩
              rw [← hg3] at C2 G3 ⊢
              clear hW mk hg3 hf
              go_loopw [16] (fun i wr => ∃ j : Nat, j ≤ n3 ∧ i = .int .i64 j ∧ Hid ((Own w wr ∧ RowV wr g1 n1 n1 3 (fun j => .int .i64 (Z j)) (.int .i64 0) ∧ RowV wr g2 n2 n2 9 (fun j => .string (S j)) (.string ByteArray.empty)) ∧ RowV wr g3 n3 j 4 (fun j => .bool (B j)) (.bool false))) (fun i _ => n3 - (intOf i).toNat)
              case atStart => exact ⟨0, Nat.zero_le _, rfl, C2⟩
              case round =>
                obtain ⟨j, hj, rfl, hf⟩ := hrel
                clear C2
                by_cases hjt : j < n3
                · obtain ⟨b, off, rfl, hb, hc⟩ := H3.out (by omega)
                  have hcx := hf.out.1.1.cell hb (hc j hjt)
                  obtain ⟨v0, hd⟩ := hf.out.2.cellAt hjt
                  have hz1 := hf.out.2.fr j
                  have HT := Lib.hid (And.intro (And.intro (own_set (g := g3) (i := j) (v := .bool (B j)) hf.out.1.1 (Nat.le_trans (Nat.le_trans G1.out (Nat.le_of_lt G2.out)) (Nat.le_of_lt G3.out))) (And.intro (hf.out.1.2.1.other (i := j) (v := .bool (B j)) (Nat.ne_of_lt (Nat.lt_trans G2.out G3.out))) (hf.out.1.2.2.other (i := j) (v := .bool (B j)) (Nat.ne_of_lt G3.out)))) (hf.out.2.put (v := .bool (B j)) hjt rfl))
                  clear hc hf
                  go_wp2
                  clear hcx hd hz1
                  go_roundw
                  case rel => exact ⟨j + 1, by omega, by go_num, HT⟩
                  case measure => first | (simp [intOf]; done) | (simp [intOf]; omega)
                · have hjn : n3 = j := by omega
                  subst hjn
                  have S0 : Hid (S3 w wr g1 g2 g3 n1 n2 n3 Z S B) := ⟨hf.out.1.1, hf.out.1.2.1, hf.out.1.2.2, hf.out.2⟩
                  clear hf
                  have mka := mk22 n1 N1.out
                  have mkb := mk23i n1 N1.out
                  have mkc := mk24 n1 N1.out
                  go_wp2_with fail
                  generalize hW : World.alloc _ _ = W4
                  have S1 : Hid (S6 w W4 g1 g2 g3 wr.heap.size n1 n2 n3 0 Z S B) := by
                    rw [← hW]
                    refine ⟨S0.out.keep (below_al (below_al (below_al (Below.refl _ _) _) _) _), (rowV_new wr _ _ _ _).keep (below_al (below_al (Below.refl _ _) _) _), ?_, ?_⟩
                    · have := rowV_new (wr.alloc (.cells (madeCells #[.int .i64 0] n1) 3)) n1 9 (fun j => .string (tOf n2 S j)) (.string ByteArray.empty)
                      simp only [World.size_alloc] at this
                      exact this.keep (below_al (Below.refl _ _) _)
                    · have := rowV_new ((wr.alloc (.cells (madeCells #[.int .i64 0] n1) 3)).alloc (.cells (madeCells #[.string ByteArray.empty] n1) 9)) n1 4 (fun j => .bool (bOf n3 B j)) (.bool false)
                      simp only [World.size_alloc] at this
                      exact this
                  have LL := Lib.hid (And.intro G1.out (And.intro G2.out (And.intro G3.out S0.out.r3.lt)))
                  obtain ⟨g, hg⟩ : ∃ g, g = wr.heap.size := ⟨_, rfl⟩
                  rw [← hg] at S1 LL ⊢
                  clear hW mka mkb mkc hg S0 G1 G2 G3 H1 H2 H3
                  go_loopw [21] (fun i wr => ∃ j : Nat, j ≤ n1 ∧ i = .int .i64 j ∧ Hid (S6 w wr g1 g2 g3 g n1 n2 n3 j Z S B)) (fun i _ => n1 - (intOf i).toNat)
                  case atStart => exact ⟨0, Nat.zero_le _, rfl, S1⟩
                  case round =>
                    obtain ⟨j, hj, rfl, hf⟩ := hrel
                    clear S1
                    by_cases hjt : j < n1
                    · have l := LL.out
                      have c1 := hf.out.s.r1.full hjt
                      have ht := tmod3 (Z j)
                      obtain ⟨x4, h4⟩ := hf.out.r4.cellAt hjt
                      have f4 := hf.out.r4.fr
                      have h5 := fun v => cell_set_ne (g := g) (i := j) (v := v) (A := g + 1) (by omega) (hf.out.r5.cellAt hjt).choose_spec
                      have h6 := fun v => cell_set_ne (g := g) (i := j) (v := v) (A := g + 1 + 1) (by omega) (hf.out.r6.cellAt hjt).choose_spec
                      have h6' := fun v u => cell_set_ne (g := g + 1) (i := j) (v := u) (A := g + 1 + 1) (by omega) (h6 v)
                      have f5 := hf.out.r5.fr
                      have f6 := hf.out.r6.fr
                      by_cases a2 : j < n2
                      · have c2 := hf.out.s.r2.full a2
                        have d2 := fun v => cell_set_ne (g := g) (i := j) (v := v) (A := g2) (by omega) c2
                        by_cases a3 : j < n3
                        · have c3 := hf.out.s.r3.full a3
                          have d3 := fun v => cell_set_ne (g := g) (i := j) (v := v) (A := g3) (by omega) c3
                          have d3' := fun v u => cell_set_ne (g := g + 1) (i := j) (v := u) (A := g3) (by omega) (d3 v)
                          by_cases hn : (Z j).tmod 3 < 0
                          · have HV := Lib.hid (show ((kOf (Z j) : Nat) : Int) = (Z j).tmod 3 + 3 by unfold kOf; rw [if_pos hn]; omega)
                            go_wp2
                            clear c1 h4 f4 f5 f6 h5 h6 h6' c2 d2 c3 d3 d3'
                            go_roundw
                            case rel => exact ⟨j + 1, by omega, by go_num, Lib.hid (hf.out.stepA LL.out hjt (by rw [HV.out]) a2 a3)⟩
                            case measure => first | (simp [intOf]; done) | (simp [intOf]; omega)
                          · have HV := Lib.hid (show ((kOf (Z j) : Nat) : Int) = (Z j).tmod 3 by unfold kOf; rw [if_neg hn]; omega)
                            go_wp2
                            clear c1 h4 f4 f5 f6 h5 h6 h6' c2 d2 c3 d3 d3'
                            go_roundw
                            case rel => exact ⟨j + 1, by omega, by go_num, Lib.hid (hf.out.stepA LL.out hjt (by rw [HV.out]) a2 a3)⟩
                            case measure => first | (simp [intOf]; done) | (simp [intOf]; omega)
                        · by_cases hn : (Z j).tmod 3 < 0
                          · have HV := Lib.hid (show ((kOf (Z j) : Nat) : Int) = (Z j).tmod 3 + 3 by unfold kOf; rw [if_pos hn]; omega)
                            go_wp2
                            clear c1 h4 f4 f5 f6 h5 h6 h6' c2 d2
                            go_roundw
                            case rel => exact ⟨j + 1, by omega, by go_num, Lib.hid (hf.out.stepB LL.out hjt (by rw [HV.out]) a2 a3)⟩
                            case measure => first | (simp [intOf]; done) | (simp [intOf]; omega)
                          · have HV := Lib.hid (show ((kOf (Z j) : Nat) : Int) = (Z j).tmod 3 by unfold kOf; rw [if_neg hn]; omega)
                            go_wp2
                            clear c1 h4 f4 f5 f6 h5 h6 h6' c2 d2
                            go_roundw
                            case rel => exact ⟨j + 1, by omega, by go_num, Lib.hid (hf.out.stepB LL.out hjt (by rw [HV.out]) a2 a3)⟩
                            case measure => first | (simp [intOf]; done) | (simp [intOf]; omega)
                      · by_cases a3 : j < n3
                        · have c3 := hf.out.s.r3.full a3
                          have d3 := fun v => cell_set_ne (g := g) (i := j) (v := v) (A := g3) (by omega) c3
                          by_cases hn : (Z j).tmod 3 < 0
                          · have HV := Lib.hid (show ((kOf (Z j) : Nat) : Int) = (Z j).tmod 3 + 3 by unfold kOf; rw [if_pos hn]; omega)
                            go_wp2
                            clear c1 h4 f4 f5 f6 h5 h6 h6' c3 d3
                            go_roundw
                            case rel => exact ⟨j + 1, by omega, by go_num, Lib.hid (hf.out.stepC LL.out hjt (by rw [HV.out]) a2 a3)⟩
                            case measure => first | (simp [intOf]; done) | (simp [intOf]; omega)
                          · have HV := Lib.hid (show ((kOf (Z j) : Nat) : Int) = (Z j).tmod 3 by unfold kOf; rw [if_neg hn]; omega)
                            go_wp2
                            clear c1 h4 f4 f5 f6 h5 h6 h6' c3 d3
                            go_roundw
                            case rel => exact ⟨j + 1, by omega, by go_num, Lib.hid (hf.out.stepC LL.out hjt (by rw [HV.out]) a2 a3)⟩
                            case measure => first | (simp [intOf]; done) | (simp [intOf]; omega)
                        · by_cases hn : (Z j).tmod 3 < 0
                          · have HV := Lib.hid (show ((kOf (Z j) : Nat) : Int) = (Z j).tmod 3 + 3 by unfold kOf; rw [if_pos hn]; omega)
                            go_wp2
                            clear c1 h4 f4 f5 f6 h5 h6 h6'
                            go_roundw
                            case rel => exact ⟨j + 1, by omega, by go_num, Lib.hid (hf.out.stepD LL.out hjt (by rw [HV.out]) a2 a3)⟩
                            case measure => first | (simp [intOf]; done) | (simp [intOf]; omega)
                          · have HV := Lib.hid (show ((kOf (Z j) : Nat) : Int) = (Z j).tmod 3 by unfold kOf; rw [if_neg hn]; omega)
                            go_wp2
                            clear c1 h4 f4 f5 f6 h5 h6 h6'
                            go_roundw
                            case rel => exact ⟨j + 1, by omega, by go_num, Lib.hid (hf.out.stepD LL.out hjt (by rw [HV.out]) a2 a3)⟩
                            case measure => first | (simp [intOf]; done) | (simp [intOf]; omega)
                    · have hjn : n1 = j := by omega
                      subst hjn
                      have IN := Lib.hid hf.out.in3
                      have OW := Lib.hid hf.out.s.own
                      clear hf LL
                      go_wp2_with fail
                      refine (mk6 g (g + 1) (g + 1 + 1) n1 n1 n1 n1 _ _ _ c _ IN.out N1.out).mono ?_
                      rintro e w2 ⟨U, cu, vb, cg, rfl, hd, u1, u2, u3, u4⟩
                      have LC := Lib.hid (Mk6Post.loc hd u1 u2 u3 u4)
                      have O2 := Lib.hid (show Own _ w2 from hd.row.own)
                      clear hd u1 u2 u3 u4
                      go_wp2_with fail
                      refine (LC.out.base N1.out).mono ?_
                      rintro e w3 ⟨rfl, hs3⟩
                      have L3 := Lib.hid (LC.out.keep hs3)
                      have O3 := Lib.hid (O2.out.go hs3)
                      clear hs3 LC O2
                      go_wp2_with fail
                      refine (count8d L3.out).mono ?_
                      rintro e w' ⟨rfl, rfl⟩
                      go_wp2_with fail
                      go_loopw [24] (fun i wr => ∃ p : Nat, p ≤ n1 ∧ i = .int .i64 p ∧ Hid (Own w3 wr)) (fun i _ => n1 - (intOf i).toNat)
                      case atStart => exact ⟨0, Nat.zero_le _, rfl, Lib.hid (Own.refl _)⟩
                      case round =>
                        obtain ⟨p, hp, rfl, hO⟩ := hrel
                        by_cases hpt : p < n1
                        · have IN3 := Lib.hid (IN.out.keep (O3.out.go hO.out))
                          have c4 := IN3.out.c1 p hpt
                          have c5 := IN3.out.c2 p hpt
                          have c6 := IN3.out.c3 p hpt
                          have hk3 := kOf_lt (Z p)
                          go_wp2_with fail
                          refine (bind9 (L3.out.keep hO.out) p hpt N1.out).mono ?_
                          rintro e w' ⟨he, rfl⟩
                          generalize kOf (Z p) = kk at he c4 hk3
                          generalize tOf n2 S p = cc at he c5
                          generalize bOf n3 B p = ff at he c6
                          clear IN3
                          rcases (by omega : kk = 0 ∨ kk = 1 ∨ kk = 2) with rfl | rfl | rfl
                          all_goals
                            cases ff
                            all_goals
                              simp [View9, txtOf] at he
                              subst he
                              clear hk3
                              go_wp2
                              clear c4 c5 c6
                              go_roundw
                              case rel => exact ⟨p + 1, by omega, by go_num, hO⟩
                              case measure => first | (simp [intOf]; done) | (simp [intOf]; omega)
                        · have L4 := Lib.hid (L3.out.keep hO.out)
                          go_wp2_with fail
                          refine (body10 L4.out).mono ?_
                          rintro e w' ⟨rfl, rfl⟩
                          go_wp2
                          go_ret
                          exact ⟨rfl, OW.out.go (O3.out.go hO.out)⟩
end Go.Proofs.Ytnmceagiofjdnaa
