/- The Local of n008_163's first law as it lies; Base.Local over it; its readers. -/
import Derived.Test.YtnmceagiofjdnaaMkI
namespace Go.Proofs.Ytnmceagiofjdnaa
open Go.RowKit
structure LocD (lo : Nat) (w : World) (U g n : Nat) (K : Nat → Nat) (T : Nat → ByteArray) (B : Nat → Bool) (c : ByteArray) : Prop where
  u : ∃ cu vb, w.heap[U]? = some (.cells cu 67 (0, 0)) ∧ cu[0]? = some (.slice (some ⟨g, 0, none⟩) n n) ∧ cu[1]? = some vb ∧ LitK lo w vb 2 c
  g : ∃ cg, w.heap[g]? = some (.cells cg 53 (0, 0)) ∧ ∀ i, i < n → (cg[i * 12]? = some (.slice none 0 0) ∧ cg[i * 12 + 2]? = some (.slice none 0 0) ∧ cg[i * 12 + 4]? = some (.slice none 0 0)) ∧ BindD lo w cg i (K i) (T i) (B i)
theorem LocD.keep {lo : Nat} {w w' : World} {U g n : Nat} {K : Nat → Nat} {T : Nat → ByteArray} {B : Nat → Bool} {c : ByteArray} (x : LocD lo w U g n K T B c) (k : Own w w') : LocD lo w' U g n K T B c := by
  obtain ⟨cu, vb, u1, u2, u3, u4⟩ := x.u
  obtain ⟨cg, g1, g2⟩ := x.g
  exact ⟨⟨cu, vb, k.at u1, u2, u3, u4.keep (Keep.of_own k)⟩, ⟨cg, k.at g1, fun i hi => ⟨(g2 i hi).1, (g2 i hi).2.keep (Keep.of_own k) rfl rfl⟩⟩⟩
theorem fodNil {F o T : Nat} {w : World} {cF : Array Value} (hF : w.heap[F]? = some (.cells cF T (0, 0))) (hv : cF[o]? = some (.slice none 0 0)) : FodS w ⟨F, o, none⟩ := fodS_of (lt_of_at hF) (.inl ⟨none, 0, rfl⟩) (cell_of hF hv)
theorem BindD.bin {lo : Nat} {w : World} {cg : Array Value} {g i k : Nat} {c : ByteArray} {b : Bool} (x : BindD lo w cg i k c b) (hg : w.heap[g]? = some (.cells cg 53 (0, 0)))
    (hz : cg[i * 12]? = some (.slice none 0 0) ∧ cg[i * 12 + 2]? = some (.slice none 0 0) ∧ cg[i * 12 + 4]? = some (.slice none 0 0)) : BindIn w g i := by
  obtain ⟨⟨v1, a1, b1⟩, ⟨v5, a5, b5⟩⟩ := x
  refine ⟨fodNil hg hz.1, fodNil hg hz.2.1, b1.vis (lt_of_at hg) (cell_of hg a1), fodNil hg hz.2.2, ?_⟩
  rcases b5 with ⟨_, rfl⟩ | ⟨_, F, cf, Q, cq, vd, rfl, h2, h3, h4, h5, h6, h7, h8, h9, h10, h11, h12, h13⟩
  · exact .inl (cell_of hg a5)
  · obtain ⟨t, y, hy⟩ := h13.face
    subst hy
    exact .inr ⟨F, cell_of hg a5, lt_of_at h3, fodNil h3 h4, fodNil h3 h5, Q, t, y, cell_of h3 h6, lt_of_at h8, cell_of h8 h12, fodNil h8 h9, fodNil h8 h11, h13.vis (lt_of_at h8) (cell_of h8 h12), fodNil h8 h10⟩
theorem LocD.base {lo : Nat} {w : World} {U g n : Nat} {K : Nat → Nat} {T : Nat → ByteArray} {B : Nat → Bool} {c : ByteArray} (x : LocD lo w U g n K T B c) (hn : n ≤ 4096) : Calls Try.prog 7 #[.pointer (some ⟨U, 0, none⟩)] w fun e w' => e = .returned (.tuple #[]) ∧ Own w w' := by
  obtain ⟨cu, vb, u1, u2, u3, u4⟩ := x.u
  obtain ⟨cg, g1, g2⟩ := x.g
  exact baseLocal U g n n w (lt_of_at u1) (lt_of_at g1) hn (cell_of u1 u2) (fun i hi => (g2 i hi).2.bin g1 (g2 i hi).1) (u4.vis (lt_of_at u1) (cell_of u1 u3))
theorem count8d {lo : Nat} {w : World} {U g n : Nat} {K : Nat → Nat} {T : Nat → ByteArray} {B : Nat → Bool} {c : ByteArray} (x : LocD lo w U g n K T B c) : Calls Try.prog 8 #[.pointer (some ⟨U, 0, none⟩)] w fun e w' => e = .returned (.int .i64 (n : Int)) ∧ w = w' := by
  obtain ⟨cu, vb, u1, u2, _⟩ := x.u
  have c1 := cell_of u1 u2
  clear u1 u2 x
  go_enter Try.func8, Try.ntmps8
  go_wp2
  go_ret
  exact ⟨rfl, rfl⟩
theorem body10 {lo : Nat} {w : World} {U g n : Nat} {K : Nat → Nat} {T : Nat → ByteArray} {B : Nat → Bool} {c : ByteArray} (x : LocD lo w U g n K T B c) :
    Calls Try.prog 10 #[.pointer (some ⟨U, 0, none⟩)] w fun e w' => e = .returned (.tuple #[.int .i64 2, .string c, .int .i64 1, .string c]) ∧ w = w' := by
  obtain ⟨cu, vb, u1, u2, u3, u4⟩ := x.u
  have c1 := cell_of u1 u3
  have HV := Lib.hid u4
  clear u1 u2 u3 u4 x
  go_enter Try.func10, Try.ntmps10
  go_wp2_with fail
  refine (view18 HV.out).mono ?_
  rintro e w' ⟨rfl, rfl⟩
  go_wp2
  ((try simp only [Exit.inBlock, Exit.then]); refine bodyPost_ret (results_tmp4 rfl _ _ _) rfl ?_)
  exact ⟨rfl, rfl⟩
/-- What the view of a bind answers. -/
def View9 (k : Nat) (c : ByteArray) (b : Bool) : Value := .tuple #[.int .i64 (k : Int), .string (txtOf k c), .int .i64 1, .string c, .bool b, .int .i64 (if b then 0 else -1), .string (if b then c else ByteArray.empty)]
theorem nptr46_nil (w : World) : (binOp .neq 46 (.pointer none) (.pointer none)).run Try.prog w = .ok (.bool false) w := by kernel_rfl
theorem nptr46_some (a : Addr) (w : World) : (binOp .neq 46 (.pointer (some a)) (.pointer none)).run Try.prog w = .ok (.bool true) w := by kernel_rfl
set_option maxRecDepth 100000 in
set_option maxHeartbeats 4000000 in
theorem bind9 {lo : Nat} {w : World} {U g n : Nat} {K : Nat → Nat} {T : Nat → ByteArray} {B : Nat → Bool} {c : ByteArray} (x : LocD lo w U g n K T B c) (i : Nat) (hi : i < n) (hn : n ≤ 4096) :
    Calls Try.prog 9 #[.pointer (some ⟨U, 0, none⟩), .int .i64 (i : Int)] w fun e w' => e = .returned (View9 (K i) (T i) (B i)) ∧ w = w' := by
  obtain ⟨cu, vb, u1, u2, _⟩ := x.u
  obtain ⟨cg, g1, g2⟩ := x.g
  obtain ⟨⟨v1, a1, b1⟩, ⟨v5, a5, b5⟩⟩ := (g2 i hi).2
  generalize K i = k at *
  generalize T i = s at *
  generalize B i = b at *
  have e0 : (n : Int) ≤ 4096 := by omega
  have k0 := cell_of u1 u2
  have k1 := cell_of g1 a1
  have k5 := cell_of g1 a5
  have HV := Lib.hid b1
  clear u1 u2 g1 g2 x hn a1 b1 a5
  rcases b5 with ⟨rfl, rfl⟩ | ⟨rfl, F, cf, Q, cq, vd, rfl, h2, h3, h4, h5, h6, h7, h8, h9, h10, h11, h12, h13⟩
  · have pn := nptr46_nil
    go_enter Try.func9, Try.ntmps9
    go_wp2_with fail
    refine (view18 HV.out).mono ?_
    rintro e w' ⟨rfl, rfl⟩
    go_wp2_with fail
    ((try simp only [Exit.inBlock, Exit.then]); refine bodyPost_ret (results_tmp7 rfl _ _ _) rfl ?_)
    exact ⟨rfl, rfl⟩
  · have pn := nptr46_some
    have k6 := cell_of h3 h6
    have k7 := cell_of h8 h12
    have HD := Lib.hid h13
    clear h2 h3 h4 h5 h6 h7 h8 h9 h10 h11 h12 h13
    go_enter Try.func9, Try.ntmps9
    go_wp2_with fail
    refine (view18 HV.out).mono ?_
    rintro e w' ⟨rfl, rfl⟩
    go_wp2_with fail
    refine (view18 HD.out).mono ?_
    rintro e w' ⟨rfl, rfl⟩
    go_wp2_with fail
    ((try simp only [Exit.inBlock, Exit.then]); refine bodyPost_ret (results_tmp7 rfl _ _ _) rfl ?_)
    exact ⟨rfl, rfl⟩
end Go.Proofs.Ytnmceagiofjdnaa
