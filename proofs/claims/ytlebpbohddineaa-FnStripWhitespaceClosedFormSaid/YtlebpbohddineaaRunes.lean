/- Plain laws on runes and their bytes: decoding what was encoded; cutting blanks off runes and off bytes. No program in sight. -/
import Derived.Lib.DecodeN
import Derived.Laws.Runes
import Derived.Laws.Cover4
import Derived.Laws.IdiomStrings
namespace Go.Proofs.Ytlebpbohddineaa
open Go.Lib (decodeN decode_at)

/-! ### Decoding, over lists of bytes -/
def nb (l : List UInt8) (k : Nat) : Nat := (l.getD k 0).toNat
def decL (l : List UInt8) : Nat × Nat := decodeN l.length (nb l 0) (nb l 1) (nb l 2) (nb l 3)
theorem get_nb (s : ByteArray) (i k : Nat) : (s.get! (i + k)).toNat = nb (s.data.toList.drop i) k := by
  unfold nb
  rw [List.getD_eq_getElem?_getD, List.getElem?_drop, Array.getElem?_toList]
  show (s.data[i + k]!).toNat = _
  rw [getElem!_def]
  cases s.data[i + k]? <;> rfl
theorem decode_list (s : ByteArray) (i : Nat) : Utf8.decode s i = decL (s.data.toList.drop i) := by
  rw [decode_at, decL]
  have h0 := get_nb s i 0
  have h1 := get_nb s i 1
  have h2 := get_nb s i 2
  have h3 := get_nb s i 3
  have hl : (s.data.toList.drop i).length = s.size - i := by rw [List.length_drop, Array.length_toList]; rfl
  rw [Nat.add_zero] at h0
  rw [h0, h1, h2, h3, hl]

def encL (r : Int) : List UInt8 := (Utf8.encode r).data.toList
def encAll (rs : List Int) : List UInt8 := rs.flatMap encL
theorem encAll_nil : encAll [] = [] := rfl
theorem encAll_cons (r : Int) (rs : List Int) : encAll (r :: rs) = encL r ++ encAll rs := List.flatMap_cons
theorem encAll_append (a b : List Int) : encAll (a ++ b) = encAll a ++ encAll b := by simp [encAll]
theorem runesBytes_data (rs : List Int) : (runesBytes rs).data.toList = encAll rs := by
  have h : ∀ (rs : List Int) (s : ByteArray), (rs.foldl (fun r n => r ++ Utf8.encode n) s).data.toList = s.data.toList ++ encAll rs := by
    intro rs
    induction rs with
    | nil => intro s; simp [encAll_nil]
    | cons r rs ih =>
      intro s
      rw [List.foldl_cons, ih, ByteArray.data_append, Array.toList_append, encAll_cons, List.append_assoc]
      rfl
  exact h rs ByteArray.empty

def okR (r : Int) : Prop := (0 ≤ r ∧ r < 55296) ∨ (57344 ≤ r ∧ r ≤ 1114111)
theorem valid_ok (r : Int) : Utf8.valid r = true ↔ okR r := by
  simp only [Utf8.valid, okR, Bool.or_eq_true, Bool.and_eq_true, decide_eq_true_eq]
theorem byteNat (n : Nat) (h : n < 256) : (UInt8.ofNat n).toNat = n := by rw [UInt8.toNat_ofNat']; omega

theorem encL_1 (r : Int) (h0 : 0 ≤ r) (h1 : r < 128) : encL r = [UInt8.ofNat r.toNat] := by
  have hv : Utf8.valid r = true := (valid_ok r).2 (by unfold okR; omega)
  have hc : r.toNat < 128 := by omega
  simp only [encL, Utf8.encode, hv, if_true, hc]
theorem encL_2 (r : Int) (h0 : 128 ≤ r) (h1 : r < 2048) : encL r = [UInt8.ofNat (192 + r.toNat / 64), UInt8.ofNat (128 + r.toNat % 64)] := by
  have hv : Utf8.valid r = true := (valid_ok r).2 (by unfold okR; omega)
  have hc : ¬ r.toNat < 128 := by omega
  have hd : r.toNat < 2048 := by omega
  simp only [encL, Utf8.encode, hv, if_true, hc, hd, if_false]
theorem encL_3 (r : Int) (hok : okR r) (h0 : 2048 ≤ r) (h1 : r < 65536) : encL r = [UInt8.ofNat (224 + r.toNat / 4096), UInt8.ofNat (128 + r.toNat / 64 % 64), UInt8.ofNat (128 + r.toNat % 64)] := by
  have hv : Utf8.valid r = true := (valid_ok r).2 hok
  have hc : ¬ r.toNat < 128 := by omega
  have hd : ¬ r.toNat < 2048 := by omega
  have he : r.toNat < 65536 := by omega
  simp only [encL, Utf8.encode, hv, if_true, hc, hd, he, if_false]
theorem encL_4 (r : Int) (hok : okR r) (h0 : 65536 ≤ r) : encL r = [UInt8.ofNat (240 + r.toNat / 262144), UInt8.ofNat (128 + r.toNat / 4096 % 64), UInt8.ofNat (128 + r.toNat / 64 % 64), UInt8.ofNat (128 + r.toNat % 64)] := by
  have hv : Utf8.valid r = true := (valid_ok r).2 hok
  have hc : ¬ r.toNat < 128 := by omega
  have hd : ¬ r.toNat < 2048 := by omega
  have he : ¬ r.toNat < 65536 := by omega
  simp only [encL, Utf8.encode, hv, if_true, hc, hd, he, if_false]
theorem encL_bad (r : Int) (h : ¬ okR r) : encL r = encL 65533 := by
  have hv : ¬ Utf8.valid r = true := fun e => h ((valid_ok r).1 e)
  have hv' : Utf8.valid r = false := by simpa using hv
  simp only [encL, Utf8.encode, hv', Utf8.runeError]
  rfl

/-- What was encoded decodes. -/
theorem dec_enc (r : Int) (hok : okR r) (t : List UInt8) : decL (encL r ++ t) = (r.toNat, (encL r).length) := by
  by_cases h1 : r < 128
  · have h0 : 0 ≤ r := by unfold okR at hok; omega
    rw [encL_1 r h0 h1]
    simp only [decL, nb, List.cons_append, List.nil_append, List.getD_cons_zero, List.length_cons, List.length_nil, byteNat r.toNat (by omega)]
    rw [decodeN, if_pos (by omega)]
  · by_cases h2 : r < 2048
    · rw [encL_2 r (by omega) h2]
      simp only [decL, nb, List.cons_append, List.nil_append, List.getD_cons_zero, List.getD_cons_succ, List.length_cons, List.length_nil, byteNat (192 + r.toNat / 64) (by omega), byteNat (128 + r.toNat % 64) (by omega)]
      rw [decodeN, if_neg (by omega), if_pos (by omega), if_pos (by omega)]
      exact Prod.ext (by simp only; omega) rfl
    · by_cases h3 : r < 65536
      · rw [encL_3 r hok (by omega) h3]
        simp only [decL, nb, List.cons_append, List.nil_append, List.getD_cons_zero, List.getD_cons_succ, List.length_cons, List.length_nil, byteNat (224 + r.toNat / 4096) (by omega), byteNat (128 + r.toNat / 64 % 64) (by omega), byteNat (128 + r.toNat % 64) (by omega)]
        have hv : (224 + r.toNat / 4096) % 16 * 4096 + (128 + r.toNat / 64 % 64) % 64 * 64 + (128 + r.toNat % 64) % 64 = r.toNat := by omega
        unfold okR at hok
        rw [decodeN, if_neg (by omega), if_neg (by omega), if_pos (by omega), hv, if_pos (by omega)]
      · rw [encL_4 r hok (by omega)]
        unfold okR at hok
        simp only [decL, nb, List.cons_append, List.nil_append, List.getD_cons_zero, List.getD_cons_succ, List.length_cons, List.length_nil, byteNat (240 + r.toNat / 262144) (by omega), byteNat (128 + r.toNat / 4096 % 64) (by omega), byteNat (128 + r.toNat / 64 % 64) (by omega), byteNat (128 + r.toNat % 64) (by omega)]
        have hv : (240 + r.toNat / 262144) % 8 * 262144 + (128 + r.toNat / 4096 % 64) % 64 * 4096 + (128 + r.toNat / 64 % 64) % 64 * 64 + (128 + r.toNat % 64) % 64 = r.toNat := by omega
        rw [decodeN, if_neg (by omega), if_neg (by omega), if_neg (by omega), if_pos (by omega), hv, if_pos (by omega)]

theorem okR_65533 : okR 65533 := by unfold okR; omega
/-- Whatever is decoded is a valid rune. -/
theorem dec_ok (l : List UInt8) : okR ((decL l).1 : Int) := by
  unfold decL decodeN okR
  repeat' split
  all_goals simp only
  all_goals omega
theorem dec_pos (l : List UInt8) : 1 ≤ (decL l).2 := by
  unfold decL decodeN
  repeat' split
  all_goals simp only
  all_goals omega
theorem encL_pos (r : Int) : 1 ≤ (encL r).length := by
  by_cases hok : okR r
  · by_cases h1 : r < 128
    · rw [encL_1 r (by unfold okR at hok; omega) h1]; simp
    · by_cases h2 : r < 2048
      · rw [encL_2 r (by omega) h2]; simp
      · by_cases h3 : r < 65536
        · rw [encL_3 r hok (by omega) h3]; simp
        · rw [encL_4 r hok (by omega)]; simp
  · rw [encL_bad r hok]; decide

/-- All the runes of a list of bytes, by at most 'fuel' steps. -/
def decAll : Nat → List UInt8 → List Int
  | 0, _ => []
  | _ + 1, [] => []
  | fuel + 1, b :: t => ((decL (b :: t)).1 : Int) :: decAll fuel ((b :: t).drop (decL (b :: t)).2)
theorem decAll_enc : ∀ (rs : List Int) (fuel : Nat), (∀ r ∈ rs, okR r) → (encAll rs).length ≤ fuel → decAll fuel (encAll rs) = rs := by
  intro rs
  induction rs with
  | nil => intro fuel _ _; cases fuel <;> rfl
  | cons r rs ih =>
    intro fuel hok hf
    rw [encAll_cons] at hf ⊢
    have hp := encL_pos r
    have hr := hok r (by simp)
    rw [List.length_append] at hf
    cases fuel with
    | zero => omega
    | succ fuel =>
      have hd := dec_enc r hr (encAll rs)
      match he : encL r ++ encAll rs, hd with
      | [], _ => have : (encL r ++ encAll rs).length = 0 := by rw [he]; rfl
                 rw [List.length_append] at this; omega
      | b :: t, hd =>
        rw [decAll, hd]
        have e : ((b :: t).drop (encL r).length) = encAll rs := by rw [← he]; simp
        simp only [e]
        rw [ih fuel (fun x hx => hok x (by simp [hx])) (by omega)]
        have h0 : 0 ≤ r := by unfold okR at hr; omega
        rw [Int.toNat_of_nonneg h0]
theorem decAll_ok : ∀ (fuel : Nat) (l : List UInt8), ∀ r ∈ decAll fuel l, okR r := by
  intro fuel
  induction fuel with
  | zero => intro l r hr; simp [decAll] at hr
  | succ fuel ih =>
    intro l r hr
    cases l with
    | nil => simp [decAll] at hr
    | cons b t =>
      rw [decAll, List.mem_cons] at hr
      rcases hr with rfl | hr
      · exact dec_ok _
      · exact ih _ _ hr
theorem runesFrom_list (s : ByteArray) : ∀ (fuel i : Nat) (acc : Array Value), (Conv.runesFrom s fuel i acc).toList = acc.toList ++ (decAll fuel (s.data.toList.drop i)).map (Value.int .i32) := by
  intro fuel
  induction fuel with
  | zero => intro i acc; simp [Conv.runesFrom, decAll]
  | succ fuel ih =>
    intro i acc
    have hl : (s.data.toList.drop i).length = s.size - i := by rw [List.length_drop, Array.length_toList]; rfl
    unfold Conv.runesFrom
    by_cases hi : i < s.size
    · rw [if_pos hi, ih, decode_list]
      match he : s.data.toList.drop i, hl with
      | [], hl => simp at hl; omega
      | b :: t, _ =>
        rw [decAll, ← List.drop_drop, he]
        simp
    · rw [if_neg hi]
      match he : s.data.toList.drop i, hl with
      | [], _ => simp [decAll]
      | b :: t, hl => rw [List.length_cons] at hl; omega
/-- The runes of a string. -/
def runesOf (s : ByteArray) : List Int := decAll s.size s.data.toList
theorem runesFrom_of (s : ByteArray) : (Conv.runesFrom s s.size 0 #[]) = ((runesOf s).map (Value.int .i32)).toArray := by
  apply Array.ext'
  rw [runesFrom_list]
  simp [runesOf]
theorem runesOf_ok (s : ByteArray) : ∀ r ∈ runesOf s, okR r := decAll_ok _ _
theorem decAll_length : ∀ (fuel : Nat) (l : List UInt8), (decAll fuel l).length ≤ fuel := by
  intro fuel
  induction fuel with
  | zero => intro l; simp [decAll]
  | succ fuel ih =>
    intro l
    cases l with
    | nil => simp [decAll]
    | cons b t => rw [decAll, List.length_cons]; have := ih ((b :: t).drop (decL (b :: t)).2); omega
theorem runesOf_length (s : ByteArray) : (runesOf s).length ≤ s.size := decAll_length _ _
theorem runesOf_bytes (rs : List Int) (h : ∀ r ∈ rs, okR r) : runesOf (runesBytes rs) = rs := by
  unfold runesOf
  rw [runesBytes_data]
  refine decAll_enc rs _ h ?_
  rw [← runesBytes_data, Array.length_toList]
  exact Nat.le_refl _

/-! ### Cutting blanks -/
def hw (r : Int) : Bool := decide (r = 32 ∨ r = 9 ∨ r = 13)
def hwb (c : UInt8) : Bool := hw (c.toNat : Int)
section
variable {α : Type} (p : α → Bool)
/-- Without its trailing run. -/
def trim : List α → List α
  | [] => []
  | x :: l => if (trim l).isEmpty then (if p x then [] else [x]) else x :: trim l
/-- How many are cut at the left: the leading run, at most m. -/
def lo : List α → Int → Nat
  | [], _ => 0
  | x :: l, m => if p x && decide (0 < m) then lo l (m - 1) + 1 else 0
theorem trim_nil_all : ∀ l : List α, (∀ x ∈ l, p x = true) → trim p l = [] := by
  intro l
  induction l with
  | nil => intro _; rfl
  | cons x l ih =>
    intro h
    rw [trim, ih fun y hy => h y (by simp [hy])]
    simp [h x (by simp)]
theorem all_of_trim : ∀ l : List α, trim p l = [] → ∀ x ∈ l, p x = true := by
  intro l
  induction l with
  | nil => intro _ x hx; simp at hx
  | cons x l ih =>
    intro h y hy
    rw [trim] at h
    by_cases ht : (trim p l).isEmpty = true
    · rw [if_pos ht] at h
      have hl : trim p l = [] := by simpa using ht
      by_cases hx : p x = true
      · rw [List.mem_cons] at hy
        rcases hy with rfl | hy
        · exact hx
        · exact ih hl y hy
      · rw [if_neg hx] at h; simp at h
    · rw [if_neg ht] at h; simp at h
theorem trim_append (a l : List α) : trim p (a ++ l) = if (trim p l).isEmpty then trim p a else a ++ trim p l := by
  induction a with
  | nil =>
    by_cases h : (trim p l).isEmpty = true
    · have hl : trim p l = [] := by simpa using h
      simp [trim, hl]
    · simp [h]
  | cons x a ih =>
    rw [List.cons_append, trim, ih]
    by_cases h : (trim p l).isEmpty = true
    · rw [if_pos h, if_pos h, trim]
    · rw [if_neg h, if_neg h]
      have hne : ¬ (a ++ trim p l).isEmpty = true := by
        simp at h ⊢
        intro _
        exact h
      rw [if_neg hne]
      rfl
theorem trim_snoc (a : List α) (x : α) (h : p x = false) : trim p (a ++ [x]) = a ++ [x] := by
  rw [trim_append]
  simp [trim, h]
theorem trim_idem (l : List α) : trim p (trim p l) = trim p l := by
  induction l with
  | nil => rfl
  | cons x l ih =>
    rw [trim]
    by_cases h : (trim p l).isEmpty = true
    · rw [if_pos h]
      by_cases hx : p x = true
      · simp [hx, trim]
      · simp [hx, trim]
    · rw [if_neg h, trim, ih, if_neg h]
/-- The piece from i to j is the trimmed rest, if all from j on are blanks and what lies ahead of j (if anything from i on) is none. -/
theorem trim_piece (l : List α) (i j : Nat) (hij : i ≤ j) (hj : j ≤ l.length) (hall : ∀ t, j ≤ t → (h : t < l.length) → p l[t] = true)
    (hend : j = i ∨ ∃ h : j - 1 < l.length, p l[j - 1] = false) : (l.drop i).take (j - i) = trim p (l.drop i) := by
  have hsplit : l.drop i = (l.drop i).take (j - i) ++ l.drop j := by
    have := (List.take_append_drop (j - i) (l.drop i)).symm
    rw [List.drop_drop, show i + (j - i) = j by omega] at this
    exact this
  have hrest : trim p (l.drop j) = [] := by
    apply trim_nil_all
    intro x hx
    obtain ⟨k, hk, rfl⟩ := List.getElem_of_mem hx
    rw [List.length_drop] at hk
    rw [List.getElem_drop]
    exact hall (j + k) (by omega) (by omega)
  conv => rhs; rw [hsplit]
  rw [trim_append, hrest]
  simp only [List.isEmpty_nil, if_true]
  rcases hend with rfl | ⟨hlt, hf⟩
  · simp [trim]
  · by_cases he : j = i
    · subst he; simp [trim]
    · have hs : (l.drop i).take (j - i) = (l.drop i).take (j - i - 1) ++ [l[j - 1]] := by
        have h1 : j - i = (j - i - 1) + 1 := by omega
        conv => lhs; rw [h1]
        rw [List.take_succ_eq_append_getElem (by rw [List.length_drop]; omega)]
        congr 2
        rw [List.getElem_drop]
        congr 1
        omega
      rw [hs, trim_snoc p _ _ hf]
theorem lo_le (l : List α) : ∀ m : Int, lo p l m ≤ l.length := by
  induction l with
  | nil => intro m; simp [lo]
  | cons x l ih =>
    intro m
    rw [lo]
    split
    · have := ih (m - 1); rw [List.length_cons]; omega
    · omega
/-- How far the left cut goes: all that is cut is blank, and the cut ends at m, at the list's end or at a non-blank. -/
theorem lo_eq : ∀ (l : List α) (m : Int) (i : Nat), i ≤ l.length → (∀ t, t < i → (h : t < l.length) → p l[t] = true) → ((i : Int) ≤ m ∨ i = 0) →
    (i = l.length ∨ (∃ h : i < l.length, p l[i] = false) ∨ m ≤ (i : Int)) → lo p l m = i := by
  intro l
  induction l with
  | nil => intro m i hi _ _ _; simp at hi; simp [lo, hi]
  | cons x l ih =>
    intro m i hi hall hm hend
    rw [lo]
    cases i with
    | zero =>
      have hz : ¬ ((p x && decide (0 < m)) = true) := by
        simp only [Bool.and_eq_true, decide_eq_true_eq]
        rintro ⟨h1, h2⟩
        rcases hend with h | ⟨_, h⟩ | h
        · simp at h
        · simp at h; rw [h] at h1; cases h1
        · omega
      rw [if_neg hz]
    | succ i =>
      have hx : p x = true := hall 0 (by omega) (by simp)
      have hm' : (0 : Int) < m := by omega
      have hp : (p x && decide (0 < m)) = true := by simp [hx, hm']
      rw [if_pos hp, ih (m - 1) i (by simpa using hi) (fun t ht h => by have := hall (t + 1) (by omega) (by simpa using h); simpa using this) (by omega) ?_]
      rcases hend with h | ⟨h, hf⟩ | h
      · exact .inl (by simpa using h)
      · exact .inr (.inl ⟨by simpa using h, by simpa using hf⟩)
      · exact .inr (.inr (by omega))
/-- Cutting twice. -/
theorem lo_add : ∀ (l : List α) (a b : Int), 0 ≤ a → 0 ≤ b → l.drop (lo p l (a + b)) = (l.drop (lo p l a)).drop (lo p (l.drop (lo p l a)) b) := by
  intro l
  induction l with
  | nil => intro a b _ _; simp [lo]
  | cons x l ih =>
    intro a b ha hb
    by_cases hx : p x = true
    · by_cases h0 : 0 < a
      · have e1 : lo p (x :: l) (a + b) = lo p l (a - 1 + b) + 1 := by
          rw [lo, if_pos (by simp [hx]; omega), show a + b - 1 = a - 1 + b by omega]
        have e2 : lo p (x :: l) a = lo p l (a - 1) + 1 := by rw [lo, if_pos (by simp [hx, h0])]
        rw [e1, e2, List.drop_succ_cons, List.drop_succ_cons]
        exact ih (a - 1) b (by omega) hb
      · have ha0 : a = 0 := by omega
        subst ha0
        have e2 : lo p (x :: l) 0 = 0 := by rw [lo, if_neg (by simp)]
        rw [e2, Int.zero_add]
        rfl
    · have e : ∀ m, lo p (x :: l) m = 0 := fun m => by rw [lo, if_neg (by simp [hx])]
      rw [e, e]
      simp [e]
theorem trim_drop_nil (l : List α) (k : Nat) (h : trim p l = []) : trim p (l.drop k) = [] :=
  trim_nil_all p _ fun x hx => all_of_trim p l h x (List.mem_of_mem_drop hx)
theorem strip_trim : ∀ (u : List α) (b : Int), trim p ((trim p u).drop (lo p (trim p u) b)) = trim p (u.drop (lo p u b)) := by
  intro u
  induction u with
  | nil => intro b; rfl
  | cons x t ih =>
    intro b
    by_cases hn : trim p (x :: t) = []
    · rw [hn, trim_drop_nil p _ _ hn]; simp [trim]
    · by_cases ht : (trim p t).isEmpty = true
      · have hx : p x = false := by
          cases hp : p x with
          | false => rfl
          | true => exfalso; apply hn; rw [trim, if_pos ht, if_pos hp]
        have e : ∀ (l : List α) m, lo p (x :: l) m = 0 := fun l m => by rw [lo, if_neg (by simp [hx])]
        have e1 : trim p (x :: t) = [x] := by rw [trim, if_pos ht]; simp [hx]
        rw [e1, e, e, List.drop_zero, List.drop_zero, e1]
        simp [trim, hx]
      · have e1 : trim p (x :: t) = x :: trim p t := by rw [trim, if_neg ht]
        rw [e1]
        by_cases hc : (p x && decide (0 < b)) = true
        · rw [lo, if_pos hc, lo, if_pos hc, List.drop_succ_cons, List.drop_succ_cons]
          exact ih (b - 1)
        · rw [lo, if_neg hc, lo, if_neg hc, List.drop_zero, List.drop_zero, ← e1, trim_idem]
theorem trim_len (l : List α) : (trim p l).length ≤ l.length := by
  induction l with
  | nil => exact Nat.le_refl _
  | cons y l ih =>
    rw [trim]
    split
    · split <;> simp
    · rw [List.length_cons, List.length_cons]; omega
theorem trim_mem (l : List α) : ∀ x ∈ trim p l, x ∈ l := by
  induction l with
  | nil => intro x hx; exact hx
  | cons y l ih =>
    intro x hx
    rw [trim] at hx
    by_cases h : (trim p l).isEmpty = true
    · rw [if_pos h] at hx
      by_cases hy : p y = true
      · rw [if_pos hy] at hx; simp at hx
      · rw [if_neg hy] at hx; simp at hx; simp [hx]
    · rw [if_neg h, List.mem_cons] at hx
      rcases hx with rfl | hx
      · simp
      · simp [ih x hx]
end

/-- What stripWhitespace hands back, over the runes. -/
def stripR (rs : List Int) (m : Int) : List Int := trim hw (rs.drop (lo hw rs m))
theorem stripR_mem (rs : List Int) (m : Int) : ∀ r ∈ stripR rs m, r ∈ rs := fun r hr => List.mem_of_mem_drop (trim_mem hw _ r hr)
theorem stripR_add (rs : List Int) (a b : Int) (ha : 0 ≤ a) (hb : 0 ≤ b) : stripR (stripR rs a) b = stripR rs (a + b) := by
  unfold stripR
  rw [strip_trim, lo_add hw rs a b ha hb]
/-- Stripping twice is stripping once with the sum of the margins. -/
theorem strip_twice (s : ByteArray) (a b : Int) (ha : 0 ≤ a) (hb : 0 ≤ b) : runesBytes (stripR (runesOf (runesBytes (stripR (runesOf s) a))) b) = runesBytes (stripR (runesOf s) (a + b)) := by
  rw [runesOf_bytes _ fun r hr => runesOf_ok s r (stripR_mem _ _ r hr), stripR_add _ _ _ ha hb]

/-! ### Bytes and runes -/
theorem encL_hw (r : Int) (h : hw r = true) : encL r = [UInt8.ofNat r.toNat] ∧ hwb (UInt8.ofNat r.toNat) = true := by
  have h := of_decide_eq_true h
  refine ⟨encL_1 r (by omega) (by omega), ?_⟩
  unfold hwb
  rw [byteNat r.toNat (by omega)]
  exact decide_eq_true (by omega)
theorem hwb_of (n : Nat) (h : n < 256) (h' : n ≠ 32) (h'' : n ≠ 9) (h3 : n ≠ 13) : hwb (UInt8.ofNat n) = false := by
  unfold hwb
  rw [byteNat n h]
  exact decide_eq_false (by omega)
/-- A rune that is no blank: neither its first byte nor its last is one. -/
theorem encL_not (r : Int) (hok : okR r) (h : hw r = false) : (∃ b t, encL r = b :: t ∧ hwb b = false) ∧ ∃ t b, encL r = t ++ [b] ∧ hwb b = false := by
  have h := of_decide_eq_false h
  by_cases h1 : r < 128
  · have h0 : 0 ≤ r := by unfold okR at hok; omega
    rw [encL_1 r h0 h1]
    have := hwb_of r.toNat (by omega) (by omega) (by omega) (by omega)
    exact ⟨⟨_, [], rfl, this⟩, [], _, rfl, this⟩
  · by_cases h2 : r < 2048
    · rw [encL_2 r (by omega) h2]
      exact ⟨⟨_, _, rfl, hwb_of _ (by omega) (by omega) (by omega) (by omega)⟩, [_], _, rfl, hwb_of _ (by omega) (by omega) (by omega) (by omega)⟩
    · by_cases h3 : r < 65536
      · rw [encL_3 r hok (by omega) h3]
        exact ⟨⟨_, _, rfl, hwb_of _ (by omega) (by omega) (by omega) (by omega)⟩, [_, _], _, rfl, hwb_of _ (by omega) (by omega) (by omega) (by omega)⟩
      · rw [encL_4 r hok (by omega)]
        unfold okR at hok
        exact ⟨⟨_, _, rfl, hwb_of _ (by omega) (by omega) (by omega) (by omega)⟩, [_, _, _], _, rfl, hwb_of _ (by omega) (by omega) (by omega) (by omega)⟩
theorem lo_enc : ∀ (rs : List Int) (m : Int), (∀ r ∈ rs, okR r) → (encAll rs).drop (lo hwb (encAll rs) m) = encAll (rs.drop (lo hw rs m)) := by
  intro rs
  induction rs with
  | nil => intro m _; rfl
  | cons r rs ih =>
    intro m hok
    rw [encAll_cons]
    cases hr : hw r with
    | true =>
      obtain ⟨he, hb⟩ := encL_hw r hr
      rw [he, List.singleton_append, lo, lo, hb, hr]
      by_cases hm : 0 < m
      · rw [if_pos (by simp [hm]), if_pos (by simp [hm]), List.drop_succ_cons, List.drop_succ_cons]
        exact ih (m - 1) fun x hx => hok x (by simp [hx])
      · rw [if_neg (by simp [hm]), if_neg (by simp [hm]), List.drop_zero, List.drop_zero, encAll_cons, he]
        rfl
    | false =>
      obtain ⟨⟨b, t, he, hb⟩, _⟩ := encL_not r (hok r (by simp)) hr
      rw [lo, hr, he, List.cons_append, lo, hb]
      simp only [Bool.false_and, Bool.false_eq_true, if_false, List.drop_zero]
      rw [encAll_cons, he]
      rfl
theorem trim_enc : ∀ rs : List Int, (∀ r ∈ rs, okR r) → trim hwb (encAll rs) = encAll (trim hw rs) := by
  intro rs
  induction rs with
  | nil => intro _; rfl
  | cons r rs ih =>
    intro hok
    have ih := ih fun x hx => hok x (by simp [hx])
    have hemp : (encAll (trim hw rs)).isEmpty = (trim hw rs).isEmpty := by
      cases ht : trim hw rs with
      | nil => rfl
      | cons x l =>
        rw [encAll_cons]
        have := encL_pos x
        cases he : encL x with
        | nil => rw [he] at this; simp at this
        | cons b t => rfl
    rw [encAll_cons, trim_append, ih, hemp, trim]
    by_cases h : (trim hw rs).isEmpty = true
    · rw [if_pos h, if_pos h]
      cases hr : hw r with
      | true =>
        obtain ⟨he, hb⟩ := encL_hw r hr
        rw [he]
        simp [trim, hb, encAll_nil]
      | false =>
        obtain ⟨_, t, b, he, hb⟩ := encL_not r (hok r (by simp)) hr
        rw [he, trim_snoc hwb t b hb, ← he]
        simp [encAll]
    · rw [if_neg h, if_neg h, encAll_cons]
/-- Over valid text stripping runes is stripping bytes. -/
theorem strip_bytes (rs : List Int) (m : Int) (hok : ∀ r ∈ rs, okR r) : trim hwb ((encAll rs).drop (lo hwb (encAll rs) m)) = encAll (stripR rs m) := by
  rw [lo_enc rs m hok, trim_enc _ fun r hr => hok r (List.mem_of_mem_drop hr)]
  rfl

/-! ### Valid forms of two, three and four bytes -/
theorem enc_of_1 (b0 : UInt8) (h : b0.toNat < 128) : okR (b0.toNat : Int) ∧ encL (b0.toNat : Int) = [b0] := by
  refine ⟨by unfold okR; omega, ?_⟩
  rw [encL_1 _ (by omega) (by omega)]
  simp
theorem byte_eq {n : Nat} {b : UInt8} (h : n = b.toNat) : UInt8.ofNat n = b := by rw [h]; simp
theorem enc_of_2 (b0 b1 : UInt8) (h0 : 194 ≤ b0.toNat) (h0' : b0.toNat ≤ 223) (h1 : 128 ≤ b1.toNat) (h1' : b1.toNat ≤ 191) : ∃ r, okR r ∧ encL r = [b0, b1] := by
  refine ⟨((b0.toNat - 192) * 64 + (b1.toNat - 128) : Nat), by unfold okR; omega, ?_⟩
  rw [encL_2 _ (by omega) (by omega)]
  rw [byte_eq (b := b0) (by omega), byte_eq (b := b1) (by omega)]
theorem enc_of_3 (b0 b1 b2 : UInt8) (h0 : 224 ≤ b0.toNat) (h0' : b0.toNat ≤ 239) (h1 : 128 ≤ b1.toNat) (h1' : b1.toNat ≤ 191) (h2 : 128 ≤ b2.toNat) (h2' : b2.toNat ≤ 191)
    (hE0 : b0.toNat = 224 → 160 ≤ b1.toNat) (hED : b0.toNat = 237 → b1.toNat ≤ 159) : ∃ r, okR r ∧ encL r = [b0, b1, b2] := by
  have hok : okR (((b0.toNat - 224) * 4096 + (b1.toNat - 128) * 64 + (b2.toNat - 128) : Nat) : Int) := by unfold okR; omega
  refine ⟨_, hok, ?_⟩
  rw [encL_3 _ hok (by omega) (by omega)]
  rw [byte_eq (b := b0) (by omega), byte_eq (b := b1) (by omega), byte_eq (b := b2) (by omega)]
theorem enc_of_4 (b0 b1 b2 b3 : UInt8) (h0 : 240 ≤ b0.toNat) (h0' : b0.toNat ≤ 244) (h1 : 128 ≤ b1.toNat) (h1' : b1.toNat ≤ 191) (h2 : 128 ≤ b2.toNat) (h2' : b2.toNat ≤ 191) (h3 : 128 ≤ b3.toNat) (h3' : b3.toNat ≤ 191)
    (hF0 : b0.toNat = 240 → 144 ≤ b1.toNat) (hF4 : b0.toNat = 244 → b1.toNat ≤ 143) : ∃ r, okR r ∧ encL r = [b0, b1, b2, b3] := by
  have hok : okR (((b0.toNat - 240) * 262144 + (b1.toNat - 128) * 4096 + (b2.toNat - 128) * 64 + (b3.toNat - 128) : Nat) : Int) := by unfold okR; omega
  refine ⟨_, hok, ?_⟩
  rw [encL_4 _ hok (by omega)]
  rw [byte_eq (b := b0) (by omega), byte_eq (b := b1) (by omega), byte_eq (b := b2) (by omega), byte_eq (b := b3) (by omega)]
/-- The first i bytes are the forms of valid runes. -/
def ValidTo (s : ByteArray) (i : Nat) : Prop := ∃ rs : List Int, (∀ r ∈ rs, okR r) ∧ s.data.toList.take i = encAll rs
theorem ValidTo.zero (s : ByteArray) : ValidTo s 0 := ⟨[], by simp, by simp [encAll_nil]⟩
theorem ValidTo.step {s : ByteArray} {i k : Nat} {r : Int} (h : ValidTo s i) (hr : okR r) (he : (s.data.toList.drop i).take k = encL r) : ValidTo s (i + k) := by
  obtain ⟨rs, hok, ht⟩ := h
  refine ⟨rs ++ [r], fun x hx => ?_, ?_⟩
  · rw [List.mem_append] at hx
    rcases hx with hx | hx
    · exact hok x hx
    · simp at hx; subst hx; exact hr
  · rw [List.take_add, ht, he, encAll_append]
    simp [encAll]
theorem drop_cons (s : ByteArray) (i : Nat) (h : i < s.size) : s.data.toList.drop i = s[i] :: s.data.toList.drop (i + 1) := by
  rw [List.drop_eq_getElem_cons (by simpa using h)]
  rfl
theorem ValidTo.one {s : ByteArray} {i : Nat} (h : ValidTo s i) (hi : i < s.size) (hb : s[i].toNat < 128) : ValidTo s (i + 1) :=
  h.step (enc_of_1 s[i] hb).1 (by rw [drop_cons s i hi, (enc_of_1 s[i] hb).2]; simp)
theorem ValidTo.two {s : ByteArray} {i : Nat} (h : ValidTo s i) (hi : i + 1 < s.size) (h0 : 194 ≤ s[i].toNat) (h0' : s[i].toNat ≤ 223) (h1 : 128 ≤ s[i + 1].toNat) (h1' : s[i + 1].toNat ≤ 191) : ValidTo s (i + 2) := by
  obtain ⟨r, hr, he⟩ := enc_of_2 s[i] s[i + 1] h0 h0' h1 h1'
  exact h.step hr (by rw [drop_cons s i (by omega), drop_cons s (i + 1) (by omega), he]; simp)
theorem ValidTo.three {s : ByteArray} {i : Nat} (h : ValidTo s i) (hi : i + 2 < s.size) (h0 : 224 ≤ s[i].toNat) (h0' : s[i].toNat ≤ 239) (h1 : 128 ≤ s[i + 1].toNat) (h1' : s[i + 1].toNat ≤ 191) (h2 : 128 ≤ s[i + 2].toNat) (h2' : s[i + 2].toNat ≤ 191)
    (hE0 : s[i].toNat = 224 → 160 ≤ s[i + 1].toNat) (hED : s[i].toNat = 237 → s[i + 1].toNat ≤ 159) : ValidTo s (i + 3) := by
  obtain ⟨r, hr, he⟩ := enc_of_3 s[i] s[i + 1] s[i + 2] h0 h0' h1 h1' h2 h2' hE0 hED
  exact h.step hr (by rw [drop_cons s i (by omega), drop_cons s (i + 1) (by omega), drop_cons s (i + 1 + 1) (by omega), he]; simp)
theorem ValidTo.four {s : ByteArray} {i : Nat} (h : ValidTo s i) (hi : i + 3 < s.size) (h0 : 240 ≤ s[i].toNat) (h0' : s[i].toNat ≤ 244) (h1 : 128 ≤ s[i + 1].toNat) (h1' : s[i + 1].toNat ≤ 191) (h2 : 128 ≤ s[i + 2].toNat) (h2' : s[i + 2].toNat ≤ 191) (h3 : 128 ≤ s[i + 3].toNat) (h3' : s[i + 3].toNat ≤ 191)
    (hF0 : s[i].toNat = 240 → 144 ≤ s[i + 1].toNat) (hF4 : s[i].toNat = 244 → s[i + 1].toNat ≤ 143) : ValidTo s (i + 4) := by
  obtain ⟨r, hr, he⟩ := enc_of_4 s[i] s[i + 1] s[i + 2] s[i + 3] h0 h0' h1 h1' h2 h2' h3 h3' hF0 hF4
  exact h.step hr (by rw [drop_cons s i (by omega), drop_cons s (i + 1) (by omega), drop_cons s (i + 1 + 1) (by omega), drop_cons s (i + 1 + 1 + 1) (by omega), he]; simp)
/-- Valid text: stripping over its runes is stripping its bytes. -/
theorem ValidTo.strip {s : ByteArray} {i : Nat} (h : ValidTo s i) (hi : s.size ≤ i) (m : Int) : (runesBytes (stripR (runesOf s) m)).data.toList = trim hwb (s.data.toList.drop (lo hwb s.data.toList m)) := by
  obtain ⟨rs, hok, ht⟩ := h
  have hl : s.data.toList = encAll rs := by
    rw [← ht, List.take_of_length_le (by rw [Array.length_toList]; exact hi)]
  have hr : runesOf s = rs := by
    unfold runesOf
    rw [hl]
    refine decAll_enc rs _ hok ?_
    rw [← hl, Array.length_toList]
    exact Nat.le_refl _
  rw [runesBytes_data, hr, hl, strip_bytes rs m hok]
end Go.Proofs.Ytlebpbohddineaa
