import Derived.Test.Qxb6603309aDoorPlain
import Derived.Lib.DecodeN
namespace Go.Proofs.Qxb6603309aDoor
open Go

/-! ### the decoder, on lists -/
def at4 (l : List UInt8) (k : Nat) : Nat := (l.getD k 0).toNat
def dl (l : List UInt8) : Nat × Nat := Lib.decodeN l.length (at4 l 0) (at4 l 1) (at4 l 2) (at4 l 3)

theorem get_list (s : ByteArray) (i : Nat) : s.get! i = s.data.toList.getD i 0 := by
  cases s with
  | mk d =>
    show d[i]! = _
    by_cases h : i < d.size
    · rw [getElem!_pos d i h]
      simp [List.getD, h]
    · rw [getElem!_neg d i h]
      simp [List.getD, h]
      rfl
theorem at4_drop (s : ByteArray) (i k : Nat) : at4 (s.data.toList.drop i) k = (s.get! (i + k)).toNat := by
  rw [get_list, at4]
  simp [List.getD]
theorem decode_dl (s : ByteArray) (i : Nat) : Utf8.decode s i = dl (s.data.toList.drop i) := by
  rw [Lib.decode_at, dl, at4_drop, at4_drop, at4_drop, at4_drop, Nat.add_zero, List.length_drop]
  rfl

def okL : Nat → List UInt8 → Bool
  | 0, _ => true
  | f + 1, l => if l.isEmpty then true else !forb (dl l).1 && okL f (l.drop (dl l).2)

theorem okF_okL : ∀ (f : Nat) (s : ByteArray) (pos : Nat), okF f s pos = okL f (s.data.toList.drop pos)
  | 0, _, _ => rfl
  | f + 1, s, pos => by
    have hl : s.data.toList.length = s.size := rfl
    rw [okF, okL]
    by_cases h : pos < s.size
    · have he : (s.data.toList.drop pos).isEmpty = false := by
        rw [List.isEmpty_eq_false_iff, ne_eq, List.drop_eq_nil_iff]
        omega
      rw [if_pos h, he, decode_dl, okF_okL f, List.drop_drop]
      rfl
    · have he : (s.data.toList.drop pos).isEmpty = true := by
        rw [List.isEmpty_iff, List.drop_eq_nil_iff]
        omega
      rw [if_neg h, he]
      rfl

theorem dl_pos (l : List UInt8) : 1 ≤ (dl l).2 := by
  unfold dl Lib.decodeN
  repeat' split
  all_goals simp
theorem okL_nil (f : Nat) : okL f [] = true := by cases f <;> rfl
theorem okL_fuel : ∀ (f g : Nat) (l : List UInt8), l.length ≤ f → l.length ≤ g → okL f l = okL g l
  | 0, g, l, h, _ => by
    have : l = [] := List.length_eq_zero_iff.1 (by omega)
    subst this
    rw [okL_nil, okL_nil]
  | f + 1, 0, l, _, h => by
    have : l = [] := List.length_eq_zero_iff.1 (by omega)
    subst this
    rw [okL_nil, okL_nil]
  | f + 1, g + 1, l, hf, hg => by
    have hp := dl_pos l
    rw [okL, okL, okL_fuel f g (l.drop (dl l).2) (by rw [List.length_drop]; omega) (by rw [List.length_drop]; omega)]

/-! ### a slash is no part of a longer rune -/
theorem dN1 (n x0 x1 x2 x3 : Nat) (c0 : x0 < 128) : Lib.decodeN n x0 x1 x2 x3 = (x0, 1) := by
  rw [Lib.decodeN, if_pos c0]
theorem dN2 (n x0 x1 x2 x3 : Nat) (c0 : ¬ x0 < 128) (c1 : x0 / 32 = 6 ∧ x1 / 64 = 2) (hn : 1 < n) : Lib.decodeN n x0 x1 x2 x3 = if x0 % 32 * 64 + x1 % 64 ≥ 128 then (x0 % 32 * 64 + x1 % 64, 2) else (65533, 1) := by
  rw [Lib.decodeN, if_neg c0, if_pos ⟨c1.1, hn, c1.2⟩]
theorem dN3 (n x0 x1 x2 x3 : Nat) (c0 : ¬ x0 < 128) (c2 : x0 / 16 = 14 ∧ x1 / 64 = 2 ∧ x2 / 64 = 2) (hn : 2 < n) : Lib.decodeN n x0 x1 x2 x3 = (if x0 % 16 * 4096 + x1 % 64 * 64 + x2 % 64 ≥ 2048 ∧ (x0 % 16 * 4096 + x1 % 64 * 64 + x2 % 64 < 55296 ∨ (57344 ≤ x0 % 16 * 4096 + x1 % 64 * 64 + x2 % 64 ∧ x0 % 16 * 4096 + x1 % 64 * 64 + x2 % 64 ≤ 1114111)) then (x0 % 16 * 4096 + x1 % 64 * 64 + x2 % 64, 3) else (65533, 1)) := by
  rw [Lib.decodeN, if_neg c0, if_neg (by omega), if_pos ⟨c2.1, ⟨by omega, c2.2.1⟩, hn, c2.2.2⟩]
theorem cut1 (n x0 y2 y3 : Nat) (h : Lib.decodeN n x0 47 y2 y3 ≠ (65533, 1)) : Lib.decodeN n x0 47 y2 y3 = Lib.decodeN 1 x0 0 0 0 ∧ (Lib.decodeN 1 x0 0 0 0).2 ≤ 1 := by
  by_cases c0 : x0 < 128
  · rw [dN1 _ _ _ _ _ c0, dN1 _ _ _ _ _ c0]
    exact ⟨rfl, by simp⟩
  · exfalso
    apply h
    rw [Lib.decodeN, if_neg c0, if_neg (by omega), if_neg (by omega), if_neg (by omega)]
theorem cut2 (n x0 x1 y3 : Nat) (hn : 2 < n) (h : Lib.decodeN n x0 x1 47 y3 ≠ (65533, 1)) : Lib.decodeN n x0 x1 47 y3 = Lib.decodeN 2 x0 x1 0 0 ∧ (Lib.decodeN 2 x0 x1 0 0).2 ≤ 2 := by
  by_cases c0 : x0 < 128
  · rw [dN1 _ _ _ _ _ c0, dN1 _ _ _ _ _ c0]
    exact ⟨rfl, by simp⟩
  by_cases c1 : x0 / 32 = 6 ∧ x1 / 64 = 2
  · rw [dN2 _ _ _ _ _ c0 c1 (by omega), dN2 _ _ _ _ _ c0 c1 (by omega)]
    split <;> exact ⟨rfl, by simp⟩
  · exfalso
    apply h
    rw [Lib.decodeN, if_neg c0, if_neg (by omega), if_neg (by omega), if_neg (by omega)]
theorem cut3 (n x0 x1 x2 : Nat) (hn : 3 < n) (h : Lib.decodeN n x0 x1 x2 47 ≠ (65533, 1)) : Lib.decodeN n x0 x1 x2 47 = Lib.decodeN 3 x0 x1 x2 0 ∧ (Lib.decodeN 3 x0 x1 x2 0).2 ≤ 3 := by
  by_cases c0 : x0 < 128
  · rw [dN1 _ _ _ _ _ c0, dN1 _ _ _ _ _ c0]
    exact ⟨rfl, by simp⟩
  by_cases c1 : x0 / 32 = 6 ∧ x1 / 64 = 2
  · rw [dN2 _ _ _ _ _ c0 c1 (by omega), dN2 _ _ _ _ _ c0 c1 (by omega)]
    split <;> exact ⟨rfl, by simp⟩
  by_cases c2 : x0 / 16 = 14 ∧ x1 / 64 = 2 ∧ x2 / 64 = 2
  · rw [dN3 _ _ _ _ _ c0 c2 (by omega), dN3 _ _ _ _ _ c0 c2 (by omega)]
    split <;> exact ⟨rfl, by simp⟩
  · exfalso
    apply h
    rw [Lib.decodeN, if_neg c0, if_neg (by omega), if_neg (by omega), if_neg (by omega)]
theorem cut4 (n m x0 x1 x2 x3 : Nat) (hn : 3 < n) (hm : 3 < m) : Lib.decodeN n x0 x1 x2 x3 = Lib.decodeN m x0 x1 x2 x3 ∧ (Lib.decodeN m x0 x1 x2 x3).2 ≤ 4 := by
  by_cases c0 : x0 < 128
  · rw [dN1 _ _ _ _ _ c0, dN1 _ _ _ _ _ c0]
    exact ⟨rfl, by simp⟩
  by_cases c1 : x0 / 32 = 6 ∧ x1 / 64 = 2
  · rw [dN2 _ _ _ _ _ c0 c1 (by omega), dN2 _ _ _ _ _ c0 c1 (by omega)]
    split <;> exact ⟨rfl, by simp⟩
  by_cases c2 : x0 / 16 = 14 ∧ x1 / 64 = 2 ∧ x2 / 64 = 2
  · rw [dN3 _ _ _ _ _ c0 c2 (by omega), dN3 _ _ _ _ _ c0 c2 (by omega)]
    split <;> exact ⟨rfl, by simp⟩
  have e : Lib.decodeN n x0 x1 x2 x3 = Lib.decodeN m x0 x1 x2 x3 := by
    unfold Lib.decodeN
    have q1 : (1 < n) = (1 < m) := by apply propext; omega
    have q2 : (2 < n) = (2 < m) := by apply propext; omega
    have q3 : (3 < n) = (3 < m) := by apply propext; omega
    simp only [q1, q2, q3]
  refine ⟨e, ?_⟩
  unfold Lib.decodeN
  repeat' split
  all_goals simp

theorem dl_cut (a b : List UInt8) (ha : a ≠ []) (h : forb (dl (a ++ 47 :: b)).1 = false) : dl (a ++ 47 :: b) = dl a ∧ (dl a).2 ≤ a.length := by
  have h' : dl (a ++ 47 :: b) ≠ (65533, 1) := fun e => by
    rw [e] at h
    revert h
    decide
  match a, ha with
  | [x0], _ => exact cut1 _ _ _ _ h'
  | [x0, x1], _ => exact cut2 _ _ _ _ (by simp) h'
  | [x0, x1, x2], _ => exact cut3 _ _ _ _ (by simp) h'
  | x0 :: x1 :: x2 :: x3 :: t, _ =>
    obtain ⟨e, k⟩ := cut4 ((x0 :: x1 :: x2 :: x3 :: t) ++ 47 :: b).length (x0 :: x1 :: x2 :: x3 :: t).length x0.toNat x1.toNat x2.toNat x3.toNat (by simp) (by simp)
    refine ⟨e, Nat.le_trans k ?_⟩
    simp

theorem okL_split : ∀ (f : Nat) (a b : List UInt8), (a ++ 47 :: b).length ≤ f → okL f (a ++ 47 :: b) = true → okL f a = true ∧ okL f (47 :: b) = true
  | 0, a, b, hl, _ => by simp at hl
  | f + 1, [], b, _, h => ⟨rfl, h⟩
  | f + 1, c :: a, b, hl, h => by
    rw [okL, show ((c :: a) ++ 47 :: b).isEmpty = false from rfl, if_neg (by simp), Bool.and_eq_true] at h
    obtain ⟨h1, h2⟩ := h
    have hp := dl_pos (c :: a)
    obtain ⟨e, k⟩ := dl_cut (c :: a) b (by simp) (by simpa using h1)
    rw [e, List.drop_append_of_le_length k] at h2
    have hl2 : ((c :: a).drop (dl (c :: a)).2 ++ 47 :: b).length ≤ f := by
      rw [List.length_append] at hl ⊢
      rw [List.length_drop]
      omega
    obtain ⟨i1, i2⟩ := okL_split f _ b hl2 h2
    refine ⟨?_, ?_⟩
    · rw [okL, show (c :: a).isEmpty = false from rfl, if_neg (by simp), i1, Bool.and_true, ← e]
      exact h1
    · rw [okL_fuel (f + 1) f (47 :: b) (by rw [List.length_append] at hl; omega) (by rw [List.length_append] at hl2; omega)]
      exact i2

/-! ### validPath, on lists -/
def vpl (l : List UInt8) : Bool := Lib.hasPrefix l [47] && (goodSegs (sp 47 (l.drop 1)) && okL l.length l)
theorem vp_vpl (s : ByteArray) : vp s = vpl s.data.toList := by
  rw [vp, vpl, okF_okL]
  rfl

theorem sp_append (c : UInt8) : ∀ a b : List UInt8, sp c (a ++ c :: b) = sp c a ++ sp c b
  | [], b => by
    rw [List.nil_append]
    show (if c = c then [] :: sp c b else _) = _
    rw [if_pos rfl]
    rfl
  | x :: a, b => by
    have ih := sp_append c a b
    rw [List.cons_append, sp, sp, ih]
    by_cases hx : x = c
    · rw [if_pos hx, if_pos hx]
      rfl
    · rw [if_neg hx, if_neg hx]
      cases e : sp c a with
      | nil => exact absurd e (sp_ne _ _)
      | cons h t => rfl
theorem goodSegs_append (xs ys : List (List UInt8)) : goodSegs (xs ++ ys) = (goodSegs xs && goodSegs ys) := by
  unfold goodSegs
  rw [List.all_append]

/-- THE PLAIN LAW: a valid path, cut at a slash. -/
theorem vp_split (a b : List UInt8) (h : vpl (a ++ 47 :: b) = true) : b ≠ [] ∧ vpl (47 :: b) = true ∧ (a ≠ [] → vpl a = true) := by
  have hne : goodSegs (sp 47 b) = true → b ≠ [] := fun hg e => by
    subst e
    revert hg
    decide
  rw [vpl, Bool.and_eq_true, Bool.and_eq_true] at h
  obtain ⟨h1, h2, h3⟩ := h
  obtain ⟨k1, k2⟩ := okL_split _ a b (Nat.le_refl _) h3
  have k2' : okL (47 :: b).length (47 :: b) = true := by
    rw [okL_fuel _ (a ++ 47 :: b).length (47 :: b) (Nat.le_refl _) (by rw [List.length_append]; omega)]
    exact k2
  have k1' : okL a.length a = true := by
    rw [okL_fuel _ (a ++ 47 :: b).length a (Nat.le_refl _) (by rw [List.length_append]; omega)]
    exact k1
  have hb : goodSegs (sp 47 b) = true → vpl (47 :: b) = true := fun hg => by
    rw [vpl, k2', show (47 :: b).drop 1 = b from rfl, hg]
    rfl
  cases a with
  | nil =>
    have hg : goodSegs (sp 47 b) = true := h2
    exact ⟨hne hg, hb hg, fun e => absurd rfl e⟩
  | cons c a =>
    have hd : ((c :: a) ++ 47 :: b).drop 1 = a ++ 47 :: b := rfl
    rw [hd, sp_append, goodSegs_append, Bool.and_eq_true] at h2
    refine ⟨hne h2.2, hb h2.2, fun _ => ?_⟩
    have hp : Lib.hasPrefix (c :: a) [47] = true := h1
    rw [vpl, k1', hp, show (c :: a).drop 1 = a from rfl, h2.1]
    rfl
end Go.Proofs.Qxb6603309aDoor
