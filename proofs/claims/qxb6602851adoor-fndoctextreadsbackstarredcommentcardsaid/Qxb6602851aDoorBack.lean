import Derived.Test.Qxb6602851aDoorCut
namespace Go.Proofs.Qxb6602851aDoor
open Go

/-- A line that DocText leaves as it is, and that it reads back out of its starred form. -/
def Good (p : List UInt8) : Prop := docLine p = p ∧ docLine (32 :: 42 :: 32 :: p) = p
def CleanP (l : List UInt8) : Prop := l = [] ∨ ((∀ h : l ≠ [], l.head h ≠ 10) ∧ (∀ h : l ≠ [], l.getLast h ≠ 10) ∧ ∀ p ∈ sp 10 l, Good p)
/-- The lines from place i on. -/
def linesAt (l : List UInt8) (i : Nat) : List (List UInt8) := if i ≤ l.length then sp 10 (l.drop i) else []

theorem good_nil : Good [] := by
  constructor <;> decide
theorem good_of (x y : List UInt8) (c d : UInt8) (e : c :: x = y ++ [d]) (h1 : ([32, 9] : List UInt8).contains c = false) (h2 : c ≠ 42) (h3 : ([32, 9, 13] : List UInt8).contains d = false) : Good (c :: x) := by
  constructor
  · unfold docLine
    rw [left_stop _ _ _ h1, star_none _ _ h2, e, right_stop _ _ _ h3]
  · unfold docLine
    rw [left_skip _ _ _ (by decide), left_stop _ _ _ (by decide), star_blank, e, right_stop _ _ _ h3]

theorem join_sp : ∀ l : List UInt8, Lib.join (sp 10 l) [10] = l
  | [] => by decide
  | b :: l => by
    have ih := join_sp l
    have hne := sp_ne 10 l
    rw [sp]
    cases e : sp 10 l with
    | nil => exact absurd e hne
    | cons h t =>
      rw [e] at ih
      by_cases hb : b = 10
      · rw [if_pos hb]
        have ej : Lib.join ([] :: h :: t) [10] = 10 :: Lib.join (h :: t) [10] := by simp [Lib.join, List.intercalate]
        rw [ej, ih, hb]
      · rw [if_neg hb]
        cases t with
        | nil =>
          simp [Lib.join, List.intercalate] at ih ⊢
          exact ih
        | cons y r =>
          have ej : ∀ x, Lib.join (x :: y :: r) [10] = x ++ 10 :: Lib.join (y :: r) [10] := by intro x; simp [Lib.join, List.intercalate]
          rw [ej] at ih
          simp only []
          rw [ej, List.cons_append, ih]

theorem sp_first (c : UInt8) (l : List UInt8) (hc : c ≠ 10) : ∀ x r, sp 10 (c :: l) = x :: r → x.isEmpty = false := by
  intro x r h
  rw [sp, if_neg hc] at h
  cases e : sp 10 l with
  | nil => exact absurd e (sp_ne _ _)
  | cons a t =>
    rw [e] at h
    simp only [List.cons.injEq] at h
    rw [← h.1]
    rfl
theorem sp_last : ∀ (l : List UInt8) (hl : l ≠ []), l.getLast hl ≠ 10 → ∀ h : sp 10 l ≠ [], ((sp 10 l).getLast h).isEmpty = false
  | [b], _, hb, h => by
    have hb' : b ≠ 10 := hb
    have e : sp 10 [b] = [[b]] := by rw [sp, if_neg hb']; rfl
    simp only [e]
    rfl
  | b :: c :: t, _, hb, h => by
    have hb' : (c :: t).getLast (by simp) ≠ 10 := by
      rw [List.getLast_cons (by simp)] at hb
      exact hb
    have ih := sp_last (c :: t) (by simp) hb' (sp_ne _ _)
    cases e : sp 10 (c :: t) with
    | nil => exact absurd e (sp_ne _ _)
    | cons a r =>
      simp only [e] at ih
      by_cases h10 : b = 10
      · have es : sp 10 (b :: c :: t) = [] :: a :: r := by rw [sp, if_pos h10, e]
        simp only [es]
        rw [List.getLast_cons (by simp)]
        exact ih
      · have es : sp 10 (b :: c :: t) = (b :: a) :: r := by rw [sp, if_neg h10, e]
        simp only [es]
        cases r with
        | nil => rfl
        | cons y r2 =>
          rw [List.getLast_cons (by simp)]
          rw [List.getLast_cons (by simp)] at ih
          exact ih

theorem map_good (xs : List (List UInt8)) (h : ∀ p ∈ xs, Good p) : xs.map docLine = xs := by
  conv => rhs; rw [← List.map_id xs]
  exact List.map_congr_left (fun p hp => (h p hp).1)
theorem map_starred (xs : List (List UInt8)) (h : ∀ p ∈ xs, Good p) : (xs.map (fun p => 32 :: 42 :: 32 :: p)).map docLine = xs := by
  rw [List.map_map]
  conv => rhs; rw [← List.map_id xs]
  exact List.map_congr_left (fun p hp => (h p hp).2)

/-- THE PLAIN LAW, first half: a clean text is left as it is. -/
theorem doc_clean (l : List UInt8) (h : CleanP l) : doc l = l := by
  rcases h with rfl | ⟨h1, h2, h3⟩
  · decide
  · cases l with
    | nil => decide
    | cons c t =>
      rw [doc_stream]
      have e : restAt (c :: t) 0 = (sp 10 (c :: t)).map docLine := by simp [restAt]
      rw [e, map_good _ h3, str_join0 _ (sp_first c t (h1 (by simp))) (sp_last _ (by simp) (h2 (by simp))), join_sp]

/-- Each newline with a star behind it. -/
def flat : List UInt8 → List UInt8
  | [] => []
  | c :: l => if c = 10 then 10 :: 32 :: 42 :: 32 :: flat l else c :: flat l
def starred (l : List UInt8) : List UInt8 := [10, 32, 42, 32] ++ flat l ++ [10, 32]

theorem flat_append : ∀ a b : List UInt8, flat (a ++ b) = flat a ++ flat b
  | [], _ => rfl
  | c :: a, b => by
    rw [List.cons_append, flat, flat, flat_append a b]
    split <;> rfl
theorem flat_len : ∀ l : List UInt8, (flat l).length ≤ 4 * l.length
  | [] => Nat.le_refl _
  | c :: l => by
    have := flat_len l
    rw [flat]
    split <;> simp only [List.length_cons] <;> omega

theorem sp_flat : ∀ (l : List UInt8) h r, sp 10 l = h :: r → sp 10 (flat l ++ [10, 32]) = h :: (r.map (fun p => 32 :: 42 :: 32 :: p) ++ [[32]])
  | [], h, r, e => by
    simp only [sp, List.cons.injEq] at e
    obtain ⟨rfl, rfl⟩ := e
    decide
  | c :: l, h, r, e => by
    cases es : sp 10 l with
    | nil => exact absurd es (sp_ne _ _)
    | cons a t =>
      have ih := sp_flat l a t es
      rw [sp, es] at e
      by_cases hc : c = 10
      · rw [if_pos hc] at e
        simp only [List.cons.injEq] at e
        obtain ⟨rfl, rfl⟩ := e
        rw [flat, if_pos hc]
        simp only [List.cons_append]
        rw [sp, if_pos rfl, sp, if_neg (by decide), sp, if_neg (by decide), sp, if_neg (by decide), ih]
        simp
      · rw [if_neg hc] at e
        simp only [List.cons.injEq] at e
        obtain ⟨rfl, rfl⟩ := e
        rw [flat, if_neg hc, List.cons_append, sp, if_neg hc, ih]

theorem sp_starred (l : List UInt8) : sp 10 (starred l) = [] :: ((sp 10 l).map (fun p => 32 :: 42 :: 32 :: p) ++ [[32]]) := by
  cases es : sp 10 l with
  | nil => exact absurd es (sp_ne _ _)
  | cons a t =>
    have ih := sp_flat l a t es
    unfold starred
    simp only [List.cons_append, List.nil_append]
    rw [sp, if_pos rfl, sp, if_neg (by decide), sp, if_neg (by decide), sp, if_neg (by decide), ih]
    simp

/-- THE PLAIN LAW, second half. -/
theorem doc_starred (l : List UInt8) (h : CleanP l) : doc (starred l) = l := by
  rcases h with rfl | ⟨h1, h2, h3⟩
  · decide
  · have hd := doc_clean l (.inr ⟨h1, h2, h3⟩)
    rw [doc_stream] at hd ⊢
    have e : restAt l 0 = (sp 10 l).map docLine := by simp [restAt]
    have e2 : restAt (starred l) 0 = (sp 10 (starred l)).map docLine := by simp [restAt]
    rw [e, map_good _ h3] at hd
    rw [e2, sp_starred, List.map_cons, List.map_append, map_starred _ h3, show docLine [] = [] by decide, str, if_pos (by rfl), show List.map docLine [[32]] = [[]] by decide, str_tail _ _ _ _ (by simp)]
    rw [lead_str, ← lead_str _ 0]
    exact hd

/-! ### the lines, for the walk of docClean -/
theorem linesAt_zero (l : List UInt8) : linesAt l 0 = sp 10 l := by simp [linesAt]
theorem linesAt_past (l : List UInt8) (i : Nat) (h : l.length < i) : linesAt l i = [] := by
  rw [linesAt, if_neg (by omega)]

end Go.Proofs.Qxb6602851aDoor
