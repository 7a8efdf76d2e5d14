import Derived.Test.Qxb6602851aDoorPlain
namespace Go.Proofs.Qxb6602851aDoor
open Go

/-- The piece of l from a up to b. -/
def cut (l : List UInt8) (a b : Nat) : List UInt8 := (l.take b).drop a

theorem cut_len (l : List UInt8) (a b : Nat) (hb : b ≤ l.length) : (cut l a b).length = b - a := by
  unfold cut
  rw [List.length_drop, List.length_take]
  omega
theorem cut_nil (l : List UInt8) (a b : Nat) (h : b ≤ a) : cut l a b = [] := by
  unfold cut
  apply List.drop_eq_nil_of_le
  rw [List.length_take]
  omega
theorem cut_cons (l : List UInt8) (a b : Nat) (h : a < b) (hb : b ≤ l.length) : cut l a b = l[a] :: cut l (a + 1) b := by
  unfold cut
  rw [List.drop_eq_getElem_cons (by rw [List.length_take]; omega), List.getElem_take]
theorem cut_snoc (l : List UInt8) (a b : Nat) (h : a < b) (hb : b ≤ l.length) : cut l a b = cut l a (b - 1) ++ [l[b - 1]] := by
  obtain ⟨c, rfl⟩ : ∃ c, b = c + 1 := ⟨b - 1, by omega⟩
  simp only [Nat.add_sub_cancel]
  unfold cut
  rw [List.take_succ_eq_append_getElem (by omega), List.drop_append_of_le_length (by rw [List.length_take]; omega)]

/-! ### lines -/
def onTop (p : List UInt8) : List (List UInt8) → List (List UInt8)
  | [] => [p]
  | h :: t => (p ++ h) :: t

theorem line_start (l : List UInt8) (i : Nat) : sp 10 (l.drop i) = onTop (cut l i i) (sp 10 (l.drop i)) := by
  rw [cut_nil l i i (Nat.le_refl _)]
  cases e : sp 10 (l.drop i) with
  | nil => exact absurd e (sp_ne _ _)
  | cons h t => rfl
theorem line_next (l : List UInt8) (i j : Nat) (hij : i ≤ j) (hj : j < l.length) (hc : l[j] ≠ 10) (h : sp 10 (l.drop i) = onTop (cut l i j) (sp 10 (l.drop j))) :
    sp 10 (l.drop i) = onTop (cut l i (j + 1)) (sp 10 (l.drop (j + 1))) := by
  rw [h, List.drop_eq_getElem_cons hj, sp, if_neg hc]
  have e1 := cut_snoc l i (j + 1) (by omega) (by omega)
  simp only [Nat.add_sub_cancel] at e1
  rw [e1]
  cases e : sp 10 (l.drop (j + 1)) with
  | nil => exact absurd e (sp_ne _ _)
  | cons a t => simp [onTop]
theorem line_nl (l : List UInt8) (i j : Nat) (hj : j < l.length) (hc : l[j] = 10) (h : sp 10 (l.drop i) = onTop (cut l i j) (sp 10 (l.drop j))) : sp 10 (l.drop i) = cut l i j :: sp 10 (l.drop (j + 1)) := by
  rw [h, List.drop_eq_getElem_cons hj, sp, if_pos hc]
  simp [onTop]
theorem line_end (l : List UInt8) (i : Nat) (h : sp 10 (l.drop i) = onTop (cut l i l.length) (sp 10 (l.drop l.length))) : sp 10 (l.drop i) = [cut l i l.length] := by
  rw [h, List.drop_length]
  simp [onTop, sp]

/-! ### trimming, by places -/
theorem left_skip (cs x : List UInt8) (c : UInt8) (h : cs.contains c = true) : Lib.trimLeftS (c :: x) cs = Lib.trimLeftS x cs := by
  show List.dropWhile _ (c :: x) = _
  rw [List.dropWhile_cons, if_pos h]
  rfl
theorem left_stop (cs x : List UInt8) (c : UInt8) (h : cs.contains c = false) : Lib.trimLeftS (c :: x) cs = c :: x := by
  show List.dropWhile _ (c :: x) = _
  rw [List.dropWhile_cons, h]
  rfl
theorem right_skip (cs x : List UInt8) (c : UInt8) (h : cs.contains c = true) : Lib.trimRightS (x ++ [c]) cs = Lib.trimRightS x cs := by
  unfold Lib.trimRightS
  rw [List.reverse_append, List.reverse_singleton, List.singleton_append, List.dropWhile_cons, if_pos h]
theorem right_stop (cs x : List UInt8) (c : UInt8) (h : cs.contains c = false) : Lib.trimRightS (x ++ [c]) cs = x ++ [c] := by
  unfold Lib.trimRightS
  rw [List.reverse_append, List.reverse_singleton, List.singleton_append, List.dropWhile_cons, h]
  simp

theorem star_nil : star [] = [] := rfl
theorem star_none (c : UInt8) (x : List UInt8) (h : c ≠ 42) : star (c :: x) = c :: x := by
  have : Lib.hasPrefix (c :: x) [42] = false := by simp [Lib.hasPrefix, List.isPrefixOf, Ne.symm h]
  rw [star, this]
  rfl
theorem star_one : star [42] = [] := by decide
theorem star_blank (x : List UInt8) : star (42 :: 32 :: x) = x := by
  simp [star, Lib.hasPrefix, Lib.trimPrefix, List.isPrefixOf]
theorem star_other (c : UInt8) (x : List UInt8) (h : c ≠ 32) : star (42 :: c :: x) = c :: x := by
  simp [star, Lib.hasPrefix, Lib.trimPrefix, List.isPrefixOf, Ne.symm h]

/-! ### the stream -/
def str : Bool → Nat → List (List UInt8) → List UInt8
  | _, _, [] => []
  | st, gap, x :: r => if x.isEmpty then str st (gap + 1) r else (if st then List.replicate gap 10 else []) ++ x ++ str true 1 r

/-- What the stream writes from place i on. -/
def restAt (l : List UInt8) (i : Nat) : List (List UInt8) := if i ≤ l.length then (sp 10 (l.drop i)).map docLine else []

theorem lead_str : ∀ (xs : List (List UInt8)) (g : Nat), str false g xs = str false 0 (lead xs)
  | [], _ => rfl
  | x :: r, g => by
    cases hx : x.isEmpty
    · rw [lead_full x r hx, str, str, hx]
      rfl
    · rw [lead_empty x r hx, str, hx, if_pos rfl]
      exact lead_str r (g + 1)

theorem str_allEmpty : ∀ (xs : List (List UInt8)) (st : Bool) (g : Nat), (∀ x ∈ xs, x.isEmpty = true) → str st g xs = []
  | [], _, _, _ => rfl
  | x :: r, st, g, h => by
    rw [str, h x (List.mem_cons_self ..), if_pos rfl]
    exact str_allEmpty r st (g + 1) (fun y hy => h y (List.mem_cons_of_mem _ hy))
theorem str_tail : ∀ (xs ys : List (List UInt8)) (st : Bool) (g : Nat), (∀ y ∈ ys, y.isEmpty = true) → str st g (xs ++ ys) = str st g xs
  | [], ys, st, g, h => by
    rw [List.nil_append, str_allEmpty ys st g h]
    rfl
  | x :: r, ys, st, g, h => by
    rw [List.cons_append, str, str, str_tail r ys st (g + 1) h, str_tail r ys true 1 h]
theorem trail_split (xs : List (List UInt8)) : ∃ ys, xs = trail xs ++ ys ∧ ∀ y ∈ ys, y.isEmpty = true := by
  refine ⟨((xs.reverse.takeWhile (·.isEmpty))).reverse, ?_, ?_⟩
  · unfold trail lead
    rw [← List.reverse_append, List.takeWhile_append_dropWhile, List.reverse_reverse]
  · intro y hy
    rw [List.mem_reverse] at hy
    have := List.all_takeWhile (p := fun (x : List UInt8) => x.isEmpty) (l := xs.reverse)
    exact List.all_eq_true.1 this y hy
theorem str_trail (xs : List (List UInt8)) (st : Bool) (g : Nat) : str st g xs = str st g (trail xs) := by
  obtain ⟨ys, e, h⟩ := trail_split xs
  have h2 := str_tail (trail xs) ys st g h
  rw [← e] at h2
  exact h2

/-- Lines whose last is not empty: the separators written ahead of each are the gaps. -/
theorem str_join : ∀ (xs : List (List UInt8)) (g : Nat), xs ≠ [] → (∀ h : xs ≠ [], (xs.getLast h).isEmpty = false) → str true (g + 1) xs = List.replicate (g + 1) 10 ++ Lib.join xs [10]
  | [x], g, _, hl => by
    have hx : x.isEmpty = false := hl (by simp)
    rw [str, hx, Lib.join_one]
    simp [str]
  | x :: y :: r, g, _, hl => by
    have hl2 : ∀ h : (y :: r) ≠ [], ((y :: r).getLast h).isEmpty = false := fun h => by
      have := hl (by simp)
      rwa [List.getLast_cons h] at this
    have ej : Lib.join (x :: y :: r) [10] = x ++ 10 :: Lib.join (y :: r) [10] := by simp [Lib.join, List.intercalate]
    rw [str]
    cases hx : x.isEmpty
    · have ih := str_join (y :: r) 0 (by simp) hl2
      rw [if_neg (by simp), ih, ej]
      simp
    · have ih := str_join (y :: r) (g + 1) (by simp) hl2
      have ex : x = [] := by simpa using hx
      rw [if_pos rfl, ih, ej, ex, List.nil_append, List.replicate_succ' (n := g + 1)]
      simp

theorem str_join0 (xs : List (List UInt8)) (hf : ∀ x r, xs = x :: r → x.isEmpty = false) (hl : ∀ h : xs ≠ [], (xs.getLast h).isEmpty = false) : str false 0 xs = Lib.join xs [10] := by
  cases xs with
  | nil => rfl
  | cons x r =>
    have hx := hf x r rfl
    rw [str, hx]
    cases r with
    | nil => simp [str, Lib.join, List.intercalate]
    | cons y t =>
      have hl2 : ∀ h : (y :: t) ≠ [], ((y :: t).getLast h).isEmpty = false := fun h => by
        have := hl (by simp)
        rwa [List.getLast_cons h] at this
      have ej : Lib.join (x :: y :: t) [10] = x ++ 10 :: Lib.join (y :: t) [10] := by simp [Lib.join, List.intercalate]
      rw [str_join (y :: t) 0 (by simp) hl2, ej]
      simp

theorem lead_head : ∀ (xs : List (List UInt8)) x r, lead xs = x :: r → x.isEmpty = false
  | [], x, r, h => by cases h
  | a :: t, x, r, h => by
    cases ha : a.isEmpty
    · rw [lead_full a t ha] at h
      cases h
      exact ha
    · rw [lead_empty a t ha] at h
      exact lead_head t x r h
theorem trail_last (xs : List (List UInt8)) (h : trail xs ≠ []) : ((trail xs).getLast h).isEmpty = false := by
  unfold trail at h ⊢
  rw [List.getLast_reverse]
  exact lead_head xs.reverse _ _ (List.cons_head_tail (by simpa using h)).symm
theorem trail_head (xs : List (List UInt8)) (hf : ∀ x r, xs = x :: r → x.isEmpty = false) : ∀ x r, trail xs = x :: r → x.isEmpty = false := by
  intro x r h
  obtain ⟨ys, e, _⟩ := trail_split xs
  rw [h, List.cons_append] at e
  exact hf x _ e

/-- THE PLAIN LAW: DocText is the stream. -/
theorem doc_stream (l : List UInt8) : doc l = str false 0 (restAt l 0) := by
  have e : restAt l 0 = (sp 10 l).map docLine := by simp [restAt]
  rw [e, lead_str, str_trail]
  unfold doc
  rw [str_join0 _ (trail_head _ (lead_head _)) (trail_last _)]

end Go.Proofs.Qxb6602851aDoor
