import Derived.Test.Qxb6602005aDoorLaw
namespace Go.Proofs.Qxb6602005aDoor
open Go

theorem trimL_cons (c : UInt8) (r : List UInt8) : trimL (c :: r) = if c == 48 then trimL r else c :: r := by
  show List.dropWhile _ (c :: r) = _
  rw [List.dropWhile_cons]
  have e : ([48] : List UInt8).contains c = (c == 48) := by
    simp [List.contains, List.elem]
    cases c == 48 <;> rfl
  rw [e]
  rfl
theorem trimL_lz : ∀ l : List UInt8, trimL l = l.drop (lz l)
  | [] => rfl
  | c :: r => by
    rw [trimL_cons, lz_cons]
    cases c == 48
    · rfl
    · simpa using trimL_lz r
theorem trimR_tz (l : List UInt8) : trimR l = l.take (l.length - tz l) := by
  show (trimL l.reverse).reverse = _
  rw [trimL_lz, List.drop_reverse, List.reverse_reverse]
  rfl
theorem lz_append : ∀ a b : List UInt8, lz (a ++ b) = if lz a = a.length then a.length + lz b else lz a
  | [], b => by simp [lz_nil]
  | c :: r, b => by
    rw [List.cons_append, lz_cons, lz_cons, lz_append r b]
    cases c == 48
    · simp
    · simp only [if_true, List.length_cons]
      split
      · rename_i h
        rw [if_pos (by omega)]
        omega
      · rename_i h
        rw [if_neg (by omega)]
theorem lz_take : ∀ (l : List UInt8) (k : Nat), lz l < k → lz l < l.length → lz (l.take k) = lz l
  | [], k, _, h2 => by simp at h2
  | c :: r, 0, h, _ => by omega
  | c :: r, k + 1, h, h2 => by
    rw [List.take_succ_cons, lz_cons, lz_cons]
    rw [lz_cons] at h h2
    cases hc : c == 48
    · rfl
    · rw [hc] at h h2
      simp only [if_true, List.length_cons] at h h2
      rw [if_pos rfl, if_pos rfl, lz_take r k (by omega) (by omega)]
theorem lz_split : ∀ l : List UInt8, lz l < l.length → ∃ x r, l.drop (lz l) = x :: r ∧ (x == 48) = false
  | [], h => by simp at h
  | c :: r, h => by
    rw [lz_cons] at h ⊢
    cases hc : c == 48
    · exact ⟨c, r, rfl, hc⟩
    · rw [hc] at h
      simp only [if_true, List.length_cons] at h
      obtain ⟨x, r', e, hx⟩ := lz_split r (by omega)
      exact ⟨x, r', by simpa using e, hx⟩
theorem lz_tz (l : List UInt8) (h : lz l < l.length) : lz l + tz l < l.length := by
  obtain ⟨x, r, e, hx⟩ := lz_split l h
  have hl : l.length = lz l + (r.length + 1) := by
    have := congrArg List.length e
    simp at this
    omega
  have e2 : l.reverse = r.reverse ++ x :: (l.take (lz l)).reverse := by
    have : l = l.take (lz l) ++ (x :: r) := by rw [← e, List.take_append_drop]
    have h3 := congrArg List.reverse this
    rw [h3]
    simp
  have h4 : tz l ≤ r.length := by
    unfold tz
    rw [e2, lz_append]
    split
    · rw [lz_cons, hx]
      simp
    · have := lz_le r.reverse
      simpa using this
  omega

theorem finish_zero (ng : Bool) (i f : List UInt8) (w : Int) (h : lz (i ++ f) = (i ++ f).length) : finish ng i f w = ⟨false, [], [], 0, true⟩ := by
  rw [lz_append, List.length_append] at h
  have hi := lz_le i
  have hf := lz_le f
  split at h
  · rename_i h1
    unfold finish
    have e1 : trimL i = [] := by rw [trimL_lz, h1]; simp
    have e2 : trimR f = [] := by
      rw [trimR_tz]
      have : tz f = f.length := by
        have h5 : lz f = f.length := by omega
        have h6 : ∀ l : List UInt8, lz l = l.length → lz l.reverse = l.length := by
          intro l
          induction l with
          | nil => intro _; rfl
          | cons c r ih =>
            intro h7
            rw [lz_cons] at h7
            have := lz_le r
            cases hc : c == 48
            · rw [hc] at h7; simp at h7
            · rw [hc] at h7
              simp only [if_true, List.length_cons] at h7
              rw [List.reverse_cons, lz_append, ih (by omega), List.length_reverse, if_pos rfl, lz_cons, hc]
              simp [lz_nil]
        exact h6 f h5
      rw [this]
      simp
    rw [e1, e2]
    rfl
  · omega

theorem finish_some (ng : Bool) (i f : List UInt8) (w : Int) (h : lz (i ++ f) < (i ++ f).length) :
    ∃ d0 d1, finish ng i f w = ⟨ng, d0, d1, w + i.length - lz (i ++ f), true⟩ ∧ d0 ++ d1 = ((i ++ f).take ((i ++ f).length - tz f)).drop (lz (i ++ f)) ∧
      (lz i < i.length → d0.length = i.length - lz i) ∧ (¬ lz i < i.length → d1.length = 0) ∧ d0.length + d1.length ≤ i.length + f.length := by
  have hi := lz_le i
  have hf := lz_le f
  have htf := tz_le f
  by_cases h1 : lz i = i.length
  · have e0 : lz (i ++ f) = i.length + lz f := by rw [lz_append, if_pos h1]
    have h2 : lz f < f.length := by
      rw [e0, List.length_append] at h
      omega
    have h3 := lz_tz f h2
    have e1 : trimL i = [] := by rw [trimL_lz, h1]; simp
    have e2 : lz (trimR f) = lz f := by
      rw [trimR_tz]
      exact lz_take f _ (by omega) h2
    have e3 : (trimR f).length = f.length - tz f := by
      rw [trimR_tz, List.length_take]
      omega
    have e4 : (trimL (trimR f)).length = f.length - tz f - lz f := by rw [trimL_lz, List.length_drop, e2, e3]
    refine ⟨trimL (trimR f), [], ?_, ?_, fun h4 => by omega, fun _ => rfl, ?_⟩
    · unfold finish
      rw [e1, if_neg (by simp), if_neg (by omega), e0, e3, e4]
      congr 1
      omega
    · have e5 : i.take (i.length + f.length - tz f) = i := List.take_of_length_le (by omega)
      rw [List.append_nil, trimL_lz, e2, e0, List.length_append, List.take_append, ← List.drop_drop, trimR_tz, e5, List.drop_left, show i.length + f.length - tz f - i.length = f.length - tz f by omega]
    · rw [e4]
      simp
      omega
  · have h2 : lz i < i.length := by omega
    have e0 : lz (i ++ f) = lz i := by rw [lz_append, if_neg h1]
    have e1 : (trimL i).length = i.length - lz i := by rw [trimL_lz, List.length_drop]
    have e3 : (trimR f).length = f.length - tz f := by
      rw [trimR_tz, List.length_take]
      omega
    refine ⟨trimL i, trimR f, ?_, ?_, fun _ => e1, fun h4 => absurd h2 h4, by omega⟩
    · unfold finish
      rw [if_pos (by omega), e0, e1]
      congr 1
      omega
    · rw [e0, List.length_append, List.take_append, List.take_of_length_le (by omega), show i.length + f.length - tz f - i.length = f.length - tz f by omega, List.drop_append_of_le_length (by omega), ← trimL_lz, ← trimR_tz]

/-! ### the parts are no longer than the text -/
theorem partsF_len (i f : List UInt8) : ∀ l i' f' w, partsF i f l = some (i', f', w) → i' = i ∧ f' = f ∧ i.length ≠ 0
  | [], i', f', w, h => by
    rw [partsF, partsW] at h
    split at h
    · cases h
    · rename_i hn
      cases h
      exact ⟨rfl, rfl, hn⟩
  | c :: r, i', f', w, h => by
    rw [partsF] at h
    split at h
    · cases hp : pe r with
      | none => rw [hp] at h; cases h
      | some v =>
        rw [hp, partsE, partsW] at h
        split at h
        · cases h
        · rename_i hn
          cases h
          exact ⟨rfl, rfl, hn⟩
    · cases h
theorem partsI_len (i : List UInt8) : ∀ l i' f' w, partsI i l = some (i', f', w) → i' = i ∧ f'.length ≤ l.length ∧ i.length ≠ 0
  | [], i', f', w, h => by
    obtain ⟨h1, h2, h3⟩ := partsF_len i [] [] i' f' w h
    exact ⟨h1, by rw [h2]; exact Nat.le_refl _, h3⟩
  | c :: r, i', f', w, h => by
    rw [partsI] at h
    split at h
    · split at h
      · cases h
      · obtain ⟨h1, h2, h3⟩ := partsF_len i _ _ i' f' w h
        exact ⟨h1, by rw [h2]; simp; omega, h3⟩
    · obtain ⟨h1, h2, h3⟩ := partsF_len i _ _ i' f' w h
      exact ⟨h1, by rw [h2]; simp, h3⟩
theorem parts_len (s i f : List UInt8) (w : Int) (h : parts s = some (i, f, w)) : i.length + f.length ≤ s.length ∧ i.length ≠ 0 := by
  unfold parts partsU at h
  obtain ⟨h1, h2, h3⟩ := partsI_len _ _ i f w h
  have hb : (body s).length ≤ s.length := by
    cases s with
    | nil => exact Nat.le_refl _
    | cons c r =>
      rw [body]
      split <;> simp
  have hr := runD_le (body s)
  have h4 : i.length = runD (body s) := by
    rw [h1, List.length_take]
    omega
  rw [List.length_drop] at h2
  refine ⟨by omega, ?_⟩
  rw [h1]
  exact h3

end Go.Proofs.Qxb6602005aDoor
