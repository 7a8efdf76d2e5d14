import Derived.Lib.SplitLaws
import Derived.Lib.SlTrimSet
import Derived.Lib.Join
import Derived.Lib.Strings
namespace Go.Proofs.Qxb6602851aDoor
open Go

/-- A list cut at each c. -/
def sp (c : UInt8) : List UInt8 → List (List UInt8)
  | [] => [[]]
  | b :: l => if b = c then [] :: sp c l else
    match sp c l with
    | [] => [[b]]
    | h :: t => (b :: h) :: t

def onHead (b : UInt8) : List (List UInt8) → List (List UInt8)
  | [] => [[b]]
  | h :: t => (b :: h) :: t

theorem splitK_cons_ne (b c : UInt8) (h : b ≠ c) (l : List UInt8) : ∀ k, Lib.splitK [c] 0 k (b :: l) = onHead b (Lib.splitK [c] 0 k l)
  | 0 => rfl
  | k + 1 => by
    have hp : ([c] : List UInt8).isPrefixOf (b :: l) = false := by simp [List.isPrefixOf, Ne.symm h]
    have hix : Lib.index (b :: l) [c] = if Lib.index l [c] == -1 then -1 else Lib.index l [c] + 1 := by rw [Lib.index, hp]; simp
    have hge := Lib.index_ge l [c]
    unfold Lib.splitK
    by_cases hm : Lib.index l [c] = -1
    · rw [hix, hm]
      simp [onHead]
    · obtain ⟨j, hj⟩ : ∃ j : Nat, Lib.index l [c] = j := ⟨(Lib.index l [c]).toNat, by omega⟩
      have e1 : ((j : Int) == -1) = false := by rw [beq_eq_false_iff_ne]; omega
      have e2 : ((j : Int) + 1 == -1) = false := by rw [beq_eq_false_iff_ne]; omega
      have e3 : ((j : Int) + 1).toNat = j + 1 := by omega
      rw [hix, hj, e1]
      simp only [Bool.false_eq_true, if_false, e2, e3]
      simp [onHead]

theorem split_sp (c : UInt8) : ∀ l : List UInt8, Lib.splitK [c] 0 (Lib.count l [c]) l = sp c l
  | [] => by rw [Lib.count_one]; rfl
  | b :: l => by
    by_cases h : b = c
    · subst h
      have hix : Lib.index (b :: l) [b] = 0 := by rw [Lib.index]; simp [List.isPrefixOf]
      rw [Lib.count_cons_eq, Nat.add_comm, Lib.splitK, hix, sp, if_pos rfl]
      simp [split_sp b l]
    · rw [Lib.count_cons_ne b c l h, splitK_cons_ne b c h, split_sp c l, sp, if_neg h]
      cases sp c l <;> rfl

theorem sp_ne (c : UInt8) (l : List UInt8) : sp c l ≠ [] := by
  cases l with
  | nil => simp [sp]
  | cons b l =>
    rw [sp]
    split
    · simp
    · split <;> simp

/-- The pieces, as the walk meets them. -/
theorem pieces (s : ByteArray) (c : UInt8) : (Lib.splitB ⟨#[c]⟩ 0 (Lib.countB s ⟨#[c]⟩) s).map (·.data.toList) = sp c s.data.toList := by
  rw [Lib.splitB_data]
  exact split_sp c s.data.toList


/-! ### a line, and the text -/
def star (x : List UInt8) : List UInt8 := if Lib.hasPrefix x [42] then Lib.trimPrefix (Lib.trimPrefix x [42]) [32] else x
def docLine (x : List UInt8) : List UInt8 := Lib.trimRightS (star (Lib.trimLeftS x [32, 9])) [32, 9, 13]
def lead (xs : List (List UInt8)) : List (List UInt8) := xs.dropWhile (·.isEmpty)
def trail (xs : List (List UInt8)) : List (List UInt8) := (lead xs.reverse).reverse
/-- DocText. -/
def doc (l : List UInt8) : List UInt8 := Lib.join (trail (lead ((sp 10 l).map docLine))) [10]

def tot (xs : List (List UInt8)) : Nat := (xs.map List.length).sum

theorem trimPrefix_le (x p : List UInt8) : (Lib.trimPrefix x p).length ≤ x.length := by
  unfold Lib.trimPrefix
  split
  · simp
  · exact Nat.le_refl _
theorem star_le (x : List UInt8) : (star x).length ≤ x.length := by
  unfold star
  split
  · exact Nat.le_trans (trimPrefix_le _ _) (trimPrefix_le _ _)
  · exact Nat.le_refl _
theorem trimLeftS_le (x cs : List UInt8) : (Lib.trimLeftS x cs).length ≤ x.length := (List.dropWhile_sublist _).length_le
theorem trimRightS_le (x cs : List UInt8) : (Lib.trimRightS x cs).length ≤ x.length := by
  unfold Lib.trimRightS
  rw [List.length_reverse]
  exact Nat.le_trans (List.dropWhile_sublist _).length_le (by simp)
theorem docLine_le (x : List UInt8) : (docLine x).length ≤ x.length :=
  Nat.le_trans (trimRightS_le _ _) (Nat.le_trans (star_le _) (trimLeftS_le _ _))

theorem tot_cons (x : List UInt8) (xs : List (List UInt8)) : tot (x :: xs) = x.length + tot xs := by simp [tot]
theorem tot_map_le (f : List UInt8 → List UInt8) (h : ∀ x, (f x).length ≤ x.length) : ∀ xs, tot (xs.map f) ≤ tot xs
  | [] => Nat.le_refl _
  | x :: xs => by
    have := tot_map_le f h xs
    have := h x
    rw [List.map_cons, tot_cons, tot_cons]
    omega
theorem tot_sublist {xs ys : List (List UInt8)} (h : xs.Sublist ys) : tot xs ≤ tot ys := by
  induction h with
  | slnil => exact Nat.le_refl _
  | cons a _ ih => rw [tot_cons]; omega
  | cons_cons a _ ih => rw [tot_cons, tot_cons]; omega
theorem tot_sp (c : UInt8) : ∀ l : List UInt8, tot (sp c l) ≤ l.length
  | [] => Nat.le_refl _
  | b :: l => by
    have ih := tot_sp c l
    rw [sp]
    split
    · rw [tot_cons]
      simp
      omega
    · cases e : sp c l with
      | nil => simp [tot]
      | cons h t =>
        rw [e, tot_cons] at ih
        simp only [tot_cons, List.length_cons]
        omega
theorem mem_tot : ∀ {xs : List (List UInt8)} {x : List UInt8}, x ∈ xs → x.length ≤ tot xs
  | y :: xs, x, h => by
    rw [tot_cons]
    rcases List.mem_cons.1 h with rfl | h
    · omega
    · have := mem_tot h
      omega
theorem join_len (c : UInt8) : ∀ xs : List (List UInt8), (Lib.join xs [c]).length ≤ tot xs + xs.length
  | [] => Nat.le_refl _
  | [x] => by
    simp [Lib.join, tot]
  | x :: y :: xs => by
    have := join_len c (y :: xs)
    have e : Lib.join (x :: y :: xs) [c] = x ++ c :: Lib.join (y :: xs) [c] := by
      simp [Lib.join, List.intercalate]
    rw [e, tot_cons]
    simp only [List.length_append, List.length_cons] at this ⊢
    omega

theorem lead_empty (x : List UInt8) (r : List (List UInt8)) (h : x.isEmpty = true) : lead (x :: r) = lead r := by
  unfold lead
  rw [List.dropWhile_cons, h, if_pos rfl]
theorem lead_full (x : List UInt8) (r : List (List UInt8)) (h : x.isEmpty = false) : lead (x :: r) = x :: r := by
  unfold lead
  rw [List.dropWhile_cons, h]
  rfl
theorem trail_empty (l : List (List UInt8)) (x : List UInt8) (h : x.isEmpty = true) : trail (l ++ [x]) = trail l := by
  unfold trail
  rw [List.reverse_append, List.reverse_singleton, List.singleton_append, lead_empty x _ h]
theorem trail_full (l : List (List UInt8)) (x : List UInt8) (h : x.isEmpty = false) : trail (l ++ [x]) = l ++ [x] := by
  unfold trail
  rw [List.reverse_append, List.reverse_singleton, List.singleton_append, lead_full x _ h]
  simp
theorem lead_sublist (l : List (List UInt8)) : (lead l).Sublist l := List.dropWhile_sublist _
theorem trail_sublist (l : List (List UInt8)) : (trail l).Sublist l := by
  unfold trail
  have := (lead_sublist l.reverse).reverse
  rwa [List.reverse_reverse] at this

end Go.Proofs.Qxb6602851aDoor
