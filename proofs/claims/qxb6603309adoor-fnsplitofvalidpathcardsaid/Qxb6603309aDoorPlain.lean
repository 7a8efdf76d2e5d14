import Derived.Lib.SplitLaws
import Derived.Lib.Strings
import Derived.Laws.RangeAny
namespace Go.Proofs.Qxb6603309aDoor
open Go

/-- A list cut at each c. -/
def sp (c : UInt8) : List UInt8 → List (List UInt8)
  | [] => [[]]
  | b :: l => if b = c then [] :: sp c l else
    match sp c l with
    | [] => [[b]]
    | h :: t => (b :: h) :: t

def onHead (b : UInt8) : List (List UInt8) → List (List UInt8)
  | [] => [[b]]
  | h :: t => (b :: h) :: t

theorem splitK_cons_ne (b c : UInt8) (h : b ≠ c) (l : List UInt8) : ∀ k, Lib.splitK [c] 0 k (b :: l) = onHead b (Lib.splitK [c] 0 k l)
  | 0 => rfl
  | k + 1 => by
    have hp : ([c] : List UInt8).isPrefixOf (b :: l) = false := by simp [List.isPrefixOf, Ne.symm h]
    have hix : Lib.index (b :: l) [c] = if Lib.index l [c] == -1 then -1 else Lib.index l [c] + 1 := by rw [Lib.index, hp]; simp
    have hge := Lib.index_ge l [c]
    unfold Lib.splitK
    by_cases hm : Lib.index l [c] = -1
    · rw [hix, hm]
      simp [onHead]
    · obtain ⟨j, hj⟩ : ∃ j : Nat, Lib.index l [c] = j := ⟨(Lib.index l [c]).toNat, by omega⟩
      have e1 : ((j : Int) == -1) = false := by rw [beq_eq_false_iff_ne]; omega
      have e2 : ((j : Int) + 1 == -1) = false := by rw [beq_eq_false_iff_ne]; omega
      have e3 : ((j : Int) + 1).toNat = j + 1 := by omega
      rw [hix, hj, e1]
      simp only [Bool.false_eq_true, if_false, e2, e3]
      simp [onHead]

theorem split_sp (c : UInt8) : ∀ l : List UInt8, Lib.splitK [c] 0 (Lib.count l [c]) l = sp c l
  | [] => by rw [Lib.count_one]; rfl
  | b :: l => by
    by_cases h : b = c
    · subst h
      have hix : Lib.index (b :: l) [b] = 0 := by rw [Lib.index]; simp [List.isPrefixOf]
      rw [Lib.count_cons_eq, Nat.add_comm, Lib.splitK, hix, sp, if_pos rfl]
      simp [split_sp b l]
    · rw [Lib.count_cons_ne b c l h, splitK_cons_ne b c h, split_sp c l, sp, if_neg h]
      cases sp c l <;> rfl

theorem sp_ne (c : UInt8) (l : List UInt8) : sp c l ≠ [] := by
  cases l with
  | nil => simp [sp]
  | cons b l =>
    rw [sp]
    split
    · simp
    · split <;> simp

/-- The pieces, as the walk meets them. -/
theorem pieces (s : ByteArray) (c : UInt8) : (Lib.splitB ⟨#[c]⟩ 0 (Lib.countB s ⟨#[c]⟩) s).map (·.data.toList) = sp c s.data.toList := by
  rw [Lib.splitB_data]
  exact split_sp c s.data.toList


/-- The piece of l from a up to b. -/
def cut (l : List UInt8) (a b : Nat) : List UInt8 := (l.take b).drop a

theorem cut_len (l : List UInt8) (a b : Nat) (hb : b ≤ l.length) : (cut l a b).length = b - a := by
  unfold cut
  rw [List.length_drop, List.length_take]
  omega
theorem cut_nil (l : List UInt8) (a b : Nat) (h : b ≤ a) : cut l a b = [] := by
  unfold cut
  apply List.drop_eq_nil_of_le
  rw [List.length_take]
  omega
theorem cut_cons (l : List UInt8) (a b : Nat) (h : a < b) (hb : b ≤ l.length) : cut l a b = l[a] :: cut l (a + 1) b := by
  unfold cut
  rw [List.drop_eq_getElem_cons (by rw [List.length_take]; omega), List.getElem_take]
theorem cut_snoc (l : List UInt8) (a b : Nat) (h : a < b) (hb : b ≤ l.length) : cut l a b = cut l a (b - 1) ++ [l[b - 1]] := by
  obtain ⟨c, rfl⟩ : ∃ c, b = c + 1 := ⟨b - 1, by omega⟩
  simp only [Nat.add_sub_cancel]
  unfold cut
  rw [List.take_succ_eq_append_getElem (by omega), List.drop_append_of_le_length (by rw [List.length_take]; omega)]

/-! ### lines -/
def onTop (p : List UInt8) : List (List UInt8) → List (List UInt8)
  | [] => [p]
  | h :: t => (p ++ h) :: t

theorem line_start (l : List UInt8) (i : Nat) : sp 47 (l.drop i) = onTop (cut l i i) (sp 47 (l.drop i)) := by
  rw [cut_nil l i i (Nat.le_refl _)]
  cases e : sp 47 (l.drop i) with
  | nil => exact absurd e (sp_ne _ _)
  | cons h t => rfl
theorem line_next (l : List UInt8) (i j : Nat) (hij : i ≤ j) (hj : j < l.length) (hc : l[j] ≠ 47) (h : sp 47 (l.drop i) = onTop (cut l i j) (sp 47 (l.drop j))) :
    sp 47 (l.drop i) = onTop (cut l i (j + 1)) (sp 47 (l.drop (j + 1))) := by
  rw [h, List.drop_eq_getElem_cons hj, sp, if_neg hc]
  have e1 := cut_snoc l i (j + 1) (by omega) (by omega)
  simp only [Nat.add_sub_cancel] at e1
  rw [e1]
  cases e : sp 47 (l.drop (j + 1)) with
  | nil => exact absurd e (sp_ne _ _)
  | cons a t => simp [onTop]
theorem line_nl (l : List UInt8) (i j : Nat) (hj : j < l.length) (hc : l[j] = 47) (h : sp 47 (l.drop i) = onTop (cut l i j) (sp 47 (l.drop j))) : sp 47 (l.drop i) = cut l i j :: sp 47 (l.drop (j + 1)) := by
  rw [h, List.drop_eq_getElem_cons hj, sp, if_pos hc]
  simp [onTop]
theorem line_end (l : List UInt8) (i : Nat) (h : sp 47 (l.drop i) = onTop (cut l i l.length) (sp 47 (l.drop l.length))) : sp 47 (l.drop i) = [cut l i l.length] := by
  rw [h, List.drop_length]
  simp [onTop, sp]


/-! ### runes -/
def forb (r : Nat) : Bool := r ≤ 31 || (127 ≤ r && r ≤ 159) || (55296 ≤ r && r ≤ 63743) || (65520 ≤ r && r ≤ 65535)
/-- No forbidden rune from place pos on; f: fuel. -/
def okF : Nat → ByteArray → Nat → Bool
  | 0, _, _ => true
  | f + 1, s, pos => if pos < s.size then !forb (Utf8.decode s pos).1 && okF f s (pos + (Utf8.decode s pos).2) else true

theorem width_pos (s : ByteArray) (pos : Nat) (h : pos < s.size) : 1 ≤ (Utf8.decode s pos).2 := by
  by_cases ha : (s[pos]'h).toNat < 128
  · rw [decode_ascii s pos h ha]
    exact Nat.le_refl _
  · exact (decode_high s pos h (by omega)).2
theorem okF_end (f : Nat) (s : ByteArray) (pos : Nat) (h : ¬ pos < s.size) : okF f s pos = true := by
  cases f with
  | zero => rfl
  | succ f => rw [okF, if_neg h]
theorem okF_step (f : Nat) (s : ByteArray) (pos : Nat) (h : pos < s.size) : okF (f + 1) s pos = (!forb (Utf8.decode s pos).1 && okF f s (pos + (Utf8.decode s pos).2)) := by
  rw [okF, if_pos h]

/-! ### segments -/
def badSeg (p : List UInt8) : Bool := p == [] || p == [46] || p == [46, 46]
def goodSegs (xs : List (List UInt8)) : Bool := xs.all (fun p => !badSeg p)
/-- validPath. -/
def vp (s : ByteArray) : Bool := Lib.hasPrefix s.data.toList [47] && (goodSegs (sp 47 (s.data.toList.drop 1)) && okF s.size s 0)

theorem goodSegs_cons (p : List UInt8) (xs : List (List UInt8)) : goodSegs (p :: xs) = (!badSeg p && goodSegs xs) := rfl
end Go.Proofs.Qxb6603309aDoor
