import Derived.Test.Qxb6601675aDoorPlain
import Derived.Lib.SplitLaws
namespace Go.Proofs.Qxb6601675aDoor
open Go

/-- A list cut at each c. -/
def sp (c : UInt8) : List UInt8 → List (List UInt8)
  | [] => [[]]
  | b :: l => if b = c then [] :: sp c l else
    match sp c l with
    | [] => [[b]]
    | h :: t => (b :: h) :: t

def onHead (b : UInt8) : List (List UInt8) → List (List UInt8)
  | [] => [[b]]
  | h :: t => (b :: h) :: t

theorem splitK_cons_ne (b c : UInt8) (h : b ≠ c) (l : List UInt8) : ∀ k, Lib.splitK [c] 0 k (b :: l) = onHead b (Lib.splitK [c] 0 k l)
  | 0 => rfl
  | k + 1 => by
    have hp : ([c] : List UInt8).isPrefixOf (b :: l) = false := by simp [List.isPrefixOf, Ne.symm h]
    have hix : Lib.index (b :: l) [c] = if Lib.index l [c] == -1 then -1 else Lib.index l [c] + 1 := by rw [Lib.index, hp]; simp
    have hge := Lib.index_ge l [c]
    unfold Lib.splitK
    by_cases hm : Lib.index l [c] = -1
    · rw [hix, hm]
      simp [onHead]
    · obtain ⟨j, hj⟩ : ∃ j : Nat, Lib.index l [c] = j := ⟨(Lib.index l [c]).toNat, by omega⟩
      have e1 : ((j : Int) == -1) = false := by rw [beq_eq_false_iff_ne]; omega
      have e2 : ((j : Int) + 1 == -1) = false := by rw [beq_eq_false_iff_ne]; omega
      have e3 : ((j : Int) + 1).toNat = j + 1 := by omega
      rw [hix, hj, e1]
      simp only [Bool.false_eq_true, if_false, e2, e3]
      simp [onHead]

theorem split_sp (c : UInt8) : ∀ l : List UInt8, Lib.splitK [c] 0 (Lib.count l [c]) l = sp c l
  | [] => by rw [Lib.count_one]; rfl
  | b :: l => by
    by_cases h : b = c
    · subst h
      have hix : Lib.index (b :: l) [b] = 0 := by rw [Lib.index]; simp [List.isPrefixOf]
      rw [Lib.count_cons_eq, Nat.add_comm, Lib.splitK, hix, sp, if_pos rfl]
      simp [split_sp b l]
    · rw [Lib.count_cons_ne b c l h, splitK_cons_ne b c h, split_sp c l, sp, if_neg h]
      cases sp c l <;> rfl

theorem sp_ne (c : UInt8) (l : List UInt8) : sp c l ≠ [] := by
  cases l with
  | nil => simp [sp]
  | cons b l =>
    rw [sp]
    split
    · simp
    · split <;> simp

/-- The pieces, as the walk meets them. -/
theorem pieces (s : ByteArray) (c : UInt8) : (Lib.splitB ⟨#[c]⟩ 0 (Lib.countB s ⟨#[c]⟩) s).map (·.data.toList) = sp c s.data.toList := by
  rw [Lib.splitB_data]
  exact split_sp c s.data.toList

theorem tagByte_letter (first : Bool) (c : UInt8) (h : letter c.toNat = true) : tagByte first c = true := by simp [tagByte, h]

theorem scan_is : ∀ (l : List UInt8) (first : Bool) (n : Nat), n ≤ 8 → ∀ (h : List UInt8) (t : List (List UInt8)), sp 45 l = h :: t →
    scan l first n = (decide (1 ≤ n + h.length) && decide (n + h.length ≤ 8) && h.all (tagByte first) && isLang false t)
  | [], first, n, hn, h, t, e => by
    simp only [sp, List.cons.injEq] at e
    obtain ⟨rfl, rfl⟩ := e
    simp [scan, isLang, hn]
    omega
  | c :: r, first, n, hn, h, t, e => by
    rw [sp] at e
    by_cases hc : c = 45
    · subst hc
      rw [if_pos rfl] at e
      simp only [List.cons.injEq] at e
      obtain ⟨rfl, rfl⟩ := e
      rw [scan, if_pos (by rfl)]
      by_cases h0 : n = 0
      · subst h0
        simp
      · rw [if_neg h0]
        cases e2 : sp 45 r with
        | nil => exact absurd e2 (sp_ne _ _)
        | cons h2 t2 =>
          rw [scan_is r false 0 (by omega) h2 t2 e2]
          have : 1 ≤ n := by omega
          simp [isLang, tagOk, this, hn]
    · rw [if_neg hc] at e
      have hc' : ¬ c.toNat = 45 := fun x => hc (UInt8.toNat_inj.1 x)
      rw [scan, if_neg hc']
      cases e2 : sp 45 r with
      | nil => exact absurd e2 (sp_ne _ _)
      | cons h2 t2 =>
        rw [e2] at e
        simp only [List.cons.injEq] at e
        obtain ⟨rfl, rfl⟩ := e
        by_cases h8 : 8 < n + 1
        · rw [if_pos h8]
          have : ¬ n + (h2.length + 1) ≤ 8 := by omega
          simp [this]
        · rw [if_neg h8]
          have ih := scan_is r first (n + 1) (by omega) h2 t2 e2
          have e3 : n + 1 + h2.length = n + (h2.length + 1) := by omega
          rw [e3] at ih
          by_cases hl : letter c.toNat = true
          · rw [if_pos hl, ih]
            simp [tagByte, hl]
          · rw [if_neg hl]
            by_cases hd : (!first && digit c.toNat) = true
            · rw [if_pos hd, ih]
              have : tagByte first c = true := by simp only [tagByte, hd, Bool.or_true]
              simp [this]
            · rw [if_neg hd]
              have : tagByte first c = false := by
                simp only [tagByte, Bool.or_eq_false_iff]
                exact ⟨by simpa using hl, by simpa using hd⟩
              simp [this]

/-- THE PLAIN LAW. -/
theorem agree (l : List UInt8) : isLang true (sp 45 l) = scan l true 0 := by
  cases e : sp 45 l with
  | nil => exact absurd e (sp_ne _ _)
  | cons h t =>
    rw [scan_is l true 0 (by omega) h t e]
    simp [isLang, tagOk]

end Go.Proofs.Qxb6601675aDoor
