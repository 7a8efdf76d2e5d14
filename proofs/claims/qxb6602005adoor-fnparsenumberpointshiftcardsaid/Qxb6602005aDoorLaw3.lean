import Derived.Test.Qxb6602005aDoorLaw2
namespace Go.Proofs.Qxb6602005aDoor
open Go

theorem runD_all : ∀ (a l : List UInt8), a.all dig = true → (∀ c r, l = c :: r → dig c = false) → runD (a ++ l) = a.length
  | [], [], _, _ => rfl
  | [], c :: r, _, h => runD_not c r (h c r rfl)
  | x :: a, l, ha, h => by
    rw [List.all_cons, Bool.and_eq_true] at ha
    rw [List.cons_append, runD_dig _ _ ha.1, runD_all a l ha.2 h, List.length_cons]

/-- A sign, or none. -/
def pre (ng : Bool) : List UInt8 := if ng then [45] else []

theorem signed_pre (ng : Bool) (x : UInt8) (l : List UInt8) (hx : dig x = true) : signed (pre ng ++ x :: l) = ng ∧ body (pre ng ++ x :: l) = x :: l := by
  cases ng
  · have h45 : (x == 45) = false := by
      cases h : x == 45
      · rfl
      · rw [beq_iff_eq] at h
        subst h
        cases hx
    constructor
    · exact h45
    · show body (x :: l) = _
      rw [body, h45]
      rfl
  · exact ⟨rfl, rfl⟩

theorem parts_point (ng : Bool) (a b : List UInt8) (ha : a.all dig = true) (hb : b.all dig = true) (ha0 : a.length ≠ 0) (hb0 : b.length ≠ 0) :
    signed (pre ng ++ a ++ 46 :: b) = ng ∧ parts (pre ng ++ a ++ 46 :: b) = some (a, b, 0) := by
  cases a with
  | nil => simp at ha0
  | cons x r =>
    have hx : dig x = true := by
      rw [List.all_cons, Bool.and_eq_true] at ha
      exact ha.1
    rw [List.append_assoc, List.cons_append]
    obtain ⟨h1, h2⟩ := signed_pre ng x (r ++ 46 :: b) hx
    refine ⟨h1, ?_⟩
    unfold parts partsU
    rw [h2, ← List.cons_append]
    have hr : runD ((x :: r) ++ 46 :: b) = (x :: r).length := runD_all (x :: r) (46 :: b) ha (fun c l e => by cases e; rfl)
    rw [hr, List.take_left, List.drop_left, partsI, if_pos (by decide)]
    have hr2 : runD b = b.length := by
      have := runD_all b [] hb (fun c l e => by cases e)
      rwa [List.append_nil] at this
    rw [hr2, if_neg hb0, List.take_length, List.drop_length, partsF, partsW, if_neg ha0]

theorem pe_neg (tl : List UInt8) (N : Nat) (h : tl.all dig = true) (h1 : 1 ≤ tl.length) (hv : valD 0 tl = N) (hN : N ≤ 65536) : pe (45 :: tl) = some (-(N : Int)) := by
  have hpr : peRest (45 :: tl) = tl := rfl
  have hpn : peNeg (45 :: tl) = true := rfl
  have he : tl.isEmpty = false := by
    cases tl with
    | nil => simp at h1
    | cons _ _ => rfl
  rw [pe, hpr, hpn, he, h, peLoop_val tl 0 h (by omega), hv, if_neg (by simp), if_neg (by omega)]
  rfl

theorem parts_exp (ng : Bool) (ab tl : List UInt8) (N : Nat) (ha : ab.all dig = true) (ha0 : ab.length ≠ 0) (h : tl.all dig = true) (h1 : 1 ≤ tl.length) (hv : valD 0 tl = N) (hN : N ≤ 65536) :
    signed (pre ng ++ ab ++ 101 :: 45 :: tl) = ng ∧ parts (pre ng ++ ab ++ 101 :: 45 :: tl) = some (ab, [], -(N : Int)) := by
  cases ab with
  | nil => simp at ha0
  | cons x r =>
    have hx : dig x = true := by
      rw [List.all_cons, Bool.and_eq_true] at ha
      exact ha.1
    rw [List.append_assoc, List.cons_append]
    obtain ⟨e1, e2⟩ := signed_pre ng x (r ++ 101 :: 45 :: tl) hx
    refine ⟨e1, ?_⟩
    unfold parts partsU
    rw [e2, ← List.cons_append]
    have hr : runD ((x :: r) ++ 101 :: 45 :: tl) = (x :: r).length := runD_all (x :: r) (101 :: 45 :: tl) ha (fun c l e => by cases e; rfl)
    rw [hr, List.take_left, List.drop_left, partsI, if_neg (by decide), partsF, if_pos (by rfl), pe_neg tl N h h1 hv hN, partsE, partsW, if_neg ha0]

theorem lz_rev_full : ∀ l : List UInt8, lz l = l.length → lz l.reverse = l.length
  | [], _ => rfl
  | c :: r, h => by
    rw [lz_cons] at h
    have := lz_le r
    cases hc : c == 48
    · rw [hc] at h; simp at h
    · rw [hc] at h
      simp only [if_true, List.length_cons] at h
      rw [List.reverse_cons, lz_append, lz_rev_full r (by omega), List.length_reverse, if_pos rfl, lz_cons, hc]
      simp [lz_nil]
theorem trimR_zeros (x z : List UInt8) (h : lz z = z.length) : trimR (x ++ z) = trimR x := by
  show (trimL (x ++ z).reverse).reverse = (trimL x.reverse).reverse
  rw [List.reverse_append, trimL_lz, trimL_lz, lz_append, lz_rev_full z h, List.length_reverse, if_pos rfl, ← List.drop_drop]
  congr 2
  have : z.length = z.reverse.length := by simp
  rw [this, List.drop_left]
theorem lz_take_lz : ∀ l : List UInt8, lz (l.take (lz l)) = lz l
  | [] => rfl
  | c :: r => by
    rw [lz_cons]
    cases hc : c == 48
    · rfl
    · simp only [if_true, List.take_succ_cons]
      rw [lz_cons, hc, if_pos rfl, lz_take_lz r]
theorem tail_zeros (b : List UInt8) : lz (b.drop (b.length - tz b)) = (b.drop (b.length - tz b)).length := by
  have h1 := lz_take_lz b.reverse
  have h2 : (b.reverse.take (lz b.reverse)).length = lz b.reverse := by
    have := lz_le b.reverse
    rw [List.length_take]
    omega
  have h3 := lz_rev_full _ (h1.trans h2.symm)
  have h4 : (b.reverse.take (lz b.reverse)).reverse = b.drop (b.length - tz b) := by
    rw [List.take_reverse, List.reverse_reverse]
    rfl
  rw [h4] at h3
  rw [h3, ← h4, List.length_reverse]

/-- THE PLAIN LAW: the two texts' numbers are one. -/
theorem shift_law (ng : Bool) (a b : List UInt8) : ∃ n e d0 d1 f0 f1, finish ng a b 0 = ⟨n, d0, d1, e, true⟩ ∧ finish ng (a ++ b) [] (-(b.length : Int)) = ⟨n, f0, f1, e, true⟩ ∧ trimR (d0 ++ d1) = trimR (f0 ++ f1) ∧
    d0.length + d1.length ≤ a.length + b.length ∧ f0.length + f1.length ≤ a.length + b.length := by
  by_cases h : lz (a ++ b) = (a ++ b).length
  · refine ⟨false, 0, [], [], [], [], finish_zero ng a b 0 h, finish_zero ng (a ++ b) [] _ (by rw [List.append_nil]; exact h), rfl, by simp, by simp⟩
  · have hlt : lz (a ++ b) < (a ++ b).length := by
      have := lz_le (a ++ b)
      omega
    obtain ⟨d0, d1, e1, e2, _, _, e3⟩ := finish_some ng a b 0 hlt
    obtain ⟨f0, f1, g1, g2, _, _, g3⟩ := finish_some ng (a ++ b) [] (-(b.length : Int)) (by rw [List.append_nil]; exact hlt)
    rw [List.append_nil] at g1 g2
    have htz : tz ([] : List UInt8) = 0 := rfl
    rw [htz, Nat.sub_zero, List.take_length] at g2
    have eexp : -(b.length : Int) + ((a ++ b).length : Int) - (lz (a ++ b) : Int) = 0 + (a.length : Int) - (lz (a ++ b) : Int) := by
      rw [List.length_append]
      omega
    rw [eexp] at g1
    refine ⟨ng, _, d0, d1, f0, f1, e1, g1, ?_, e3, by rw [List.length_append] at g3; simpa using g3⟩
    rw [e2, g2]
    have htb := tz_le b
    have hle : lz (a ++ b) ≤ (a ++ b).length - tz b := by
      have h2 := lz_append a b
      rw [List.length_append] at hlt ⊢
      have h5 := lz_le a
      split at h2
      · have h3 : lz b < b.length := by omega
        have h4 := lz_tz b h3
        omega
      · omega
    have esp : (a ++ b).drop (lz (a ++ b)) = ((a ++ b).take ((a ++ b).length - tz b)).drop (lz (a ++ b)) ++ b.drop (b.length - tz b) := by
      have e5 : (a ++ b).drop ((a ++ b).length - tz b) = b.drop (b.length - tz b) := by
        rw [List.length_append, show a.length + b.length - tz b = a.length + (b.length - tz b) by omega, ← List.drop_drop, List.drop_left]
      rw [← e5]
      have e6 : ((a ++ b).take ((a ++ b).length - tz b)).length = (a ++ b).length - tz b := by
        rw [List.length_take]
        omega
      rw [← List.drop_append_of_le_length (by rw [e6]; exact hle), List.take_append_drop]
    rw [esp, trimR_zeros _ _ (tail_zeros b)]

end Go.Proofs.Qxb6602005aDoor
