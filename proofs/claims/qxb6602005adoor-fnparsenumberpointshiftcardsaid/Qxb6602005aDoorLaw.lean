import Derived.Test.Qxb6602005aDoorModel
namespace Go.Proofs.Qxb6602005aDoor
open Go

/-! ### the parts of a number's text -/
abbrev Parts := Option (List UInt8 × List UInt8 × Int)
def partsW (int frac : List UInt8) (w : Int) : Parts := if int.length = 0 then none else some (int, frac, w)
def partsE (int frac : List UInt8) : Option Int → Parts
  | none => none
  | some w => partsW int frac w
def partsF (int frac : List UInt8) : List UInt8 → Parts
  | [] => partsW int frac 0
  | c :: r => if isE c then partsE int frac (pe r) else none
def partsI (int : List UInt8) : List UInt8 → Parts
  | [] => partsF int [] []
  | c :: r => if c == 46 then (if runD r = 0 then none else partsF int (r.take (runD r)) (r.drop (runD r))) else partsF int [] (c :: r)
def partsU (s : List UInt8) : Parts := partsI (s.take (runD s)) (s.drop (runD s))
def signed : List UInt8 → Bool
  | [] => false
  | c :: _ => c == 45
def body : List UInt8 → List UInt8
  | [] => []
  | c :: r => if c == 45 then r else c :: r
def parts (s : List UInt8) : Parts := partsU (body s)

def pnOf (ng : Bool) : Parts → Num
  | none => failN ng
  | some (i, f, w) => finish ng i f w
def mOf (ng : Bool) : Parts → Mod
  | none => failM
  | some (i, f, w) => ⟨true, ng, i, f, w⟩

theorem withInt_is (ng : Bool) (i f : List UInt8) (w : Int) : withInt ng i f w = pnOf ng (partsW i f w) := by
  unfold withInt partsW
  split <;> rfl
theorem afterFrac_is (ng : Bool) (i f : List UInt8) : ∀ l, afterFrac ng i f l = pnOf ng (partsF i f l)
  | [] => withInt_is ng i f 0
  | c :: r => by
    rw [afterFrac, partsF]
    unfold isE
    split
    · cases pe r with
      | none => rfl
      | some w => exact withInt_is ng i f w
    · rfl
theorem afterInt_is (ng : Bool) (i : List UInt8) : ∀ l, afterInt ng i l = pnOf ng (partsI i l)
  | [] => afterFrac_is ng i [] []
  | c :: r => by
    rw [afterInt, partsI]
    split
    · split
      · rfl
      · exact afterFrac_is ng i _ _
    · exact afterFrac_is ng i [] _
theorem pn_is : ∀ s, pn s = pnOf (signed s) (parts s)
  | [] => afterInt_is false [] []
  | c :: r => by
    rw [pn, signed, parts, body]
    cases c == 45
    · exact afterInt_is false _ _
    · exact afterInt_is true _ _

/-! ### digits -/
theorem digE (c : UInt8) (h : isE c = true) : dig c = false := by
  unfold isE at h
  rw [Bool.or_eq_true, beq_iff_eq, beq_iff_eq] at h
  rcases h with rfl | rfl <;> rfl
theorem dig46 (c : UInt8) (h : (c == 46) = true) : dig c = false := by
  rw [beq_iff_eq] at h
  subst h
  rfl
theorem dig_sub (c : UInt8) (h : dig c = true) : (c - 48).toNat = c.toNat - 48 := by
  simp only [dig, Bool.and_eq_true, decide_eq_true_eq] at h
  have := c.toNat_lt
  rw [UInt8.toNat_sub]
  have : (48 : UInt8).toNat = 48 := rfl
  rw [this]
  omega
theorem dig_val (c : UInt8) (h : dig c = true) : c.toNat - 48 ≤ 9 := by
  simp only [dig, Bool.and_eq_true, decide_eq_true_eq] at h
  omega
theorem dig_pos (c : UInt8) (h : dig c = true) (h0 : (c == 48) = false) : 1 ≤ c.toNat - 48 := by
  simp only [dig, Bool.and_eq_true, decide_eq_true_eq] at h
  have : c.toNat ≠ 48 := fun e => by
    have : c = 48 := UInt8.toNat_inj.1 e
    subst this
    simp at h0
  omega

/-! ### the exponent -/
theorem valD_ge : ∀ (l : List UInt8) (v : Nat), v * 10 ^ l.length ≤ valD v l
  | [], v => by simp [valD]
  | c :: r, v => by
    have := valD_ge r (v * 10 + (c - 48).toNat)
    rw [valD]
    refine Nat.le_trans ?_ this
    rw [List.length_cons, Nat.pow_succ, Nat.add_mul]
    have e : v * (10 ^ r.length * 10) = v * 10 * 10 ^ r.length := by rw [Nat.mul_comm (10 ^ r.length) 10, Nat.mul_assoc]
    rw [e]
    exact Nat.le_add_right _ _
theorem valD_ge1 (l : List UInt8) (v : Nat) : v ≤ valD v l :=
  Nat.le_trans (Nat.le_mul_of_pos_right v (Nat.pow_pos (by omega))) (valD_ge l v)
theorem peLoop_val : ∀ (l : List UInt8) (v : Nat), l.all dig = true → v ≤ 1000000000000000 → peLoop v l = if 1000000000000000 < valD v l then none else some (valD v l)
  | [], v, _, hv => by
    rw [peLoop, valD, if_neg (by omega)]
  | c :: r, v, h, hv => by
    rw [List.all_cons, Bool.and_eq_true] at h
    rw [peLoop, valD, dig_sub c h.1]
    split
    · rename_i h2
      have := valD_ge1 r (v * 10 + (c.toNat - 48))
      rw [if_pos (by omega)]
    · exact peLoop_val r _ h.2 (by omega)
theorem valD_zeros : ∀ l : List UInt8, valD 0 (l.drop (lz l)) = valD 0 l
  | [] => rfl
  | c :: r => by
    rw [lz_cons]
    split
    · rename_i h
      rw [beq_iff_eq] at h
      subst h
      rw [List.drop_succ_cons, valD_zeros r, valD]
      rfl
    · rfl
theorem lz_head : ∀ l : List UInt8, l.all dig = true → ∀ c r, l.drop (lz l) = c :: r → dig c = true ∧ (c == 48) = false
  | [], _, c, r, e => by cases e
  | x :: l, h, c, r, e => by
    rw [List.all_cons, Bool.and_eq_true] at h
    rw [lz_cons] at e
    split at e
    · rw [List.drop_succ_cons] at e
      exact lz_head l h.2 c r e
    · rename_i hx
      cases e
      exact ⟨h.1, by simpa using hx⟩
theorem modelExp_is (l : List UInt8) (h : l.all dig = true) : modelExp l = peLoop 0 l := by
  rw [peLoop_val l 0 h (by omega), modelExp, valD_zeros]
  split
  · rename_i h16
    cases e : l.drop (lz l) with
    | nil =>
      have := congrArg List.length e
      simp at this
      omega
    | cons c r =>
      obtain ⟨h1, h2⟩ := lz_head l h c r e
      have h3 := dig_pos c h1 h2
      have h4 : 16 ≤ r.length := by
        have := congrArg List.length e
        simp at this
        omega
      have h5 : valD 0 l = valD (c.toNat - 48) r := by
        rw [← valD_zeros l, e, valD, dig_sub c h1]
        simp
      have h6 := valD_ge r (c.toNat - 48)
      have h7 : 10 ^ 16 ≤ 10 ^ r.length := Nat.pow_le_pow_right (by omega) h4
      have h8 : 10 ^ r.length ≤ (c.toNat - 48) * 10 ^ r.length := Nat.le_mul_of_pos_left _ (by omega)
      rw [h5, if_pos (by omega)]
  · rfl

/-! ### the machine, state by state -/
def mEnd (t : List UInt8) (s : St) : Option Int → Mod
  | none => failM
  | some w => ⟨true, s.ng, cutL t s.is s.ie, cutL t s.fs s.fe, w⟩

theorem runD_not (c : UInt8) (r : List UInt8) (h : dig c = false) : runD (c :: r) = 0 := by rw [runD_cons, h, if_neg (by simp)]
theorem runD_dig (c : UInt8) (r : List UInt8) (h : dig c = true) : runD (c :: r) = runD r + 1 := by rw [runD_cons, h, if_pos rfl]
theorem drop_next {t l : List UInt8} {i : Nat} {c : UInt8} (h : t.drop i = c :: l) : t.drop (i + 1) = l := by
  rw [← List.drop_drop, h]
  rfl

theorem run7 : ∀ (l : List UInt8) (i : Nat) (s : St), s.st = 7 → runM i l s = if l.all dig then some s else none
  | [], _, _, _ => rfl
  | c :: r, i, s, h => by
    rw [runM, List.all_cons]
    have hs : step i c s = if dig c then some s else none := by
      unfold step
      simp [h]
    rw [hs]
    cases dig c
    · rfl
    · simpa using run7 r (i + 1) s h

theorem end7 (t l : List UInt8) (s : St) (h : s.st = 7) (he : t.drop s.es = l) (hl : l.all dig = true) : rmEnd t s = mEnd t s ((peLoop 0 l).map fun (e : Nat) => if s.en then -(e : Int) else (e : Int)) := by
  unfold rmEnd
  rw [if_neg (by omega), if_neg (by omega), if_pos h, he, modelExp_is l hl]
  cases peLoop 0 l <;> rfl

theorem run6 (t l : List UInt8) (i : Nat) (s : St) (h : s.st = 6) (hd : t.drop i = l) :
    rmOf t (runM i l s) = mEnd t s (if l.isEmpty || !l.all dig then none else (peLoop 0 l).map fun (e : Nat) => if s.en then -(e : Int) else (e : Int)) := by
  cases l with
  | nil =>
    rw [runM]
    show rmEnd t s = _
    unfold rmEnd
    rw [if_neg (by omega), if_neg (by omega), if_neg (by omega)]
    rfl
  | cons c r =>
    have hs : step i c s = if dig c then some { s with es := i, st := 7 } else none := by
      unfold step
      simp [h]
    rw [runM, hs]
    cases hc : dig c
    · simp [hc, mEnd, rmOf]
    · show rmOf t (runM (i + 1) r _) = _
      rw [run7 r (i + 1) _ rfl]
      cases hr : r.all dig
      · have : (c :: r).all dig = false := by rw [List.all_cons, hr, Bool.and_false]
        rw [this]
        rfl
      · have : (c :: r).all dig = true := by rw [List.all_cons, hr, hc]; rfl
        rw [this]
        exact end7 t (c :: r) { s with es := i, st := 7 } rfl hd this

theorem run5 (t l : List UInt8) (i : Nat) (s : St) (h : s.st = 5) (hen : s.en = false) (hd : t.drop i = l) : rmOf t (runM i l s) = mEnd t s (pe l) := by
  cases l with
  | nil =>
    rw [runM]
    show rmEnd t s = _
    unfold rmEnd
    rw [if_neg (by omega), if_neg (by omega), if_neg (by omega)]
    rfl
  | cons c r =>
    have hs : step i c s = if c == 43 then some { s with st := 6 } else if c == 45 then some { s with en := true, st := 6 } else if dig c then some { s with es := i, st := 7 } else none := by
      unfold step
      simp [h]
    rw [runM, hs]
    cases h43 : c == 43
    · cases h45 : c == 45
      · have hpr : peRest (c :: r) = c :: r := by rw [peRest, h43, h45]; rfl
        have hpn : peNeg (c :: r) = false := h45
        cases hc : dig c
        · rw [pe, hpr]
          simp [hc, mEnd, rmOf]
        · show rmOf t (runM (i + 1) r _) = _
          rw [run7 r (i + 1) _ rfl, pe, hpr, hpn]
          cases hr : r.all dig
          · have : (c :: r).all dig = false := by rw [List.all_cons, hr, Bool.and_false]
            rw [this]
            rfl
          · have : (c :: r).all dig = true := by rw [List.all_cons, hr, hc]; rfl
            rw [this]
            have h7 := end7 t (c :: r) { s with es := i, st := 7 } rfl hd this
            exact h7.trans (by
              show mEnd t _ ((peLoop 0 (c :: r)).map fun (e : Nat) => if s.en then -(e : Int) else (e : Int)) = _
              rw [hen]
              rfl)
      · show rmOf t (runM (i + 1) r _) = _
        rw [run6 t r (i + 1) _ rfl (drop_next hd)]
        have hpr : peRest (c :: r) = r := by rw [peRest, h45, Bool.or_true, if_pos rfl]
        have hpn : peNeg (c :: r) = true := h45
        rw [pe, hpr, hpn]
        rfl
    · show rmOf t (runM (i + 1) r _) = _
      rw [run6 t r (i + 1) _ rfl (drop_next hd)]
      have hpr : peRest (c :: r) = r := by rw [peRest, h43, Bool.true_or, if_pos rfl]
      have hpn : peNeg (c :: r) = false := by
        rw [beq_iff_eq] at h43
        subst h43
        rfl
      rw [pe, hpr, hpn]
      simp only [hen]
      rfl

/-- The fraction's digits are being read; f: those read so far. -/
theorem run4 : ∀ (l : List UInt8) (t : List UInt8) (i : Nat) (s : St), s.st = 4 → s.en = false → t.drop i = l → i ≤ t.length → (cutL t s.is s.ie).length ≠ 0 →
    rmOf t (runM i l s) = mOf s.ng (partsF (cutL t s.is s.ie) (cutL t s.fs (i + runD l)) (l.drop (runD l)))
  | [], t, i, s, h, hen, hd, hi, hne => by
    have hlen : i = t.length := by
      have := congrArg List.length hd
      simp at this
      omega
    rw [runM]
    show rmEnd t s = _
    unfold rmEnd
    rw [if_neg (by omega), if_pos h, runD_nil, Nat.add_zero, hlen, List.drop_nil, partsF, partsW, if_neg hne]
    rfl
  | c :: r, t, i, s, h, hen, hd, hi, hne => by
    have hs : step i c s = if isE c then some { s with fe := i, st := 5 } else if dig c then some s else none := by
      unfold step
      simp [h]
    have hi1 : i + 1 ≤ t.length := by
      have := congrArg List.length hd
      simp at this
      omega
    rw [runM, hs]
    cases he : isE c
    · cases hc : dig c
      · rw [runD_cons, hc]
        simp [partsF, he, mOf, rmOf]
      · show rmOf t (runM (i + 1) r s) = _
        rw [run4 r t (i + 1) s h hen (drop_next hd) hi1 hne, runD_dig c r hc, List.drop_succ_cons, show i + 1 + runD r = i + (runD r + 1) by omega]
    · show rmOf t (runM (i + 1) r _) = _
      rw [run5 t r (i + 1) { s with fe := i, st := 5 } rfl hen (drop_next hd), runD_not c r (digE c he), Nat.add_zero, List.drop_zero, partsF, he, if_pos rfl]
      cases pe r with
      | none => rfl
      | some w =>
        rw [partsE, partsW, if_neg hne]
        rfl

theorem run3 (l t : List UInt8) (i : Nat) (s : St) (h : s.st = 3) (hen : s.en = false) (hd : t.drop i = l) (hi : i ≤ t.length) (hne : (cutL t s.is s.ie).length ≠ 0) :
    rmOf t (runM i l s) = mOf s.ng (if runD l = 0 then none else partsF (cutL t s.is s.ie) (cutL t i (i + runD l)) (l.drop (runD l))) := by
  cases l with
  | nil =>
    rw [runM]
    show rmEnd t s = _
    unfold rmEnd
    rw [if_neg (by omega), if_neg (by omega), if_neg (by omega)]
    rfl
  | cons c r =>
    have hs : step i c s = if dig c then some { s with fs := i, st := 4 } else none := by
      unfold step
      simp [h]
    have hi1 : i + 1 ≤ t.length := by
      have := congrArg List.length hd
      simp at this
      omega
    rw [runM, hs, runD_cons]
    cases hc : dig c
    · rfl
    · show rmOf t (runM (i + 1) r _) = _
      rw [run4 r t (i + 1) { s with fs := i, st := 4 } rfl hen (drop_next hd) hi1 hne, if_pos rfl, if_neg (by omega), List.drop_succ_cons, show i + 1 + runD r = i + (runD r + 1) by omega]

theorem cutL_take (t l : List UInt8) (i u : Nat) (hd : t.drop i = l) : cutL t i (i + u) = l.take u := by
  unfold cutL
  rw [List.drop_take, hd]
  congr 1
  omega

theorem run2 : ∀ (l : List UInt8) (t : List UInt8) (i : Nat) (s : St), s.st = 2 → s.en = false → s.fs = 0 → s.fe = 0 → t.drop i = l → i ≤ t.length → s.is < i →
    rmOf t (runM i l s) = mOf s.ng (partsI (cutL t s.is (i + runD l)) (l.drop (runD l)))
  | [], t, i, s, h, hen, hf1, hf2, hd, hi, hlt => by
    have hlen : i = t.length := by
      have := congrArg List.length hd
      simp at this
      omega
    have hne : (cutL t s.is t.length).length ≠ 0 := by
      simp [cutL]
      omega
    rw [runM]
    show rmEnd t s = _
    unfold rmEnd
    rw [if_pos h, runD_nil, Nat.add_zero, hlen, List.drop_nil, partsI, partsF, partsW, if_neg hne, hf1, hf2]
    simp [cutL, mOf]
  | c :: r, t, i, s, h, hen, hf1, hf2, hd, hi, hlt => by
    have hs : step i c s = if c == 46 then some { s with ie := i, st := 3 } else if isE c then some { s with ie := i, st := 5 } else if dig c then some s else none := by
      unfold step
      simp [h]
    have hi1 : i + 1 ≤ t.length := by
      have := congrArg List.length hd
      simp at this
      omega
    have hne : (cutL t s.is i).length ≠ 0 := by
      simp [cutL]
      omega
    have hnil : cutL t s.fs s.fe = [] := by
      rw [hf1, hf2]
      simp [cutL]
    rw [runM, hs]
    cases h46 : c == 46
    · cases he : isE c
      · cases hc : dig c
        · rw [runD_not c r hc, Nat.add_zero, List.drop_zero, partsI, h46, if_neg (by simp), partsF, he, if_neg (by simp)]
          rfl
        · show rmOf t (runM (i + 1) r s) = _
          rw [run2 r t (i + 1) s h hen hf1 hf2 (drop_next hd) hi1 (by omega), runD_dig c r hc, List.drop_succ_cons, show i + 1 + runD r = i + (runD r + 1) by omega]
      · show rmOf t (runM (i + 1) r _) = _
        rw [run5 t r (i + 1) { s with ie := i, st := 5 } rfl hen (drop_next hd), runD_not c r (digE c he), Nat.add_zero, List.drop_zero, partsI, h46, if_neg (by simp), partsF, he, if_pos rfl]
        cases pe r with
        | none => rfl
        | some w =>
          rw [partsE, partsW, if_neg hne]
          simp [mEnd, mOf, hnil]
    · show rmOf t (runM (i + 1) r _) = _
      rw [run3 r t (i + 1) { s with ie := i, st := 3 } rfl hen (drop_next hd) hi1 hne, runD_not c r (dig46 c h46), Nat.add_zero, List.drop_zero, partsI, h46, if_pos rfl,
        cutL_take t r (i + 1) (runD r) (drop_next hd)]
      rfl

theorem partsF_nil (f : List UInt8) : ∀ l, partsF [] f l = none
  | [] => rfl
  | c :: r => by
    rw [partsF]
    split
    · cases pe r <;> rfl
    · rfl
theorem partsI_nil : ∀ l, partsI [] l = none
  | [] => rfl
  | c :: r => by
    rw [partsI]
    split
    · split
      · rfl
      · exact partsF_nil _ _
    · exact partsF_nil _ _

theorem run1 (l t : List UInt8) (i : Nat) (s : St) (h : s.st = 1) (hen : s.en = false) (hf1 : s.fs = 0) (hf2 : s.fe = 0) (hd : t.drop i = l) (hi : i ≤ t.length) :
    rmOf t (runM i l s) = mOf s.ng (partsU l) := by
  cases l with
  | nil =>
    rw [runM]
    show rmEnd t s = _
    unfold rmEnd
    rw [if_neg (by omega), if_neg (by omega), if_neg (by omega)]
    rfl
  | cons c r =>
    have hs : step i c s = if dig c then some { s with is := i, st := 2 } else none := by
      unfold step
      simp [h]
    have hi1 : i + 1 ≤ t.length := by
      have := congrArg List.length hd
      simp at this
      omega
    rw [runM, hs]
    unfold partsU
    cases hc : dig c
    · rw [runD_not c r hc, List.take_zero, partsI_nil]
      rfl
    · show rmOf t (runM (i + 1) r _) = _
      rw [run2 r t (i + 1) { s with is := i, st := 2 } rfl hen hf1 hf2 (drop_next hd) hi1 (by simp), show i + 1 + runD r = i + (runD r + 1) by omega, cutL_take t (c :: r) i (runD r + 1) hd, runD_dig c r hc, List.drop_succ_cons]

theorem rm_is (t : List UInt8) : rm t = mOf (signed t) (parts t) := by
  unfold rm parts
  cases t with
  | nil => rfl
  | cons c r =>
    rw [signed, body]
    cases h45 : c == 45
    · have hs : runM 0 (c :: r) S0 = runM 0 (c :: r) { S0 with st := 1 } := by
        rw [runM, runM]
        have e : step 0 c S0 = step 0 c { S0 with st := 1 } := by
          unfold step
          simp [S0, h45]
        rw [e]
      rw [hs]
      exact run1 (c :: r) (c :: r) 0 { S0 with st := 1 } rfl rfl rfl rfl rfl (Nat.zero_le _)
    · have hs : runM 0 (c :: r) S0 = runM 1 r { S0 with ng := true, st := 1 } := by
        rw [runM]
        have e : step 0 c S0 = some { S0 with ng := true, st := 1 } := by
          unfold step
          simp [S0, h45]
        rw [e]
      rw [hs]
      exact run1 r (c :: r) 1 { S0 with ng := true, st := 1 } rfl rfl rfl rfl rfl (by simp)

end Go.Proofs.Qxb6602005aDoor
