import Derived.Lib.SlTrimSet
namespace Go.Proofs.Qxb6602005aDoor
open Go

/-- A decimal digit. -/
def dig (c : UInt8) : Bool := decide (48 ≤ c.toNat) && decide (c.toNat ≤ 57)
/-- The zeros that a list opens with. -/
def lz (l : List UInt8) : Nat := (l.takeWhile (· == 48)).length
/-- The zeros that a list ends with. -/
def tz (l : List UInt8) : Nat := lz l.reverse
/-- The digits that a list opens with. -/
def runD (l : List UInt8) : Nat := (l.takeWhile dig).length

def trimL (l : List UInt8) : List UInt8 := Lib.trimLeftS l [48]
def trimR (l : List UInt8) : List UInt8 := Lib.trimRightS l [48]

/-- The digits' value, and none beyond the bound. -/
def peLoop : Nat → List UInt8 → Option Nat
  | e, [] => some e
  | e, c :: r => if 1000000000000000 < e * 10 + (c.toNat - 48) then none else peLoop (e * 10 + (c.toNat - 48)) r
def peNeg : List UInt8 → Bool
  | [] => false
  | c :: _ => c == 45
def peRest : List UInt8 → List UInt8
  | [] => []
  | c :: r => if c == 43 || c == 45 then r else c :: r
def pe (s : List UInt8) : Option Int :=
  if (peRest s).isEmpty || !(peRest s).all dig then none else (peLoop 0 (peRest s)).map fun (e : Nat) => if peNeg s then -(e : Int) else (e : Int)

structure Num where
  neg : Bool
  d0 : List UInt8
  d1 : List UInt8
  exp : Int
  ok : Bool

def failN (neg : Bool) : Num := ⟨neg, [], [], 0, false⟩
def finish (neg : Bool) (int frac : List UInt8) (w : Int) : Num :=
  if 0 < (trimL int).length then ⟨neg, trimL int, trimR frac, w + (trimL int).length, true⟩
  else if (trimL (trimR frac)).length = 0 then ⟨false, [], [], 0, true⟩
  else ⟨neg, trimL (trimR frac), [], w - ((trimR frac).length - (trimL (trimR frac)).length), true⟩
def withInt (neg : Bool) (int frac : List UInt8) (w : Int) : Num := if int.length = 0 then failN neg else finish neg int frac w
def afterFrac (neg : Bool) (int frac : List UInt8) : List UInt8 → Num
  | [] => withInt neg int frac 0
  | c :: r => if c == 101 || c == 69 then (match pe r with | none => failN neg | some w => withInt neg int frac w) else failN neg
def afterInt (neg : Bool) (int : List UInt8) : List UInt8 → Num
  | [] => afterFrac neg int [] []
  | c :: r => if c == 46 then (if runD r = 0 then failN neg else afterFrac neg int (r.take (runD r)) (r.drop (runD r))) else afterFrac neg int [] (c :: r)
def unsigned (neg : Bool) (s : List UInt8) : Num := afterInt neg (s.take (runD s)) (s.drop (runD s))
/-- parseNumber. -/
def pn : List UInt8 → Num
  | [] => unsigned false []
  | c :: r => if c == 45 then unsigned true r else unsigned false (c :: r)

theorem peLoop_at (l : List UInt8) (k e : Nat) (h : k < l.length) : peLoop e (l.drop k) = if 1000000000000000 < e * 10 + (l[k].toNat - 48) then none else peLoop (e * 10 + (l[k].toNat - 48)) (l.drop (k + 1)) := by
  rw [List.drop_eq_getElem_cons h, peLoop]
theorem runD_nil : runD [] = 0 := rfl
theorem runD_cons (c : UInt8) (r : List UInt8) : runD (c :: r) = if dig c then runD r + 1 else 0 := by
  unfold runD
  rw [List.takeWhile_cons]
  split <;> simp
theorem lz_nil : lz [] = 0 := rfl
theorem lz_cons (c : UInt8) (r : List UInt8) : lz (c :: r) = if c == 48 then lz r + 1 else 0 := by
  unfold lz
  rw [List.takeWhile_cons]
  split <;> simp
theorem runD_le : ∀ l : List UInt8, runD l ≤ l.length
  | [] => Nat.le_refl _
  | c :: r => by
    have := runD_le r
    rw [runD_cons]
    split <;> simp <;> omega
theorem lz_le : ∀ l : List UInt8, lz l ≤ l.length
  | [] => Nat.le_refl _
  | c :: r => by
    have := lz_le r
    rw [lz_cons]
    split <;> simp <;> omega
theorem tz_le (l : List UInt8) : tz l ≤ l.length := by
  have := lz_le l.reverse
  simpa [tz] using this
theorem runD_full : ∀ l : List UInt8, runD l = l.length → l.all dig = true
  | [], _ => rfl
  | c :: r, h => by
    rw [runD_cons] at h
    have := runD_le r
    split at h
    · rename_i hc
      rw [List.all_cons, hc, runD_full r (by simpa using h)]
      rfl
    · simp at h
theorem runD_short : ∀ l : List UInt8, runD l < l.length → l.all dig = false
  | [], h => by simp at h
  | c :: r, h => by
    rw [runD_cons] at h
    rw [List.all_cons]
    split at h
    · rename_i hc
      rw [hc, runD_short r (by simpa using h)]
      rfl
    · rename_i hc
      simp [hc]
theorem runD_at (l : List UInt8) (k : Nat) (h : k < l.length) : runD (l.drop k) = if dig l[k] then runD (l.drop (k + 1)) + 1 else 0 := by
  rw [List.drop_eq_getElem_cons h, runD_cons]
theorem lz_at (l : List UInt8) (k : Nat) (h : k < l.length) : lz (l.drop k) = if l[k] == 48 then lz (l.drop (k + 1)) + 1 else 0 := by
  rw [List.drop_eq_getElem_cons h, lz_cons]

end Go.Proofs.Qxb6602005aDoor
