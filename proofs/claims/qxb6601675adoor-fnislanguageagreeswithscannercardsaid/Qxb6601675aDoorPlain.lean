namespace Go.Proofs.Qxb6601675aDoor

/-- An ASCII letter. -/
def letter (c : Nat) : Bool := (97 ≤ c && c ≤ 122) || (65 ≤ c && c ≤ 90)
def digit (c : Nat) : Bool := 48 ≤ c && c ≤ 57

/-- The automaton. -/
def scan : List UInt8 → Bool → Nat → Bool
  | [], _, n => decide (0 < n)
  | c :: r, first, n =>
    if c.toNat = 45 then (if n = 0 then false else scan r false 0)
    else if 8 < n + 1 then false
    else if letter c.toNat then scan r first (n + 1)
    else if !first && digit c.toNat then scan r first (n + 1)
    else false

/-- One byte of a tag. -/
def tagByte (first : Bool) (c : UInt8) : Bool := letter c.toNat || (!first && digit c.toNat)
/-- One tag. -/
def tagOk (first : Bool) (t : List UInt8) : Bool := decide (1 ≤ t.length) && decide (t.length ≤ 8) && t.all (tagByte first)
/-- The tags in their order: the first, then the others. -/
def isLang : Bool → List (List UInt8) → Bool
  | _, [] => true
  | first, t :: r => tagOk first t && isLang false r

end Go.Proofs.Qxb6601675aDoor
