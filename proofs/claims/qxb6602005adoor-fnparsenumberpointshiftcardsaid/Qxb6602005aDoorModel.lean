import Derived.Test.Qxb6602005aDoorPlain
namespace Go.Proofs.Qxb6602005aDoor
open Go

/-- The recogniser's variables. -/
structure St where
  st : Nat
  is : Nat
  ie : Nat
  fs : Nat
  fe : Nat
  es : Nat
  en : Bool
  ng : Bool

def isE (c : UInt8) : Bool := c == 101 || c == 69

def step (i : Nat) (c : UInt8) (s : St) : Option St :=
  if s.st = 0 then (if c == 45 then some { s with ng := true, st := 1 } else if dig c then some { s with is := i, st := 2 } else none)
  else if s.st = 1 then (if dig c then some { s with is := i, st := 2 } else none)
  else if s.st = 2 then (if c == 46 then some { s with ie := i, st := 3 } else if isE c then some { s with ie := i, st := 5 } else if dig c then some s else none)
  else if s.st = 3 then (if dig c then some { s with fs := i, st := 4 } else none)
  else if s.st = 4 then (if isE c then some { s with fe := i, st := 5 } else if dig c then some s else none)
  else if s.st = 5 then (if c == 43 then some { s with st := 6 } else if c == 45 then some { s with en := true, st := 6 } else if dig c then some { s with es := i, st := 7 } else none)
  else if s.st = 6 then (if dig c then some { s with es := i, st := 7 } else none)
  else if dig c then some s else none

def runM : Nat → List UInt8 → St → Option St
  | _, [], s => some s
  | i, c :: r, s => match step i c s with
    | none => none
    | some s' => runM (i + 1) r s'

def S0 : St := ⟨0, 0, 0, 0, 0, 0, false, false⟩

structure Inv (k : Nat) (s : St) : Prop where
  st : s.st ≤ 7
  is : s.is ≤ k
  ie : s.ie ≤ k
  fs : s.fs ≤ k
  fe : s.fe ≤ k
  es : s.es ≤ k
  a : 3 ≤ s.st → s.is ≤ s.ie
  b : s.st ≠ 4 → s.fs ≤ s.fe

theorem step_inv {k : Nat} {c : UInt8} {s s' : St} (h : Inv k s) (e : step k c s = some s') : Inv (k + 1) s' := by
  obtain ⟨h1, h2, h3, h4, h5, h6, h7, h8⟩ := h
  obtain ⟨st, is, ie, fs, fe, es, en, ng⟩ := s
  simp only at h1 h2 h3 h4 h5 h6 h7 h8
  unfold step at e
  simp only at e
  repeat' split at e
  all_goals first
    | (cases e; done)
    | (simp only [Option.some.injEq] at e
       subst e
       constructor <;> simp only <;> omega)

structure Mod where
  ok : Bool
  neg : Bool
  ip : List UInt8
  fp : List UInt8
  wr : Int

def failM : Mod := ⟨false, false, [], [], 0⟩
def cutL (t : List UInt8) (a b : Nat) : List UInt8 := (t.take b).drop a
def valD : Nat → List UInt8 → Nat
  | v, [] => v
  | v, c :: r => valD (v * 10 + (c - 48).toNat) r
def modelExp (e : List UInt8) : Option Nat :=
  if 16 < e.length - lz e then none else if 1000000000000000 < valD 0 (e.drop (lz e)) then none else some (valD 0 (e.drop (lz e)))
def rmEnd (t : List UInt8) (s : St) : Mod :=
  if s.st = 2 then ⟨true, s.ng, cutL t s.is t.length, cutL t s.fs s.fe, 0⟩
  else if s.st = 4 then ⟨true, s.ng, cutL t s.is s.ie, cutL t s.fs t.length, 0⟩
  else if s.st = 7 then (match modelExp (t.drop s.es) with
    | none => failM
    | some v => ⟨true, s.ng, cutL t s.is s.ie, cutL t s.fs s.fe, if s.en then -(v : Int) else (v : Int)⟩)
  else failM
def rmOf (t : List UInt8) : Option St → Mod
  | none => failM
  | some s => rmEnd t s
/-- zzReadModel. -/
def rm (t : List UInt8) : Mod := rmOf t (runM 0 t S0)

theorem valD_at (t : List UInt8) (k v : Nat) (h : k < t.length) : valD v (t.drop k) = valD (v * 10 + (t[k] - 48).toNat) (t.drop (k + 1)) := by
  rw [List.drop_eq_getElem_cons h, valD]
theorem runM_at (t : List UInt8) (k : Nat) (s : St) (h : k < t.length) : runM k (t.drop k) s = match step k t[k] s with | none => none | some s' => runM (k + 1) (t.drop (k + 1)) s' := by
  rw [List.drop_eq_getElem_cons h, runM]
theorem runM_none (t : List UInt8) (k : Nat) (s : St) (h : k < t.length) (e : step k t[k] s = none) : runM k (t.drop k) s = none := by
  rw [runM_at t k s h, e]
theorem runM_some (t : List UInt8) (k : Nat) (s s' : St) (h : k < t.length) (e : step k t[k] s = some s') : runM k (t.drop k) s = runM (k + 1) (t.drop (k + 1)) s' := by
  rw [runM_at t k s h, e]

end Go.Proofs.Qxb6602005aDoor
