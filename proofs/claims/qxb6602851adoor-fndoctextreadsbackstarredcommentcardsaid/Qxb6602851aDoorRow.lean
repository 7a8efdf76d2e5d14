import Derived.Test.Qxb6602851aDoorDoc
import Derived.Test.Qxb6602851aDoorCut
import Derived.Deep.CutBlock
namespace Go.Proofs.Qxb6602851aDoor
open Go.RowKit
set_option linter.unusedSimpArgs false
set_option maxRecDepth 100000

def B (x : UInt8) : Value := .int .u8 (x.toNat : Int)
def cellsB (bs : List UInt8) : List Value := bs.map B
theorem Tryd.info5 : (Tryd.prog.info? 5).map (fun i => (i.zero, i.size, i.bytes)) = some (some (.int .u8 0), 1, 1) := by kernel_rfl

/-- 'string(out)'. -/
theorem back_string (w : World) (base n : Nat) (v : Value) (bs : List UInt8) (h : w.ownsRow base 5 1 v n (cellsB bs)) : (convert 30 9 v).run Tryd.prog w = .ok (.string ⟨bs.toArray⟩) w := by
  have hl : bs.length = n := by simpa [cellsB] using h.1
  rcases h.2 with ⟨rfl, rfl⟩ | ⟨g, cap, cur, rfl, _, _, _, _, _, _⟩
  · have e : bs = [] := List.length_eq_zero_iff.1 hl
    subst e
    rw [run_convert_bytes_string w 30 9 5 none 0 0 Tryd.underlying30 Tryd.underlying5 Tryd.underlying9]
    rfl
  · subst hl
    refine run_convert_bytes_back w 30 9 5 ⟨g, 0, none⟩ cap bs Tryd.underlying30 Tryd.underlying5 Tryd.underlying9 (fun j hj => ?_)
    have := h.cellAt j (by omega)
    rw [Go.WideShapes.add_plain, Nat.zero_add, this]
    simp [cellsB, hj, B]

theorem byte_ne (x : UInt8) (n : Nat) (hn : n < 256) : (x ≠ UInt8.ofNat n) = ((x.toNat : Int) ≠ n) := by
  apply propext
  rw [ne_eq, ← UInt8.toNat_inj]
  simp
  omega
theorem byte_is (x : UInt8) (n : Nat) (hn : n < 256) (h : (x.toNat : Int) = n) : x = UInt8.ofNat n := by
  rw [← UInt8.toNat_inj]
  simp
  omega
theorem has2 (x : UInt8) : ([32, 9] : List UInt8).contains x = (((x.toNat : Int) == 32) || ((x.toNat : Int) == 9)) := by
  have h1 : (x == 32) = ((x.toNat : Int) == 32) := by rw [Bool.eq_iff_iff, beq_iff_eq, beq_iff_eq, ← UInt8.toNat_inj]; simp; omega
  have h2 : (x == 9) = ((x.toNat : Int) == 9) := by rw [Bool.eq_iff_iff, beq_iff_eq, beq_iff_eq, ← UInt8.toNat_inj]; simp; omega
  rw [← h1, ← h2]
  simp [List.contains, List.elem]
  cases x == 32 <;> cases x == 9 <;> rfl
theorem has3 (x : UInt8) : ([32, 9, 13] : List UInt8).contains x = (((x.toNat : Int) == 32) || ((x.toNat : Int) == 9) || ((x.toNat : Int) == 13)) := by
  have h1 : (x == 32) = ((x.toNat : Int) == 32) := by rw [Bool.eq_iff_iff, beq_iff_eq, beq_iff_eq, ← UInt8.toNat_inj]; simp; omega
  have h2 : (x == 9) = ((x.toNat : Int) == 9) := by rw [Bool.eq_iff_iff, beq_iff_eq, beq_iff_eq, ← UInt8.toNat_inj]; simp; omega
  have h3 : (x == 13) = ((x.toNat : Int) == 13) := by rw [Bool.eq_iff_iff, beq_iff_eq, beq_iff_eq, ← UInt8.toNat_inj]; simp; omega
  rw [← h1, ← h2, ← h3]
  simp [List.contains, List.elem]
  cases x == 32 <;> cases x == 9 <;> cases x == 13 <;> rfl

/-- The row holds O, and all else is as it was. -/
def RG (w : World) (O : List UInt8) (v : Value) (wx : World) : Prop := wx.ownsRow w.heap.size 5 1 v O.length (cellsB O) ∧ Below w.heap.size w wx

theorem cellsB_ten (O : List UInt8) : cellsB O ++ [.int .u8 10] = cellsB (O ++ [10]) := by
  simp [cellsB, B]
theorem rep_next (O : List UInt8) (k : Nat) : O ++ List.replicate (k + 1) (10 : UInt8) = (O ++ List.replicate k 10) ++ [10] := by
  rw [List.replicate_succ', List.append_assoc]
theorem cellsB_snoc (O : List UInt8) (x : UInt8) (n : Nat) (hn : x.toNat = n) : cellsB O ++ [.int .u8 (n : Int)] = cellsB (O ++ [x]) := by
  subst hn
  simp [cellsB, B]

end Go.Proofs.Qxb6602851aDoor
