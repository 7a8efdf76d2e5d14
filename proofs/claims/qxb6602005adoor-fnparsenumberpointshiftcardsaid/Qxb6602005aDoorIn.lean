import Derived.Test.Qxb6602005aDoorMatch
import Derived.ProofKit
import Derived.OpenShut
namespace Go.Proofs.Qxb6602005aDoor
open Go.ChangeShapes Go.WideShapes Go.ChangeAt Go.RowKit

theorem own : ownKnob Tryd.prog.godebug = none := by kernel_rfl
theorem laidOut : laidOutB Tryd.prog = true := by kernel_rfl

/-- A slice of bytes as it came in: nil, or a row of 'cap' cells. -/
def IsRow (k : IntKind) (w : World) (a : Option Addr) (len cap : Nat) (zs : List Int) : Prop :=
  (a = none ∧ len = 0 ∧ cap = 0 ∧ zs = []) ∨
  ∃ x, a = some x ∧ len ≤ cap ∧ cap ≤ maxLen ∧ zs.length = cap ∧ (∀ i, i < zs.length → w.cell? (x.add i) = some (.int k (zs.getD i 0))) ∧ ∀ n ∈ zs, (Lit.int k n).wf = true

theorem In_of_row {w : World} {a : Option Addr} {len cap : Nat} {zs : List Int} (h : IsRow .u8 w a len cap zs) : In w a len cap (Lib.bytesOf (zs.take len)) := by
  rcases h with ⟨rfl, rfl, rfl, rfl⟩ | ⟨x, rfl, hl, hm, hz, hc, hw⟩
  · exact ⟨rfl, fun h => absurd h (by omega), fun _ => ⟨rfl, rfl⟩, fun _ _ _ _ e => by cases e⟩
  · have hlen : (zs.take len).length = len := by rw [List.length_take]; omega
    obtain ⟨b, o, s⟩ := x
    have hspot : 0 < len → s = none := fun h0 => by
      have := World.cell?_spot (hc 0 (by omega))
      simpa [Addr.add] using this
    refine ⟨by simp [Lib.bytesOf]; omega, fun h0 => ⟨b, o, by rw [hspot h0], fun i hi => ?_⟩, (fun e => by cases e), fun b' o' s' h0 e => ?_⟩
    · have h1 := hc i (by omega)
      have hs := hspot h0
      subst hs
      rw [add_plain] at h1
      rw [h1]
      have hwf := hw (zs.getD i 0) (by rw [Lib.getD_lt_sl _ _ _ (by omega)]; exact List.getElem_mem _)
      have hb := bounds_u8 hwf
      have e1 : ((Lib.bytesOf (zs.take len)).getD i 0).toNat = (zs.getD i 0).toNat := by
        unfold Lib.bytesOf
        rw [Lib.getD_lt_sl _ _ _ (by simp; omega), List.getElem_map, List.getElem_take]
        rw [Lib.getD_lt_sl _ _ _ (by omega)] at hb ⊢
        simp only [UInt8.toNat_ofNat']
        omega
      rw [e1]
      congr 2
      omega
    · cases e
      have h1 := hc 0 (by omega)
      exact World.block_lt_of_cell? w (⟨b, o, s⟩ : Addr) (by simpa [Addr.add] using h1)

end Go.Proofs.Qxb6602005aDoor
