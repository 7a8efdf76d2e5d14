import Derived.Test.Qxb6602005aDoorBase
namespace Go.Proofs.Qxb6602005aDoor
open Go.RowKit

def cutP (p : Option Addr) (c l : Nat) : Option Addr := if c = l then p else p.map (·.add l)

theorem cutP_bytes {w : World} {p : Option Addr} {n c l h : Nat} {bs : List UInt8} (hlh : l ≤ h) (hh : h ≤ n) (hnc : n ≤ c) (hb : bs.length = n) (hw : Lib.BytesAt w p n bs) : Lib.BytesAt w (cutP p c l) (h - l) ((bs.take h).drop l) := by
  intro h0
  obtain ⟨b, o, rfl, hc⟩ := hw (by omega)
  refine ⟨b, o + l, ?_, fun i hi => ?_⟩
  · unfold cutP
    rw [if_neg (by omega)]
    show some ((⟨b, o, none⟩ : Addr).add l) = _
    rw [Go.WideShapes.add_plain]
  · have := hc (l + i) (by omega)
    rw [show o + l + i = o + (l + i) by omega, this, Lib.getD_lt_sl _ _ _ (by omega), Lib.getD_lt_sl _ _ _ (by simp; omega)]
    simp

theorem cutP_block {p : Option Addr} {c l b o : Nat} {s : Option Nat} (h : cutP p c l = some ⟨b, o, s⟩) : ∃ o' s', p = some ⟨b, o', s'⟩ := by
  unfold cutP at h
  split at h
  · exact ⟨_, _, h⟩
  · cases p with
    | none => cases h
    | some a =>
      obtain ⟨b', o', s'⟩ := a
      have h2 : (⟨b', o', s'⟩ : Addr).add l = ⟨b, o, s⟩ := by simpa using h
      have h3 := congrArg Addr.block h2
      have h4 : ((⟨b', o', s'⟩ : Addr).add l).block = b' := by
        unfold Addr.add
        split <;> rfl
      rw [h4] at h3
      exact ⟨o', s', by rw [h3]⟩

theorem elem22 : Tryd.prog.elem 22 = 5 := by kernel_rfl

theorem run_from (p : Option Addr) (n c l : Nat) (li : Int) (e : li = l) (hl : l ≤ n) (w : World) : (Instr.slice 22 (.slice p n c) (some (.int .i64 li)) none none).run Tryd.prog w = .ok (.slice (cutP p c l) (n - l) (c - l)) w := by
  subst e
  rw [run_slice_l w 22 p n c (by rw [elem22]; exact Tryd.underlying22) .i64 l (by omega) (by omega), elem22, Tryd.sizeOf5]
  simp [Result.andThen, sliced, cutP]
theorem run_to (p : Option Addr) (n c h : Nat) (hi : Int) (e : hi = h) (hl : h ≤ c) (w : World) : (Instr.slice 22 (.slice p n c) none (some (.int .i64 hi)) none).run Tryd.prog w = .ok (.slice p h c) w := by
  subst e
  rw [run_slice_h w 22 p n c (by rw [elem22]; exact Tryd.underlying22) .i64 h (by omega) (by omega), elem22, Tryd.sizeOf5]
  simp only [Result.andThen, sliced, Nat.zero_mul, Nat.sub_zero, Int.toNat_natCast]
  cases p with
  | none => simp
  | some a => simp [Addr.add]
theorem run_mid (p : Option Addr) (n c l h : Nat) (li hi : Int) (e : li = l) (e2 : hi = h) (hl : l ≤ h) (hh : h ≤ c) (w : World) : (Instr.slice 22 (.slice p n c) (some (.int .i64 li)) (some (.int .i64 hi)) none).run Tryd.prog w = .ok (.slice (cutP p c l) (h - l) (c - l)) w := by
  subst e; subst e2
  rw [run_slice_lh w 22 p n c (by rw [elem22]; exact Tryd.underlying22) .i64 .i64 l h (by omega) (by omega) (by omega), elem22, Tryd.sizeOf5]
  simp [Result.andThen, sliced, cutP]

theorem leftV_is (p : Option Addr) (n c j : Nat) : Lib.leftV p n c j = if j = n then .slice none 0 0 else .slice (cutP p c j) (n - j) (c - j) := rfl

end Go.Proofs.Qxb6602005aDoor
