import Derived.Test.Qxb6603309aDoorZZ
import Derived.Test.Qxb6603309aDoorLaw
namespace Go.Proofs.Qxb6603309aDoor
open Go.RowKit
set_option linter.unusedSimpArgs false
set_option linter.unusedVariables false
set_option maxRecDepth 100000

set_option maxHeartbeats 400000 in
theorem slash_calls (x : ByteArray) (hx : x.size ≤ 4194304) (hno : ∀ i (h : i < x.size), (x[i].toNat : Int) ≠ 47) (w : World) :
    Calls Tryd.prog 12 #[.string x] w fun e w' => e = .returned (.bool false) ∧ w' = w := by
  have Hno := hide hno
  clear hno
  go_enter Tryd.func12, Tryd.ntmps12
  go_wp2
  go_loop [3] (fun v => ∃ k : Nat, v = .int .i64 k ∧ k ≤ x.size) (fun v => x.size - (intOf v).toNat)
  case atStart => exact ⟨0, rfl, by omega⟩
  case round =>
    obtain ⟨k, rfl, hk⟩ := hrel
    rcases Nat.lt_or_ge k x.size with hlt | hge
    · have hlt' : (k : Int) < (x.size : Int) := by omega
      have hne : ((x[k].toNat : Int) == 47) = false := by
        rw [beq_eq_false_iff_ne]
        exact Hno.out k hlt
      go_wp2_with fail
      go_round
      case rel => exact ⟨k + 1, by go_num, by omega⟩
      case measure => simp [intOf]; omega
    · have hlt' : ¬ (k : Int) < (x.size : Int) := by omega
      go_wp2_with fail
      go_ret
      exact ⟨rfl, rfl⟩

set_option maxHeartbeats 800000 in
theorem split_calls (s : ByteArray) (hs : s.size ≤ 4194304) (i : Nat) (hi : i < s.size) (hli : Lib.lastIndexByte s 47 = (i : Int)) (w : World) :
    Calls Tryd.prog 16 #[.string s] w fun e w' => e = .returned (.tuple #[.string (if i = 0 then ⟨#[47]⟩ else s.extract 0 i), .string (s.extract (i + 1) s.size)]) ∧ Below w.heap.size w w' := by
  have HC := hide (Tryd.strings_LastIndexByte s 47 (by omega) w)
  rw [hli] at HC
  clear hli
  by_cases h0 : i = 0
  · subst h0
    have hi' : (1 : Int) ≤ (s.size : Int) := by omega
    go_enter Tryd.func16, Tryd.ntmps16
    go_wp2_with (go_at_call 20; refine (HC.out).mono ?_; rintro e w' ⟨rfl, hw⟩; rw [hw]; clear hw)
    go_quiet (fail)
    go_wp2_with fail
    go_ret2
    exact ⟨by simp, below_drewN (Below.refl _ _) _⟩
  · have h0' : ((i : Int) == 0) = false := by rw [beq_eq_false_iff_ne]; omega
    have hi1 : (i : Int) ≤ (s.size : Int) := by omega
    have hi2 : (i : Int) + 1 ≤ (s.size : Int) := by omega
    have hi3 : (0 : Int) ≤ (i : Int) := by omega
    have hi4 : (0 : Int) ≤ (i : Int) + 1 := by omega
    have e1 : ((i : Int) + 1).toNat = i + 1 := by omega
    rw [if_neg h0]
    go_enter Tryd.func16, Tryd.ntmps16
    go_wp2_with (go_at_call 20; refine (HC.out).mono ?_; rintro e w' ⟨rfl, hw⟩; rw [hw]; clear hw)
    go_quiet (fail)
    go_wp2_with fail
    go_ret2
    exact ⟨by simp [e1], below_drewN (Below.refl _ _) _⟩

set_option maxHeartbeats 400000 in
theorem zzsplit_calls (s : ByteArray) (hs : s.size ≤ 4194304) (i : Nat) (hi : i < s.size) (hli : Lib.lastIndexByte s 47 = (i : Int)) (w : World) :
    Calls Tryd.prog 11 #[.string s] w fun e w' => e = .returned (.tuple #[.string (if i = 0 then ⟨#[47]⟩ else s.extract 0 i), .string (s.extract (i + 1) s.size)]) ∧ Below w.heap.size w w' := by
  have HC := hide (split_calls s hs i hi hli w)
  clear hli
  generalize (if i = 0 then (⟨#[47]⟩ : ByteArray) else s.extract 0 i) = D at *
  generalize s.extract (i + 1) s.size = N at *
  go_enter Tryd.func11, Tryd.ntmps11
  go_wp2_with (go_at_call 16; refine (HC.out).mono ?_; rintro e w' ⟨rfl, hB⟩)
  go_ret2
  exact ⟨rfl, hB⟩
end Go.Proofs.Qxb6603309aDoor
