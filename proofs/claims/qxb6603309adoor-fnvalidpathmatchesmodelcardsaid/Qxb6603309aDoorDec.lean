import Derived.Test.Qxb6603309aDoorValid
import Derived.Lib.DecodeNEq
import Derived.Laws.BitsLemmas
import Derived.Deep.DeepFit
namespace Go.Proofs.Qxb6603309aDoor
open Go.RowKit
set_option linter.unusedSimpArgs false
set_option linter.unusedVariables false
set_option maxRecDepth 100000

theorem get_of_lt (s : ByteArray) (k : Nat) (h : k < s.size) : s.get! k = s[k]'h := by
  cases s with
  | mk d => exact getElem!_pos d k h

def Post14 (s : ByteArray) (i : Nat) (w : World) (e : Ending) (w' : World) : Prop :=
  ∃ (r : Int) (k : Nat), e = .returned (.tuple #[.int .i32 r, .int .i64 k]) ∧ Below w.heap.size w w' ∧ ((r = -1 ∧ forb (Utf8.decode s i).1 = true) ∨ (r = ((Utf8.decode s i).1 : Int) ∧ k = (Utf8.decode s i).2))

set_option maxHeartbeats 400000 in
theorem cont_calls (x : Nat) (w : World) : Calls Tryd.prog 19 #[.int .u8 (x : Int)] w fun e w' => e = .returned (.bool (decide (128 ≤ x ∧ x ≤ 191))) ∧ w' = w := by
  by_cases h1 : 128 ≤ x
  · by_cases h2 : x ≤ 191
    · have k1 : (128 : Int) ≤ (x : Int) := by omega
      have k2 : (x : Int) ≤ 191 := by omega
      have e : decide (128 ≤ x ∧ x ≤ 191) = true := decide_eq_true ⟨h1, h2⟩
      rw [e]
      go_enter Tryd.func19, Tryd.ntmps19
      go_wp2
      go_ret
      exact ⟨rfl, rfl⟩
    · have k1 : (128 : Int) ≤ (x : Int) := by omega
      have k2 : ¬ (x : Int) ≤ 191 := by omega
      have e : decide (128 ≤ x ∧ x ≤ 191) = false := decide_eq_false (by omega)
      rw [e]
      go_enter Tryd.func19, Tryd.ntmps19
      go_wp2
      go_ret
      exact ⟨rfl, rfl⟩
  · have k1 : ¬ (128 : Int) ≤ (x : Int) := by omega
    have e : decide (128 ≤ x ∧ x ≤ 191) = false := decide_eq_false (by omega)
    rw [e]
    go_enter Tryd.func19, Tryd.ntmps19
    go_wp2
    go_ret
    exact ⟨rfl, rfl⟩

set_option maxHeartbeats 400000 in
theorem dec_A (s : ByteArray) (i : Nat) (hi : i < s.size) (hs : s.size ≤ 4194304) (w : World) (h0 : s[i].toNat < 128) : Calls Tryd.prog 14 #[.string s, .int .i64 (i : Int)] w fun e w' => Post14 s i w e w' := by
  have HD := hide (decode_ascii s i hi h0)
  generalize hx : s[i].toNat = x0 at *
  have hi' : (i : Int) < (s.size : Int) := by omega
  have k0 : (x0 : Int) < 128 := by omega
  go_enter Tryd.func14, Tryd.ntmps14
  go_wp2
  go_ret2
  refine ⟨_, 1, rfl, Below.refl _ _, .inr ?_⟩
  rw [HD.out]
  exact ⟨rfl, rfl⟩

set_option maxHeartbeats 400000 in
theorem dec_B (s : ByteArray) (i : Nat) (hi : i < s.size) (hs : s.size ≤ 4194304) (w : World) (h0 : 128 ≤ s[i].toNat) (h1 : s[i].toNat < 194 ∨ 244 < s[i].toNat) : Calls Tryd.prog 14 #[.string s, .int .i64 (i : Int)] w fun e w' => Post14 s i w e w' := by
  have l0 := s[i].toNat_lt
  have HD : Hid (Utf8.decode s i = (65533, 1)) := by
    show _ = _
    rw [Lib.decode_at, get_of_lt s i hi]
    refine Lib.bad_eq _ _ _ _ _ (by omega) ?_
    unfold Lib.firstT
    repeat' split
    all_goals omega
  generalize hx : s[i].toNat = x0 at *
  have hi' : (i : Int) < (s.size : Int) := by omega
  have k0 : ¬ (x0 : Int) < 128 := by omega
  rcases h1 with h1 | h1
  · have k1 : (x0 : Int) < 194 := by omega
    go_enter Tryd.func14, Tryd.ntmps14
    go_wp2
    go_ret2
    refine ⟨_, 1, rfl, Below.refl _ _, .inl ?_⟩
    rw [HD.out]
    exact ⟨rfl, rfl⟩
  · have k1 : ¬ (x0 : Int) < 194 := by omega
    have k2 : (244 : Int) < (x0 : Int) := by omega
    go_enter Tryd.func14, Tryd.ntmps14
    go_wp2
    go_ret2
    refine ⟨_, 1, rfl, Below.refl _ _, .inl ?_⟩
    rw [HD.out]
    exact ⟨rfl, rfl⟩

set_option maxHeartbeats 800000 in
theorem dec_C (s : ByteArray) (i : Nat) (hi : i < s.size) (hs : s.size ≤ 4194304) (w : World) (h0 : 194 ≤ s[i].toNat ∧ s[i].toNat < 224) : Calls Tryd.prog 14 #[.string s, .int .i64 (i : Int)] w fun e w' => Post14 s i w e w' := by
  have HK : Hid (∀ (x : Nat) (w : World), Calls Tryd.prog 19 #[.int .u8 (x : Int)] w fun e w' => e = .returned (.bool (decide (128 ≤ x ∧ x ≤ 191))) ∧ w' = w) := cont_calls
  have l0 := s[i].toNat_lt
  have l1 := (s.get! (i + 1)).toNat_lt
  have HD : Hid (Utf8.decode s i = Lib.slowN (s.size - i) s[i].toNat (s.get! (i + 1)).toNat (s.get! (i + 2)).toNat (s.get! (i + 3)).toNat 2 128 191) := by
    show _ = _
    rw [Lib.decode_at, get_of_lt s i hi]
    exact (Lib.slow_C2 _ _ _ _ _ (by omega) (s.get! (i + 1)).toNat_lt (s.get! (i + 2)).toNat_lt (s.get! (i + 3)).toNat_lt h0).symm
  have H1 : Hid (∀ h : i + 1 < s.size, s[i + 1].toNat = (s.get! (i + 1)).toNat) := fun h => by rw [get_of_lt s _ h]
  generalize hx : s[i].toNat = x0 at *
  generalize (s.get! (i + 1)).toNat = x1 at *
  generalize (s.get! (i + 2)).toNat = x2 at *
  generalize (s.get! (i + 3)).toNat = x3 at *
  have hi' : (i : Int) < (s.size : Int) := by omega
  have k0 : ¬ (x0 : Int) < 128 := by omega
  have k1 : ¬ (x0 : Int) < 194 := by omega
  have k2 : ¬ (244 : Int) < (x0 : Int) := by omega
  have k3 : (x0 : Int) < 224 := by omega
  have hx0 : s[i].toNat = x0 := hx
  by_cases hn : i + 1 < s.size
  · have n1 : (i : Int) + 1 < (s.size : Int) := by omega
    have n1' : ¬ (s.size : Int) ≤ (i : Int) + 1 := by omega
    have hx1 := H1.out hn
    have e1 : ((i : Int) + 1).toNat = i + 1 := by omega
    cases hc : decide (128 ≤ x1 ∧ x1 ≤ 191)
    · have HF : Hid (Utf8.decode s i = (65533, 1)) := by
        show _ = _
        have hc' := of_decide_eq_false hc
        rw [HD.out, Lib.slowN, if_neg (by omega), if_pos (by omega)]
      have HK1 := hide (HK.out x1 w)
      rw [hc] at HK1
      go_enter Tryd.func14, Tryd.ntmps14
      go_wp2_with (go_at_call 19; refine (HK1.out).mono ?_; rintro e w' ⟨rfl, hw⟩; rw [hw]; clear hw)
      go_ret2
      refine ⟨_, 1, rfl, Below.refl _ _, .inl ?_⟩
      rw [HF.out]
      exact ⟨rfl, rfl⟩
    · have HF : Hid (Utf8.decode s i = (x0 % 32 * 64 + x1 % 64, 2)) := by
        show _ = _
        have hc' := of_decide_eq_true hc
        rw [HD.out, Lib.slowN, if_neg (by omega), if_neg (by omega), if_pos (by omega)]
      have HK1 := hide (HK.out x1 w)
      rw [hc] at HK1
      go_enter Tryd.func14, Tryd.ntmps14
      go_wp2_with (go_at_call 19; refine (HK1.out).mono ?_; rintro e w' ⟨rfl, hw⟩; rw [hw]; clear hw)
      go_ret2
      refine ⟨_, 2, rfl, Below.refl _ _, .inr ?_⟩
      rw [HF.out]
      refine ⟨?_, rfl⟩
      simp
  · have n1 : (s.size : Int) ≤ (i : Int) + 1 := by omega
    have HF : Hid (Utf8.decode s i = (65533, 1)) := by
      show _ = _
      rw [HD.out, Lib.slowN, if_pos (by omega)]
    go_enter Tryd.func14, Tryd.ntmps14
    go_wp2
    go_ret2
    refine ⟨_, 1, rfl, Below.refl _ _, .inl ?_⟩
    rw [HF.out]
    exact ⟨rfl, rfl⟩
end Go.Proofs.Qxb6603309aDoor
