import Derived.Test.Qxb6603309aDoorDec
namespace Go.Proofs.Qxb6603309aDoor
open Go.RowKit
set_option linter.unusedSimpArgs false
set_option linter.unusedVariables false
set_option maxRecDepth 100000

set_option maxHeartbeats 1600000 in
theorem dec_F1 (s : ByteArray) (i : Nat) (hi : i < s.size) (hs : s.size ≤ 4194304) (w : World) (h0 : 241 ≤ s[i].toNat ∧ s[i].toNat < 244) : Calls Tryd.prog 14 #[.string s, .int .i64 (i : Int)] w fun e w' => Post14 s i w e w' := by
  have l0 := s[i].toNat_lt
  have l1 := (s.get! (i + 1)).toNat_lt
  have l2 := (s.get! (i + 2)).toNat_lt
  have l3 := (s.get! (i + 3)).toNat_lt
  have HD : Hid (Utf8.decode s i = Lib.slowN (s.size - i) s[i].toNat (s.get! (i + 1)).toNat (s.get! (i + 2)).toNat (s.get! (i + 3)).toNat 4 128 191) := by
    show _ = _
    rw [Lib.decode_at, get_of_lt s i hi]
    exact (Lib.slow_F1 _ _ _ _ _ (by omega) (s.get! (i + 1)).toNat_lt (s.get! (i + 2)).toNat_lt (s.get! (i + 3)).toNat_lt h0).symm
  have H1 : Hid (∀ h : i + 1 < s.size, s[i + 1].toNat = (s.get! (i + 1)).toNat) := fun h => by rw [get_of_lt s _ h]
  have H2 : Hid (∀ h : i + 2 < s.size, s[i + 2].toNat = (s.get! (i + 2)).toNat) := fun h => by rw [get_of_lt s _ h]
  have H3 : Hid (∀ h : i + 3 < s.size, s[i + 3].toNat = (s.get! (i + 3)).toNat) := fun h => by rw [get_of_lt s _ h]
  generalize hx : s[i].toNat = x0 at *
  generalize (s.get! (i + 1)).toNat = x1 at *
  generalize (s.get! (i + 2)).toNat = x2 at *
  generalize (s.get! (i + 3)).toNat = x3 at *
  have hi' : (i : Int) < (s.size : Int) := by omega
  have k0 : ¬ (x0 : Int) < 128 := by omega
  have k1 : ¬ (x0 : Int) < 194 := by omega
  have k2 : ¬ (244 : Int) < (x0 : Int) := by omega
  have k3 : ¬ (x0 : Int) < 224 := by omega
  have k4 : ¬ (x0 : Int) < 240 := by omega
  have k5 : ((x0 : Int) == 240) = false := by simp; omega
  have k6 : ((x0 : Int) == 244) = false := by simp; omega
  have HK1 := hide (cont_calls x2 w)
  have HK2 := hide (cont_calls x3 w)
  have hx0 : s[i].toNat = x0 := hx
  clear hx h0
  by_cases hn : i + 3 < s.size
  · have n3 : (i : Int) + 3 < (s.size : Int) := by omega
    have n3' : ¬ (s.size : Int) ≤ (i : Int) + 3 := by omega
    have n2 : (i : Int) + 2 < (s.size : Int) := by omega
    have n1 : (i : Int) + 1 < (s.size : Int) := by omega
    have hn1 : i + 1 < s.size := by omega
    have hn2 : i + 2 < s.size := by omega
    have hx1 := H1.out hn1
    have hx2 := H2.out hn2
    have hx3 := H3.out hn
    have e1 : ((i : Int) + 1).toNat = i + 1 := by omega
    have e2 : ((i : Int) + 2).toNat = i + 2 := by omega
    have e3 : ((i : Int) + 3).toNat = i + 3 := by omega
    by_cases c1 : x1 < 128
    · have c1' : (x1 : Int) < 128 := by omega
      have HF : Hid (Utf8.decode s i = (65533, 1)) := by
        show _ = _
        rw [HD.out, Lib.slowN, if_neg (by omega), if_pos (by omega)]
      go_enter Tryd.func14, Tryd.ntmps14
      go_wp2_with (first | (go_at_call 19; refine (HK1.out).mono ?_; rintro e w' ⟨rfl, hw⟩; rw [hw]; clear hw) | (go_at_call 19; refine (HK2.out).mono ?_; rintro e w' ⟨rfl, hw⟩; rw [hw]; clear hw))
      go_ret2
      refine ⟨_, 1, rfl, Below.refl _ _, .inl ?_⟩
      rw [HF.out]
      exact ⟨rfl, rfl⟩
    have c1' : ¬ (x1 : Int) < 128 := by omega
    by_cases c2 : 191 < x1
    · have c2' : (191 : Int) < (x1 : Int) := by omega
      have HF : Hid (Utf8.decode s i = (65533, 1)) := by
        show _ = _
        rw [HD.out, Lib.slowN, if_neg (by omega), if_pos (by omega)]
      go_enter Tryd.func14, Tryd.ntmps14
      go_wp2_with (first | (go_at_call 19; refine (HK1.out).mono ?_; rintro e w' ⟨rfl, hw⟩; rw [hw]; clear hw) | (go_at_call 19; refine (HK2.out).mono ?_; rintro e w' ⟨rfl, hw⟩; rw [hw]; clear hw))
      go_ret2
      refine ⟨_, 1, rfl, Below.refl _ _, .inl ?_⟩
      rw [HF.out]
      exact ⟨rfl, rfl⟩
    have c2' : ¬ (191 : Int) < (x1 : Int) := by omega
    cases hc : decide (128 ≤ x2 ∧ x2 ≤ 191)
    · have HF : Hid (Utf8.decode s i = (65533, 1)) := by
        show _ = _
        have hc' := of_decide_eq_false hc
        rw [HD.out, Lib.slowN, if_neg (by omega), if_neg (by omega), if_neg (by omega), if_pos (by omega)]
      rw [hc] at HK1
      go_enter Tryd.func14, Tryd.ntmps14
      go_wp2_with (first | (go_at_call 19; refine (HK1.out).mono ?_; rintro e w' ⟨rfl, hw⟩; rw [hw]; clear hw) | (go_at_call 19; refine (HK2.out).mono ?_; rintro e w' ⟨rfl, hw⟩; rw [hw]; clear hw))
      go_ret2
      refine ⟨_, 1, rfl, Below.refl _ _, .inl ?_⟩
      rw [HF.out]
      exact ⟨rfl, rfl⟩
    rw [hc] at HK1
    have hc2 := of_decide_eq_true hc
    clear hc
    cases hd : decide (128 ≤ x3 ∧ x3 ≤ 191)
    · have HF : Hid (Utf8.decode s i = (65533, 1)) := by
        show _ = _
        have hd' := of_decide_eq_false hd
        rw [HD.out, Lib.slowN, if_neg (by omega), if_neg (by omega), if_neg (by omega), if_neg (by omega), if_neg (by omega), if_pos (by omega)]
      rw [hd] at HK2
      go_enter Tryd.func14, Tryd.ntmps14
      go_wp2_with (first | (go_at_call 19; refine (HK1.out).mono ?_; rintro e w' ⟨rfl, hw⟩; rw [hw]; clear hw) | (go_at_call 19; refine (HK2.out).mono ?_; rintro e w' ⟨rfl, hw⟩; rw [hw]; clear hw))
      go_ret2
      refine ⟨_, 1, rfl, Below.refl _ _, .inl ?_⟩
      rw [HF.out]
      exact ⟨rfl, rfl⟩
    · have HF : Hid (Utf8.decode s i = (x0 % 8 * 262144 + x1 % 64 * 4096 + x2 % 64 * 64 + x3 % 64, 4)) := by
        show _ = _
        have hd' := of_decide_eq_true hd
        rw [HD.out, Lib.slowN, if_neg (by omega), if_neg (by omega), if_neg (by omega), if_neg (by omega), if_neg (by omega), if_neg (by omega)]
      rw [hd] at HK2
      go_enter Tryd.func14, Tryd.ntmps14
      go_wp2_with (first | (go_at_call 19; refine (HK1.out).mono ?_; rintro e w' ⟨rfl, hw⟩; rw [hw]; clear hw) | (go_at_call 19; refine (HK2.out).mono ?_; rintro e w' ⟨rfl, hw⟩; rw [hw]; clear hw))
      go_quiet (fail)
      go_wp2_with fail
      go_ret2
      refine ⟨_, 4, rfl, ?_, .inr ?_⟩
      · exact below_drewN (Below.refl _ _) _
      rw [HF.out]
      refine ⟨?_, rfl⟩
      simp
  · have n1 : (s.size : Int) ≤ (i : Int) + 3 := by omega
    have HF : Hid (Utf8.decode s i = (65533, 1)) := by
      show _ = _
      rw [HD.out, Lib.slowN, if_pos (by omega)]
    go_enter Tryd.func14, Tryd.ntmps14
    go_wp2
    go_ret2
    refine ⟨_, 1, rfl, Below.refl _ _, .inl ?_⟩
    rw [HF.out]
    exact ⟨rfl, rfl⟩

set_option maxHeartbeats 1600000 in
theorem dec_F0 (s : ByteArray) (i : Nat) (hi : i < s.size) (hs : s.size ≤ 4194304) (w : World) (h0 : s[i].toNat = 240) : Calls Tryd.prog 14 #[.string s, .int .i64 (i : Int)] w fun e w' => Post14 s i w e w' := by
  have l0 := s[i].toNat_lt
  have l1 := (s.get! (i + 1)).toNat_lt
  have l2 := (s.get! (i + 2)).toNat_lt
  have l3 := (s.get! (i + 3)).toNat_lt
  have HD : Hid (Utf8.decode s i = Lib.slowN (s.size - i) s[i].toNat (s.get! (i + 1)).toNat (s.get! (i + 2)).toNat (s.get! (i + 3)).toNat 4 144 191) := by
    show _ = _
    rw [Lib.decode_at, get_of_lt s i hi]
    exact (Lib.slow_F0 _ _ _ _ _ (by omega) (s.get! (i + 1)).toNat_lt (s.get! (i + 2)).toNat_lt (s.get! (i + 3)).toNat_lt h0).symm
  have H1 : Hid (∀ h : i + 1 < s.size, s[i + 1].toNat = (s.get! (i + 1)).toNat) := fun h => by rw [get_of_lt s _ h]
  have H2 : Hid (∀ h : i + 2 < s.size, s[i + 2].toNat = (s.get! (i + 2)).toNat) := fun h => by rw [get_of_lt s _ h]
  have H3 : Hid (∀ h : i + 3 < s.size, s[i + 3].toNat = (s.get! (i + 3)).toNat) := fun h => by rw [get_of_lt s _ h]
  generalize hx : s[i].toNat = x0 at *
  generalize (s.get! (i + 1)).toNat = x1 at *
  generalize (s.get! (i + 2)).toNat = x2 at *
  generalize (s.get! (i + 3)).toNat = x3 at *
  have hi' : (i : Int) < (s.size : Int) := by omega
  have k0 : ¬ (x0 : Int) < 128 := by omega
  have k1 : ¬ (x0 : Int) < 194 := by omega
  have k2 : ¬ (244 : Int) < (x0 : Int) := by omega
  have k3 : ¬ (x0 : Int) < 224 := by omega
  have k4 : ¬ (x0 : Int) < 240 := by omega
  have k5 : ((x0 : Int) == 240) = true := by simp; omega
  have k6 : ((x0 : Int) == 244) = false := by simp; omega
  have HK1 := hide (cont_calls x2 w)
  have HK2 := hide (cont_calls x3 w)
  have hx0 : s[i].toNat = x0 := hx
  clear hx h0
  by_cases hn : i + 3 < s.size
  · have n3 : (i : Int) + 3 < (s.size : Int) := by omega
    have n3' : ¬ (s.size : Int) ≤ (i : Int) + 3 := by omega
    have n2 : (i : Int) + 2 < (s.size : Int) := by omega
    have n1 : (i : Int) + 1 < (s.size : Int) := by omega
    have hn1 : i + 1 < s.size := by omega
    have hn2 : i + 2 < s.size := by omega
    have hx1 := H1.out hn1
    have hx2 := H2.out hn2
    have hx3 := H3.out hn
    have e1 : ((i : Int) + 1).toNat = i + 1 := by omega
    have e2 : ((i : Int) + 2).toNat = i + 2 := by omega
    have e3 : ((i : Int) + 3).toNat = i + 3 := by omega
    by_cases c1 : x1 < 144
    · have c1' : (x1 : Int) < 144 := by omega
      have HF : Hid (Utf8.decode s i = (65533, 1)) := by
        show _ = _
        rw [HD.out, Lib.slowN, if_neg (by omega), if_pos (by omega)]
      go_enter Tryd.func14, Tryd.ntmps14
      go_wp2_with (first | (go_at_call 19; refine (HK1.out).mono ?_; rintro e w' ⟨rfl, hw⟩; rw [hw]; clear hw) | (go_at_call 19; refine (HK2.out).mono ?_; rintro e w' ⟨rfl, hw⟩; rw [hw]; clear hw))
      go_ret2
      refine ⟨_, 1, rfl, Below.refl _ _, .inl ?_⟩
      rw [HF.out]
      exact ⟨rfl, rfl⟩
    have c1' : ¬ (x1 : Int) < 144 := by omega
    by_cases c2 : 191 < x1
    · have c2' : (191 : Int) < (x1 : Int) := by omega
      have HF : Hid (Utf8.decode s i = (65533, 1)) := by
        show _ = _
        rw [HD.out, Lib.slowN, if_neg (by omega), if_pos (by omega)]
      go_enter Tryd.func14, Tryd.ntmps14
      go_wp2_with (first | (go_at_call 19; refine (HK1.out).mono ?_; rintro e w' ⟨rfl, hw⟩; rw [hw]; clear hw) | (go_at_call 19; refine (HK2.out).mono ?_; rintro e w' ⟨rfl, hw⟩; rw [hw]; clear hw))
      go_ret2
      refine ⟨_, 1, rfl, Below.refl _ _, .inl ?_⟩
      rw [HF.out]
      exact ⟨rfl, rfl⟩
    have c2' : ¬ (191 : Int) < (x1 : Int) := by omega
    cases hc : decide (128 ≤ x2 ∧ x2 ≤ 191)
    · have HF : Hid (Utf8.decode s i = (65533, 1)) := by
        show _ = _
        have hc' := of_decide_eq_false hc
        rw [HD.out, Lib.slowN, if_neg (by omega), if_neg (by omega), if_neg (by omega), if_pos (by omega)]
      rw [hc] at HK1
      go_enter Tryd.func14, Tryd.ntmps14
      go_wp2_with (first | (go_at_call 19; refine (HK1.out).mono ?_; rintro e w' ⟨rfl, hw⟩; rw [hw]; clear hw) | (go_at_call 19; refine (HK2.out).mono ?_; rintro e w' ⟨rfl, hw⟩; rw [hw]; clear hw))
      go_ret2
      refine ⟨_, 1, rfl, Below.refl _ _, .inl ?_⟩
      rw [HF.out]
      exact ⟨rfl, rfl⟩
    rw [hc] at HK1
    have hc2 := of_decide_eq_true hc
    clear hc
    cases hd : decide (128 ≤ x3 ∧ x3 ≤ 191)
    · have HF : Hid (Utf8.decode s i = (65533, 1)) := by
        show _ = _
        have hd' := of_decide_eq_false hd
        rw [HD.out, Lib.slowN, if_neg (by omega), if_neg (by omega), if_neg (by omega), if_neg (by omega), if_neg (by omega), if_pos (by omega)]
      rw [hd] at HK2
      go_enter Tryd.func14, Tryd.ntmps14
      go_wp2_with (first | (go_at_call 19; refine (HK1.out).mono ?_; rintro e w' ⟨rfl, hw⟩; rw [hw]; clear hw) | (go_at_call 19; refine (HK2.out).mono ?_; rintro e w' ⟨rfl, hw⟩; rw [hw]; clear hw))
      go_ret2
      refine ⟨_, 1, rfl, Below.refl _ _, .inl ?_⟩
      rw [HF.out]
      exact ⟨rfl, rfl⟩
    · have HF : Hid (Utf8.decode s i = (x0 % 8 * 262144 + x1 % 64 * 4096 + x2 % 64 * 64 + x3 % 64, 4)) := by
        show _ = _
        have hd' := of_decide_eq_true hd
        rw [HD.out, Lib.slowN, if_neg (by omega), if_neg (by omega), if_neg (by omega), if_neg (by omega), if_neg (by omega), if_neg (by omega)]
      rw [hd] at HK2
      go_enter Tryd.func14, Tryd.ntmps14
      go_wp2_with (first | (go_at_call 19; refine (HK1.out).mono ?_; rintro e w' ⟨rfl, hw⟩; rw [hw]; clear hw) | (go_at_call 19; refine (HK2.out).mono ?_; rintro e w' ⟨rfl, hw⟩; rw [hw]; clear hw))
      go_quiet (fail)
      go_wp2_with fail
      go_ret2
      refine ⟨_, 4, rfl, ?_, .inr ?_⟩
      · exact below_drewN (Below.refl _ _) _
      rw [HF.out]
      refine ⟨?_, rfl⟩
      simp
  · have n1 : (s.size : Int) ≤ (i : Int) + 3 := by omega
    have HF : Hid (Utf8.decode s i = (65533, 1)) := by
      show _ = _
      rw [HD.out, Lib.slowN, if_pos (by omega)]
    go_enter Tryd.func14, Tryd.ntmps14
    go_wp2
    go_ret2
    refine ⟨_, 1, rfl, Below.refl _ _, .inl ?_⟩
    rw [HF.out]
    exact ⟨rfl, rfl⟩

set_option maxHeartbeats 1600000 in
theorem dec_F4 (s : ByteArray) (i : Nat) (hi : i < s.size) (hs : s.size ≤ 4194304) (w : World) (h0 : s[i].toNat = 244) : Calls Tryd.prog 14 #[.string s, .int .i64 (i : Int)] w fun e w' => Post14 s i w e w' := by
  have l0 := s[i].toNat_lt
  have l1 := (s.get! (i + 1)).toNat_lt
  have l2 := (s.get! (i + 2)).toNat_lt
  have l3 := (s.get! (i + 3)).toNat_lt
  have HD : Hid (Utf8.decode s i = Lib.slowN (s.size - i) s[i].toNat (s.get! (i + 1)).toNat (s.get! (i + 2)).toNat (s.get! (i + 3)).toNat 4 128 143) := by
    show _ = _
    rw [Lib.decode_at, get_of_lt s i hi]
    exact (Lib.slow_F4 _ _ _ _ _ (by omega) (s.get! (i + 1)).toNat_lt (s.get! (i + 2)).toNat_lt (s.get! (i + 3)).toNat_lt h0).symm
  have H1 : Hid (∀ h : i + 1 < s.size, s[i + 1].toNat = (s.get! (i + 1)).toNat) := fun h => by rw [get_of_lt s _ h]
  have H2 : Hid (∀ h : i + 2 < s.size, s[i + 2].toNat = (s.get! (i + 2)).toNat) := fun h => by rw [get_of_lt s _ h]
  have H3 : Hid (∀ h : i + 3 < s.size, s[i + 3].toNat = (s.get! (i + 3)).toNat) := fun h => by rw [get_of_lt s _ h]
  generalize hx : s[i].toNat = x0 at *
  generalize (s.get! (i + 1)).toNat = x1 at *
  generalize (s.get! (i + 2)).toNat = x2 at *
  generalize (s.get! (i + 3)).toNat = x3 at *
  have hi' : (i : Int) < (s.size : Int) := by omega
  have k0 : ¬ (x0 : Int) < 128 := by omega
  have k1 : ¬ (x0 : Int) < 194 := by omega
  have k2 : ¬ (244 : Int) < (x0 : Int) := by omega
  have k3 : ¬ (x0 : Int) < 224 := by omega
  have k4 : ¬ (x0 : Int) < 240 := by omega
  have k5 : ((x0 : Int) == 240) = false := by simp; omega
  have k6 : ((x0 : Int) == 244) = true := by simp; omega
  have HK1 := hide (cont_calls x2 w)
  have HK2 := hide (cont_calls x3 w)
  have hx0 : s[i].toNat = x0 := hx
  clear hx h0
  by_cases hn : i + 3 < s.size
  · have n3 : (i : Int) + 3 < (s.size : Int) := by omega
    have n3' : ¬ (s.size : Int) ≤ (i : Int) + 3 := by omega
    have n2 : (i : Int) + 2 < (s.size : Int) := by omega
    have n1 : (i : Int) + 1 < (s.size : Int) := by omega
    have hn1 : i + 1 < s.size := by omega
    have hn2 : i + 2 < s.size := by omega
    have hx1 := H1.out hn1
    have hx2 := H2.out hn2
    have hx3 := H3.out hn
    have e1 : ((i : Int) + 1).toNat = i + 1 := by omega
    have e2 : ((i : Int) + 2).toNat = i + 2 := by omega
    have e3 : ((i : Int) + 3).toNat = i + 3 := by omega
    by_cases c1 : x1 < 128
    · have c1' : (x1 : Int) < 128 := by omega
      have HF : Hid (Utf8.decode s i = (65533, 1)) := by
        show _ = _
        rw [HD.out, Lib.slowN, if_neg (by omega), if_pos (by omega)]
      go_enter Tryd.func14, Tryd.ntmps14
      go_wp2_with (first | (go_at_call 19; refine (HK1.out).mono ?_; rintro e w' ⟨rfl, hw⟩; rw [hw]; clear hw) | (go_at_call 19; refine (HK2.out).mono ?_; rintro e w' ⟨rfl, hw⟩; rw [hw]; clear hw))
      go_ret2
      refine ⟨_, 1, rfl, Below.refl _ _, .inl ?_⟩
      rw [HF.out]
      exact ⟨rfl, rfl⟩
    have c1' : ¬ (x1 : Int) < 128 := by omega
    by_cases c2 : 143 < x1
    · have c2' : (143 : Int) < (x1 : Int) := by omega
      have HF : Hid (Utf8.decode s i = (65533, 1)) := by
        show _ = _
        rw [HD.out, Lib.slowN, if_neg (by omega), if_pos (by omega)]
      go_enter Tryd.func14, Tryd.ntmps14
      go_wp2_with (first | (go_at_call 19; refine (HK1.out).mono ?_; rintro e w' ⟨rfl, hw⟩; rw [hw]; clear hw) | (go_at_call 19; refine (HK2.out).mono ?_; rintro e w' ⟨rfl, hw⟩; rw [hw]; clear hw))
      go_ret2
      refine ⟨_, 1, rfl, Below.refl _ _, .inl ?_⟩
      rw [HF.out]
      exact ⟨rfl, rfl⟩
    have c2' : ¬ (143 : Int) < (x1 : Int) := by omega
    cases hc : decide (128 ≤ x2 ∧ x2 ≤ 191)
    · have HF : Hid (Utf8.decode s i = (65533, 1)) := by
        show _ = _
        have hc' := of_decide_eq_false hc
        rw [HD.out, Lib.slowN, if_neg (by omega), if_neg (by omega), if_neg (by omega), if_pos (by omega)]
      rw [hc] at HK1
      go_enter Tryd.func14, Tryd.ntmps14
      go_wp2_with (first | (go_at_call 19; refine (HK1.out).mono ?_; rintro e w' ⟨rfl, hw⟩; rw [hw]; clear hw) | (go_at_call 19; refine (HK2.out).mono ?_; rintro e w' ⟨rfl, hw⟩; rw [hw]; clear hw))
      go_ret2
      refine ⟨_, 1, rfl, Below.refl _ _, .inl ?_⟩
      rw [HF.out]
      exact ⟨rfl, rfl⟩
    rw [hc] at HK1
    have hc2 := of_decide_eq_true hc
    clear hc
    cases hd : decide (128 ≤ x3 ∧ x3 ≤ 191)
    · have HF : Hid (Utf8.decode s i = (65533, 1)) := by
        show _ = _
        have hd' := of_decide_eq_false hd
        rw [HD.out, Lib.slowN, if_neg (by omega), if_neg (by omega), if_neg (by omega), if_neg (by omega), if_neg (by omega), if_pos (by omega)]
      rw [hd] at HK2
      go_enter Tryd.func14, Tryd.ntmps14
      go_wp2_with (first | (go_at_call 19; refine (HK1.out).mono ?_; rintro e w' ⟨rfl, hw⟩; rw [hw]; clear hw) | (go_at_call 19; refine (HK2.out).mono ?_; rintro e w' ⟨rfl, hw⟩; rw [hw]; clear hw))
      go_ret2
      refine ⟨_, 1, rfl, Below.refl _ _, .inl ?_⟩
      rw [HF.out]
      exact ⟨rfl, rfl⟩
    · have HF : Hid (Utf8.decode s i = (x0 % 8 * 262144 + x1 % 64 * 4096 + x2 % 64 * 64 + x3 % 64, 4)) := by
        show _ = _
        have hd' := of_decide_eq_true hd
        rw [HD.out, Lib.slowN, if_neg (by omega), if_neg (by omega), if_neg (by omega), if_neg (by omega), if_neg (by omega), if_neg (by omega)]
      rw [hd] at HK2
      go_enter Tryd.func14, Tryd.ntmps14
      go_wp2_with (first | (go_at_call 19; refine (HK1.out).mono ?_; rintro e w' ⟨rfl, hw⟩; rw [hw]; clear hw) | (go_at_call 19; refine (HK2.out).mono ?_; rintro e w' ⟨rfl, hw⟩; rw [hw]; clear hw))
      go_quiet (fail)
      go_wp2_with fail
      go_ret2
      refine ⟨_, 4, rfl, ?_, .inr ?_⟩
      · exact below_drewN (Below.refl _ _) _
      rw [HF.out]
      refine ⟨?_, rfl⟩
      simp
  · have n1 : (s.size : Int) ≤ (i : Int) + 3 := by omega
    have HF : Hid (Utf8.decode s i = (65533, 1)) := by
      show _ = _
      rw [HD.out, Lib.slowN, if_pos (by omega)]
    go_enter Tryd.func14, Tryd.ntmps14
    go_wp2
    go_ret2
    refine ⟨_, 1, rfl, Below.refl _ _, .inl ?_⟩
    rw [HF.out]
    exact ⟨rfl, rfl⟩
end Go.Proofs.Qxb6603309aDoor
