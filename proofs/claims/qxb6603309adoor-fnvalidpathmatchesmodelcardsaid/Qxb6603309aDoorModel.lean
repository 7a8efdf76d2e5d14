import Derived.Test.Qxb6603309aDoorDecD
import Derived.Test.Qxb6603309aDoorDecE
namespace Go.Proofs.Qxb6603309aDoor
open Go.RowKit
set_option linter.unusedSimpArgs false
set_option linter.unusedVariables false
set_option maxRecDepth 100000

theorem dec_calls (s : ByteArray) (i : Nat) (hi : i < s.size) (hs : s.size ≤ 4194304) (w : World) : Calls Tryd.prog 14 #[.string s, .int .i64 (i : Int)] w fun e w' => Post14 s i w e w' := by
  have l0 := s[i].toNat_lt
  by_cases a1 : s[i].toNat < 128
  · exact dec_A s i hi hs w a1
  by_cases a2 : s[i].toNat < 194 ∨ 244 < s[i].toNat
  · exact dec_B s i hi hs w (by omega) a2
  by_cases a3 : s[i].toNat < 224
  · exact dec_C s i hi hs w (by omega)
  by_cases a4 : s[i].toNat = 224
  · exact dec_E0 s i hi hs w a4
  by_cases a5 : s[i].toNat = 237
  · exact dec_ED s i hi hs w a5
  by_cases a6 : s[i].toNat < 240
  · exact dec_E1 s i hi hs w (by omega)
  by_cases a7 : s[i].toNat = 240
  · exact dec_F0 s i hi hs w a7
  by_cases a8 : s[i].toNat = 244
  · exact dec_F4 s i hi hs w a8
  exact dec_F1 s i hi hs w (by omega)

set_option maxHeartbeats 800000 in
theorem forb_calls (r : Nat) (hr : r ≤ 2147483647) (w : World) : Calls Tryd.prog 15 #[.int .i32 (r : Int)] w fun e w' => e = .returned (.bool (forb r)) ∧ w' = w := by
  cases hfb : forb r
  · have hq : ¬ (r : Int) ≤ 31 ∧ ¬ (127 ≤ (r : Int) ∧ (r : Int) ≤ 159) ∧ ¬ (55296 ≤ (r : Int) ∧ (r : Int) ≤ 63743) ∧ ¬ (65520 ≤ (r : Int) ∧ (r : Int) ≤ 65535) := by
      simp [forb] at hfb
      omega
    obtain ⟨q1, q2, q3, q4⟩ := hq
    clear hfb
    go_enter Tryd.func15, Tryd.ntmps15
    go_wp2
    all_goals
      go_ret
      exact ⟨by simp; try omega, rfl⟩
  · have hq : (r : Int) ≤ 31 ∨ (127 ≤ (r : Int) ∧ (r : Int) ≤ 159) ∨ (55296 ≤ (r : Int) ∧ (r : Int) ≤ 63743) ∨ (65520 ≤ (r : Int) ∧ (r : Int) ≤ 65535) := by
      simp [forb] at hfb
      omega
    clear hfb
    go_enter Tryd.func15, Tryd.ntmps15
    go_wp2
    all_goals
      go_ret
      exact ⟨by simp; try omega, rfl⟩

theorem decode_width (s : ByteArray) (i : Nat) : (Utf8.decode s i).2 ≤ 4 := by
  rw [Lib.decode_at]
  unfold Lib.decodeN
  repeat' split
  all_goals simp

/-! ### segments, by places -/
def segsAt (l : List UInt8) (i : Nat) : List (List UInt8) := if i ≤ l.length then sp 47 (l.drop i) else []
theorem bad_one (x : UInt8) (h : x ≠ 46) : badSeg [x] = false := by
  simp [badSeg, h]
theorem bad_two (x y : UInt8) (h : x ≠ 46 ∨ y ≠ 46) : badSeg [x, y] = false := by
  rcases h with h | h <;> simp [badSeg, h]
theorem bad_long (p : List UInt8) (h : 3 ≤ p.length) : badSeg p = false := by
  match p, h with
  | a :: b :: c :: r, _ => simp [badSeg]
theorem cut_one (l : List UInt8) (a : Nat) (h : a + 1 ≤ l.length) : cut l a (a + 1) = [l[a]] := by
  rw [cut_cons l a (a + 1) (by omega) h, cut_nil _ _ _ (by omega)]
theorem cut_two (l : List UInt8) (a : Nat) (h : a + 2 ≤ l.length) : cut l a (a + 2) = [l[a], l[a + 1]] := by
  rw [cut_cons l a (a + 2) (by omega) h, cut_cons l (a + 1) (a + 2) (by omega) h, cut_nil _ _ _ (by omega)]
theorem byte_ne (x : UInt8) (n : Nat) (hn : n < 256) : (x ≠ UInt8.ofNat n) = ((x.toNat : Int) ≠ n) := by
  apply propext
  rw [ne_eq, ← UInt8.toNat_inj]
  simp
  omega
theorem byte_is (x : UInt8) (n : Nat) (hn : n < 256) (h : (x.toNat : Int) = n) : x = UInt8.ofNat n := by
  rw [← UInt8.toNat_inj]
  simp
  omega
theorem prefix_iff (l : List UInt8) (h : 0 < l.length) : Lib.hasPrefix l [47] = (l[0] == 47) := by
  cases l with
  | nil => cases h
  | cons a t =>
    simp only [Lib.hasPrefix, List.isPrefixOf, List.getElem_cons_zero, Bool.and_true]
    rw [Bool.eq_iff_iff, beq_iff_eq, beq_iff_eq]
    exact ⟨fun h => h.symm, fun h => h.symm⟩
end Go.Proofs.Qxb6603309aDoor
