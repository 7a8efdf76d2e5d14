import Derived.Test.Qxb6601675aDoorProg
import Derived.Test.Qxb6601675aDoorPlain
import Derived.WalkKit
import Derived.WalkSpells
import Derived.WalkLawsBesides
namespace Go.Proofs.Qxb6601675aDoor
open Go.RowKit

theorem scan_at (s : ByteArray) (k : Nat) (b : Bool) (m : Nat) (h : k < s.size) : scan (s.data.toList.drop k) b m =
    (if (s[k].toNat : Int) = 45 then (if m = 0 then false else scan (s.data.toList.drop (k + 1)) false 0)
    else if 8 < (m : Int) + 1 then false
    else if (97 ≤ (s[k].toNat : Int) ∧ (s[k].toNat : Int) ≤ 122) ∨ (65 ≤ (s[k].toNat : Int) ∧ (s[k].toNat : Int) ≤ 90) then scan (s.data.toList.drop (k + 1)) b (m + 1)
    else if b = false ∧ 48 ≤ (s[k].toNat : Int) ∧ (s[k].toNat : Int) ≤ 57 then scan (s.data.toList.drop (k + 1)) b (m + 1)
    else false) := by
  have hd : s.data.toList.drop k = s[k] :: s.data.toList.drop (k + 1) := by
    rw [List.drop_eq_getElem_cons (by simpa using h)]
    rfl
  rw [hd, scan]
  generalize s[k].toNat = c
  have e1 : (c = 45) = ((c : Int) = 45) := propext (by omega)
  have e2 : (8 < m + 1) = (8 < (m : Int) + 1) := propext (by omega)
  have e3 : (letter c = true) = ((97 ≤ (c : Int) ∧ (c : Int) ≤ 122) ∨ (65 ≤ (c : Int) ∧ (c : Int) ≤ 90)) := by
    apply propext
    simp only [letter, Bool.or_eq_true, Bool.and_eq_true, decide_eq_true_eq]
    omega
  have e4 : ((!b && digit c) = true) = (b = false ∧ 48 ≤ (c : Int) ∧ (c : Int) ≤ 57) := by
    apply propext
    simp only [digit, Bool.and_eq_true, Bool.not_eq_true', decide_eq_true_eq]
    exact ⟨fun h => ⟨h.1, by omega, by omega⟩, fun h => ⟨h.1, by omega, by omega⟩⟩
  simp only [e1, e2, e3, e4]

set_option maxHeartbeats 1000000 in
theorem scan_calls (s : ByteArray) (hs : s.size ≤ 1048576) (w : World) :
    Calls Tryd.prog 7 #[.string s] w fun e w' => e = .returned (.bool (scan s.data.toList true 0)) ∧ w' = w := by
  go_enter Tryd.func7, Tryd.ntmps7
  go_wp2
  go_loop [3, 4, 5] (fun f n i => ∃ (b : Bool) (m k : Nat), f = .bool b ∧ n = .int .i64 m ∧ i = .int .i64 k ∧ k ≤ s.size ∧ m ≤ 8 ∧ Hid (scan (s.data.toList.drop k) b m = scan s.data.toList true 0))
    (fun _ _ i => s.size - (intOf i).toNat)
  case atStart => exact ⟨true, 0, 0, rfl, rfl, rfl, by omega, by omega, rfl⟩
  case round =>
    obtain ⟨b, m, k, rfl, rfl, rfl, hk, hm, H⟩ := hrel
    have HS : Hid (∀ h : k < s.size, _) := fun h => scan_at s k b m h
    have HE : Hid (¬ k < s.size → scan (s.data.toList.drop k) b m = decide (0 < m)) := fun h => by
      rw [List.drop_eq_nil_of_le (by simpa using h)]; rfl
    go_wp2
    all_goals first
      | (go_ret
         refine ⟨congrArg (fun x => Ending.returned (.bool x)) ?_, rfl⟩
         rw [← H.out]
         first
           | exact (HE.out ‹_›).symm
           | (have h : k < s.size := ‹_›
              rw [HS.out h]
              clear HS HE H
              generalize (s[k].toNat : Int) = c at *
              simp only [beq_iff_eq, beq_eq_false_iff_ne] at *
              symm
              repeat' split
              all_goals first | rfl | omega | simp_all))
      | (have h : k < s.size := ‹_›
         have H2 := HS.out h
         rw [H.out] at H2
         go_round
         case rel =>
           first
             | refine ⟨b, m + 1, k + 1, rfl, by go_num, by go_num, by omega, by omega, ?_⟩
             | refine ⟨false, m + 1, k + 1, rfl, by go_num, by go_num, by omega, by omega, ?_⟩
             | refine ⟨false, 0, k + 1, rfl, by go_num, by go_num, by omega, by omega, ?_⟩
           show scan _ _ _ = _
           rw [H2]
           clear HS HE H H2
           generalize (s[k].toNat : Int) = c at *
           simp only [beq_iff_eq, beq_eq_false_iff_ne] at *
           symm
           repeat' split
           all_goals first | rfl | omega | simp_all
         case measure => simp [intOf]; omega)

end Go.Proofs.Qxb6601675aDoor
