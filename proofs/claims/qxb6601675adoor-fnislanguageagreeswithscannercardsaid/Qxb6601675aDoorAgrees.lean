import Derived.Test.Qxb6601675aDoorScan
import Derived.Test.Qxb6601675aDoorTags
import Derived.Test.Qxb6601675aDoorLaw
namespace Go.Proofs.Qxb6601675aDoor
open Go.RowKit

set_option maxHeartbeats 400000 in
theorem zzIsLang_calls (s : ByteArray) (hs : s.size ≤ 1048576) (w : World) (hsh : w.ShapedOpen Tryd.prog) :
    Calls Tryd.prog 6 #[.string s] w fun e w' => e = .returned (.bool (isLang true (sp 45 s.data.toList))) ∧ Below w.heap.size w w' := by
  have HC := hide (isLang_calls s hs w hsh)
  rw [pieces] at HC
  generalize isLang true (sp 45 s.data.toList) = b at *
  clear hsh
  go_enter Tryd.func6, Tryd.ntmps6
  go_wp2_with (go_at_call 9; refine (HC.out).mono ?_; rintro e w' ⟨rfl, hB⟩)
  go_ret
  exact ⟨rfl, hB⟩

set_option maxHeartbeats 400000 in
theorem walk (s : ByteArray) (w : World) (hsh : w.ShapedOpen Tryd.prog) :
    Calls Tryd.prog 3 #[.string s] w fun e w' => e = .returned (.bool true) ∧ Below w.heap.size w w' := by
  by_cases hs : s.size ≤ 1048576
  · have HC := hide (zzIsLang_calls s hs w hsh)
    have HS : Hid (∀ w, Calls Tryd.prog 7 #[.string s] w _) := fun w => scan_calls s hs w
    have ha := agree s.data.toList
    rw [ha] at HC
    clear ha hsh
    generalize scan s.data.toList true 0 = b at *
    have h1 : ¬ (1048576 : Int) < (s.size : Int) := by omega
    go_enter Tryd.func3, Tryd.ntmps3
    go_wp2_with (first | (go_at_call 6; refine (HC.out).mono ?_; rintro e w' ⟨rfl, hB⟩) | (go_at_call 7; refine (HS.out _).mono ?_; rintro e w' ⟨rfl, rfl⟩) | go_in)
    go_ret
    exact ⟨by simp, hB⟩
  · have h1 : (1048576 : Int) < (s.size : Int) := by omega
    clear hsh
    go_enter Tryd.func3, Tryd.ntmps3
    go_wp2
    go_ret
    exact ⟨rfl, Below.refl _ _⟩
end Go.Proofs.Qxb6601675aDoor
