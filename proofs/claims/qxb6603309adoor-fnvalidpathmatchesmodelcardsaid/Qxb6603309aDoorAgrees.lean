import Derived.Test.Qxb6603309aDoorWalkM
import Derived.Test.Qxb6603309aDoorZZ
namespace Go.Proofs.Qxb6603309aDoor
open Go.RowKit

set_option maxHeartbeats 400000 in
theorem walk (s : ByteArray) (w : World) (hsh : w.ShapedOpen Tryd.prog) :
    Calls Tryd.prog 3 #[.string s] w fun e w' => e = .returned (.bool true) ∧ Below w.heap.size w w' := by
  by_cases hs : s.size ≤ 1048576
  · obtain ⟨m, hm⟩ := Tryd.maxLen_cell w hsh
    have HC := hide (zz_calls s (by omega) m w hm)
    have HS : Hid (∀ w, Calls Tryd.prog 8 #[.string s] w fun e w' => e = .returned (.bool (vp s)) ∧ Below w.heap.size w w') := fun w => (model_calls s (by omega) w).mono (fun _ _ h => h)
    generalize vp s = b at *
    clear hsh hm
    have h1 : ¬ (1048576 : Int) < (s.size : Int) := by omega
    go_enter Tryd.func3, Tryd.ntmps3
    go_wp2_with (first | (go_at_call 7; refine (HC.out).mono ?_; rintro e w1 ⟨rfl, hB⟩) | (go_at_call 8; refine (HS.out _).mono ?_; rintro e w2 ⟨rfl, hB2⟩) | go_in)
    go_ret
    exact ⟨by simp, hB.trans (hB2.mono hB.size)⟩
  · have h1 : (1048576 : Int) < (s.size : Int) := by omega
    clear hsh
    go_enter Tryd.func3, Tryd.ntmps3
    go_wp2
    go_ret
    exact ⟨rfl, Below.refl _ _⟩
end Go.Proofs.Qxb6603309aDoor
