import Derived.Test.Qxb6603309aDoorValid
namespace Go.Proofs.Qxb6603309aDoor
open Go.RowKit

set_option maxHeartbeats 400000 in
theorem zz_calls (s : ByteArray) (hs : s.size ≤ 4194304) (m : Int) (w : World) (hm : w.cell? ⟨0, 0, none⟩ = some (.int .i64 m)) :
    Calls Tryd.prog 7 #[.string s] w fun e w' => e = .returned (.bool (vp s)) ∧ Below w.heap.size w w' := by
  have HC : Hid (Calls Tryd.prog 13 #[.string s] w fun e w' => e = .returned (.bool (vp s)) ∧ Below w.heap.size w w') := (valid_calls s hs m w hm).mono (fun _ _ h => h)
  generalize vp s = b at *
  clear hm
  go_enter Tryd.func7, Tryd.ntmps7
  go_wp2_with (go_at_call 13; refine (HC.out).mono ?_; rintro e w' ⟨rfl, hB⟩)
  go_ret
  exact ⟨rfl, hB⟩
end Go.Proofs.Qxb6603309aDoor
