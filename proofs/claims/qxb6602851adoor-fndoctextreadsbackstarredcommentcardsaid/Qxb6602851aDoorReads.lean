import Derived.Test.Qxb6602851aDoorClean
import Derived.Test.Qxb6602851aDoorStarred
namespace Go.Proofs.Qxb6602851aDoor
open Go.RowKit

set_option maxHeartbeats 800000 in
theorem walk4 (s : ByteArray) (w : World) (hsh : w.ShapedOpen Tryd.prog) :
    Calls Tryd.prog 4 #[.string s] w fun e w' => e = .returned (.bool true) ∧ Below w.heap.size w w' := by
  by_cases hs : s.size ≤ 65536
  · obtain ⟨m, hm⟩ := Tryd.maxLen_cell w hsh
    clear hsh
    have HC0 := hide (clean_calls s (by omega) w)
    have HC1 : Hid (CleanP s.data.toList → Calls Tryd.prog 7 #[.string s] w fun e w' => e = .returned (.string s) ∧ Below w.heap.size w w') := fun hc => by
      refine (docText_calls s (by omega) m w hm).mono ?_
      rintro e w' ⟨rfl, hB⟩
      exact ⟨by rw [doc_clean _ hc], hB⟩
    have hsz : (⟨(starred s.data.toList).toArray⟩ : ByteArray).size ≤ 4194304 := by
      have := flat_len s.data.toList
      have h2 : s.data.toList.length = s.size := rfl
      show (starred s.data.toList).toArray.size ≤ _
      simp only [starred, List.size_toArray, List.length_append, List.length_cons, List.length_nil]
      omega
    have HC2 : Hid (CleanP s.data.toList → ∀ W : World, W.cell? ⟨0, 0, none⟩ = some (.int .i64 m) → Calls Tryd.prog 7 #[.string ⟨(starred s.data.toList).toArray⟩] W fun e w' => e = .returned (.string s) ∧ Below W.heap.size W w') := fun hc W hW => by
      refine (docText_calls _ hsz m W hW).mono ?_
      rintro e w' ⟨rfl, hB⟩
      refine ⟨?_, hB⟩
      have := doc_starred _ hc
      simp only at *
      rw [this]
    have HST : Hid (∀ W : World, Calls Tryd.prog 11 #[.string s] W fun e w' => e = .returned (.string ⟨(starred s.data.toList).toArray⟩) ∧ Below W.heap.size W w') := fun W => (starred_calls s (by omega) W).mono (fun _ _ h => h)
    generalize (⟨(starred s.data.toList).toArray⟩ : ByteArray) = t at *
    have Hm := hide hm
    clear hm hsz
    have h1 : ¬ (65536 : Int) < (s.size : Int) := by omega
    have h2 : ¬ (1048576 : Int) < (s.size : Int) := by omega
    go_enter Tryd.func4, Tryd.ntmps4
    go_wp2_with (first | (go_at_call 10; refine (HC0.out).mono ?_) | go_in)
    rintro e w0 ⟨b, rfl, rfl, hcl⟩
    cases b
    · go_wp2_with fail
      go_ret
      exact ⟨rfl, Below.refl _ _⟩
    · have HC1' := hide (HC1.out (hcl rfl))
      have HC2' := hide (HC2.out (hcl rfl))
      clear HC0 HC1 HC2 hcl
      go_wp2_with fail
      refine (HC1'.out).mono ?_
      rintro e w1 ⟨rfl, hB1⟩
      go_wp2_with fail
      refine (HST.out _).mono ?_
      rintro e w2 ⟨rfl, hB2⟩
      go_wp2_with fail
      have hB12 := hB1.trans (hB2.mono hB1.size)
      refine (HC2'.out _ (cell_later hB12 Hm.out)).mono ?_
      rintro e w3 ⟨rfl, hB3⟩
      go_wp2_with fail
      go_ret
      exact ⟨by simp, hB12.trans (hB3.mono hB12.size)⟩
  · have h1 : (65536 : Int) < (s.size : Int) := by omega
    clear hsh
    go_enter Tryd.func4, Tryd.ntmps4
    go_wp2
    all_goals
      go_ret
      exact ⟨rfl, Below.refl _ _⟩
end Go.Proofs.Qxb6602851aDoor
