import Derived.Test.Qxb6603309aDoorSplit
namespace Go.Proofs.Qxb6603309aDoor
open Go.RowKit
set_option linter.unusedSimpArgs false
set_option linter.unusedVariables false
set_option maxRecDepth 100000

theorem data_from (s : ByteArray) (i : Nat) : (s.extract i s.size).data.toList = s.data.toList.drop i := by
  simp [ByteArray.data_extract]
  exact List.take_of_length_le (by simp)
theorem data_to (s : ByteArray) (i : Nat) : (s.extract 0 i).data.toList = s.data.toList.take i := by
  simp [ByteArray.data_extract]

/-- The path at its last slash. -/
theorem at_slash (s : ByteArray) (i : Nat) (hi : i < s.size) (h : ((s.data[i]!).toNat : Int) = 47) : s.data.toList = s.data.toList.take i ++ 47 :: s.data.toList.drop (i + 1) := by
  have hl : s.data.toList.length = s.size := rfl
  have e : s.data.toList[i]'(by omega) = 47 := by
    have hi2 : i < s.data.size := hi
    rw [getElem!_pos s.data i hi2] at h
    rw [← UInt8.toNat_inj]
    simp
    omega
  conv => lhs; rw [← List.take_append_drop i s.data.toList, List.drop_eq_getElem_cons (by omega), e]

/-- What the law leans on. -/
theorem parts (s : ByteArray) (i : Nat) (hi : i < s.size) (h : ((s.data[i]!).toNat : Int) = 47) (hlast : ∀ j, i < j → j < s.size → ((s.data[j]!).toNat : Int) ≠ 47) (hv : vp s = true)
    (D N : ByteArray) (hD : D = if i = 0 then ⟨#[47]⟩ else s.extract 0 i) (hN : N = s.extract (i + 1) s.size) :
    N ≠ ⟨#[]⟩ ∧ (∀ j (h : j < N.size), (N[j].toNat : Int) ≠ 47) ∧ D.size < s.size ∧ (D = ⟨#[47]⟩ ∨ vp D = true) ∧ vp ((⟨#[47]⟩ : ByteArray) ++ N) = true ∧ N.size < s.size := by
  have hl : s.data.toList.length = s.size := rfl
  have hsl := at_slash s i hi h
  have hNd : N.data.toList = s.data.toList.drop (i + 1) := by rw [hN]; exact data_from s (i + 1)
  have hNs : N.size = s.size - (i + 1) := by
    have : N.data.toList.length = N.size := rfl
    rw [← this, hNd, List.length_drop]
    rfl
  rw [vp_vpl, hsl] at hv
  obtain ⟨h1, h2, h3⟩ := vp_split _ _ hv
  have hNne : N ≠ ⟨#[]⟩ := fun e => by
    rw [e] at hNd
    exact h1 hNd.symm
  have hNpos : 0 < N.size := by
    rcases Nat.eq_zero_or_pos N.size with h0 | h0
    · exfalso
      have : N.data.toList.length = 0 := h0
      rw [hNd] at this
      exact h1 (List.length_eq_zero_iff.1 this)
    · exact h0
  refine ⟨hNne, ?_, ?_, ?_, ?_, by omega⟩
  · intro j hj
    have hj2 : i + 1 + j < s.size := by omega
    have hx := hlast (i + 1 + j) (by omega) hj2
    have hj3 : i + 1 + j < s.data.size := hj2
    rw [getElem!_pos s.data _ hj3] at hx
    have e1 : N[j] = N.data.toList[j]'hj := rfl
    have e2 : N.data.toList[j]'hj = s.data.toList[i + 1 + j]'hj2 := by
      simp only [hNd, List.getElem_drop]
    rw [e1, e2]
    exact hx
  · rw [hD]
    split
    · show 1 < s.size
      omega
    · have : (s.extract 0 i).data.toList.length = (s.extract 0 i).size := rfl
      rw [← this, data_to, List.length_take]
      omega
  · by_cases h0 : i = 0
    · left
      rw [hD, if_pos h0]
    · right
      rw [hD, if_neg h0, vp_vpl, data_to]
      refine h3 (fun e => ?_)
      have := congrArg List.length e
      rw [List.length_take, hl, List.length_nil] at this
      omega
  · rw [vp_vpl, Joins.data_append, hNd]
    exact h2

set_option maxHeartbeats 400000 in
theorem bytes_calls (s : ByteArray) (hs : s.size ≤ 1048576) (w : World) : Calls Tryd.prog 10 #[.string s] w fun e w' => e = .returned (.bool true) ∧ w' = w := by
  have h1 : ¬ (1048576 : Int) < (s.size : Int) := by omega
  go_enter Tryd.func10, Tryd.ntmps10
  go_wp2
  go_ret
  exact ⟨rfl, rfl⟩

set_option maxHeartbeats 1600000 in
theorem walk5 (s : ByteArray) (w : World) (hsh : w.ShapedOpen Tryd.prog) :
    Calls Tryd.prog 5 #[.string s] w fun e w' => e = .returned (.bool true) ∧ Below w.heap.size w w' := by
  by_cases hs : s.size ≤ 1048576
  · obtain ⟨m, hm⟩ := Tryd.maxLen_cell w hsh
    clear hsh
    have HC := hide (zz_calls s (by omega) m w hm)
    have h1 : ¬ (1048576 : Int) < (s.size : Int) := by omega
    have Hm := hide hm
    clear hm
    cases hv : vp s
    · rw [hv] at HC
      clear hv
      go_enter Tryd.func5, Tryd.ntmps5
      go_wp2_with (first | (go_at_call 7; refine (HC.out).mono ?_; rintro e w1 ⟨rfl, hB⟩) | go_in)
      go_ret
      exact ⟨rfl, hB⟩
    · rw [hv] at HC
      rcases Lib.lastIndexByte_spec s 47 with ⟨_, hno⟩ | ⟨i, hi, hli, hat, hlast⟩
      · exfalso
        have hl : s.data.toList.length = s.size := rfl
        rw [vp, Bool.and_eq_true] at hv
        have hp := hv.1
        cases e : s.data.toList with
        | nil => rw [e] at hp; cases hp
        | cons a t =>
          have hs0 : 0 < s.data.size := by
            show 0 < s.data.toList.length
            rw [e]; simp
          have hx := hno 0 hs0
          rw [getElem!_pos s.data 0 hs0] at hx
          have e0 : s.data[0] = a := by
            have : s.data[0] = s.data.toList[0]'hs0 := rfl
            rw [this]
            simp [e]
          rw [e0] at hx
          rw [e] at hp
          have : (47 : UInt8) = a := by simpa [Lib.hasPrefix, List.isPrefixOf] using hp
          rw [← this] at hx
          exact hx rfl
      · have HZ : Hid (∀ W : World, Calls Tryd.prog 11 #[.string s] W _) := fun W => zzsplit_calls s (by omega) i hi hli W
        obtain ⟨p1, p2, p3, p4, p5, p6⟩ := parts s i hi hat hlast hv _ _ rfl rfl
        generalize (if i = 0 then (⟨#[47]⟩ : ByteArray) else s.extract 0 i) = D at *
        generalize s.extract (i + 1) s.size = N at *
        clear hlast hat hli hv
        have HSl : Hid (∀ W : World, Calls Tryd.prog 12 #[.string N] W fun e w' => e = .returned (.bool false) ∧ w' = W) := fun W => slash_calls N (by omega) p2 W
        have hNz : ((⟨#[47]⟩ : ByteArray) ++ N).size ≤ 4194304 := by
          have : ((⟨#[47]⟩ : ByteArray) ++ N).data.toList.length = ((⟨#[47]⟩ : ByteArray) ++ N).size := rfl
          rw [← this, Joins.data_append, List.length_append]
          have h2 : N.data.toList.length = N.size := rfl
          have h3 : (⟨#[47]⟩ : ByteArray).data.toList.length = 1 := rfl
          omega
        have HV2 : Hid (∀ W : World, W.cell? ⟨0, 0, none⟩ = some (.int .i64 m) → Calls Tryd.prog 7 #[.string ((⟨#[47]⟩ : ByteArray) ++ N)] W fun e w' => e = .returned (.bool true) ∧ Below W.heap.size W w') := fun W hW => by
          have := zz_calls _ hNz m W hW
          rw [p5] at this
          exact this
        have n0 : N.toList ≠ [] := toList_no N ⟨#[]⟩ p1
        have n1 : N.toList.isEmpty = false := by simpa using n0
        have hDs : ¬ (s.size : Int) ≤ (D.size : Int) := by omega
        generalize hNN : (⟨#[47]⟩ : ByteArray) ++ N = M at *
        clear p1 p2 p5 hNz
        have HBy := hide (bytes_calls s hs w)
        have hcc : ¬ 9223372036854775807 < 1 + N.size := by omega
        clear p6
        by_cases hD : D = ⟨#[47]⟩
        · subst hD
          have hs1 : (1 : Int) < (s.size : Int) := by
            have : (⟨#[47]⟩ : ByteArray).size = 1 := rfl
            omega
          clear p3 p4 hDs
          go_enter Tryd.func5, Tryd.ntmps5
          go_wp2_with (first | (go_at_call 10; refine (HBy.out).mono ?_; rintro e w0 ⟨rfl, hw0⟩; rw [hw0]; clear hw0) | (go_at_call 7; refine (HC.out).mono ?_; rintro e w1 ⟨rfl, hB1⟩))
          go_wp2_with (first | (go_at_call 11; refine (HZ.out _).mono ?_; rintro e w2 ⟨rfl, hB2⟩) | (go_at_call 12; refine (HSl.out _).mono ?_; rintro e w3 ⟨rfl, hw3⟩; rw [hw3]; clear hw3))
          have hB12 := hB1.trans (hB2.mono hB1.size)
          refine (HV2.out _ (cell_later hB12 Hm.out)).mono ?_
          rintro e w4 ⟨rfl, hB4⟩
          go_wp2_with fail
          go_ret
          exact ⟨rfl, hB12.trans (hB4.mono hB12.size)⟩
        · have hDv : vp D = true := by
            rcases p4 with h | h
            · exact absurd h hD
            · exact h
          have HVD : Hid (∀ W : World, W.cell? ⟨0, 0, none⟩ = some (.int .i64 m) → Calls Tryd.prog 7 #[.string D] W fun e w' => e = .returned (.bool true) ∧ Below W.heap.size W w') := fun W hW => by
            have := zz_calls D (by omega) m W hW
            rw [hDv] at this
            exact this
          have d0 : D.toList ≠ [47] := toList_no D ⟨#[47]⟩ hD
          have d1 : (D.toList == [47]) = false := by simpa using d0
          have d2 : (D.toList != [47]) = true := by simpa using d0
          clear p4 hD hDv p3
          go_enter Tryd.func5, Tryd.ntmps5
          go_wp2_with (first | (go_at_call 10; refine (HBy.out).mono ?_; rintro e w0 ⟨rfl, hw0⟩; rw [hw0]; clear hw0) | (go_at_call 7; refine (HC.out).mono ?_; rintro e w1 ⟨rfl, hB1⟩))
          go_wp2_with (first | (go_at_call 11; refine (HZ.out _).mono ?_; rintro e w2 ⟨rfl, hB2⟩) | (go_at_call 12; refine (HSl.out _).mono ?_; rintro e w3 ⟨rfl, hw3⟩; rw [hw3]; clear hw3))
          have hB12 := hB1.trans (hB2.mono hB1.size)
          refine (HVD.out _ (cell_later hB12 Hm.out)).mono ?_
          rintro e w4 ⟨rfl, hB4⟩
          have hB14 := hB12.trans (hB4.mono hB12.size)
          go_wp2_with fail
          refine (HV2.out _ (cell_later hB14 Hm.out)).mono ?_
          rintro e w5 ⟨rfl, hB5⟩
          go_wp2_with fail
          go_ret
          exact ⟨rfl, hB14.trans (hB5.mono hB14.size)⟩
  · have h1 : (1048576 : Int) < (s.size : Int) := by omega
    clear hsh
    go_enter Tryd.func5, Tryd.ntmps5
    go_wp2
    go_ret
    exact ⟨rfl, Below.refl _ _⟩
end Go.Proofs.Qxb6603309aDoor
