import Derived.Test.Qxb6602851aDoorRow
import Derived.Test.Qxb6602851aDoorBack
namespace Go.Proofs.Qxb6602851aDoor
open Go.RowKit
set_option linter.unusedSimpArgs false
set_option maxRecDepth 100000

def Post10 (s : ByteArray) (w : World) (e : Ending) (w' : World) : Prop := ∃ b : Bool, e = .returned (.bool b) ∧ w' = w ∧ (b = true → CleanP s.data.toList)

theorem head_ne (l : List UInt8) (h0 : 0 < l.length) (h : l[0] ≠ 10) : ∀ hl : l ≠ [], l.head hl ≠ 10 := by
  intro hl
  rw [List.head_eq_getElem]
  exact h
theorem last_ne (l : List UInt8) (h0 : l.length - 1 < l.length) (h : l[l.length - 1] ≠ 10) : ∀ hl : l ≠ [], l.getLast hl ≠ 10 := by
  intro hl
  rw [List.getLast_eq_getElem]
  exact h

set_option maxHeartbeats 4000000 in
theorem clean_calls (s : ByteArray) (hs : s.size ≤ 4194304) (w : World) : Calls Tryd.prog 10 #[.string s] w fun e w' => Post10 s w e w' := by
  have HLS : Hid (s.data.toList.length = s.size) := rfl
  rcases Nat.eq_zero_or_pos s.size with hz | hpos
  · have hz' : (s.size : Int) = 0 := by omega
    have HE : Hid (s.data.toList = []) := by
      show _ = _
      exact List.length_eq_zero_iff.1 (by rw [HLS.out]; exact hz)
    go_enter Tryd.func10, Tryd.ntmps10
    go_wp2
    go_ret
    exact ⟨true, rfl, rfl, fun _ => .inl HE.out⟩
  · have hz' : ((s.size : Int) == 0) = false := by rw [beq_eq_false_iff_ne]; omega
    have hl1 : s.size - 1 < s.size := by omega
    have HF : Hid (s.data.toList[0]'(by rw [HLS.out]; exact hpos) = s[0]) := rfl
    have HL : Hid (s.data.toList[s.data.toList.length - 1]'(by rw [HLS.out]; exact hl1) = s[s.size - 1]) := rfl
    have e1 : ((s.size : Int) - 1).toNat = s.size - 1 := by omega
    cases hf : ((s[0].toNat : Int) == 10)
    · cases hl : ((s[s.size - 1].toNat : Int) == 10)
      · have HA : Hid (∀ hl : s.data.toList ≠ [], s.data.toList.head hl ≠ 10) := head_ne _ (by rw [HLS.out]; exact hpos) (by rw [HF.out]; exact (byte_ne s[0] 10 (by omega)).mpr (by simpa using hf))
        have HB : Hid (∀ hl : s.data.toList ≠ [], s.data.toList.getLast hl ≠ 10) := last_ne _ (by rw [HLS.out]; exact hl1) (by rw [HL.out]; exact (byte_ne s[s.size - 1] 10 (by omega)).mpr (by simpa using hl))
        clear HF HL
        go_enter Tryd.func10, Tryd.ntmps10
        go_wp2_with fail
        go_loop [4] (fun v => ∃ i : Nat, v = .int .i64 i ∧ i ≤ s.size + 1 ∧ Hid ((∀ p ∈ linesAt s.data.toList i, Good p) → ∀ p ∈ sp 10 s.data.toList, Good p)) (fun v => s.size + 1 - (intOf v).toNat)
        case atStart => exact ⟨0, rfl, by omega, by rw [linesAt_zero]; exact id⟩
        case round =>
          obtain ⟨i, rfl, hi1, HG⟩ := hrel
          rcases Nat.lt_or_ge s.size i with hend | hlt
          · have hle : ¬ (i : Int) ≤ (s.size : Int) := by omega
            go_wp2_with fail
            go_ret
            refine ⟨true, rfl, rfl, fun _ => .inr ⟨HA.out, HB.out, HG.out ?_⟩⟩
            rw [linesAt_past _ _ (by rw [HLS.out]; exact hend)]
            intro p hp
            cases hp
          · have hle : (i : Int) ≤ (s.size : Int) := by omega
            go_upto_block 2 with fail
            go_cut [5] (fun v wx => ∃ j : Nat, v = .int .i64 j ∧ wx = w ∧ i ≤ j ∧ j ≤ s.size ∧ Hid (linesAt s.data.toList i = cut s.data.toList i j :: linesAt s.data.toList (j + 1)))
            case first =>
              go_wp2_with fail
              go_loop [5] (fun v => ∃ j : Nat, v = .int .i64 j ∧ i ≤ j ∧ j ≤ s.size ∧ Hid (sp 10 (s.data.toList.drop i) = onTop (cut s.data.toList i j) (sp 10 (s.data.toList.drop j)))) (fun v => s.size - (intOf v).toNat)
              case atStart => exact ⟨i, rfl, by omega, by omega, line_start _ _⟩
              case round =>
                obtain ⟨j, rfl, hij, hjs, HSP⟩ := hrel
                rcases Nat.lt_or_ge j s.size with hj | hj
                · have HC : Hid (s.data.toList[j]'(by rw [HLS.out]; exact hj) = s[j]) := rfl
                  have hj' : (j : Int) < (s.size : Int) := by omega
                  cases hx : ((s[j].toNat : Int) == 10)
                  · have HN := hide (line_next s.data.toList i j hij (by rw [HLS.out]; exact hj) (by rw [HC.out]; exact (byte_ne s[j] 10 (by omega)).mpr (by simpa using hx)) HSP.out)
                    have hx' : ((s[j].toNat : Int) != 10) = true := by rw [bne, hx]; rfl
                    go_wp2_with fail
                    go_round
                    case rel => exact ⟨j + 1, by go_num, by omega, by omega, HN⟩
                    case measure => simp [intOf]; omega
                  · have hx2 : s[j] = 10 := byte_is s[j] 10 (by omega) (by simpa using hx)
                    have hx' : ((s[j].toNat : Int) != 10) = false := by rw [bne, hx]; rfl
                    have HN := hide (line_nl s.data.toList i j (by rw [HLS.out]; exact hj) (by rw [HC.out]; exact hx2) HSP.out)
                    clear hx2
                    go_wp2_with fail
                    go_meet
                    refine ⟨j, rfl, rfl, hij, hjs, ?_⟩
                    show _ = _
                    rw [linesAt, if_pos (by rw [HLS.out]; omega), HN.out, linesAt, if_pos (by rw [HLS.out]; omega)]
                · have ej : j = s.size := by omega
                  have hj' : ¬ (j : Int) < (s.size : Int) := by omega
                  have HN := hide (line_end s.data.toList i (by rw [HLS.out, ← ej]; exact HSP.out))
                  rw [HLS.out, ← ej] at HN
                  have Hej := hide ej
                  clear ej
                  go_wp2_with fail
                  go_meet
                  refine ⟨j, rfl, rfl, hij, hjs, ?_⟩
                  show _ = _
                  rw [linesAt, if_pos (by rw [HLS.out]; omega), HN.out, linesAt_past _ _ (by rw [HLS.out]; have := Hej.out; omega)]
            case rest =>
              obtain ⟨j, rfl, rfl, hij, hjs, HLN⟩ := hcut
              rcases Nat.lt_or_ge i j with hlo | hlo
              · have hloj : (i : Int) < (j : Int) := by omega
                have his : i < s.size := by omega
                have hjs1 : j - 1 < s.size := by omega
                have HC1 := hide (cut_cons s.data.toList i j hlo (by rw [HLS.out]; exact hjs))
                have HC2 := hide (cut_snoc s.data.toList i j hlo (by rw [HLS.out]; exact hjs))
                have HD1 : Hid (s.data.toList[i]'(by rw [HLS.out]; exact his) = s[i]) := rfl
                have HD2 : Hid (s.data.toList[j - 1]'(by rw [HLS.out]; exact hjs1) = s[j - 1]) := rfl
                have H2 := hide (has2 s[i])
                have H3 := hide (has3 s[j - 1])
                have e2 : ((j : Int) - 1).toNat = j - 1 := by omega
                cases h32 : ((s[i].toNat : Int) == 32)
                · cases h9 : ((s[i].toNat : Int) == 9)
                  · cases h42 : ((s[i].toNat : Int) == 42)
                    · cases g32 : ((s[j - 1].toNat : Int) == 32)
                      · cases g9 : ((s[j - 1].toNat : Int) == 9)
                        · cases g13 : ((s[j - 1].toNat : Int) == 13)
                          · rw [h32, h9] at H2
                            rw [g32, g9, g13] at H3
                            have HGood : Hid (Good (cut s.data.toList i j)) := by
                              show Good _
                              rw [HC1.out]
                              refine good_of _ (cut s.data.toList i (j - 1)) _ (s.data.toList[j - 1]'(by rw [HLS.out]; exact hjs1)) ?_ ?_ ?_ ?_
                              · rw [← HC1.out, HC2.out]
                              · rw [HD1.out, H2.out]; rfl
                              · rw [HD1.out]; exact (byte_ne s[i] 42 (by omega)).mpr (by simpa using h42)
                              · rw [HD2.out, H3.out]; rfl
                            have HN : Hid ((∀ p ∈ linesAt s.data.toList (j + 1), Good p) → ∀ p ∈ sp 10 s.data.toList, Good p) := fun h => HG.out (by
                              rw [HLN.out]
                              intro p hp
                              rcases List.mem_cons.1 hp with rfl | hp
                              · exact HGood.out
                              · exact h p hp)
                            go_wp2_with fail
                            go_round
                            case rel => exact ⟨j + 1, by go_num, by omega, HN⟩
                            case measure => simp [intOf]; omega
                          · go_wp2_with fail
                            go_ret
                            exact ⟨false, rfl, rfl, fun h => (by cases h)⟩
                        · go_wp2_with fail
                          go_ret
                          exact ⟨false, rfl, rfl, fun h => (by cases h)⟩
                      · go_wp2_with fail
                        go_ret
                        exact ⟨false, rfl, rfl, fun h => (by cases h)⟩
                    · go_wp2_with fail
                      go_ret
                      exact ⟨false, rfl, rfl, fun h => (by cases h)⟩
                  · go_wp2_with fail
                    go_ret
                    exact ⟨false, rfl, rfl, fun h => (by cases h)⟩
                · go_wp2_with fail
                  go_ret
                  exact ⟨false, rfl, rfl, fun h => (by cases h)⟩
              · have hloj : ¬ (i : Int) < (j : Int) := by omega
                have HN : Hid ((∀ p ∈ linesAt s.data.toList (j + 1), Good p) → ∀ p ∈ sp 10 s.data.toList, Good p) := fun h => HG.out (by
                  rw [HLN.out, cut_nil _ _ _ hlo]
                  intro p hp
                  rcases List.mem_cons.1 hp with rfl | hp
                  · exact good_nil
                  · exact h p hp)
                go_wp2_with fail
                go_round
                case rel => exact ⟨j + 1, by go_num, by omega, HN⟩
                case measure => simp [intOf]; omega
      · go_enter Tryd.func10, Tryd.ntmps10
        go_wp2
        go_ret
        exact ⟨false, rfl, rfl, fun h => (by cases h)⟩
    · go_enter Tryd.func10, Tryd.ntmps10
      go_wp2
      go_ret
      exact ⟨false, rfl, rfl, fun h => (by cases h)⟩
end Go.Proofs.Qxb6602851aDoor
