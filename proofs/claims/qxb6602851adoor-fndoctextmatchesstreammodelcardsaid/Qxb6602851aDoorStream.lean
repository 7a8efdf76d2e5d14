import Derived.Test.Qxb6602851aDoorRow
namespace Go.Proofs.Qxb6602851aDoor
open Go.RowKit
set_option linter.unusedSimpArgs false
set_option maxRecDepth 100000

def Post8 (s : ByteArray) (w : World) (e : Ending) (w' : World) : Prop := e = .returned (.string ⟨(str false 0 (restAt s.data.toList 0)).toArray⟩) ∧ Below w.heap.size w w'

/-- At the head of a round of the outer loop. -/
def RS (s : ByteArray) (w : World) (v4 v5 v6 v7 : Value) (wr : World) : Prop :=
  ∃ (i gap : Nat) (st : Bool) (O : List UInt8), v7 = .int .i64 i ∧ v6 = .int .i64 gap ∧ v5 = .bool st ∧ i ≤ s.size + 1 ∧ O.length + gap ≤ i ∧ wr.ownsRow w.heap.size 5 1 v4 O.length (cellsB O) ∧ Below w.heap.size w wr ∧
    O ++ str st gap (restAt s.data.toList i) = str false 0 (restAt s.data.toList 0)

/-- Behind the writing of a line. -/
def RE (s : ByteArray) (w : World) (j : Nat) (v4 v5 v6 : Value) (wx : World) : Prop :=
  ∃ (gap : Nat) (st : Bool) (O : List UInt8), v6 = .int .i64 gap ∧ v5 = .bool st ∧ O.length + gap ≤ j ∧ RG w O v4 wx ∧
    O ++ str st (gap + 1) (restAt s.data.toList (j + 1)) = str false 0 (restAt s.data.toList 0)

set_option maxHeartbeats 4000000 in
theorem stream_calls (s : ByteArray) (hs : s.size ≤ 4194304) (w : World) : Calls Tryd.prog 8 #[.string s] w fun e w' => Post8 s w e w' := by
  obtain ⟨i0, hi, hz0, hz1, hz2⟩ := info_parts Tryd.info5
  obtain ⟨W1, hmk, hown, hgrow⟩ := run_make_own (P := Tryd.prog) w w.heap.size 30 5 i0 (.int .u8 0) 1 Tryd.underlying30 hi hz0 hz1 .i64 .i64 s.size (by rw [hz2]; omega) (by unfold maxLen; omega) (Nat.le_refl _)
  have hB1 : Below w.heap.size w W1 := (Below.refl _ w).grown hgrow (Nat.le_refl _) (fun g hg => by cases hg)
  have HS : Hid (RS s w (.slice (some ⟨w.heap.size, 0, none⟩) 0 s.size) (.bool false) (.int .i64 0) (.int .i64 0) W1) := ⟨0, 0, false, [], rfl, rfl, rfl, by omega, by simp, hown, hB1, rfl⟩
  have Hi := hide hi
  clear hi hown hgrow hB1
  have hls : s.data.toList.length = s.size := rfl
  have HLS := hide hls
  clear hls
  go_enter Tryd.func8, Tryd.ntmps8
  go_wp2
  go_loopw [4, 5, 6, 7] (fun v4 v5 v6 v7 wr => RS s w v4 v5 v6 v7 wr) (fun _ _ _ v7 _ => s.size + 1 - (intOf v7).toNat)
  case atStart => exact HS.out
  case round =>
    obtain ⟨i, gap, st, O, rfl, rfl, rfl, hi1, hO, hown, hB, HR0⟩ := hrel
    have HR := hide HR0
    have Hown := hide hown
    have HB := hide hB
    clear HR0 hown hB HS hmk
    rcases Nat.lt_or_ge s.size i with hend | hlt
    · have HO : Hid (O = str false 0 (restAt s.data.toList 0)) := by
        show _ = _
        have := HR.out
        rw [restAt, if_neg (by rw [HLS.out]; omega)] at this
        simpa [str] using this
      have hcv := back_string wr _ _ _ _ Hown.out
      have hle : ¬ (i : Int) ≤ (s.size : Int) := by omega
      rw [HO.out] at hcv
      go_wp2
      go_ret
      exact ⟨rfl, HB.out⟩
    · have hle : (i : Int) ≤ (s.size : Int) := by omega
      go_upto_block 2 with fail
      go_cut [8] (fun v8 wx => ∃ j : Nat, v8 = .int .i64 j ∧ wx = wr ∧ i ≤ j ∧ j ≤ s.size ∧ Hid (restAt s.data.toList i = docLine (cut s.data.toList i j) :: restAt s.data.toList (j + 1)))
      case first =>
        go_wp2_with fail
        go_loop [8] (fun v8 => ∃ j : Nat, v8 = .int .i64 j ∧ i ≤ j ∧ j ≤ s.size ∧ Hid (sp 10 (s.data.toList.drop i) = onTop (cut s.data.toList i j) (sp 10 (s.data.toList.drop j)))) (fun v8 => s.size - (intOf v8).toNat)
        case atStart => exact ⟨i, rfl, by omega, by omega, line_start _ _⟩
        case round =>
          obtain ⟨j, rfl, hij, hjs, HSP⟩ := hrel
          rcases Nat.lt_or_ge j s.size with hj | hj
          · have HC : Hid (s.data.toList[j]'(by rw [HLS.out]; exact hj) = s[j]) := rfl
            have hj' : (j : Int) < (s.size : Int) := by omega
            go_wp2_with fail
            · have hx : ((s[j].toNat : Int) != 10) = true := ‹_›
              have HN := hide (line_next s.data.toList i j hij (by rw [HLS.out]; exact hj) (by rw [HC.out]; exact (byte_ne s[j] 10 (by omega)).mpr (by simpa using hx)) HSP.out)
              go_round
              case rel => exact ⟨j + 1, by go_num, by omega, by omega, HN⟩
              case measure => simp [intOf]; omega
            · have hx : ((s[j].toNat : Int) != 10) = false := ‹_›
              have hx2 : s[j] = 10 := byte_is s[j] 10 (by omega) (by simpa using hx)
              have HN := hide (line_nl s.data.toList i j (by rw [HLS.out]; exact hj) (by rw [HC.out]; exact hx2) HSP.out)
              clear hx2
              go_meet
              refine ⟨j, rfl, rfl, hij, hjs, ?_⟩
              show _ = _
              rw [restAt, if_pos (by rw [HLS.out]; omega), HN.out, restAt, if_pos (by rw [HLS.out]; omega)]
              rfl
          · have ej : j = s.size := by omega
            have hj' : ¬ (j : Int) < (s.size : Int) := by omega
            have HN := hide (line_end s.data.toList i (by rw [HLS.out, ← ej]; exact HSP.out))
            rw [HLS.out, ← ej] at HN
            have Hej := hide ej
            clear ej
            go_wp2_with fail
            go_meet
            refine ⟨j, rfl, rfl, hij, hjs, ?_⟩
            show _ = _
            rw [restAt, if_pos (by rw [HLS.out]; omega), HN.out, restAt, if_neg (by rw [HLS.out]; have := Hej.out; omega)]
            rfl
      case rest =>
        obtain ⟨j, rfl, rfl, hij, hjs, HLN⟩ := hcut
        go_upto_block 4 with fail
        go_cut [9] (fun v9 wx => ∃ lo : Nat, v9 = .int .i64 lo ∧ wx = wc ∧ i ≤ lo ∧ lo ≤ j ∧ Hid (cut s.data.toList lo j = Lib.trimLeftS (cut s.data.toList i j) [32, 9]))
        case first =>
          go_wp2_with fail
          go_loop [9] (fun v9 => ∃ lo : Nat, v9 = .int .i64 lo ∧ i ≤ lo ∧ lo ≤ j ∧ Hid (Lib.trimLeftS (cut s.data.toList lo j) [32, 9] = Lib.trimLeftS (cut s.data.toList i j) [32, 9])) (fun v9 => j - (intOf v9).toNat)
          case atStart => exact ⟨i, rfl, by omega, by omega, rfl⟩
          case round =>
            obtain ⟨lo, rfl, hl1, hl2, HT⟩ := hrel
            rcases Nat.lt_or_ge lo j with hlo | hlo
            · have hloj : (lo : Int) < (j : Int) := by omega
              have hlos : lo < s.size := by omega
              have HC := hide (cut_cons s.data.toList lo j hlo (by rw [HLS.out]; exact hjs))
              have HC2 : Hid (s.data.toList[lo]'(by rw [HLS.out]; exact hlos) = s[lo]) := rfl
              have H2 := hide (has2 s[lo])
              cases h32 : ((s[lo].toNat : Int) == 32)
              all_goals cases h9 : ((s[lo].toNat : Int) == 9)
              all_goals rw [h32, h9] at H2
              · have HN : Hid (cut s.data.toList lo j = Lib.trimLeftS (cut s.data.toList i j) [32, 9]) := by
                  show _ = _
                  rw [← HT.out, HC.out, left_stop _ _ _ (by rw [HC2.out, H2.out]; rfl)]
                go_wp2_with fail
                go_meet
                exact ⟨lo, rfl, rfl, hl1, hl2, HN⟩
              all_goals
                have HN : Hid (Lib.trimLeftS (cut s.data.toList (lo + 1) j) [32, 9] = Lib.trimLeftS (cut s.data.toList i j) [32, 9]) := by
                  show _ = _
                  rw [← HT.out, HC.out, left_skip _ _ _ (by rw [HC2.out, H2.out]; rfl)]
                go_wp2_with fail
                go_round
                case rel => exact ⟨lo + 1, by go_num, by omega, by omega, HN⟩
                case measure => simp [intOf]; omega
            · have hloj : ¬ (lo : Int) < (j : Int) := by omega
              have HN : Hid (cut s.data.toList lo j = Lib.trimLeftS (cut s.data.toList i j) [32, 9]) := by
                show _ = _
                rw [← HT.out, cut_nil _ _ _ hlo]
                rfl
              go_wp2_with fail
              go_meet
              exact ⟨lo, rfl, rfl, hl1, hl2, HN⟩
        case rest =>
          obtain ⟨lo, rfl, rfl, hl1, hl2, HTL⟩ := hcut
          go_upto_region 13 with fail
          go_cut [58] (fun v wx => ∃ b : Bool, v = .bool b ∧ wx = wc ∧ Hid ((b = true → lo < j ∧ cut s.data.toList lo j = 42 :: cut s.data.toList (lo + 1) j) ∧ (b = false → star (cut s.data.toList lo j) = cut s.data.toList lo j)))
          case first =>
            rcases Nat.lt_or_ge lo j with hlo | hlo
            · have hloj : (lo : Int) < (j : Int) := by omega
              have hlos : lo < s.size := by omega
              have HC := hide (cut_cons s.data.toList lo j hlo (by rw [HLS.out]; exact hjs))
              have HC2 : Hid (s.data.toList[lo]'(by rw [HLS.out]; exact hlos) = s[lo]) := rfl
              cases h42 : ((s[lo].toNat : Int) == 42)
              · go_wp2_with fail
                go_meet
                refine ⟨false, rfl, rfl, fun h => (by cases h), fun _ => ?_⟩
                rw [HC.out, HC2.out, star_none _ _ ((byte_ne s[lo] 42 (by omega)).mpr (by simpa using h42))]
              · go_wp2_with fail
                go_meet
                refine ⟨true, rfl, rfl, fun _ => ⟨hlo, ?_⟩, fun h => (by cases h)⟩
                rw [HC.out, HC2.out, byte_is s[lo] 42 (by omega) (by simpa using h42)]
                rfl
            · have hloj : ¬ (lo : Int) < (j : Int) := by omega
              go_wp2_with fail
              go_meet
              exact ⟨false, rfl, rfl, fun h => (by cases h), fun _ => by rw [cut_nil _ _ _ hlo]; rfl⟩
          case rest =>
            obtain ⟨b, rfl, rfl, HST⟩ := hcut
            go_upto_if 58 with fail
            go_cut [9] (fun v wx => ∃ lo2 : Nat, v = .int .i64 lo2 ∧ wx = wc ∧ lo ≤ lo2 ∧ lo2 ≤ j ∧ Hid (cut s.data.toList lo2 j = star (cut s.data.toList lo j)))
            case first =>
              cases b
              · have HS2 := hide ((HST.out).2 rfl)
                clear HST
                go_wp2_with fail
                go_meet
                exact ⟨lo, rfl, rfl, by omega, hl2, HS2.out.symm⟩
              · obtain ⟨hlo, hcut0⟩ := (HST.out).1 rfl
                have HC0 := hide hcut0
                clear hcut0 HST
                rcases Nat.lt_or_ge (lo + 1) j with hlo1 | hlo1
                · have hloj : (lo : Int) + 1 < (j : Int) := by omega
                  have hlos : lo + 1 < s.size := by omega
                  have HC := hide (cut_cons s.data.toList (lo + 1) j hlo1 (by rw [HLS.out]; exact hjs))
                  have HC2 : Hid (s.data.toList[lo + 1]'(by rw [HLS.out]; exact hlos) = s[lo + 1]) := rfl
                  have e1 : ((lo : Int) + 1).toNat = lo + 1 := by omega
                  cases h32 : ((s[lo + 1].toNat : Int) == 32)
                  · go_wp2_with fail
                    go_meet
                    refine ⟨lo + 1, by go_num, rfl, by omega, by omega, ?_⟩
                    show _ = _
                    rw [HC0.out, HC.out, HC2.out, star_other _ _ ((byte_ne s[lo + 1] 32 (by omega)).mpr (by simpa using h32))]
                  · go_wp2_with fail
                    go_meet
                    refine ⟨lo + 2, by go_num, rfl, by omega, by omega, ?_⟩
                    show _ = _
                    rw [HC0.out, HC.out, HC2.out, byte_is s[lo + 1] 32 (by omega) (by simpa using h32)]
                    exact (star_blank _).symm
                · have hloj : ¬ (lo : Int) + 1 < (j : Int) := by omega
                  go_wp2_with fail
                  go_meet
                  refine ⟨lo + 1, by go_num, rfl, by omega, by omega, ?_⟩
                  show _ = _
                  rw [HC0.out, cut_nil _ _ _ hlo1]
                  exact star_one.symm
            case rest =>
              obtain ⟨lo2, rfl, rfl, hl3, hl4, HTS⟩ := hcut
              go_upto_block 6 with fail
              go_cut [10] (fun v wx => ∃ hi : Nat, v = .int .i64 hi ∧ wx = wc ∧ lo2 ≤ hi ∧ hi ≤ j ∧ Hid (cut s.data.toList lo2 hi = Lib.trimRightS (cut s.data.toList lo2 j) [32, 9, 13]))
              case first =>
                go_wp2_with fail
                go_loop [10] (fun v => ∃ hi : Nat, v = .int .i64 hi ∧ lo2 ≤ hi ∧ hi ≤ j ∧ Hid (Lib.trimRightS (cut s.data.toList lo2 hi) [32, 9, 13] = Lib.trimRightS (cut s.data.toList lo2 j) [32, 9, 13])) (fun v => (intOf v).toNat)
                case atStart => exact ⟨j, rfl, by omega, by omega, rfl⟩
                case round =>
                  obtain ⟨hi, rfl, hh1, hh2, HT⟩ := hrel
                  rcases Nat.lt_or_ge lo2 hi with hlo | hlo
                  · have hloj : (lo2 : Int) < (hi : Int) := by omega
                    have hlos : hi - 1 < s.size := by omega
                    have HC := hide (cut_snoc s.data.toList lo2 hi hlo (by rw [HLS.out]; omega))
                    have HC2 : Hid (s.data.toList[hi - 1]'(by rw [HLS.out]; exact hlos) = s[hi - 1]) := rfl
                    have H3 := hide (has3 s[hi - 1])
                    have e1 : ((hi : Int) - 1).toNat = hi - 1 := by omega
                    cases h32 : ((s[hi - 1].toNat : Int) == 32)
                    all_goals cases h9 : ((s[hi - 1].toNat : Int) == 9)
                    all_goals cases h13 : ((s[hi - 1].toNat : Int) == 13)
                    all_goals rw [h32, h9, h13] at H3
                    · have HN : Hid (cut s.data.toList lo2 hi = Lib.trimRightS (cut s.data.toList lo2 j) [32, 9, 13]) := by
                        show _ = _
                        rw [← HT.out, HC.out, right_stop _ _ _ (by rw [HC2.out, H3.out]; rfl)]
                      go_wp2_with fail
                      go_meet
                      exact ⟨hi, rfl, rfl, hh1, hh2, HN⟩
                    all_goals
                      have HN : Hid (Lib.trimRightS (cut s.data.toList lo2 (hi - 1)) [32, 9, 13] = Lib.trimRightS (cut s.data.toList lo2 j) [32, 9, 13]) := by
                        show _ = _
                        rw [← HT.out, HC.out, right_skip _ _ _ (by rw [HC2.out, H3.out]; rfl)]
                      go_wp2_with fail
                      go_round
                      case rel => exact ⟨hi - 1, by go_num, by omega, by omega, HN⟩
                      case measure => simp [intOf]; omega
                  · have hloj : ¬ (lo2 : Int) < (hi : Int) := by omega
                    have HN : Hid (cut s.data.toList lo2 hi = Lib.trimRightS (cut s.data.toList lo2 j) [32, 9, 13]) := by
                      show _ = _
                      rw [← HT.out, cut_nil _ _ _ hlo]
                      rfl
                    go_wp2_with fail
                    go_meet
                    exact ⟨hi, rfl, rfl, hh1, hh2, HN⟩
              case rest =>
                obtain ⟨hi, rfl, rfl, hh1, hh2, HTR⟩ := hcut
                have HX : Hid (cut s.data.toList lo2 hi = docLine (cut s.data.toList i j)) := by
                  show _ = _
                  rw [HTR.out, HTS.out, HTL.out]
                  rfl
                clear HTR HTS HTL
                go_upto_if 101 with fail
                go_cut [4, 5, 6] (fun v4 v5 v6 wx => RE s w j v4 v5 v6 wx)
                case first =>
                  rcases Nat.lt_or_ge lo2 hi with hlo | hlo
                  · have hloj : (lo2 : Int) < (hi : Int) := by omega
                    go_upto_if 102 with fail
                    go_cut [4] (fun v4 wx => RG w (O ++ (if st then List.replicate gap 10 else [])) v4 wx)
                    case first =>
                      cases st
                      · go_wp2_with fail
                        go_meet
                        show RG _ _ _ _
                        simp only [Bool.false_eq_true, if_false, List.append_nil]
                        exact ⟨Hown.out, HB.out⟩
                      · have HRG : Hid (RG w (O ++ List.replicate 0 10) u4 wc) := by
                          show RG _ _ _ _
                          simp only [List.replicate_zero, List.append_nil]
                          exact ⟨Hown.out, HB.out⟩
                        go_wp2_with fail
                        go_loopw [4, 11] (fun v4 v wz => ∃ k : Nat, v = .int .i64 k ∧ k ≤ gap ∧ RG w (O ++ List.replicate k 10) v4 wz) (fun _ v _ => gap - (intOf v).toNat)
                        case atStart => exact ⟨0, rfl, by omega, HRG.out⟩
                        case round =>
                          obtain ⟨k, rfl, hk, hownr, hBr⟩ := hrel
                          have hlen : (O ++ List.replicate k (10 : UInt8)).length = O.length + k := by simp
                          rcases Nat.lt_or_ge k gap with hkg | hkg
                          · have hkg' : (k : Int) < (gap : Int) := by omega
                            have hsz := hBr.size
                            have HBr := hide hBr
                            clear hBr
                            have HT := hide (cellsB_ten (O ++ List.replicate k (10 : UInt8)))
                            have HQ := hide (rep_next O k)
                            have hx1 : ∀ u ∈ [Value.int .u8 10], u.oneCell' = true := by intro u hu; simp at hu; subst hu; rfl
                            generalize O ++ List.replicate k (10 : UInt8) = Ok at *
                            go_wp2_with (at_builtin; refine wpList_append_own _ rfl _ _ 30 rfl w.heap.size 5 i0 (.int .u8 0) 1 1 Tryd.underlying30 (unhide Hi) hz0 hz1 hz2 rfl (by decide) _ _ _ rfl (hownr.alloc _) ⟨wr.heap.size, 0, none⟩ 1 1 [.int .u8 10] rfl rfl (cell_one_new _ _ _) hx1 (by unfold maxLen; omega) (by omega) (by simp; omega) ?_)
                            intro v' w1 hown' hgrow _
                            have hB1 : Below w.heap.size w w1 := ((unhide HBr).alloc (by omega) _).grown hgrow (by simp; omega) (fun g hg => (hownr.lt g hg).1)
                            have HN : Hid (RG w (O ++ List.replicate (k + 1) (10 : UInt8)) v' w1) := by
                              show RG _ _ _ _
                              rw [HQ.out]
                              rw [HT.out] at hown'
                              refine ⟨?_, hB1⟩
                              rw [List.length_append, hlen]
                              exact hown'
                            clear hownr hgrow hown' hB1
                            go_wp2_with fail
                            go_roundw
                            case rel => exact ⟨k + 1, by go_num, by omega, HN.out⟩
                            case measure => simp [intOf]; omega
                          · have ek : k = gap := by omega
                            have hkg' : ¬ (k : Int) < (gap : Int) := by omega
                            have HN : Hid (RG w (O ++ List.replicate gap (10 : UInt8)) u4 wr) := by
                              rw [← ek]
                              exact ⟨hownr, hBr⟩
                            clear hownr hBr
                            go_wp2_with fail
                            go_meet
                            exact HN.out
                    case rest =>
                      have HE : Hid ((O ++ (if st then List.replicate gap 10 else [])) ++ cut s.data.toList lo2 hi ++ str true 1 (restAt s.data.toList (j + 1)) = str false 0 (restAt s.data.toList 0)) := by
                        show _ = _
                        have h0 := HR.out
                        have hne : (cut s.data.toList lo2 hi).isEmpty = false := by
                          rw [cut_cons _ _ _ hlo (by rw [HLS.out]; omega)]
                          rfl
                        rw [HLN.out, str, ← HX.out, hne] at h0
                        rw [← h0]
                        simp
                      have hO1 : (O ++ (if st then List.replicate gap (10 : UInt8) else [])).length ≤ O.length + gap := by
                        cases st <;> simp
                      clear HR HLN HX Hown HB
                      generalize (O ++ (if st then List.replicate gap (10 : UInt8) else [])) = O1 at *
                      have HRG : Hid (RG w (O1 ++ cut s.data.toList lo2 lo2) u4 wc) := by
                        show RG _ _ _ _
                        rw [cut_nil _ _ _ (Nat.le_refl _), List.append_nil]
                        exact hcut
                      clear hcut
                      go_wp2_with fail
                      go_loopw [4, 12] (fun v4 v wz => ∃ k : Nat, v = .int .i64 k ∧ lo2 ≤ k ∧ k ≤ hi ∧ RG w (O1 ++ cut s.data.toList lo2 k) v4 wz) (fun _ v _ => hi - (intOf v).toNat)
                      case atStart => exact ⟨lo2, rfl, by omega, by omega, HRG.out⟩
                      case round =>
                        obtain ⟨k, rfl, hk1, hk2, hownr, hBr⟩ := hrel
                        have hlen : (O1 ++ cut s.data.toList lo2 k).length = O1.length + (k - lo2) := by rw [List.length_append, cut_len _ _ _ (by rw [HLS.out]; omega)]
                        rcases Nat.lt_or_ge k hi with hkg | hkg
                        · have hkg' : (k : Int) < (hi : Int) := by omega
                          have hks : k < s.size := by omega
                          have hsz := hBr.size
                          have HBr := hide hBr
                          clear hBr
                          have HT : Hid (cellsB (O1 ++ cut s.data.toList lo2 k) ++ [.int .u8 (s[k].toNat : Int)] = cellsB (O1 ++ cut s.data.toList lo2 (k + 1))) := by
                            show _ = _
                            have e1 := cut_snoc s.data.toList lo2 (k + 1) (by omega) (by rw [HLS.out]; omega)
                            simp only [Nat.add_sub_cancel] at e1
                            rw [e1, ← List.append_assoc, cellsB_snoc _ _ _ rfl]
                            rfl
                          have hlen1 : (O1 ++ cut s.data.toList lo2 (k + 1)).length = O1.length + (k - lo2) + 1 := by rw [List.length_append, cut_len _ _ _ (by rw [HLS.out]; omega)]; omega
                          have Hlen1 := hide hlen1
                          clear hlen1
                          have hx1 : ∀ u ∈ [Value.int .u8 (s[k].toNat : Int)], u.oneCell' = true := by intro u hu; simp at hu; subst hu; rfl
                          go_wp2_with (at_builtin; refine wpList_append_own _ rfl _ _ 30 rfl w.heap.size 5 i0 (.int .u8 0) 1 1 Tryd.underlying30 (unhide Hi) hz0 hz1 hz2 rfl (by decide) _ _ _ rfl (hownr.alloc _) ⟨wr.heap.size, 0, none⟩ 1 1 [.int .u8 (s[k].toNat : Int)] rfl rfl (cell_one_new _ _ _) hx1 (by unfold maxLen; omega) (by omega) (by simp; omega) ?_)
                          intro v' w1 hown' hgrow _
                          have hB1 : Below w.heap.size w w1 := ((unhide HBr).alloc (by omega) _).grown hgrow (by simp; omega) (fun g hg => (hownr.lt g hg).1)
                          have HN : Hid (RG w (O1 ++ cut s.data.toList lo2 (k + 1)) v' w1) := by
                            show RG _ _ _ _
                            rw [HT.out] at hown'
                            refine ⟨?_, hB1⟩
                            rw [Hlen1.out]
                            exact hown'
                          clear hownr hgrow hown' hB1
                          go_wp2_with fail
                          go_roundw
                          case rel => exact ⟨k + 1, by go_num, by omega, by omega, HN.out⟩
                          case measure => simp [intOf]; omega
                        · have ek : k = hi := by omega
                          have hkg' : ¬ (k : Int) < (hi : Int) := by omega
                          have HN : Hid (RG w (O1 ++ cut s.data.toList lo2 hi) u4 wr) := by
                            rw [← ek]
                            exact ⟨hownr, hBr⟩
                          have hlen2 : (O1 ++ cut s.data.toList lo2 hi).length + 0 ≤ j := by rw [← ek, hlen]; omega
                          clear hownr hBr
                          go_wp2_with fail
                          go_meet
                          exact ⟨0, true, _, rfl, rfl, hlen2, HN.out, HE.out⟩
                  · have hloj : ¬ (lo2 : Int) < (hi : Int) := by omega
                    have HE : Hid (O ++ str st (gap + 1) (restAt s.data.toList (j + 1)) = str false 0 (restAt s.data.toList 0)) := by
                      show _ = _
                      have hn := HX.out
                      rw [cut_nil _ _ _ hlo] at hn
                      have h0 := HR.out
                      rw [HLN.out, str, ← hn] at h0
                      exact h0
                    go_wp2_with fail
                    go_meet
                    exact ⟨gap, st, O, rfl, rfl, by omega, ⟨Hown.out, HB.out⟩, HE.out⟩
                case rest =>
                  obtain ⟨gap2, st2, O2, rfl, rfl, hO2, ⟨hown2, hB2⟩, HE0⟩ := hcut
                  have HE := hide HE0
                  have Hown2 := hide hown2
                  have HB2 := hide hB2
                  clear HE0 hown2 hB2 HR Hown HB HX HLN
                  rcases Nat.lt_or_ge j s.size with hj | hj
                  · have hj' : (j : Int) < (s.size : Int) := by omega
                    go_wp2_with fail
                    go_roundw
                    case rel => exact ⟨j + 1, gap2 + 1, st2, O2, by go_num, by go_num, rfl, by omega, by omega, Hown2.out, HB2.out, HE.out⟩
                    case measure => simp [intOf]; omega
                  · have hj' : ¬ (j : Int) < (s.size : Int) := by omega
                    have HE2 : Hid (O2 ++ str st2 gap2 (restAt s.data.toList (j + 1)) = str false 0 (restAt s.data.toList 0)) := by
                      show _ = _
                      have h0 := HE.out
                      rw [restAt, if_neg (by rw [HLS.out]; omega)] at h0 ⊢
                      exact h0
                    go_wp2_with fail
                    go_roundw
                    case rel => exact ⟨j + 1, gap2, st2, O2, by go_num, rfl, rfl, by omega, by omega, Hown2.out, HB2.out, HE2.out⟩
                    case measure => simp [intOf]; omega

end Go.Proofs.Qxb6602851aDoor
