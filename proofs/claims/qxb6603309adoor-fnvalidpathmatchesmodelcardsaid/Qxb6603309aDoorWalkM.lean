import Derived.Test.Qxb6603309aDoorModel
namespace Go.Proofs.Qxb6603309aDoor
open Go.RowKit
set_option linter.unusedSimpArgs false
set_option linter.unusedVariables false
set_option maxRecDepth 100000

def Post8 (s : ByteArray) (w : World) (e : Ending) (w' : World) : Prop := e = .returned (.bool (vp s)) ∧ Below w.heap.size w w'

/-- At the head of a round of the first loop. -/
def R8 (s : ByteArray) (v4 v5 : Value) : Prop :=
  ∃ st i : Nat, v4 = .int .i64 st ∧ v5 = .int .i64 i ∧ i ≤ s.size + 1 ∧ 1 ≤ i ∧ st ≤ i ∧ Hid (goodSegs (segsAt s.data.toList st) = goodSegs (sp 47 (s.data.toList.drop 1))) ∧
    Hid (i ≤ s.size → sp 47 (s.data.toList.drop st) = onTop (cut s.data.toList st i) (sp 47 (s.data.toList.drop i))) ∧ (s.size < i → s.size < st)

def R8b (s : ByteArray) (w : World) (v7 : Value) (wx : World) : Prop :=
  ∃ pos f : Nat, v7 = .int .i64 pos ∧ pos ≤ s.size + 4 ∧ Below w.heap.size w wx ∧ okF f s pos = okF s.size s 0 ∧ s.size ≤ pos + f

set_option maxHeartbeats 4000000 in
theorem model_calls (s : ByteArray) (hs : s.size ≤ 4194304) (w : World) : Calls Tryd.prog 8 #[.string s] w fun e w' => Post8 s w e w' := by
  have HLS : Hid (s.data.toList.length = s.size) := rfl
  rcases Nat.eq_zero_or_pos s.size with hz | hpos
  · have hz' : (s.size : Int) = 0 := by omega
    have HV : Hid (vp s = false) := by
      show _ = _
      have e : s.data.toList = [] := List.length_eq_zero_iff.1 (by rw [HLS.out]; exact hz)
      rw [vp, e]
      rfl
    go_enter Tryd.func8, Tryd.ntmps8
    go_wp2
    go_ret
    exact ⟨by rw [HV.out]; rfl, Below.refl _ _⟩
  have hz' : ((s.size : Int) == 0) = false := by rw [beq_eq_false_iff_ne]; omega
  have HF0 : Hid (s.data.toList[0]'(by rw [HLS.out]; exact hpos) = s[0]) := rfl
  have HP := hide (prefix_iff s.data.toList (by rw [HLS.out]; exact hpos))
  rw [HF0.out] at HP
  cases h47 : ((s[0].toNat : Int) == 47)
  · have h47' : ((s[0].toNat : Int) != 47) = true := by rw [bne, h47]; rfl
    have HV : Hid (vp s = false) := by
      show _ = _
      have e : (s[0] == 47) = false := beq_eq_false_iff_ne.2 ((byte_ne s[0] 47 (by omega)).mpr (by simpa using h47))
      rw [vp, HP.out, e]
      rfl
    go_enter Tryd.func8, Tryd.ntmps8
    go_wp2
    go_ret
    exact ⟨by rw [HV.out]; rfl, Below.refl _ _⟩
  have h47' : ((s[0].toNat : Int) != 47) = false := by rw [bne, h47]; rfl
  have HV : Hid (vp s = (goodSegs (sp 47 (s.data.toList.drop 1)) && okF s.size s 0)) := by
    show _ = _
    rw [vp, HP.out, byte_is s[0] 47 (by omega) (by simpa using h47)]
    rfl
  clear HP HF0
  have HS : Hid (R8 s (.int .i64 1) (.int .i64 1)) := ⟨1, 1, rfl, rfl, by omega, by omega, by omega, by show _ = _; rw [segsAt, if_pos (by rw [HLS.out]; omega)], fun _ => line_start _ _, fun h => by omega⟩
  go_enter Tryd.func8, Tryd.ntmps8
  go_wp2_with fail
  go_loop [4, 5] (fun v4 v5 => R8 s v4 v5) (fun _ v => s.size + 1 - (intOf v).toNat)
  case atStart => exact HS.out
  case round =>
    obtain ⟨st, i, rfl, rfl, hi1, hi0, hst, HG, HSP, hpast⟩ := hrel
    clear HS
    rcases Nat.lt_or_ge s.size i with hend | hlt
    · have hle : ¬ (i : Int) ≤ (s.size : Int) := by omega
      have HV2 : Hid (vp s = okF s.size s 0) := by
        show _ = _
        have h0 := HG.out
        rw [segsAt, if_neg (by rw [HLS.out]; have := hpast hend; omega)] at h0
        rw [HV.out, ← h0]
        rfl
      have HS2 : Hid (R8b s w (.int .i64 0) w) := ⟨0, s.size, rfl, by omega, Below.refl _ _, rfl, by omega⟩
      clear HV HG HSP
      go_wp2_with fail
      go_loopw [7] (fun v wx => R8b s w v wx) (fun v _ => s.size + 4 - (intOf v).toNat)
      case atStart => exact HS2.out
      case round =>
        obtain ⟨pos, f, rfl, hpl, hB, hok, hf⟩ := hrel
        have HB := hide hB
        have HOK := hide hok
        have Hf := hide hf
        clear hok hf hB HS2
        by_cases hp : pos < s.size
        · have hp' : (pos : Int) < (s.size : Int) := by omega
          have hwd := width_pos s pos hp
          have hw4 := decode_width s pos
          have hle2 := decode_le s pos
          have HD := hide (dec_calls s pos hp hs wr)
          obtain ⟨f', rfl⟩ : ∃ f', f = f' + 1 := ⟨f - 1, by have := Hf.out; omega⟩
          rw [okF_step f' s pos hp] at HOK
          go_wp2_with fail
          refine (HD.out).mono ?_
          rintro e w1 ⟨r, k, rfl, hB1, hcase⟩
          have HB1 : Hid (Below w.heap.size w w1) := (HB.out).trans (hB1.mono (HB.out).size)
          clear HD hB1
          rcases hcase with ⟨rfl, hfb⟩ | ⟨rfl, rfl⟩
          · have HF : Hid (vp s = false) := by
              show _ = _
              rw [HV2.out, ← HOK.out, hfb]
              rfl
            clear hfb
            go_wp2_with fail
            go_ret
            exact ⟨by rw [HF.out]; rfl, HB1.out⟩
          · have HFC := hide (forb_calls (Utf8.decode s pos).1 hle2 w1)
            generalize (Utf8.decode s pos).1 = r at *
            generalize (Utf8.decode s pos).2 = d at *
            have hr0 : ¬ (r : Int) < 0 := by omega
            go_wp2_with fail
            refine (HFC.out).mono ?_
            rintro e w2 ⟨rfl, hw⟩
            rw [hw]
            clear hw HFC
            cases hfb : forb r
            · rw [hfb, Bool.not_false, Bool.true_and] at HOK
              go_wp2_with fail
              go_roundw
              case rel => exact ⟨pos + d, f', by go_num, by omega, HB1.out, HOK.out, by have := Hf.out; omega⟩
              case measure => simp [intOf]; omega
            · have HF : Hid (vp s = false) := by
                show _ = _
                rw [HV2.out, ← HOK.out, hfb]
                rfl
              go_wp2_with fail
              go_ret
              exact ⟨by rw [HF.out]; rfl, HB1.out⟩
        · have hp' : ¬ (pos : Int) < (s.size : Int) := by omega
          have HF : Hid (vp s = true) := by
            show _ = _
            rw [HV2.out, ← HOK.out, okF_end _ _ _ hp]
          go_wp2_with fail
          go_ret
          exact ⟨by rw [HF.out]; rfl, HB.out⟩
    · have hle : (i : Int) ≤ (s.size : Int) := by omega
      have HSP2 := hide (HSP.out hlt)
      clear HSP hpast
      go_upto_region 8 with fail
      go_cut [32] (fun v wx => ∃ b : Bool, v = .bool b ∧ wx = w ∧ Hid ((b = true → segsAt s.data.toList st = cut s.data.toList st i :: segsAt s.data.toList (i + 1)) ∧ (b = false → i < s.size ∧ sp 47 (s.data.toList.drop st) = onTop (cut s.data.toList st (i + 1)) (sp 47 (s.data.toList.drop (i + 1))))))
      case first =>
        rcases Nat.lt_or_ge i s.size with hin | hin
        · have hin' : (i : Int) < (s.size : Int) := by omega
          have hne : ((i : Int) == (s.size : Int)) = false := by rw [beq_eq_false_iff_ne]; omega
          have HC : Hid (s.data.toList[i]'(by rw [HLS.out]; exact hin) = s[i]) := rfl
          cases hx : ((s[i].toNat : Int) == 47)
          · have HN := hide (line_next s.data.toList st i hst (by rw [HLS.out]; exact hin) (by rw [HC.out]; exact (byte_ne s[i] 47 (by omega)).mpr (by simpa using hx)) HSP2.out)
            go_wp2_with fail
            go_meet
            exact ⟨false, rfl, rfl, fun h => (by cases h), fun _ => ⟨hin, HN.out⟩⟩
          · have HN := hide (line_nl s.data.toList st i (by rw [HLS.out]; exact hin) (by rw [HC.out]; exact byte_is s[i] 47 (by omega) (by simpa using hx)) HSP2.out)
            go_wp2_with fail
            go_meet
            refine ⟨true, rfl, rfl, fun _ => ?_, fun h => (by cases h)⟩
            rw [segsAt, if_pos (by rw [HLS.out]; omega), HN.out, segsAt, if_pos (by rw [HLS.out]; omega)]
        · have ei : i = s.size := by omega
          have hne : ((i : Int) == (s.size : Int)) = true := by rw [beq_iff_eq]; omega
          have HN := hide (line_end s.data.toList st (by rw [HLS.out, ← ei]; exact HSP2.out))
          rw [HLS.out, ← ei] at HN
          have Hei := hide ei
          clear ei
          go_wp2_with fail
          go_meet
          refine ⟨true, rfl, rfl, fun _ => ?_, fun h => (by cases h)⟩
          rw [segsAt, if_pos (by rw [HLS.out]; omega), HN.out, segsAt, if_neg (by rw [HLS.out]; have := Hei.out; omega)]
      case rest =>
        obtain ⟨b, rfl, rfl, HC⟩ := hcut
        clear HSP2
        cases b
        · obtain ⟨hin, hsp⟩ := (HC.out).2 rfl
          have HN := hide hsp
          clear hsp HC
          go_wp2_with fail
          go_round
          case rel => exact ⟨st, i + 1, rfl, by go_num, by omega, by omega, by omega, HG, fun _ => HN.out, fun h => by omega⟩
          case measure => simp [intOf]; omega
        · have HSE := hide ((HC.out).1 rfl)
          clear HC
          have HG2 : Hid ((!badSeg (cut s.data.toList st i) && goodSegs (segsAt s.data.toList (i + 1))) = goodSegs (sp 47 (s.data.toList.drop 1))) := by
            show _ = _
            have h0 := HG.out
            rw [HSE.out, goodSegs_cons] at h0
            exact h0
          have HBad : Hid (badSeg (cut s.data.toList st i) = true → vp s = false) := fun h => by
            rw [HV.out, ← HG2.out, h]
            rfl
          have HGood : Hid (badSeg (cut s.data.toList st i) = false → R8 s (.int .i64 ((i : Int) + 1)) (.int .i64 ((i : Int) + 1))) := fun h => by
            refine ⟨i + 1, i + 1, by simp, by simp, by omega, by omega, by omega, ?_, fun _ => line_start _ _, fun h => h⟩
            show _ = _
            rw [← HG2.out, h]
            rfl
          clear HG2 HG HSE
          by_cases d0 : i = st
          · have t0 : ((i : Int) - (st : Int) == 0) = true := by rw [beq_iff_eq]; omega
            have HF : Hid (vp s = false) := HBad.out (by rw [cut_nil _ _ _ (by omega)]; rfl)
            clear d0
            go_wp2_with fail
            go_ret
            exact ⟨by rw [HF.out]; rfl, Below.refl _ _⟩
          have t0 : ((i : Int) - (st : Int) == 0) = false := by rw [beq_eq_false_iff_ne]; omega
          have hsts : st < s.size := by omega
          have hsts' : (st : Int) < (s.size : Int) := by omega
          have HC1 : Hid (s.data.toList[st]'(by rw [HLS.out]; exact hsts) = s[st]) := rfl
          by_cases d1 : i = st + 1
          · have t1 : ((i : Int) - (st : Int) == 1) = true := by rw [beq_iff_eq]; omega
            have t2 : ((i : Int) - (st : Int) == 2) = false := by rw [beq_eq_false_iff_ne]; omega
            have HCut : Hid (cut s.data.toList st i = [s[st]]) := by
              show _ = _
              rw [d1, cut_one _ _ (by rw [HLS.out]; omega), HC1.out]
            clear d0 d1
            cases h46 : ((s[st].toNat : Int) == 46)
            · have HN := hide (HGood.out (by rw [HCut.out]; exact bad_one _ ((byte_ne s[st] 46 (by omega)).mpr (by simpa using h46))))
              go_wp2_with fail
              go_round
              case rel => exact HN.out
              case measure => simp [intOf]; omega
            · have HF : Hid (vp s = false) := HBad.out (by rw [HCut.out, byte_is s[st] 46 (by omega) (by simpa using h46)]; rfl)
              go_wp2_with fail
              go_ret
              exact ⟨by rw [HF.out]; rfl, Below.refl _ _⟩
          have t1 : ((i : Int) - (st : Int) == 1) = false := by rw [beq_eq_false_iff_ne]; omega
          by_cases d2 : i = st + 2
          · have t2 : ((i : Int) - (st : Int) == 2) = true := by rw [beq_iff_eq]; omega
            have hst2 : st + 1 < s.size := by omega
            have hst2' : (st : Int) + 1 < (s.size : Int) := by omega
            have e1 : ((st : Int) + 1).toNat = st + 1 := by omega
            have HC2 : Hid (s.data.toList[st + 1]'(by rw [HLS.out]; exact hst2) = s[st + 1]) := rfl
            have HCut : Hid (cut s.data.toList st i = [s[st], s[st + 1]]) := by
              show _ = _
              rw [d2, cut_two _ _ (by rw [HLS.out]; omega), HC1.out, HC2.out]
            clear d0 d1 d2
            cases h46 : ((s[st].toNat : Int) == 46)
            · have HN := hide (HGood.out (by rw [HCut.out]; exact bad_two _ _ (.inl ((byte_ne s[st] 46 (by omega)).mpr (by simpa using h46)))))
              go_wp2_with fail
              go_round
              case rel => exact HN.out
              case measure => simp [intOf]; omega
            · cases g46 : ((s[st + 1].toNat : Int) == 46)
              · have HN := hide (HGood.out (by rw [HCut.out]; exact bad_two _ _ (.inr ((byte_ne s[st + 1] 46 (by omega)).mpr (by simpa using g46)))))
                go_wp2_with fail
                go_round
                case rel => exact HN.out
                case measure => simp [intOf]; omega
              · have HF : Hid (vp s = false) := HBad.out (by rw [HCut.out, byte_is s[st] 46 (by omega) (by simpa using h46), byte_is s[st + 1] 46 (by omega) (by simpa using g46)]; rfl)
                go_wp2_with fail
                go_ret
                exact ⟨by rw [HF.out]; rfl, Below.refl _ _⟩
          have t2 : ((i : Int) - (st : Int) == 2) = false := by rw [beq_eq_false_iff_ne]; omega
          have HN := hide (HGood.out (bad_long _ (by rw [cut_len _ _ _ (by rw [HLS.out]; omega)]; omega)))
          clear d0 d1 d2
          go_wp2_with fail
          go_round
          case rel => exact HN.out
          case measure => simp [intOf]; omega
end Go.Proofs.Qxb6603309aDoor
