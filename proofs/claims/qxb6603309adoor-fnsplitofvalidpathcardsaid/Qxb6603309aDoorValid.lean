import Derived.Test.Qxb6603309aDoorShelf
import Derived.Test.Qxb6603309aDoorPlain
import Derived.WalkKit
import Derived.WalkSpells
import Derived.WalkLawsBesides
import Derived.Deep.QuietTactic
import Derived.BigQuiet
import Derived.Deep.DeepCutAuto
import Derived.Deep.CutBlock
import Derived.Lib.SmallJoins
namespace Go.Proofs.Qxb6603309aDoor
open Go.RowKit
set_option linter.unusedSimpArgs false
set_option maxRecDepth 100000

theorem hide {p : Prop} (h : p) : Hid p := h
theorem unhide {p : Prop} (h : Hid p) : p := h

theorem ba_ext {x y : ByteArray} (h : x.data.toList = y.data.toList) : x = y := by
  cases x; cases y
  simp at h
  rw [h]
theorem badSeg_no (x : ByteArray) (h0 : x ≠ ⟨#[]⟩) (h1 : x ≠ ⟨#[46]⟩) (h2 : x ≠ ⟨#[46, 46]⟩) : badSeg x.data.toList = false := by
  unfold badSeg
  rw [Bool.or_eq_false_iff, Bool.or_eq_false_iff, beq_eq_false_iff_ne, beq_eq_false_iff_ne, beq_eq_false_iff_ne]
  exact ⟨⟨fun h => h0 (ba_ext h), fun h => h1 (ba_ext h)⟩, fun h => h2 (ba_ext h)⟩

theorem toList_no (x y : ByteArray) (h : x ≠ y) : x.toList ≠ y.data.toList := by
  rw [Lib.toList_data]
  exact fun e => h (ba_ext e)

def Post13 (s : ByteArray) (w : World) (e : Ending) (w' : World) : Prop := e = .returned (.bool (vp s)) ∧ Below w.heap.size w w'

set_option maxHeartbeats 2000000 in
theorem valid_calls (s : ByteArray) (hs : s.size ≤ 4194304) (m : Int) (w : World) (hm : w.cell? ⟨0, 0, none⟩ = some (.int .i64 m)) :
    Calls Tryd.prog 13 #[.string s] w fun e w' => Post13 s w e w' := by
  have HP := hide (Tryd.strings_HasPrefix s ⟨#[47]⟩ w)
  cases hp : Lib.hasPrefix s.data.toList [47]
  · have HV : Hid (vp s = false) := by
      show _ = _
      rw [vp, hp]; rfl
    rw [show (⟨#[47]⟩ : ByteArray).data.toList = [47] from rfl, hp] at HP
    clear hm
    go_enter Tryd.func13, Tryd.ntmps13
    go_wp2_with (go_at_call 17; refine (HP.out).mono ?_; rintro e w' ⟨rfl, hw⟩; rw [hw]; clear hw)
    go_ret
    exact ⟨by rw [HV.out]; rfl, Below.refl _ _⟩
  · have HV : Hid (vp s = (goodSegs (sp 47 (s.data.toList.drop 1)) && okF s.size s 0)) := by
      show _ = _
      rw [vp, hp]; rfl
    have hs1 : 1 ≤ s.size := by
      have hl : s.data.toList.length = s.size := rfl
      cases e : s.data.toList with
      | nil => rw [e] at hp; cases hp
      | cons a t => rw [e] at hl; simp at hl; omega
    rw [show (⟨#[47]⟩ : ByteArray).data.toList = [47] from rfl, hp] at HP
    have hts : (s.extract 1 s.size).size ≤ s.size := by simp
    have HTD : Hid ((s.extract 1 s.size).data.toList = s.data.toList.drop 1) := by
      show _ = _
      simp [ByteArray.data_extract]
      exact List.take_of_length_le (by simp)
    generalize ht : s.extract 1 s.size = t at *
    have hlen := Lib.splitB_all ⟨#[47]⟩ (by decide) 0 _ t rfl
    have hcnt := Lib.countB_le ⟨#[47]⟩ (by decide) t.size t (Nat.le_refl _)
    have HC : Hid (Calls Tryd.prog 18 #[.string t, .string ⟨#[47]⟩] w _) := Tryd.strings_Split t ⟨#[47]⟩ m w (by omega) hm (by decide)
    have HPc := hide (pieces t 47)
    generalize Lib.countB t ⟨#[47]⟩ = n at *
    generalize Lib.splitB ⟨#[47]⟩ 0 n t = L at *
    clear hm
    have hs1' : (1 : Int) ≤ (s.size : Int) := by omega
    go_enter Tryd.func13, Tryd.ntmps13
    go_wp2_with (go_at_call 17; refine (HP.out).mono ?_; rintro e w' ⟨rfl, hw⟩; rw [hw]; clear hw)
    refine (HC.out).mono ?_
    rintro e w' ⟨rfl, hw⟩
    have HB : Hid (Below w.heap.size w w') := by
      rw [hw]
      exact (Below.refl _ w).alloc (Nat.le_refl _) _
    have HCell : Hid (∀ j (h : j < L.length), w'.cell? ⟨w.heap.size, j, none⟩ = some (.string L[j])) := fun j h => by
      rw [hw, Joins.cell_of_block (heap_alloc_new w _)]
      simp [h]
    have HL : Hid (goodSegs ((L.map (·.data.toList)).drop 0) = goodSegs (sp 47 (s.data.toList.drop 1))) := by
      show _ = _
      rw [List.drop_zero, HPc.out, HTD.out]
    have Hlen := hide hlen
    clear hw HC HP HPc HTD hlen
    go_wp2_with fail
    go_loop [14] (fun v => ∃ k : Nat, v = .int .i64 k ∧ k ≤ n + 1 ∧ Hid (goodSegs ((L.map (·.data.toList)).drop k) = goodSegs (sp 47 (s.data.toList.drop 1)))) (fun v => n + 1 - (intOf v).toNat)
    case atStart => exact ⟨0, rfl, by omega, HL⟩
    case round =>
      obtain ⟨k, rfl, hk, HG⟩ := hrel
      clear HL
      rcases Nat.lt_or_ge k (n + 1) with hlt | hge
      · have hlt' : (k : Int) < (n : Int) + 1 := by omega
        have hcell := HCell.out k (by rw [Hlen.out]; exact hlt)
        have HD : Hid ((L.map (·.data.toList)).drop k = (L[k]'(by rw [Hlen.out]; exact hlt)).data.toList :: (L.map (·.data.toList)).drop (k + 1)) := by
          show _ = _
          rw [List.drop_eq_getElem_cons (by rw [List.length_map, Hlen.out]; exact hlt), List.getElem_map]
        generalize (L[k]'(by rw [Hlen.out]; exact hlt)) = x at *
        rw [HD.out, goodSegs_cons] at HG
        by_cases e0 : x = ⟨#[]⟩
        · subst e0
          have HF : Hid (vp s = false) := by
            show _ = _
            rw [HV.out, ← HG.out]
            rfl
          go_wp2_with fail
          go_ret
          exact ⟨by rw [HF.out]; rfl, HB.out⟩
        by_cases e1 : x = ⟨#[46]⟩
        · subst e1
          have HF : Hid (vp s = false) := by
            show _ = _
            rw [HV.out, ← HG.out]
            rfl
          go_wp2_with fail
          go_ret
          exact ⟨by rw [HF.out]; rfl, HB.out⟩
        by_cases e2 : x = ⟨#[46, 46]⟩
        · subst e2
          have HF : Hid (vp s = false) := by
            show _ = _
            rw [HV.out, ← HG.out]
            rfl
          go_wp2_with fail
          go_ret
          exact ⟨by rw [HF.out]; rfl, HB.out⟩
        have HN : Hid (goodSegs ((L.map (·.data.toList)).drop (k + 1)) = goodSegs (sp 47 (s.data.toList.drop 1))) := by
          show _ = _
          rw [← HG.out, badSeg_no x e0 e1 e2]
          rfl
        have b0 : x.toList ≠ [] := toList_no x ⟨#[]⟩ e0
        have b1 : x.toList ≠ [46] := toList_no x ⟨#[46]⟩ e1
        have b2 : x.toList ≠ [46, 46] := toList_no x ⟨#[46, 46]⟩ e2
        have c0 : x.toList.isEmpty = false := by simpa using b0
        have c1 : (x.toList == [46]) = false := by simpa using b1
        have c2 : (x.toList == [46, 46]) = false := by simpa using b2
        clear e0 e1 e2
        go_wp2_with fail
        go_round
        case rel => exact ⟨k + 1, by go_num, by omega, HN⟩
        case measure => simp [intOf]; omega
      · have hlt' : ¬ (k : Int) < (n : Int) + 1 := by omega
        have HV2 : Hid (vp s = okF s.size s 0) := by
          show _ = _
          have h0 := HG.out
          rw [List.drop_of_length_le (by rw [List.length_map, Hlen.out]; exact hge)] at h0
          rw [HV.out, ← h0]
          rfl
        clear HV HG HCell
        go_wp2_with fail
        have HS : Hid (∃ (pos f : Nat), w'.iter s 0 = w'.iter s pos ∧ okF f s pos = okF s.size s 0 ∧ s.size ≤ pos + f) := ⟨0, s.size, rfl, rfl, by omega⟩
        go_loopw [] (fun wx => ∃ (pos f : Nat), wx = w'.iter s pos ∧ okF f s pos = okF s.size s 0 ∧ s.size ≤ pos + f) (fun wx => s.size - wx.iterPos w'.heap.size)
        case atStart => exact HS.out
        case round =>
          obtain ⟨pos, f, rfl, hok, hf⟩ := hrel
          have HOK := hide hok
          have Hf := hide hf
          clear hok hf HS
          have HBi : Hid (∀ p, Below w.heap.size w (w'.iter s p)) := fun p => (HB.out).alloc (HB.out).size _
          by_cases hp : pos < s.size
          · have hnx : ∀ ty, (Instr.next (.pointer (some ⟨w'.heap.size, 0, none⟩)) true ty).run Tryd.prog (w'.iter s pos) = _ := fun ty => run_next_any w' s pos ty hp
            have hwd := width_pos s pos hp
            have hle := decode_le s pos
            obtain ⟨f', rfl⟩ : ∃ f', f = f' + 1 := ⟨f - 1, by have := Hf.out; omega⟩
            rw [okF_step f' s pos hp] at HOK
            generalize (Utf8.decode s pos).1 = r at *
            generalize (Utf8.decode s pos).2 = d at *
            cases hfb : forb r
            · have hq : ¬ (r : Int) ≤ 31 ∧ ¬ (127 ≤ (r : Int) ∧ (r : Int) ≤ 159) ∧ ¬ (55296 ≤ (r : Int) ∧ (r : Int) ≤ 63743) ∧ ¬ (65520 ≤ (r : Int) ∧ (r : Int) ≤ 65535) := by
                simp [forb] at hfb
                omega
              rw [hfb, Bool.not_false, Bool.true_and] at HOK
              obtain ⟨q1, q2, q3, q4⟩ := hq
              go_wp2_with fail
              all_goals
                go_roundw
                case rel => exact ⟨pos + d, f', rfl, HOK.out, by have := Hf.out; omega⟩
                case measure =>
                  simp
                  omega
            · have HF : Hid (vp s = false) := by
                show _ = _
                rw [HV2.out, ← HOK.out, hfb]
                rfl
              have hq : (r : Int) ≤ 31 ∨ (127 ≤ (r : Int) ∧ (r : Int) ≤ 159) ∨ (55296 ≤ (r : Int) ∧ (r : Int) ≤ 63743) ∨ (65520 ≤ (r : Int) ∧ (r : Int) ≤ 65535) := by
                simp [forb] at hfb
                omega
              go_wp2_with fail
              all_goals
                go_ret
                exact ⟨by rw [HF.out]; rfl, HBi.out _⟩
          · have hnx : ∀ ty, (Instr.next (.pointer (some ⟨w'.heap.size, 0, none⟩)) true ty).run Tryd.prog (w'.iter s pos) = _ := fun ty => run_next_end w' s pos ty hp
            have HF : Hid (vp s = true) := by
              show _ = _
              rw [HV2.out, ← HOK.out, okF_end _ _ _ hp]
            go_wp2_with fail
            go_ret
            exact ⟨by rw [HF.out]; rfl, HBi.out _⟩
end Go.Proofs.Qxb6603309aDoor
