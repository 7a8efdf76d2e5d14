import Derived.Test.Qxb6602851aDoorRow
import Derived.Test.Qxb6602851aDoorBack
namespace Go.Proofs.Qxb6602851aDoor
open Go.RowKit
set_option linter.unusedSimpArgs false
set_option maxRecDepth 100000

/-- 'out = append(out, b)' on a row of the call's own. -/
theorem wp_push {ops : Array Oper} {rest : List Oper} {o : Oper} {a : Act} {Q : Exit → Act → World → Prop} {wr : World} (hgd : o.guard = none) (sl x : Operand)
    (ho : o.op = .call { callee := .builtin .append, args := #[sl, x], argTypes := #[30, 30] }) (w : World) (O : List UInt8) (v : Value) (b : UInt8) (n : Int) (t : TypeId) (hn : n = (b.toNat : Int))
    (hs : a.eval sl = v) (hx : a.eval x = .slice (some ⟨wr.heap.size, 0, none⟩) 1 1) (hrg : RG w O v wr) (hl : O.length < 1073741824)
    (h : ∀ v' w', RG w (O ++ [b]) v' w' → wpList Tryd.prog ops Q rest (a.put o.dst v') w') : wpList Tryd.prog ops Q (o :: rest) a (wr.alloc (.cells #[.int .u8 n] t)) := by
  obtain ⟨i0, hi, hz0, hz1, hz2⟩ := info_parts Tryd.info5
  obtain ⟨hown, hB⟩ := hrg
  have hsz := hB.size
  have hx1 : ∀ u ∈ [Value.int .u8 n], u.oneCell' = true := by intro u hu; simp at hu; subst hu; rfl
  refine wpList_append_own _ hgd sl x 30 ho w.heap.size 5 i0 (.int .u8 0) 1 1 Tryd.underlying30 hi hz0 hz1 hz2 rfl (by decide) v _ _ hs (hown.alloc _) ⟨wr.heap.size, 0, none⟩ 1 1 [.int .u8 n] hx rfl (cell_one_new _ _ _) hx1 (by unfold maxLen; omega) (by omega) (by simp; omega) ?_
  intro v' w1 hown' hgrow _
  refine h v' w1 ⟨?_, (hB.alloc (by omega) _).grown hgrow (by simp; omega) (fun g hg => (hown.lt g hg).1)⟩
  subst hn
  rw [cellsB_snoc _ _ _ rfl] at hown'
  rw [List.length_append]
  exact hown'

def Post11 (s : ByteArray) (w : World) (e : Ending) (w' : World) : Prop := e = .returned (.string ⟨(starred s.data.toList).toArray⟩) ∧ Below w.heap.size w w'
def RT (s : ByteArray) (w : World) (v3 v4 : Value) (wr : World) : Prop :=
  ∃ (k : Nat) (O : List UInt8), v4 = .int .i64 k ∧ k ≤ s.size ∧ O.length ≤ 4 * k + 4 ∧ RG w O v3 wr ∧ Hid (O = [10, 32, 42, 32] ++ flat (s.data.toList.take k))

theorem flat_nl (l : List UInt8) (k : Nat) (h : k < l.length) (e : l[k] = 10) : flat (l.take (k + 1)) = flat (l.take k) ++ [10] ++ [32] ++ [42] ++ [32] := by
  rw [List.take_succ_eq_append_getElem h, flat_append, e]
  simp [flat]
theorem flat_no (l : List UInt8) (k : Nat) (h : k < l.length) (e : l[k] ≠ 10) : flat (l.take (k + 1)) = flat (l.take k) ++ [l[k]] := by
  rw [List.take_succ_eq_append_getElem h, flat_append]
  simp [flat, e]

set_option maxHeartbeats 4000000 in
theorem starred_calls (s : ByteArray) (hs : s.size ≤ 1048576) (w : World) : Calls Tryd.prog 11 #[.string s] w fun e w' => Post11 s w e w' := by
  have HLS : Hid (s.data.toList.length = s.size) := rfl
  obtain ⟨i0, hi, hz0, hz1, hz2⟩ := info_parts Tryd.info5
  obtain ⟨W1, hmk, hown, hgrow⟩ := run_make_own (P := Tryd.prog) w w.heap.size 30 5 i0 (.int .u8 0) 1 Tryd.underlying30 hi hz0 hz1 .i64 .i64 (4 * s.size + 8) (by rw [hz2]; omega) (by unfold maxLen; omega) (Nat.le_refl _)
  have hB1 : Below w.heap.size w W1 := (Below.refl _ w).grown hgrow (Nat.le_refl _) (fun g hg => by cases hg)
  have HR0 : RG w [] (.slice (some ⟨w.heap.size, 0, none⟩) 0 (4 * s.size + 8)) W1 := ⟨hown, hB1⟩
  have ec : ((4 * s.size + 8 : Nat) : Int) = 4 * (s.size : Int) + 8 := by omega
  rw [ec] at hmk
  clear ec hi hz0 hz1 hz2 hgrow hown hB1 i0
  go_enter Tryd.func11, Tryd.ntmps11
  go_wp2_with (at_builtin; refine wp_push rfl _ _ rfl w _ _ 10 10 _ rfl rfl rfl HR0 (by simp) ?_)
  intro v1 w1 HR1
  clear HR0 hmk
  go_wp2_with (at_builtin; refine wp_push rfl _ _ rfl w _ _ 32 32 _ rfl rfl rfl HR1 (by simp) ?_)
  intro v2 w2 HR2
  clear HR1
  go_wp2_with (at_builtin; refine wp_push rfl _ _ rfl w _ _ 42 42 _ rfl rfl rfl HR2 (by simp) ?_)
  intro v3 w3 HR3
  clear HR2
  go_wp2_with (at_builtin; refine wp_push rfl _ _ rfl w _ _ 32 32 _ rfl rfl rfl HR3 (by simp) ?_)
  intro v4 w4 HR4
  clear HR3
  have HS : Hid (RT s w v4 (.int .i64 0) w4) := ⟨0, _, rfl, by omega, by simp, HR4, rfl⟩
  clear HR4
  go_wp2_with fail
  go_loopw [3, 4] (fun v3 v4 wr => RT s w v3 v4 wr) (fun _ v _ => s.size - (intOf v).toNat)
  case atStart => exact HS.out
  case round =>
    obtain ⟨k, O, rfl, hk, hO, HR, HO⟩ := hrel
    clear HS
    rcases Nat.lt_or_ge k s.size with hlt | hge
    · have hlt' : (k : Int) < (s.size : Int) := by omega
      have HC : Hid (s.data.toList[k]'(by rw [HLS.out]; exact hlt) = s[k]) := rfl
      cases hx : ((s[k].toNat : Int) == 10)
      · have HN : Hid (O ++ [s[k]] = [10, 32, 42, 32] ++ flat (s.data.toList.take (k + 1))) := by
          show _ = _
          rw [flat_no _ _ (by rw [HLS.out]; exact hlt) (by rw [HC.out]; exact (byte_ne s[k] 10 (by omega)).mpr (by simpa using hx)), HO.out, HC.out, List.append_assoc]
        go_wp2_with (at_builtin; refine wp_push rfl _ _ rfl w _ _ s[k] _ _ rfl rfl rfl HR (by omega) ?_)
        intro v5 w5 HR5
        clear HR
        go_wp2_with fail
        go_roundw
        case rel => exact ⟨k + 1, _, by go_num, by omega, by rw [List.length_append]; simp; omega, HR5, HN⟩
        case measure => simp [intOf]; omega
      · have hx2 : s[k] = 10 := byte_is s[k] 10 (by omega) (by simpa using hx)
        have HN : Hid (O ++ [s[k], 32, 42, 32] = [10, 32, 42, 32] ++ flat (s.data.toList.take (k + 1))) := by
          show _ = _
          rw [flat_nl _ _ (by rw [HLS.out]; exact hlt) (by rw [HC.out]; exact hx2), HO.out, hx2]
          simp [List.append_assoc]
        clear hx2
        go_wp2_with (at_builtin; refine wp_push rfl _ _ rfl w _ _ s[k] _ _ rfl rfl rfl HR (by omega) ?_)
        intro v5 w5 HR5
        clear HR
        go_wp2_with (at_builtin; refine wp_push rfl _ _ rfl w _ _ 32 32 _ rfl rfl rfl HR5 (by rw [List.length_append]; simp; omega) ?_)
        intro v6 w6 HR6
        clear HR5
        go_wp2_with (at_builtin; refine wp_push rfl _ _ rfl w _ _ 42 42 _ rfl rfl rfl HR6 (by simp only [List.length_append, List.length_cons, List.length_nil]; omega) ?_)
        intro v7 w7 HR7
        clear HR6
        go_wp2_with (at_builtin; refine wp_push rfl _ _ rfl w _ _ 32 32 _ rfl rfl rfl HR7 (by simp only [List.length_append, List.length_cons, List.length_nil]; omega) ?_)
        intro v8 w8 HR8
        clear HR7
        go_wp2_with fail
        go_roundw
        case rel => exact ⟨k + 1, _, by go_num, by omega, by simp only [List.length_append, List.length_cons, List.length_nil]; omega, HR8, HN⟩
        case measure => simp [intOf]; omega
    · have hlt' : ¬ (k : Int) < (s.size : Int) := by omega
      have HN : Hid (O ++ [10, 32] = starred s.data.toList) := by
        show _ = _
        rw [HO.out, List.take_of_length_le (by rw [HLS.out]; exact hge)]
        unfold starred
        rfl
      go_wp2_with (at_builtin; refine wp_push rfl _ _ rfl w _ _ 10 10 _ rfl rfl rfl HR (by omega) ?_)
      intro v5 w5 HR5
      clear HR
      go_wp2_with (at_builtin; refine wp_push rfl _ _ rfl w _ _ 32 32 _ rfl rfl rfl HR5 (by rw [List.length_append]; simp; omega) ?_)
      intro v6 w6 HR6
      clear HR5
      rw [HN.out] at HR6
      have hcv := back_string w6 _ _ _ _ HR6.1
      have HB6 := hide HR6.2
      clear HR6
      go_wp2_with fail
      go_ret
      exact ⟨rfl, HB6.out⟩
end Go.Proofs.Qxb6602851aDoor
