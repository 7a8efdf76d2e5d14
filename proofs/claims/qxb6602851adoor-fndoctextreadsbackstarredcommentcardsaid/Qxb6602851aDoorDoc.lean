import Derived.Test.Qxb6602851aDoorShelf
import Derived.Test.Qxb6602851aDoorPlain
import Derived.WalkKit
import Derived.WalkSpells
import Derived.WalkLawsBesides
import Derived.Deep.DeepCutAuto
import Derived.Lib.SmallJoins
namespace Go.Proofs.Qxb6602851aDoor
open Go.RowKit
set_option linter.unusedSimpArgs false
set_option maxRecDepth 100000

theorem hide {p : Prop} (h : p) : Hid p := h
theorem unhide {p : Prop} (h : Hid p) : p := h

/-- A line, its bytes treated. -/
def lineB (x : ByteArray) : ByteArray := ⟨(docLine x.data.toList).toArray⟩
/-- The array behind k rounds. -/
def mixed (L : List ByteArray) (k : Nat) : List Value := (L.take k).map (fun x => Value.string (lineB x)) ++ (L.drop k).map Value.string

theorem mixed_len (L : List ByteArray) (k : Nat) : (mixed L k).length = L.length := by
  simp [mixed]
  omega
theorem mixed_at (L : List ByteArray) (k : Nat) (h : k < L.length) : (mixed L k)[k]? = some (.string L[k]) := by
  unfold mixed
  rw [List.getElem?_append_right (by simp; omega)]
  simp only [List.length_map, List.length_take, Nat.min_eq_left (Nat.le_of_lt h), Nat.sub_self]
  simp [h]
theorem mixed_set (L : List ByteArray) (k : Nat) (h : k < L.length) : (mixed L k).set k (.string (lineB L[k])) = mixed L (k + 1) := by
  apply List.ext_getElem?
  intro j
  unfold mixed
  rw [List.getElem?_set]
  have hl1 : ((L.take k).map (fun x => Value.string (lineB x))).length = k := by simp; omega
  have hl2 : ((L.take (k + 1)).map (fun x => Value.string (lineB x))).length = k + 1 := by simp; omega
  by_cases hj : k = j
  · subst hj
    rw [if_pos rfl, if_pos (by simp; omega), List.getElem?_append_left (by omega)]
    simp [h]
  · rw [if_neg hj]
    by_cases hlt : j < k
    · rw [List.getElem?_append_left (by omega), List.getElem?_append_left (by omega)]
      simp [List.getElem?_take, hlt, show j < k + 1 by omega]
    · rw [List.getElem?_append_right (by omega), List.getElem?_append_right (by omega), hl1, hl2]
      obtain ⟨t, rfl⟩ : ∃ t, j = k + 1 + t := ⟨j - k - 1, by omega⟩
      rw [show k + 1 + t - k = t + 1 by omega, show k + 1 + t - (k + 1) = t by omega]
      simp [List.getElem?_drop]
      congr 2
      omega

theorem trimL_c (x : ByteArray) (w : World) : Calls Tryd.prog 15 #[.string x, .string ⟨#[32, 9]⟩] w fun e w' => ∃ y : ByteArray, e = .returned (.string y) ∧ y.data.toList = Lib.trimLeftS x.data.toList [32, 9] ∧ Below w.heap.size w w' :=
  (Tryd.strings_TrimLeft_laid x ⟨#[32, 9]⟩ w (by decide) (ascii_of_all (by decide))).mono fun _ _ ⟨he, hb⟩ => ⟨_, he, rfl, hb⟩
theorem trimR_c (x : ByteArray) (hx : x.size ≤ 4194304) (w : World) : Calls Tryd.prog 18 #[.string x, .string ⟨#[32, 9, 13]⟩] w fun e w' => ∃ y : ByteArray, e = .returned (.string y) ∧ y.data.toList = Lib.trimRightS x.data.toList [32, 9, 13] ∧ Below w.heap.size w w' :=
  (Tryd.strings_TrimRight_laid x ⟨#[32, 9, 13]⟩ w (by omega) (by decide) (ascii_of_all (by decide))).mono fun _ _ ⟨he, hb⟩ => ⟨_, he, rfl, hb⟩
theorem cut_c (x : ByteArray) (w : World) : Calls Tryd.prog 16 #[.string x, .string ⟨#[42]⟩] w fun e w' => ∃ y : ByteArray, e = .returned (.tuple #[.string y, .bool (Lib.hasPrefix x.data.toList [42])]) ∧ y.data.toList = Lib.trimPrefix x.data.toList [42] ∧ w' = w :=
  (Tryd.strings_CutPrefix x ⟨#[42]⟩ w).mono fun _ _ ⟨he, hb⟩ => ⟨_, he, rfl, hb⟩
theorem tp_c (x : ByteArray) (w : World) : Calls Tryd.prog 17 #[.string x, .string ⟨#[32]⟩] w fun e w' => ∃ y : ByteArray, e = .returned (.string y) ∧ y.data.toList = Lib.trimPrefix x.data.toList [32] ∧ w' = w :=
  (Tryd.strings_TrimPrefix x ⟨#[32]⟩ w).mono fun _ _ ⟨he, hb⟩ => ⟨_, he, rfl, hb⟩
theorem ba_ext {x y : ByteArray} (h : x.data.toList = y.data.toList) : x = y := by
  obtain ⟨⟨a⟩⟩ := x
  obtain ⟨⟨b⟩⟩ := y
  simp at h
  rw [h]
theorem ba_size (x : ByteArray) : x.size = x.data.toList.length := rfl

theorem elem24 : Tryd.prog.elem 24 = 9 := by kernel_rfl
theorem from1 (G a m c : Nat) (hm : 1 ≤ m) (w : World) : (Instr.slice 24 (.slice (some ⟨G, a, none⟩) m c) (some (.int .i64 1)) none none).run Tryd.prog w = .ok (.slice (some ⟨G, if c = 1 then a else a + 1, none⟩) (m - 1) (c - 1)) w := by
  rw [run_slice_l w 24 _ m c (by rw [elem24]; exact Tryd.underlying24) .i64 1 (by omega) (by omega), elem24, Tryd.sizeOf9]
  simp only [Result.andThen, sliced, Nat.mul_one]
  have e : (1 : Int).toNat = 1 := rfl
  rw [e]
  by_cases h : c = 1
  · simp [h]
  · simp [h, Addr.add]
theorem toLess (G a m c : Nat) (h : m ≤ c) (hm : 1 ≤ m) (w : World) : (Instr.slice 24 (.slice (some ⟨G, a, none⟩) m c) none (some (.int .i64 ((m : Int) - 1))) none).run Tryd.prog w = .ok (.slice (some ⟨G, a, none⟩) (m - 1) c) w := by
  rw [run_slice_h w 24 _ m c (by rw [elem24]; exact Tryd.underlying24) .i64 ((m : Int) - 1) (by omega) (by omega), elem24, Tryd.sizeOf9]
  have e : ((m : Int) - 1).toNat = m - 1 := by omega
  simp [Result.andThen, sliced, Addr.add, e]
def lenV : Value → Nat
  | .slice _ n _ => n
  | _ => 0

theorem mixed_full (L : List ByteArray) : mixed L L.length = (L.map lineB).map Value.string := by
  simp [mixed, Function.comp_def]

theorem take_snoc (D : List ByteArray) (a k : Nat) (hk : 1 ≤ k) (h : a + (k - 1) < D.length) : ((D.map (·.data.toList)).drop a).take k = ((D.map (·.data.toList)).drop a).take (k - 1) ++ [D[a + (k - 1)].data.toList] := by
  obtain ⟨j, rfl⟩ : ∃ j, k = j + 1 := ⟨k - 1, by omega⟩
  simp only [Nat.add_sub_cancel] at h ⊢
  rw [List.take_succ_eq_append_getElem (by simp; omega)]
  simp

def Post7 (s : ByteArray) (w : World) (e : Ending) (w' : World) : Prop := e = .returned (.string ⟨(doc s.data.toList).toArray⟩) ∧ Below w.heap.size w w'

/-- Behind k rounds of the first loop. -/
def R1 (w : World) (L : List ByteArray) (i : Value) (wr : World) : Prop :=
  ∃ k : Nat, i = .int .i64 k ∧ k ≤ L.length ∧ wr.heap[w.heap.size]? = some (.cells (mixed L k).toArray 9 (0, 0)) ∧ Below w.heap.size w wr

set_option maxHeartbeats 2000000 in
theorem docText_calls (s : ByteArray) (hs : s.size ≤ 4194304) (m : Int) (w : World) (hm : w.cell? ⟨0, 0, none⟩ = some (.int .i64 m)) :
    Calls Tryd.prog 7 #[.string s] w fun e w' => Post7 s w e w' := by
  have hlen := Lib.splitB_all ⟨#[10]⟩ (by decide) 0 _ s rfl
  have hcnt := Lib.countB_le ⟨#[10]⟩ (by decide) s.size s (Nat.le_refl _)
  have HC : Hid (Calls Tryd.prog 14 #[.string s, .string ⟨#[10]⟩] w _) := Tryd.strings_Split s ⟨#[10]⟩ m w (by omega) hm (by decide)
  have HPc := hide (pieces s 10)
  generalize Lib.countB s ⟨#[10]⟩ = n at *
  generalize Lib.splitB ⟨#[10]⟩ 0 n s = L at *
  clear hm
  go_enter Tryd.func7, Tryd.ntmps7
  go_wp2_with (go_at_call 14; refine (HC.out).mono ?_; rintro e w' ⟨rfl, rfl⟩)
  have Hlen := hide hlen
  clear hlen HC
  have HS : Hid (R1 w L (.int .i64 0) (w.alloc (.cells (List.map Value.string L).toArray 9))) := ⟨0, rfl, Nat.zero_le _, heap_alloc_new w _, (Below.refl _ w).alloc (Nat.le_refl _) _⟩
  generalize w.alloc (.cells (List.map Value.string L).toArray 9) = W1 at *
  go_loopw [12] (fun i wr => R1 w L i wr) (fun i _ => n + 1 - (intOf i).toNat)
  case atStart => exact HS.out
  case round =>
    obtain ⟨k, rfl, hk, hblk, hB⟩ := hrel
    rw [Hlen.out] at hk
    rcases Nat.lt_or_ge k (n + 1) with hlt | hge
    · have hkL : k < L.length := by rw [Hlen.out]; exact hlt
      have hcell : wr.cell? ⟨w.heap.size, k, none⟩ = some (.string L[k]) := by
        rw [Joins.cell_of_block hblk]
        simp [mixed_at L k hkL]
      have HMS := hide (mixed_set L k hkL)
      have HBk := hide hblk
      have HB := hide hB
      have Hk := hide hkL
      have HT : Hid (lineB L[k] = ⟨(docLine L[k].data.toList).toArray⟩) := rfl
      have hsz : w.heap.size < wr.heap.size := (Array.getElem?_eq_some_iff.1 hblk).1
      have hx : L[k].size ≤ 4194304 := by
        have h1 : L[k].data.toList ∈ L.map (·.data.toList) := List.mem_map_of_mem (List.getElem_mem _)
        rw [HPc.out] at h1
        have h2 := Nat.le_trans (mem_tot h1) (tot_sp 10 _)
        have h3 : L[k].data.toList.length = L[k].size := rfl
        have h4 : s.data.toList.length = s.size := rfl
        omega
      generalize L[k]'hkL = x at *
      clear hblk hB hkL Hk
      have hlt' : (k : Int) < (n : Int) + 1 := by omega
      go_wp2_with fail
      refine (trimL_c x wr).mono ?_
      rintro e wa ⟨y, rfl, hy, hba⟩
      have HY := hide hy
      have HBa := hide hba
      have Ha1 : Hid (wa.heap[w.heap.size]? = some (.cells (mixed L k).toArray 9 (0, 0))) := by
        show _ = _
        rw [hba.block _ hsz]; exact HBk.out
      have hsza : w.heap.size < wa.heap.size := Nat.lt_of_lt_of_le hsz hba.size
      have hya : y.size ≤ 4194304 := by rw [ba_size, hy]; exact Nat.le_trans (trimLeftS_le _ _) hx
      clear hba hcell hy
      go_wp2_with fail
      refine (cut_c y wa).mono ?_
      rintro e w' ⟨z, rfl, hz, rfl⟩
      have HZ := hide hz
      clear hz
      have hzs : z.size ≤ 4194304 := by rw [ba_size, HZ.out]; exact Nat.le_trans (trimPrefix_le _ _) hya
      have HST : Hid (docLine x.data.toList = Lib.trimRightS (star y.data.toList) [32, 9, 13]) := by
        show _ = _
        rw [HY.out]; rfl
      generalize hpf : Lib.hasPrefix y.data.toList [42] = pf at *
      have HPF := hide hpf
      clear hpf
      go_upto_if 24 with fail
      go_cut [5] (fun s5 wx => ∃ y2 : ByteArray, s5 = .string y2 ∧ wx = w' ∧ y2.size ≤ 4194304 ∧ Hid (y2.data.toList = star y.data.toList))
      case first =>
        cases pf
        · go_wp2
          go_meet
          exact ⟨y, rfl, rfl, hya, by show _ = _; rw [star, HPF.out]; rfl⟩
        · go_wp2_with fail
          refine (tp_c z _).mono ?_
          rintro e w2 ⟨y2, rfl, hy2, rfl⟩
          have HY2 := hide hy2
          have hy2s : y2.size ≤ 4194304 := by rw [ba_size, hy2]; exact Nat.le_trans (trimPrefix_le _ _) hzs
          clear hy2
          go_wp2
          go_meet
          exact ⟨y2, rfl, rfl, hy2s, by show _ = _; rw [star, HPF.out, if_pos rfl, HY2.out, HZ.out]⟩
      case rest =>
        obtain ⟨y2, rfl, rfl, hy2s, HY2⟩ := hcut
        go_wp2_with fail
        refine (trimR_c y2 hy2s _).mono ?_
        rintro e w3 ⟨y3, rfl, hy3, hb3⟩
        have e3 : y3 = lineB x := ba_ext (by rw [hy3, HY2.out, ← HST.out]; rfl)
        subst e3
        have h31 : w3.heap[w.heap.size]? = some (.cells (mixed L k).toArray 9 (0, 0)) := by
          rw [hb3.block _ hsza]; exact Ha1.out
        have hc3 : ∃ u, w3.cell? ⟨w.heap.size, k, none⟩ = some u := by
          rw [Joins.cell_of_block h31]
          exact ⟨_, by simp [mixed_at L k (by rw [Hlen.out]; exact hlt)]; rfl⟩
        obtain ⟨uu, hcu⟩ := hc3
        have hfz := Joins.unfrozen_of_block h31 k
        have hset := Joins.block_setCell (i := k) h31 (.string (lineB x))
        have HSET : Hid ((w3.setCell ⟨w.heap.size, k, none⟩ (.string (lineB x))).heap[w.heap.size]? = some (.cells (mixed L (k + 1)).toArray 9 (0, 0))) := by
          show _ = _
          rw [hset, ← HMS.out]
          simp
        have HB3 : Hid (Below w.heap.size w (w3.setCell ⟨w.heap.size, k, none⟩ (.string (lineB x)))) :=
          ((HB.out).trans (((HBa.out).mono (Nat.le_of_lt hsz)).trans (hb3.mono (Nat.le_of_lt hsza)))).setCell (Nat.le_refl _) _
        clear hset h31 hb3 hy3
        generalize lineB x = lx at *
        go_wp2
        go_roundw
        case rel => exact ⟨k + 1, by go_num, by rw [Hlen.out]; omega, HSET.out, HB3.out⟩
        case measure => simp [intOf]; omega
    · have ek : k = L.length := by rw [Hlen.out]; omega
      rw [ek, mixed_full] at hblk
      have HDL : Hid ((L.map lineB).map (·.data.toList) = (sp 10 s.data.toList).map docLine) := by
        show _ = _
        rw [← HPc.out]
        simp [lineB, Function.comp_def]
      have HDn : Hid ((L.map lineB).length = n + 1) := by
        show _ = _
        rw [List.length_map, Hlen.out]
      generalize L.map lineB = D at *
      have HBk := hide hblk
      have HB := hide hB
      have hsz : w.heap.size < wr.heap.size := (Array.getElem?_eq_some_iff.1 hblk).1
      have hge' : ¬ (k : Int) < (n : Int) + 1 := by omega
      have HCell : Hid (∀ j (h : j < D.length), wr.cell? ⟨w.heap.size, j, none⟩ = some (.string D[j])) := fun j h => by
        rw [Joins.cell_of_block HBk.out]
        simp [h]
      clear hblk hB HS Hlen HPc ek
      go_wp2_with fail
      go_loop [3] (fun v => ∃ o a : Nat, v = .slice (some ⟨w.heap.size, a, none⟩) (n + 1 - o) (n + 1 - o) ∧ o ≤ n + 1 ∧ (o < n + 1 → a = o) ∧ Hid (lead ((D.map (·.data.toList)).drop o) = lead (D.map (·.data.toList)))) (fun v => lenV v)
      case atStart => exact ⟨0, 0, rfl, by omega, fun _ => rfl, rfl⟩
      case round =>
        obtain ⟨o, a, rfl, ho, hao, HL⟩ := hrel
        rcases Nat.lt_or_ge o (n + 1) with holt | hoge
        · have ea := hao holt
          subst ea
          have hcl := HCell.out a (by rw [HDn.out]; exact holt)
          have hf1 := from1 w.heap.size a (n + 1 - a) (n + 1 - a) (by omega)
          generalize hx : (D[a]'(by rw [HDn.out]; exact holt)) = x at *
          have Hx := hide hx
          clear hx
          have hpos : (0 : Int) < ((n + 1 - a : Nat) : Int) := by omega
          have hdr : (D.map (·.data.toList)).drop a = x.data.toList :: (D.map (·.data.toList)).drop (a + 1) := by
            rw [List.drop_eq_getElem_cons (by rw [List.length_map, HDn.out]; exact holt), List.getElem_map, Hx.out]
          have HDR := hide hdr
          clear hdr
          go_wp2
          · have hem : x.toList.isEmpty = true := ‹_›
            rw [Lib.toList_data] at hem
            have HL2 : Hid (lead ((D.map (·.data.toList)).drop (a + 1)) = lead (D.map (·.data.toList))) := by
              show _ = _
              rw [← HL.out, HDR.out, lead_empty _ _ hem]
            have en : n + 1 - a - 1 = n + 1 - (a + 1) := by omega
            go_round
            case rel => exact ⟨a + 1, _, by rw [en], by omega, fun h => by rw [if_neg (by omega)], HL2⟩
            case measure => simp [lenV]; omega
          · have hem : x.toList.isEmpty = false := ‹_›
            rw [Lib.toList_data] at hem
            have HLD : Hid (lead (D.map (·.data.toList)) = (D.map (·.data.toList)).drop a) := by
              show _ = _
              rw [← HL.out, HDR.out, lead_full _ _ hem]
            have HX1 : Hid (∀ i (h : i < D.length), i = a → D[i].data.toList.isEmpty = false) := fun i h e => by
              subst e
              rw [Hx.out]; exact hem
            clear hem Hx HL HDR hf1 hcl hpos hao
            go_loop [3] (fun v => ∃ k : Nat, v = .slice (some ⟨w.heap.size, a, none⟩) k (n + 1 - a) ∧ 1 ≤ k ∧ k ≤ n + 1 - a ∧ Hid (trail (((D.map (·.data.toList)).drop a).take k) = trail ((D.map (·.data.toList)).drop a))) (fun v => lenV v)
            case atStart => exact ⟨n + 1 - a, rfl, by omega, by omega, by show _ = _; rw [List.take_of_length_le (by simp [HDn.out])]⟩
            case round =>
              obtain ⟨k2, rfl, hk1, hk2, HTR⟩ := hrel
              have hj : a + (k2 - 1) < D.length := by rw [HDn.out]; omega
              have hcl := HCell.out (a + (k2 - 1)) hj
              have hX2 : k2 = 1 → D[a + (k2 - 1)].data.toList.isEmpty = false := fun e => HX1.out _ hj (by omega)
              have HSN := hide (take_snoc D a k2 hk1 hj)
              have hto := toLess w.heap.size a k2 (n + 1 - a) hk2 hk1
              generalize D[a + (k2 - 1)]'hj = y at *
              clear hj
              have hpos : (0 : Int) < (k2 : Int) := by omega
              have e2 : ((k2 : Int) - 1).toNat = k2 - 1 := by omega
              have hxl : ((D.drop a).take k2).length = k2 := by simp [HDn.out]; omega
              have hmap : ((D.drop a).take k2).map (·.data.toList) = ((D.map (·.data.toList)).drop a).take k2 := by simp
              have hjl : (Lib.join (((D.drop a).take k2).map (·.data.toList)) [10]).length ≤ 140737488355328 := by
                refine Nat.le_trans (join_len 10 _) ?_
                have h1 : tot (((D.drop a).take k2).map (·.data.toList)) ≤ s.size := by
                  rw [hmap]
                  refine Nat.le_trans (tot_sublist ((List.take_sublist _ _).trans (List.drop_sublist _ _))) ?_
                  rw [HDL.out]
                  exact Nat.le_trans (tot_map_le _ docLine_le _) (tot_sp 10 _)
                have h2 : (((D.drop a).take k2).map (·.data.toList)).length = k2 := by rw [List.length_map, hxl]
                omega
              have HJ := hide (Tryd.strings_Join w.heap.size a (n + 1 - a) ((D.drop a).take k2) ⟨#[10]⟩ wr (fun j z hz => by
                obtain ⟨hj1, hj2⟩ := List.getElem?_eq_some_iff.1 hz
                rw [hxl] at hj1
                have := HCell.out (a + j) (by rw [HDn.out]; omega)
                rw [this]
                congr 2
                rw [← hj2]
                simp) hsz (by omega) (by rw [hxl]; omega) hjl)
              rw [hxl] at HJ
              have HFIN : Hid (y.data.toList.isEmpty = false → Lib.join (((D.drop a).take k2).map (·.data.toList)) [10] = doc s.data.toList) := fun he => by
                show _ = Lib.join (trail (lead ((sp 10 s.data.toList).map docLine))) [10]
                rw [← HDL.out, HLD.out, ← HTR.out, hmap, HSN.out, trail_full _ _ he]
              have HEM : Hid (y.data.toList.isEmpty = true → trail (((D.map (·.data.toList)).drop a).take (k2 - 1)) = trail ((D.map (·.data.toList)).drop a)) := fun he => by
                rw [← HTR.out, HSN.out, trail_empty _ _ he]
              have HX3 := hide hX2
              clear hxl hmap hjl HSN hX2 HTR HX1
              go_wp2_with fail
              · have hem : y.toList.isEmpty = true := ‹_›
                rw [Lib.toList_data] at hem
                have hk3 : k2 ≠ 1 := fun e => by rw [HX3.out e] at hem; cases hem
                have HE2 := hide (HEM.out hem)
                go_round
                case rel => exact ⟨k2 - 1, rfl, by omega, by omega, HE2⟩
                case measure => simp [lenV]; omega
              · have hem : y.toList.isEmpty = false := ‹_›
                rw [Lib.toList_data] at hem
                have HF2 := hide (HFIN.out hem)
                refine (HJ.out).mono ?_
                rintro e w5 ⟨rfl, hb5⟩
                have HB5 := hide ((HB.out).trans (hb5.mono (Nat.le_of_lt hsz)))
                have HV5 : Hid ((⟨(Lib.join (((D.drop a).take k2).map (·.data.toList)) [10]).toArray⟩ : ByteArray) = ⟨(doc s.data.toList).toArray⟩) := by
                  show _ = _
                  rw [HF2.out]
                clear hb5 HJ
                change _ at HV5
                generalize (⟨(Lib.join (((D.drop a).take k2).map (·.data.toList)) [10]).toArray⟩ : ByteArray) = res at *
                go_wp2
                go_ret
                exact ⟨by rw [← HV5.out]; rfl, HB5.out⟩
        · have e0 : n + 1 - o = 0 := by omega
          rw [e0]
          have HD0 : Hid (doc s.data.toList = []) := by
            show Lib.join (trail (lead ((sp 10 s.data.toList).map docLine))) [10] = []
            rw [← HDL.out, ← HL.out, List.drop_eq_nil_of_le (by simp [HDn.out]; omega)]
            rfl
          clear HL hao
          go_wp2_with fail
          go_loop [3] (fun v => v = .slice (some ⟨w.heap.size, a, none⟩) 0 0) (fun v => lenV v)
          case atStart => rfl
          case round =>
            subst hrel
            go_wp2_with fail
            refine (Tryd.strings_Join_none _ _ _ _).mono ?_
            rintro e w4 ⟨rfl, rfl⟩
            go_wp2
            go_ret
            exact ⟨by rw [HD0.out]; rfl, HB.out⟩

end Go.Proofs.Qxb6602851aDoor
