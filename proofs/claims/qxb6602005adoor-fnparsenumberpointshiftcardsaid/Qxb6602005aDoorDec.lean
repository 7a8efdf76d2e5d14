import Derived.Test.Qxb6602005aDoorApp
namespace Go.Proofs.Qxb6602005aDoor
open Go.RowKit
set_option linter.unusedSimpArgs false
set_option maxRecDepth 100000

theorem all_at (l : List UInt8) (k : Nat) (h : k < l.length) : (l.drop k).all dig = (dig l[k] && (l.drop (k + 1)).all dig) := by
  rw [List.drop_eq_getElem_cons h, List.all_cons]

set_option maxHeartbeats 400000 in
theorem allDigits_calls (p : Option Addr) (n c : Nat) (bs : List UInt8) (w : World) (hb : bs.length = n) (hn : n ≤ 2147483648) (h : Lib.BytesAt w p n bs) :
    Calls Tryd.prog 17 #[.slice p n c] w fun e w' => e = .returned (.bool (bs.all dig)) ∧ w' = w := by
  have Hc := hide h; clear h
  have Hb := hide hb; clear hb
  go_enter Tryd.func17, Tryd.ntmps17
  go_wp2
  go_loop [3] (fun i => ∃ k : Nat, i = .int .i64 k ∧ k ≤ n ∧ Hid ((bs.drop k).all dig = bs.all dig)) (fun i => n - (intOf i).toNat)
  case atStart => exact ⟨0, rfl, by omega, by show _ = _; simp⟩
  case round =>
    obtain ⟨k, rfl, hk, H⟩ := hrel
    rcases Nat.lt_or_ge k n with hlt | hge
    · obtain ⟨b, o, rfl, hcell⟩ := at_byte Hc.out Hb.out hlt
      have HS := hide (all_at bs k (by rw [Hb.out]; exact hlt))
      have HC := hide (isDigit_calls (bs[k]'(by rw [Hb.out]; exact hlt)) w)
      generalize (bs[k]'(by rw [Hb.out]; exact hlt)) = x at *
      generalize hd : dig x = dg at *
      clear hd
      go_wp2_with (go_at_call 28; refine (HC.out).mono ?_; rintro e w' ⟨rfl, rfl⟩)
      all_goals first
        | (have hx : (!dg) = true := ‹_›
           go_ret
           refine ⟨congrArg (fun x => Ending.returned (.bool x)) ?_, rfl⟩
           rw [← H.out, HS.out]
           simp at hx
           rw [hx]
           rfl)
        | (have hx : (!dg) = false := ‹_›
           go_round
           case rel =>
             refine ⟨k + 1, by go_num, by omega, ?_⟩
             show _ = _
             rw [← H.out, HS.out]
             simp at hx
             rw [hx, Bool.true_and]
           case measure => simp [intOf]; omega)
    · have HE : Hid ((bs.drop k).all dig = true) := by
        show _ = _
        rw [List.drop_eq_nil_of_le (by rw [Hb.out]; exact hge)]
        rfl
      go_wp2
      go_ret
      exact ⟨congrArg (fun x => Ending.returned (.bool x)) (by rw [← H.out, HE.out]), rfl⟩

set_option maxHeartbeats 400000 in
theorem trimRZ_calls (p : Option Addr) (n c : Nat) (bs : List UInt8) (w : World) (B : Nat) (hV : V w B p n c bs) :
    Calls Tryd.prog 20 #[.slice p n c] w fun e w' => ∃ m, e = .returned (.slice p m c) ∧ V w B p m c (trimR bs) ∧ w' = w := by
  have hle := tz_le bs
  rw [hV.len] at hle
  have hs := hV.small
  have HC := hide (trailZ_calls p n c bs w hV.len (by omega) hV.at_)
  have hto := run_to p n c (n - tz bs) ((n : Int) - (tz bs : Int)) (by omega) (by have := hV.cap; omega)
  have HV2 : Hid (V w B p (n - tz bs) c (trimR bs)) := by
    have := hV.to (n - tz bs) (by omega)
    rw [trimR_tz, hV.len]
    exact this
  clear hV
  generalize tz bs = u at *
  go_enter Tryd.func20, Tryd.ntmps20
  go_wp2_with fail
  refine (HC.out).mono ?_
  rintro e w' ⟨rfl, rfl⟩
  go_wp2
  go_ret
  exact ⟨_, rfl, HV2.out, rfl⟩

theorem ownsRow_below {w w' : World} {base : Nat} {e : TypeId} {size : Nat} {v : Value} {n : Nat} {xs : List Value} (h : w.ownsRow base e size v n xs) (hB : Below w.heap.size w w') : w'.ownsRow base e size v n xs := by
  have hlt := h.lt
  refine ⟨h.1, ?_⟩
  rcases h.2 with h0 | ⟨g, cap, cur, rfl, hg, hb, hc, hm, hs, ht⟩
  · exact .inl h0
  · exact .inr ⟨g, cap, cur, rfl, hg, by rw [hB.block g (hlt g rfl).2]; exact hb, hc, hm, hs, ht⟩
theorem own_ne {w : World} {base G : Nat} {v : Value} {n : Nat} {xs : List Value} {arr : Array Value} (h : w.ownsRow base 5 1 v n xs) (hG : w.heap[G]? = some (.cells arr 49 (0, 0))) : some G ≠ v.ownBlock := by
  rcases h.2 with ⟨rfl, _⟩ | ⟨g, cap, cur, rfl, _, hb, _⟩
  · intro e; cases e
  · intro e
    have e2 : G = g := by simpa [Value.ownBlock] using e
    subst e2
    rw [hb] at hG
    simp at hG

theorem pow_step (U I : Nat) (h1 : 15 ≤ I) (h2 : U < 10 ^ (I - 14)) : (U / 10 ≠ 0 → 16 ≤ I) ∧ (16 ≤ I → U / 10 < 10 ^ (I - 1 - 14)) := by
  refine ⟨fun h => ?_, fun h => ?_⟩
  · rcases Nat.lt_or_ge I 16 with h3 | h3
    · have : I = 15 := by omega
      subst this
      simp at h2
      omega
    · exact h3
  · have e : I - 14 = (I - 1 - 14) + 1 := by omega
    rw [e, Nat.pow_succ] at h2
    omega

theorem byte_ten (d : Nat) (h : d < 10) : (UInt8.ofNat (48 + d)).toNat = 48 + d ∧ dig (UInt8.ofNat (48 + d)) = true ∧ (UInt8.ofNat (48 + d) - 48).toNat = d := by
  have e : (UInt8.ofNat (48 + d)).toNat = 48 + d := by
    rw [UInt8.toNat_ofNat']
    omega
  have e2 : dig (UInt8.ofNat (48 + d)) = true := by
    unfold dig
    rw [e]
    simp
    omega
  exact ⟨e, e2, by rw [dig_sub _ e2, e]; omega⟩

/-- The array of the digits: from place I on it holds them. -/
structure Arr (w : World) (G I : Nat) (tl : List UInt8) (arr : Array Value) : Prop where
  blk : w.heap[G]? = some (.cells arr 49 (0, 0))
  size : arr.size = 20
  len : tl.length = 20 - I
  cells : ∀ j (h : j < tl.length), arr[I + j]? = some (B tl[j])

def PostDec (m base N : Nat) (ds : List UInt8) (v : Value) (w : World) (e : Ending) (w' : World) : Prop :=
  ∃ v' tl, e = .returned v' ∧ w'.ownsRow base 5 1 v' (m + tl.length) (cellsB (ds ++ tl)) ∧ Grew w w' v v' ∧ tl.all dig = true ∧ 1 ≤ tl.length ∧ tl.length ≤ 20 ∧ valD 0 tl = N
def R2 (w W1 : World) (v : Value) (base m I1 : Nat) (ds tl1 : List UInt8) (arr1 : Array Value) (s v7 : Value) (wr : World) : Prop :=
  ∃ (k : Nat), v7 = .int .i64 ((I1 + k : Nat) : Int) ∧ k ≤ tl1.length ∧ wr.ownsRow base 5 1 s (m + k) (cellsB (ds ++ tl1.take k)) ∧ Grew w wr v s ∧ Hid (wr.heap[w.heap.size]? = some (.cells arr1 49 (0, 0))) ∧ W1.heap.size ≤ wr.heap.size

set_option maxHeartbeats 1000000 in
theorem appendInt_calls (m base N : Nat) (v : Value) (ds : List UInt8) (w : World) (hN : N ≤ 65536) (hm : m ≤ 1073741824) (hown : w.ownsRow base 5 1 v m (cellsB ds)) (hbase : base ≤ w.heap.size) :
    Calls Tryd.prog 19 #[v, .int .i64 N] w fun e w' => PostDec m base N ds v w e w' := by
  have h0 : ¬ (N : Int) < 0 := by omega
  have Hown := hide hown
  clear hown
  go_enter Tryd.func19, Tryd.ntmps19
  go_wp2
  go_loopw [5, 7] (fun v5 v7 wr => ∃ (U I : Nat) (tl : List UInt8) (arr : Array Value), v5 = .int .u64 U ∧ v7 = .int .i64 I ∧ 15 ≤ I ∧ I ≤ 20 ∧ U ≤ 65536 ∧ Hid (U < 10 ^ (I - 14)) ∧ Hid (Arr wr w.heap.size I tl arr) ∧ Hid (tl.all dig = true ∧ valD U tl = N) ∧ Below w.heap.size w wr)
    (fun _ v7 _ => (intOf v7).toNat)
  case atStart =>
    refine ⟨N, 20, [], _, rfl, rfl, by omega, by omega, hN, ?_, ⟨heap_alloc_new w _, rfl, rfl, fun j h => absurd h (by simp)⟩, ⟨rfl, rfl⟩, (Below.refl _ w).alloc (Nat.le_refl _) _⟩
    show N < 10 ^ 6
    omega
  case round =>
    obtain ⟨U, I, tl, arr, rfl, rfl, hI1, hI2, hU, HP, HA, HT, hB⟩ := hrel
    have hcl : ∃ u, wr.cell? ⟨w.heap.size, I - 1, none⟩ = some u := by
      rw [Joins.cell_of_block HA.out.blk]
      exact ⟨_, Array.getElem?_eq_getElem (by have := HA.out.size; omega)⟩
    obtain ⟨u, hu⟩ := hcl
    have hfz := Joins.unfrozen_of_block HA.out.blk (I - 1)
    have hbt := byte_ten (U % 10) (by omega)
    have HBS : Hid (∀ x, (wr.setCell ⟨w.heap.size, I - 1, none⟩ x).heap[w.heap.size]? = some (.cells (arr.setIfInBounds (I - 1) x) 49 (0, 0))) := fun x => Joins.block_setCell HA.out.blk x
    have HA2 : Hid (Arr (wr.setCell ⟨w.heap.size, I - 1, none⟩ (B (UInt8.ofNat (48 + U % 10)))) w.heap.size (I - 1) (UInt8.ofNat (48 + U % 10) :: tl) (arr.setIfInBounds (I - 1) (B (UInt8.ofNat (48 + U % 10))))) := by
      refine ⟨HBS.out _, by simp [HA.out.size], by have := HA.out.len; simp; omega, fun j hj => ?_⟩
      rw [Array.getElem?_setIfInBounds]
      cases j with
      | zero => rw [if_pos (Nat.add_zero _).symm, if_pos (by rw [HA.out.size]; omega)]; rfl
      | succ j =>
        rw [if_neg (by omega), show I - 1 + (j + 1) = I + j by omega]
        exact HA.out.cells j (by simpa using hj)
    have HT2 : Hid ((UInt8.ofNat (48 + U % 10) :: tl).all dig = true ∧ valD (U / 10) (UInt8.ofNat (48 + U % 10) :: tl) = N) := by
      refine ⟨by rw [List.all_cons, hbt.2.1, HT.out.1]; rfl, ?_⟩
      rw [valD, hbt.2.2, show U / 10 * 10 + U % 10 = U by omega]
      exact HT.out.2
    have HPS := hide (pow_step U I hI1 HP.out)
    have HB2 : Hid (Below w.heap.size w (wr.setCell ⟨w.heap.size, I - 1, none⟩ (B (UInt8.ofNat (48 + U % 10))))) := hB.setCell (Nat.le_refl _) _
    unfold B at HA2 HB2
    rw [hbt.1, show ((48 + U % 10 : Nat) : Int) = 48 + (U : Int) % 10 by omega] at HA2 HB2
    clear hbt HBS hB HT HA HP
    have e1 : (((I : Int) - 1)).toNat = I - 1 := by omega
    go_wp2
    · have hz : ((U : Int) / 10 == 0) = true := ‹_›
      have hz2 : U / 10 = 0 := by simp at hz; omega
      rw [hz]
      rw [hz2] at HT2
      clear hz2 HPS hu hfz
      generalize wr.setCell ⟨w.heap.size, I - 1, none⟩ (.int .u8 (48 + (U : Int) % 10)) = W1 at *
      generalize UInt8.ofNat (48 + U % 10) :: tl = tl1 at *
      generalize arr.setIfInBounds (I - 1) (.int .u8 (48 + (U : Int) % 10)) = arr1 at *
      have HL := hide HA2.out.len
      have ht1 : tl1.length ≤ 20 ∧ 1 ≤ tl1.length := by rw [HL.out]; omega
      have HO := hide (ownsRow_below Hown.out HB2.out)
      have hs1 := (HB2.out).size
      have HA3 := hide HA2.out.cells
      have HBk := hide HA2.out.blk
      clear HA2 Hown
      have hnI : I - 1 + tl1.length = 20 := by rw [HL.out]; omega
      obtain ⟨ht20, ht01⟩ := ht1
      have eI : (I : Int) - 1 = ((I - 1 : Nat) : Int) := by omega
      generalize I - 1 = I1 at *
      rw [eI]
      clear eI e1 hI1 hI2
      go_loopw [0, 7] (fun s v7 wr => R2 w W1 v base m I1 ds tl1 arr1 s v7 wr)
        (fun _ v7 _ => 20 - (intOf v7).toNat)
      case atStart => exact ⟨0, by go_num, by omega, by simpa using HO.out, Grew.still v HB2.out, HBk, Nat.le_refl _⟩
      case round =>
        obtain ⟨k, rfl, hk, hownr, hB, HG, hsz⟩ := hrel
        rcases Nat.lt_or_ge k tl1.length with hlt | hge
        · have hcr : wr.cell? ⟨w.heap.size, I1 + k, none⟩ = some (B tl1[k]) := by
            rw [Joins.cell_of_block HG.out]; exact HA3.out k hlt
          have hne := own_ne hownr HG.out
          have HNE := hide hne
          have HT3 : Hid (cellsB (ds ++ tl1.take k) ++ [B tl1[k]] = cellsB (ds ++ tl1.take (k + 1))) := by
            show _ = _
            rw [List.take_succ_eq_append_getElem hlt, ← List.append_assoc]
            simp only [cellsB, List.map_append, List.map_cons, List.map_nil]
          unfold B at hcr HT3
          generalize (tl1[k].toNat) = x at *
          have HB := hide hB
          clear hB hne
          have hx1 : ∀ u ∈ [Value.int .u8 (x : Int)], u.oneCell' = true := by intro u hu; simp at hu; subst hu; rfl
          have hlt20 : ((I1 : Int) + (k : Int)) < 20 := by omega
          go_wp2_with (at_builtin; refine wpList_app _ rfl _ _ rfl base _ _ _ rfl (hownr.alloc _) ⟨wr.heap.size, 0, none⟩ 1 1 [.int .u8 (x : Int)] rfl rfl (cell_one_new _ _ _) hx1 (by omega) (by simp; omega) ?_)
          intro v' w1 hown' hgrow hnew
          rw [HT3.out] at hown'
          have hB1 := (HB.out).trans ((Grew.still u0 ((Below.refl wr.heap.size wr).alloc (Nat.le_refl _) _)).trans (Grew.app hgrow (by simpa using hnew)))
          have HB1 := hide hB1
          clear hB1
          have hG1 : Hid (w1.heap[w.heap.size]? = some (.cells arr1 49 (0, 0))) := by
            show _ = _
            rw [hgrow.block w.heap.size (by simp; omega) HNE.out]
            have hG0 : w.heap.size < wr.heap.size := (Array.getElem?_eq_some_iff.1 HG.out).1
            show (wr.heap.push _)[w.heap.size]? = _
            rw [Array.getElem?_push, if_neg (by omega)]
            exact HG.out
          have hs2 : W1.heap.size ≤ w1.heap.size := by
            have := hgrow.size
            simp at this
            omega
          clear hownr hgrow hnew
          go_wp2
          go_roundw
          case rel =>
            exact ⟨k + 1, by go_num, by omega, hown', HB1.out, hG1, hs2⟩
          case measure => simp [intOf]; omega
        · have ek : k = tl1.length := by omega
          subst ek
          have hge20 : ¬ ((I1 : Int) + ((tl1.length : Nat) : Int)) < 20 := by omega
          rw [List.take_length] at hownr
          have HB := hide hB
          clear hB
          go_wp2
          go_ret
          exact ⟨_, tl1, rfl, hownr, HB.out, HT2.out.1, ht01, ht20, HT2.out.2⟩
    · have hz : ((U : Int) / 10 == 0) = false := ‹_›
      have hz2 : U / 10 ≠ 0 := by simp at hz; omega
      have h16 := (HPS.out).1 hz2
      have HP3 := hide ((HPS.out).2 h16)
      go_roundw
      case rel => exact ⟨U / 10, I - 1, _, _, by go_num, by go_num, by omega, by omega, by omega, HP3, HA2, HT2, HB2.out⟩
      case measure => simp [intOf]; omega

end Go.Proofs.Qxb6602005aDoor
