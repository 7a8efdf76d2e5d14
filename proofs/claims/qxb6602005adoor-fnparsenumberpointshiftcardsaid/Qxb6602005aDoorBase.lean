import Derived.Test.Qxb6602005aDoorShelf
import Derived.Test.Qxb6602005aDoorPlain
import Derived.WalkKit
import Derived.WalkSpells
import Derived.WalkLawsBesides
import Derived.Deep.QuietTactic
import Derived.BigQuiet
import Derived.Deep.DeepCutAuto
import Derived.Deep.DeepFit
namespace Go.Proofs.Qxb6602005aDoor
open Go.RowKit
set_option linter.unusedSimpArgs false

theorem hide {p : Prop} (h : p) : Hid p := h
theorem unhide {p : Prop} (h : Hid p) : p := h

/-- One byte of a slice that is not at its end. -/
theorem at_byte {w : World} {p : Option Addr} {n : Nat} {bs : List UInt8} (h : Lib.BytesAt w p n bs) (hb : bs.length = n) {k : Nat} (hk : k < n) :
    ∃ b o, p = some ⟨b, o, none⟩ ∧ w.cell? ⟨b, o + k, none⟩ = some (.int .u8 ((bs[k]'(by omega)).toNat : Int)) := by
  obtain ⟨b, o, hp, hc⟩ := h (by omega)
  refine ⟨b, o, hp, ?_⟩
  rw [hc k hk, Lib.getD_lt_sl _ _ _ (by omega)]

theorem dig_iff (x : UInt8) : (dig x = true) = (48 ≤ (x.toNat : Int) ∧ (x.toNat : Int) ≤ 57) := by
  apply propext
  simp only [dig, Bool.and_eq_true, decide_eq_true_eq]
  omega
theorem byte_eq (x : UInt8) (n : Nat) (hn : n < 256) : ((x == UInt8.ofNat n) = true) = ((x.toNat : Int) = n) := by
  apply propext
  rw [beq_iff_eq, ← UInt8.toNat_inj]
  simp
  omega

theorem runD_atI (l : List UInt8) (k : Nat) (h : k < l.length) : runD (l.drop k) = if 48 ≤ (l[k].toNat : Int) ∧ (l[k].toNat : Int) ≤ 57 then runD (l.drop (k + 1)) + 1 else 0 := by
  rw [runD_at l k h]
  simp only [dig_iff]
theorem lz_atI (l : List UInt8) (k : Nat) (h : k < l.length) : lz (l.drop k) = if (l[k].toNat : Int) = 48 then lz (l.drop (k + 1)) + 1 else 0 := by
  rw [lz_at l k h]
  simp only [show (48 : UInt8) = UInt8.ofNat 48 from rfl, byte_eq _ 48 (by omega)]
  rfl

set_option maxHeartbeats 400000 in
theorem digitRun_calls (p : Option Addr) (n c : Nat) (bs : List UInt8) (w : World) (hb : bs.length = n) (hn : n ≤ 2147483648) (h : Lib.BytesAt w p n bs) :
    Calls Tryd.prog 30 #[.slice p n c] w fun e w' => e = .returned (.int .i64 (runD bs)) ∧ w' = w := by
  have Hc := hide h; clear h
  have Hb := hide hb; clear hb
  go_enter Tryd.func30, Tryd.ntmps30
  go_wp2
  go_loop [7] (fun i => ∃ k : Nat, i = .int .i64 k ∧ k ≤ n ∧ Hid (k + runD (bs.drop k) = runD bs)) (fun i => n - (intOf i).toNat)
  case atStart => exact ⟨0, rfl, by omega, by show _ = _; simp⟩
  case round =>
    obtain ⟨k, rfl, hk, H⟩ := hrel
    rcases Nat.lt_or_ge k n with hlt | hge
    · obtain ⟨b, o, rfl, hcell⟩ := at_byte Hc.out Hb.out hlt
      have HS := hide (runD_atI bs k (by rw [Hb.out]; exact hlt))
      generalize (bs[k]'(by rw [Hb.out]; exact hlt)).toNat = x at *
      go_wp2
      all_goals first
        | (go_ret
           refine ⟨congrArg (fun x : Nat => Ending.returned (.int .i64 x)) ?_, rfl⟩
           rw [← H.out, HS.out, if_neg (by omega)]
           rfl)
        | (go_round
           case rel =>
             refine ⟨k + 1, by go_num, by omega, ?_⟩
             show _ = _
             have := H.out
             rw [HS.out, if_pos (by omega)] at this
             omega
           case measure => simp [intOf]; omega)
    · have HE : Hid (runD (bs.drop k) = 0) := by
        show _ = _
        rw [List.drop_eq_nil_of_le (by rw [Hb.out]; exact hge)]
        rfl
      go_wp2
      go_ret
      have := H.out
      have := HE.out
      refine ⟨congrArg (fun x : Nat => Ending.returned (.int .i64 x)) ?_, rfl⟩
      omega

set_option maxHeartbeats 400000 in
theorem leadZ_calls (p : Option Addr) (n c : Nat) (bs : List UInt8) (w : World) (hb : bs.length = n) (hn : n ≤ 2147483648) (h : Lib.BytesAt w p n bs) :
    Calls Tryd.prog 13 #[.slice p n c] w fun e w' => e = .returned (.int .i64 (lz bs)) ∧ w' = w := by
  have Hc := hide h; clear h
  have Hb := hide hb; clear hb
  go_enter Tryd.func13, Tryd.ntmps13
  go_wp2
  go_loop [3] (fun i => ∃ k : Nat, i = .int .i64 k ∧ k ≤ n ∧ Hid (k + lz (bs.drop k) = lz bs)) (fun i => n - (intOf i).toNat)
  case atStart => exact ⟨0, rfl, by omega, by show _ = _; simp⟩
  case round =>
    obtain ⟨k, rfl, hk, H⟩ := hrel
    rcases Nat.lt_or_ge k n with hlt | hge
    · obtain ⟨b, o, rfl, hcell⟩ := at_byte Hc.out Hb.out hlt
      have HS := hide (lz_atI bs k (by rw [Hb.out]; exact hlt))
      generalize (bs[k]'(by rw [Hb.out]; exact hlt)).toNat = x at *
      go_wp2
      all_goals first
        | (go_ret
           refine ⟨congrArg (fun x : Nat => Ending.returned (.int .i64 x)) ?_, rfl⟩
           have hx : ((x : Int) == 48) = false := ‹_›
           rw [← H.out, HS.out, if_neg (by simpa using hx)]
           rfl)
        | (go_round
           case rel =>
             refine ⟨k + 1, by go_num, by omega, ?_⟩
             show _ = _
             have hx : ((x : Int) == 48) = true := ‹_›
             have := H.out
             rw [HS.out, if_pos (by simpa using hx)] at this
             omega
           case measure => simp [intOf]; omega)
    · have HE : Hid (lz (bs.drop k) = 0) := by
        show _ = _
        rw [List.drop_eq_nil_of_le (by rw [Hb.out]; exact hge)]
        rfl
      go_wp2
      go_ret
      have := H.out
      have := HE.out
      refine ⟨congrArg (fun x : Nat => Ending.returned (.int .i64 x)) ?_, rfl⟩
      omega

set_option maxHeartbeats 400000 in
theorem trailZ_calls (p : Option Addr) (n c : Nat) (bs : List UInt8) (w : World) (hb : bs.length = n) (hn : n ≤ 2147483648) (h : Lib.BytesAt w p n bs) :
    Calls Tryd.prog 14 #[.slice p n c] w fun e w' => e = .returned (.int .i64 (tz bs)) ∧ w' = w := by
  have Hc := hide h; clear h
  have Hb := hide hb; clear hb
  go_enter Tryd.func14, Tryd.ntmps14
  go_wp2
  go_loop [3] (fun i => ∃ k : Nat, i = .int .i64 k ∧ k ≤ n ∧ Hid (k + lz (bs.reverse.drop k) = tz bs)) (fun i => n - (intOf i).toNat)
  case atStart => exact ⟨0, rfl, by omega, by show _ = _; simp [tz]⟩
  case round =>
    obtain ⟨k, rfl, hk, H⟩ := hrel
    rcases Nat.lt_or_ge k n with hlt | hge
    · obtain ⟨b, o, rfl, hcell⟩ := at_byte Hc.out Hb.out (show n - 1 - k < n by omega)
      have HS := hide (lz_atI bs.reverse k (by rw [List.length_reverse, Hb.out]; exact hlt))
      have e1 : (bs.reverse[k]'(by rw [List.length_reverse, Hb.out]; exact hlt)) = (bs[n - 1 - k]'(by rw [Hb.out]; omega)) := by
        rw [List.getElem_reverse]
        congr 1
        rw [Hb.out]
      rw [e1] at HS
      clear e1
      generalize (bs[n - 1 - k]'(by rw [Hb.out]; omega)).toNat = x at *
      have e2 : ((n : Int) - 1 - (k : Int)).toNat = n - 1 - k := by omega
      go_wp2
      all_goals first
        | (go_ret
           refine ⟨congrArg (fun x : Nat => Ending.returned (.int .i64 x)) ?_, rfl⟩
           have hx : ((x : Int) == 48) = false := ‹_›
           rw [← H.out, HS.out, if_neg (by simpa using hx)]
           rfl)
        | (go_round
           case rel =>
             refine ⟨k + 1, by go_num, by omega, ?_⟩
             show _ = _
             have hx : ((x : Int) == 48) = true := ‹_›
             have := H.out
             rw [HS.out, if_pos (by simpa using hx)] at this
             omega
           case measure => simp [intOf]; omega)
    · have HE : Hid (lz (bs.reverse.drop k) = 0) := by
        show _ = _
        rw [List.drop_eq_nil_of_le (by rw [List.length_reverse, Hb.out]; exact hge)]
        rfl
      go_wp2
      go_ret
      have := H.out
      have := HE.out
      refine ⟨congrArg (fun x : Nat => Ending.returned (.int .i64 x)) ?_, rfl⟩
      omega

theorem eq_at (xs bs : List UInt8) (k : Nat) (ha : k < xs.length) (hb : k < bs.length) : (xs.drop k == bs.drop k) = if (xs[k].toNat : Int) = (bs[k].toNat : Int) then (xs.drop (k + 1) == bs.drop (k + 1)) else false := by
  rw [List.drop_eq_getElem_cons ha, List.drop_eq_getElem_cons hb]
  generalize xs.drop (k + 1) = A
  generalize bs.drop (k + 1) = B
  by_cases h : xs[k] = bs[k]
  · rw [if_pos (by rw [h]), h]
    simp
  · rw [if_neg (fun e => h (UInt8.toNat_inj.1 (by omega)))]
    simp [h]

set_option maxHeartbeats 400000 in
theorem equal_calls (p q : Option Addr) (n m c d : Nat) (xs bs : List UInt8) (w : World) (ha : xs.length = n) (hb : bs.length = m) (hn : n ≤ 2147483648) (hm : m ≤ 2147483648) (h : Lib.BytesAt w p n xs) (h2 : Lib.BytesAt w q m bs) :
    Calls Tryd.prog 15 #[.slice p n c, .slice q m d] w fun e w' => e = .returned (.bool (xs == bs)) ∧ ∃ k, w' = w.drewN k := by
  have Hc := hide h; clear h
  have Hd := hide h2; clear h2
  have Ha := hide ha; clear ha
  have Hb := hide hb; clear hb
  by_cases hnm : n = m
  · subst hnm
    go_enter Tryd.func15, Tryd.ntmps15
    go_wp2
    go_loopw [5] (fun i wr => ∃ k : Nat, i = .int .i64 k ∧ k ≤ n ∧ (∃ t, wr = w.drewN t) ∧ Hid ((xs.drop k == bs.drop k) = (xs == bs))) (fun i _ => n - (intOf i).toNat)
    case atStart => exact ⟨0, rfl, by omega, ⟨0, rfl⟩, by show _ = _; simp⟩
    case round =>
      obtain ⟨k, rfl, hk, ⟨t, rfl⟩, H⟩ := hrel
      rcases Nat.lt_or_ge k n with hlt | hge
      · obtain ⟨b, o, rfl, hcell⟩ := at_byte Hc.out Ha.out hlt
        obtain ⟨b2, o2, rfl, hcell2⟩ := at_byte Hd.out Hb.out hlt
        have HS := hide (eq_at xs bs k (by rw [Ha.out]; exact hlt) (by rw [Hb.out]; exact hlt))
        generalize (xs[k]'(by rw [Ha.out]; exact hlt)).toNat = x at *
        generalize (bs[k]'(by rw [Hb.out]; exact hlt)).toNat = y at *
        have hl1 : (k : Int) < (n : Int) := by omega
        go_wp2
        go_quiet (fail)
        go_wp2
        · go_ret
          refine ⟨congrArg (fun x => Ending.returned (.bool x)) ?_, ⟨t + nq, by simp⟩⟩
          have hx : ((x : Int) != (y : Int)) = true := ‹_›
          rw [← H.out, HS.out, if_neg (by simpa using hx)]
        · go_roundw
          case rel =>
            refine ⟨k + 1, by go_num, by omega, ⟨t + nq, by simp⟩, ?_⟩
            show _ = _
            have hx : ((x : Int) != (y : Int)) = false := ‹_›
            rw [← H.out, HS.out, if_pos (by simpa using hx)]
          case measure => simp [intOf]; omega
      · have HE : Hid ((xs.drop k == bs.drop k) = true) := by
          show _ = _
          rw [List.drop_eq_nil_of_le (by rw [Ha.out]; exact hge), List.drop_eq_nil_of_le (by rw [Hb.out]; exact hge)]
          rfl
        go_wp2
        go_ret
        exact ⟨congrArg (fun x => Ending.returned (.bool x)) (by rw [← H.out, HE.out]), ⟨_, rfl⟩⟩
  · have h1 : ((n : Int) != (m : Int)) = true := by rw [bne_iff_ne]; omega
    have HE : Hid ((xs == bs) = false) := by
      show _ = _
      rw [beq_eq_false_iff_ne]
      intro e
      rw [← Ha.out, ← Hb.out, e] at hnm
      exact hnm rfl
    go_enter Tryd.func15, Tryd.ntmps15
    go_wp2
    go_ret
    exact ⟨congrArg (fun x => Ending.returned (.bool x)) (by rw [HE.out]), ⟨0, rfl⟩⟩

/-- A byte as a value; a list of bytes as cells. -/
def B (x : UInt8) : Value := .int .u8 (x.toNat : Int)
def cellsB (bs : List UInt8) : List Value := bs.map B

theorem Tryd.info5 : (Tryd.prog.info? 5).map (fun i => (i.zero, i.size, i.bytes)) = some (some (.int .u8 0), 1, 1) := by kernel_rfl

/-- What is owned reads as bytes. -/
theorem owns_at {w : World} {base n : Nat} {v : Value} {bs : List UInt8} (h : w.ownsRow base 5 1 v n (cellsB bs)) : ∃ p c, v = .slice p n c ∧ n ≤ c ∧ c ≤ 9223372036854775807 ∧ bs.length = n ∧ Lib.BytesAt w p n bs ∧ (∀ b o s, p = some ⟨b, o, s⟩ → base ≤ b ∧ b < w.heap.size) := by
  have hl : bs.length = n := by simpa [cellsB] using h.1
  have hlt := h.lt
  rcases h.2 with ⟨rfl, rfl⟩ | ⟨g, cap, cur, rfl, hg, hb, hc, hm, hs, ht⟩
  · exact ⟨none, 0, rfl, Nat.le_refl _, by omega, hl, fun h => absurd h (by omega), fun _ _ _ e => by cases e⟩
  · refine ⟨_, cap, rfl, hc, by simpa [maxLen] using hm, hl, fun h0 => ⟨g, 0, rfl, fun i hi => ?_⟩, fun b o s e => by cases e; exact hlt g rfl⟩
    have := h.cellAt i (by omega)
    rw [Nat.zero_add, this]
    simp [cellsB, List.getElem?_eq_getElem (show i < bs.length by omega), Lib.getD_lt_sl bs i 0 (by omega), B]

set_option maxHeartbeats 800000 in
theorem append_calls (p : Option Addr) (n c m base : Nat) (v : Value) (ds bs : List UInt8) (w : World) (hb : bs.length = n) (hn : n ≤ 2147483648) (hm : m ≤ 2147483648) (h : Lib.BytesAt w p n bs)
    (hown : w.ownsRow base 5 1 v m (cellsB ds)) (hbase : base ≤ w.heap.size) (hp : ∀ b o s, p = some ⟨b, o, s⟩ → b < base) :
    Calls Tryd.prog 18 #[v, .slice p n c] w fun e w' => ∃ v', e = .returned v' ∧ w'.ownsRow base 5 1 v' (m + n) (cellsB (ds ++ bs)) ∧ Below base w w' := by
  have Hc := hide h; clear h
  have Hb := hide hb; clear hb
  have Hp := hide hp; clear hp
  obtain ⟨i0, hi, hz0, hz1, hz2⟩ := info_parts Tryd.info5
  go_enter Tryd.func18, Tryd.ntmps18
  go_wp2
  go_loopw [0, 5] (fun s i wr => ∃ k : Nat, i = .int .i64 k ∧ k ≤ n ∧ wr.ownsRow base 5 1 s (m + k) (cellsB (ds ++ bs.take k)) ∧ Below base w wr) (fun _ i _ => n - (intOf i).toNat)
  case atStart => exact ⟨0, rfl, by omega, by simpa using hown, Below.refl _ _⟩
  case round =>
    obtain ⟨k, rfl, hk, hownr, hB⟩ := hrel
    clear hown
    rcases Nat.lt_or_ge k n with hlt | hge
    · obtain ⟨b, o, rfl, hcell⟩ := at_byte Hc.out Hb.out hlt
      have hcr : wr.cell? ⟨b, o + k, none⟩ = some (B (bs[k]'(by rw [Hb.out]; exact hlt))) := by
        rw [hB.cell (Hp.out b o none rfl)]; exact hcell
      clear hcell
      have hsz := hB.size
      have HT : Hid (cellsB (ds ++ bs.take k) ++ [B (bs[k]'(by rw [Hb.out]; exact hlt))] = cellsB (ds ++ bs.take (k + 1))) := by
        show _ = _
        rw [List.take_succ_eq_append_getElem (by rw [Hb.out]; exact hlt), ← List.append_assoc]
        simp only [cellsB, List.map_append, List.map_cons, List.map_nil]
      unfold B at hcr HT
      generalize ((bs[k]'(by rw [Hb.out]; exact hlt)).toNat) = x at *
      have HB := hide hB; clear hB
      have hx1 : ∀ u ∈ [Value.int .u8 (x : Int)], u.oneCell' = true := by intro u hu; simp at hu; subst hu; rfl
      go_wp2_with (at_builtin; refine wpList_append_own _ rfl _ _ 22 rfl base 5 i0 (.int .u8 0) 1 1 Tryd.underlying22 hi hz0 hz1 hz2 rfl (by decide) _ _ _ rfl (hownr.alloc _) ⟨wr.heap.size, 0, none⟩ 1 1 [.int .u8 (x : Int)] rfl rfl (cell_one_new _ _ _) hx1 (by unfold maxLen; omega) (by omega) (by simp; omega) ?_)
      intro v' w1 hown' hgrow _
      rw [HT.out] at hown'
      have hB1 : Below base w w1 := ((unhide HB).alloc (by omega) _).grown hgrow (by simp; omega) (fun g hg => (hownr.lt g hg).1)
      clear hownr hgrow
      go_wp2
      go_roundw
      case rel => exact ⟨k + 1, by go_num, by omega, hown', hB1⟩
      case measure => simp [intOf]; omega
    · have e : k = n := by omega
      subst e
      rw [List.take_of_length_le (by rw [Hb.out]; omega)] at hownr
      go_wp2
      go_ret
      exact ⟨_, rfl, hownr, hB⟩

set_option maxHeartbeats 800000 in
theorem concat_calls (p q : Option Addr) (n m c d : Nat) (xs bs : List UInt8) (w : World) (ha : xs.length = n) (hb : bs.length = m) (hn : n ≤ 1073741824) (hm : m ≤ 1073741824) (h : Lib.BytesAt w p n xs) (h2 : Lib.BytesAt w q m bs)
    (hp : ∀ b o s, p = some ⟨b, o, s⟩ → b < w.heap.size) (hq : ∀ b o s, q = some ⟨b, o, s⟩ → b < w.heap.size) :
    Calls Tryd.prog 12 #[.slice p n c, .slice q m d] w fun e w' => ∃ v', e = .returned v' ∧ w'.ownsRow w.heap.size 5 1 v' (n + m) (cellsB (xs ++ bs)) ∧ Below w.heap.size w w' := by
  obtain ⟨i0, hi, hz0, hz1, hz2⟩ := info_parts Tryd.info5
  obtain ⟨W1, hmk, hown, hgrow⟩ := run_make_own (P := Tryd.prog) w w.heap.size 22 5 i0 (.int .u8 0) 1 Tryd.underlying22 hi hz0 hz1 .i64 .i64 (n + m) (by rw [hz2]; omega) (by unfold maxLen; omega) (Nat.le_refl _)
  have hB1 : Below w.heap.size w W1 := (Below.refl _ w).grown hgrow (Nat.le_refl _) (fun g hg => by cases hg)
  have ec : ((n + m : Nat) : Int) = (n : Int) + (m : Int) := by omega
  rw [ec] at hmk
  have hs1 := hB1.size
  have HC1 : Hid (Calls Tryd.prog 18 #[.slice (some ⟨w.heap.size, 0, none⟩) 0 (n + m), .slice p n c] W1 _) := append_calls p n c 0 w.heap.size _ [] xs W1 ha (by omega) (by omega) (fun h0 => by
      obtain ⟨b, o, e, hc⟩ := h h0
      exact ⟨b, o, e, fun i hi => by rw [hB1.cell (hp b o none e)]; exact hc i hi⟩) (by simpa [cellsB] using hown) hs1 hp
  have HC2 : Hid (∀ v W2, W2.ownsRow w.heap.size 5 1 v n (cellsB xs) → Below w.heap.size w W2 → Calls Tryd.prog 18 #[v, .slice q m d] W2 _) := fun v W2 ho hB2 => append_calls q m d n w.heap.size v xs bs W2 hb (by omega) (by omega) (fun h0 => by
      obtain ⟨b, o, e, hc⟩ := h2 h0
      exact ⟨b, o, e, fun i hi => by rw [hB2.cell (hq b o none e)]; exact hc i hi⟩) ho hB2.size hq
  have HB1 := hide hB1
  clear h h2 hp hq hown hgrow ec hB1 hi hz0 hz1 hz2 ha hb hs1
  go_enter Tryd.func12, Tryd.ntmps12
  go_wp2_with fail
  refine (HC1.out).mono ?_
  rintro e W2 ⟨v1, rfl, ho1, hb1⟩
  have ho2 : W2.ownsRow w.heap.size 5 1 v1 n (cellsB xs) := by simpa using ho1
  have HC3 := hide (HC2.out v1 W2 ho2 ((unhide HB1).trans hb1))
  have HB2 := hide ((unhide HB1).trans hb1)
  clear ho1 ho2 hb1 HC1 HC2 HB1
  go_wp2_with fail
  refine (HC3.out).mono ?_
  rintro e W3 ⟨v2, rfl, ho3, hb3⟩
  go_wp2
  go_ret
  exact ⟨_, rfl, ho3, (unhide HB2).trans hb3⟩

/-- What the clone's row holds behind k rounds. -/
def cloneAt (bs : List UInt8) (k : Nat) : List Value := cellsB (bs.take k) ++ List.replicate (bs.length - k) (.int .u8 0)
theorem cloneAt_set (bs : List UInt8) (k : Nat) (h : k < bs.length) : (cloneAt bs k).set k (.int .u8 (bs[k].toNat : Int)) = cloneAt bs (k + 1) := by
  apply List.ext_getElem?
  intro j
  unfold cloneAt cellsB
  rw [List.getElem?_set]
  have hl1 : ((bs.take k).map B).length = k := by simp; omega
  have hl2 : ((bs.take (k + 1)).map B).length = k + 1 := by simp; omega
  by_cases hj : k = j
  · subst hj
    rw [if_pos rfl, if_pos (by simp; omega), List.getElem?_append_left (by omega)]
    simp [h, B]
  · rw [if_neg hj]
    by_cases hlt : j < k
    · rw [List.getElem?_append_left (by omega), List.getElem?_append_left (by omega)]
      simp [List.getElem?_take, hlt, show j < k + 1 by omega]
    · rw [List.getElem?_append_right (by omega), List.getElem?_append_right (by omega), hl1, hl2, List.getElem?_replicate, List.getElem?_replicate]
      by_cases hb : j < bs.length
      · rw [if_pos (by omega), if_pos (by omega)]
      · rw [if_neg (by omega), if_neg (by omega)]

set_option maxHeartbeats 800000 in
theorem clone_nil (w : World) : Calls Tryd.prog 9 #[.slice none 0 0] w fun e w' => e = .returned (.slice none 0 0) ∧ w' = w := by
  have k1 : ∀ w, (binOp .eql 22 (.slice none 0 0) (.slice none 0 0)).run Tryd.prog w = .ok (.bool true) w := fun w => Lib.run_eql_slice_nil w 22 5 none 0 0 0 0 Tryd.underlying22
  go_enter Tryd.func9, Tryd.ntmps9
  go_wp2
  go_ret
  exact ⟨rfl, rfl⟩

set_option maxHeartbeats 800000 in
theorem clone_some (a : Addr) (n c : Nat) (bs : List UInt8) (w : World) (hb : bs.length = n) (hn : n ≤ 1073741824) (h : Lib.BytesAt w (some a) n bs) (ha : 0 < n → a.block < w.heap.size) :
    Calls Tryd.prog 9 #[.slice (some a) n c] w fun e w' => e = .returned (.slice (some ⟨w.heap.size, 0, none⟩) n n) ∧ w'.ownsRow w.heap.size 5 1 (.slice (some ⟨w.heap.size, 0, none⟩) n n) n (cellsB bs) ∧ Below w.heap.size w w' := by
  obtain ⟨i0, hi, hz0, hz1, hz2⟩ := info_parts Tryd.info5
  obtain ⟨W1, hmk, hown, hgrow⟩ := run_make_full (P := Tryd.prog) w w.heap.size 22 5 i0 (.int .u8 0) 1 Tryd.underlying22 hi hz0 hz1 .i64 .i64 n (by rw [hz2]; omega) (by unfold maxLen; omega) (Nat.le_refl _)
  have hB1 : Below w.heap.size w W1 := (Below.refl _ w).grown hgrow (Nat.le_refl _) (fun g hg => by cases hg)
  have e0 : (madeCells (Value.int IntKind.u8 0).cells (n * 1)).toList = cloneAt bs 0 := by
    apply List.ext_getElem
    · simp [madeCells, cloneAt, cellsB, hb]
    · intro j h1 h2
      simp [madeCells, cloneAt, cellsB, Value.cells, Nat.mod_one]
  rw [e0] at hown
  have Hown := hide hown
  have HB1 := hide hB1
  have Hc := hide h; clear h
  have Hb := hide hb; clear hb
  clear hown hB1 hgrow hi hz0 hz1 hz2 e0
  have k1 : ∀ w, (binOp .eql 22 (.slice (some a) n c) (.slice none 0 0)).run Tryd.prog w = .ok (.bool false) w := fun w => Lib.run_eql_slice_nil w 22 5 (some a) n c 0 0 Tryd.underlying22
  go_enter Tryd.func9, Tryd.ntmps9
  go_wp2
  go_loopw [4] (fun i wr => ∃ k : Nat, i = .int .i64 k ∧ k ≤ n ∧ wr.ownsRow w.heap.size 5 1 (.slice (some ⟨w.heap.size, 0, none⟩) n n) n (cloneAt bs k) ∧ Below w.heap.size w wr) (fun i _ => n - (intOf i).toNat)
  case atStart => exact ⟨0, rfl, by omega, Hown.out, HB1.out⟩
  case round =>
    obtain ⟨k, rfl, hk, hownr, hB⟩ := hrel
    rcases Nat.lt_or_ge k n with hlt | hge
    · obtain ⟨b, o, hp, hcell⟩ := at_byte Hc.out Hb.out hlt
      cases hp
      have hcr : wr.cell? ⟨b, o + k, none⟩ = some (.int .u8 ((bs[k]'(by rw [Hb.out]; exact hlt)).toNat : Int)) := by
        exact (hB.cell (show b < w.heap.size from ha (by omega))).trans hcell
      have hold : ∃ u, wr.cell? ⟨w.heap.size, k, none⟩ = some u := by
        rw [hownr.cellAt k (by omega)]
        have : k < (cloneAt bs k).length := by rw [hownr.1]; omega
        exact ⟨_, List.getElem?_eq_getElem this⟩
      obtain ⟨u, hu⟩ := hold
      have hfz := hownr.frozenAt k
      have HS := hide (hownr.stored k (.int .u8 ((bs[k]'(by rw [Hb.out]; exact hlt)).toNat : Int)))
      have HT := hide (cloneAt_set bs k (by rw [Hb.out]; exact hlt))
      generalize ((bs[k]'(by rw [Hb.out]; exact hlt)).toNat) = x at *
      have HB := hide hB
      clear hB hownr hcell
      go_wp2
      go_roundw
      case rel =>
        refine ⟨k + 1, by go_num, by omega, ?_, ?_⟩
        · rw [← HT.out]; exact (HS.out).1
        · exact (unhide HB).setCell (Nat.le_refl _) _
      case measure => simp [intOf]; omega
    · have e : k = n := by omega
      subst e
      have e2 : cloneAt bs k = cellsB bs := by
        unfold cloneAt
        rw [List.take_of_length_le (by rw [Hb.out]; omega), Hb.out]
        simp
      rw [e2] at hownr
      go_wp2
      go_ret
      exact ⟨rfl, hownr, hB⟩

end Go.Proofs.Qxb6602005aDoor
