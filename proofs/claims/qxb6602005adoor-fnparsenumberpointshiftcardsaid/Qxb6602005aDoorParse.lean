import Derived.Test.Qxb6602005aDoorViews
import Derived.RegionTactic
import Derived.Test.Qxb6602005aDoorRet
namespace Go.Proofs.Qxb6602005aDoor
open Go.RowKit
set_option linter.unusedSimpArgs false
set_option maxRecDepth 100000

/-- The block of a number that is only signed yet. -/
abbrev Zn (ng : Bool) : Obj := .cells #[.bool ng, .slice none 0 0, .slice none 0 0, .int .i64 0] 45

/-- What parseNumber hands back. -/
def Post27 (bs : List UInt8) (w : World) (e : Ending) (w' : World) : Prop :=
  ∃ v0 v1, e = .returned (.tuple #[.agg #[.bool (pn bs).neg, v0, v1, .int .i64 (pn bs).exp], .bool (pn bs).ok]) ∧ SL w' v0 (pn bs).d0 ∧ SL w' v1 (pn bs).d1 ∧ Below w.heap.size w w'

theorem below_two (w : World) (ng : Bool) (t : Nat) : Below w.heap.size w (((w.alloc (Zn false)).alloc (Zn ng)).drewN t) :=
  below_drewN (((Below.refl _ w).alloc (Nat.le_refl _) _).alloc (by simp) _) t

theorem ret_fail (w : World) (ng : Bool) (t : Nat) (bs : List UInt8) (tmps : Array Value) (h2 : tmps.getD 2 undef = .pointer (some ⟨w.heap.size, 0, none⟩)) (h3 : tmps.getD 3 undef = .bool false) (hQ : pn bs = failN ng) :
    bodyPost Tryd.prog Tryd.f27 (fun e w' => Post27 bs w e w') Exit.ret { tmps := tmps, defers := [] }
      (((((((w.alloc (Zn false)).alloc (Zn ng)).drewN t).setCell { block := w.heap.size, off := 0 } (Value.bool ng)).setCell { block := w.heap.size, off := 1 } (Value.slice none 0 0)).setCell { block := w.heap.size, off := 2 } (Value.slice none 0 0)).setCell { block := w.heap.size, off := 3 } (Value.int IntKind.i64 0)) := by
  have hB : Below w.heap.size w (((((((w.alloc (Zn false)).alloc (Zn ng)).drewN t).setCell { block := w.heap.size, off := 0 } (Value.bool ng)).setCell { block := w.heap.size, off := 1 } (Value.slice none 0 0)).setCell { block := w.heap.size, off := 2 } (Value.slice none 0 0)).setCell { block := w.heap.size, off := 3 } (Value.int IntKind.i64 0)) :=
    ((((below_two w ng t).setCell (Nat.le_refl _) _).setCell (Nat.le_refl _) _).setCell (Nat.le_refl _) _).setCell (Nat.le_refl _) _
  refine ret27 w.heap.size (.bool ng) (.slice none 0 0) (.slice none 0 0) (.int .i64 0) (.bool false) _ h2 h3 (by go_simp) (by go_simp) (by go_simp) (by go_simp) ?_
  refine ⟨.slice none 0 0, .slice none 0 0, by rw [hQ]; rfl, ?_, ?_, hB⟩
  · rw [hQ]; exact (V.nil w w.heap.size).sl hB hB.size
  · rw [hQ]; exact (V.nil w w.heap.size).sl hB hB.size

theorem ret_zero (w : World) (ng : Bool) (t : Nat) (bs : List UInt8) (tmps : Array Value) (h2 : tmps.getD 2 undef = .pointer (some ⟨w.heap.size, 0, none⟩)) (h3 : tmps.getD 3 undef = .bool true) (hQ : pn bs = ⟨false, [], [], 0, true⟩) :
    bodyPost Tryd.prog Tryd.f27 (fun e w' => Post27 bs w e w') Exit.ret { tmps := tmps, defers := [] }
      (((((((w.alloc (Zn false)).alloc (Zn ng)).drewN t).setCell { block := w.heap.size, off := 0 } (Value.bool false)).setCell { block := w.heap.size, off := 1 } (Value.slice none 0 0)).setCell { block := w.heap.size, off := 2 } (Value.slice none 0 0)).setCell { block := w.heap.size, off := 3 } (Value.int IntKind.i64 0)) := by
  have hB : Below w.heap.size w (((((((w.alloc (Zn false)).alloc (Zn ng)).drewN t).setCell { block := w.heap.size, off := 0 } (Value.bool false)).setCell { block := w.heap.size, off := 1 } (Value.slice none 0 0)).setCell { block := w.heap.size, off := 2 } (Value.slice none 0 0)).setCell { block := w.heap.size, off := 3 } (Value.int IntKind.i64 0)) :=
    ((((below_two w ng t).setCell (Nat.le_refl _) _).setCell (Nat.le_refl _) _).setCell (Nat.le_refl _) _).setCell (Nat.le_refl _) _
  refine ret27 w.heap.size (.bool false) (.slice none 0 0) (.slice none 0 0) (.int .i64 0) (.bool true) _ h2 h3 (by go_simp) (by go_simp) (by go_simp) (by go_simp) ?_
  refine ⟨.slice none 0 0, .slice none 0 0, by rw [hQ], ?_, ?_, hB⟩
  · rw [hQ]; exact (V.nil w w.heap.size).sl hB hB.size
  · rw [hQ]; exact (V.nil w w.heap.size).sl hB hB.size

theorem ret_sig (w : World) (ng : Bool) (t : Nat) (bs ds : List UInt8) (E : Int) (q : Option Addr) (m d : Nat) (hV : V ((w.alloc (Zn false)).alloc (Zn ng)) w.heap.size q m d ds)
    (tmps : Array Value) (h2 : tmps.getD 2 undef = .pointer (some ⟨w.heap.size, 0, none⟩)) (h3 : tmps.getD 3 undef = .bool true) (hQ : pn bs = ⟨ng, ds, [], E, true⟩) :
    bodyPost Tryd.prog Tryd.f27 (fun e w' => Post27 bs w e w') Exit.ret { tmps := tmps, defers := [] }
      (((((((((w.alloc (Zn false)).alloc (Zn ng)).drewN t).setCell { block := w.heap.size + 1, off := 3 } (Value.int IntKind.i64 E)).setCell { block := w.heap.size + 1, off := 1 } (Value.slice q m d)).setCell { block := w.heap.size, off := 0 } (Value.bool ng)).setCell { block := w.heap.size, off := 1 } (Value.slice q m d)).setCell { block := w.heap.size, off := 2 } (Value.slice none 0 0)).setCell { block := w.heap.size, off := 3 } (Value.int IntKind.i64 E)) := by
  have hB2 : Below w.heap.size ((w.alloc (Zn false)).alloc (Zn ng)) (((((((((w.alloc (Zn false)).alloc (Zn ng)).drewN t).setCell { block := w.heap.size + 1, off := 3 } (Value.int IntKind.i64 E)).setCell { block := w.heap.size + 1, off := 1 } (Value.slice q m d)).setCell { block := w.heap.size, off := 0 } (Value.bool ng)).setCell { block := w.heap.size, off := 1 } (Value.slice q m d)).setCell { block := w.heap.size, off := 2 } (Value.slice none 0 0)).setCell { block := w.heap.size, off := 3 } (Value.int IntKind.i64 E)) := by
    repeat (refine Below.setCell ?_ (by first | exact Nat.le_refl _ | exact Nat.le_succ _) _)
    exact below_drewN (Below.refl _ _) t
  have hB := (below_two w ng 0).trans hB2
  refine ret27 w.heap.size (.bool ng) (.slice q m d) (.slice none 0 0) (.int .i64 E) (.bool true) _ h2 h3 (by go_simp) (by go_simp) (by go_simp) (by go_simp) ?_
  refine ⟨.slice q m d, .slice none 0 0, by rw [hQ], ?_, ?_, hB⟩
  · rw [hQ]; exact hV.sl hB2 hB.size
  · rw [hQ]; exact (V.nil w w.heap.size).sl hB hB.size

theorem ret_int (w : World) (ng : Bool) (t : Nat) (bs ds fs : List UInt8) (E : Int) (q q2 : Option Addr) (m d m2 d2 : Nat) (hV : V ((w.alloc (Zn false)).alloc (Zn ng)) w.heap.size q m d ds) (hV2 : V ((w.alloc (Zn false)).alloc (Zn ng)) w.heap.size q2 m2 d2 fs)
    (tmps : Array Value) (h2 : tmps.getD 2 undef = .pointer (some ⟨w.heap.size, 0, none⟩)) (h3 : tmps.getD 3 undef = .bool true) (hQ : pn bs = ⟨ng, ds, fs, E, true⟩) :
    bodyPost Tryd.prog Tryd.f27 (fun e w' => Post27 bs w e w') Exit.ret { tmps := tmps, defers := [] }
      ((((((((((w.alloc (Zn false)).alloc (Zn ng)).drewN t).setCell { block := w.heap.size + 1, off := 3 } (Value.int IntKind.i64 E)).setCell { block := w.heap.size + 1, off := 1 } (Value.slice q m d)).setCell { block := w.heap.size + 1, off := 2 } (Value.slice q2 m2 d2)).setCell { block := w.heap.size, off := 0 } (Value.bool ng)).setCell { block := w.heap.size, off := 1 } (Value.slice q m d)).setCell { block := w.heap.size, off := 2 } (Value.slice q2 m2 d2)).setCell { block := w.heap.size, off := 3 } (Value.int IntKind.i64 E)) := by
  have hB2 : Below w.heap.size ((w.alloc (Zn false)).alloc (Zn ng)) ((((((((((w.alloc (Zn false)).alloc (Zn ng)).drewN t).setCell { block := w.heap.size + 1, off := 3 } (Value.int IntKind.i64 E)).setCell { block := w.heap.size + 1, off := 1 } (Value.slice q m d)).setCell { block := w.heap.size + 1, off := 2 } (Value.slice q2 m2 d2)).setCell { block := w.heap.size, off := 0 } (Value.bool ng)).setCell { block := w.heap.size, off := 1 } (Value.slice q m d)).setCell { block := w.heap.size, off := 2 } (Value.slice q2 m2 d2)).setCell { block := w.heap.size, off := 3 } (Value.int IntKind.i64 E)) := by
    repeat (refine Below.setCell ?_ (by first | exact Nat.le_refl _ | exact Nat.le_succ _) _)
    exact below_drewN (Below.refl _ _) t
  have hB := (below_two w ng 0).trans hB2
  refine ret27 w.heap.size (.bool ng) (.slice q m d) (.slice q2 m2 d2) (.int .i64 E) (.bool true) _ h2 h3 (by go_simp) (by go_simp) (by go_simp) (by go_simp) ?_
  refine ⟨.slice q m d, .slice q2 m2 d2, by rw [hQ], ?_, ?_, hB⟩
  · rw [hQ]; exact hV.sl hB2 hB.size
  · rw [hQ]; exact hV2.sl hB2 hB.size

set_option maxHeartbeats 1000000 in
theorem parse_calls (p : Option Addr) (n c : Nat) (bs : List UInt8) (w : World) (hV : V w w.heap.size p n c bs) :
    Calls Tryd.prog 27 #[.slice p n c] w fun e w' => Post27 bs w e w' := by
  have hB0 : ∀ ng, Below w.heap.size w ((w.alloc (Zn false)).alloc (Zn ng)) := fun ng => ((Below.refl _ w).alloc (Nat.le_refl _) _).alloc (by simp) _
  have HB0 := hide hB0
  have hn := hV.small
  have HV := hide hV
  clear hV hB0
  go_enter Tryd.func27, Tryd.ntmps27
  go_upto_region 2 with fail
  go_cut [19] (fun s19 wx => s19 = .bool (peNeg bs) ∧ wx = (w.alloc (Zn false)).alloc (Zn false))
  case first =>
    cases bs with
    | nil =>
      have h0 : n = 0 := (HV.out.len).symm
      subst h0
      go_wp2
      go_meet
      exact ⟨rfl, rfl⟩
    | cons x0 r =>
      have h0 : (0 : Int) < (n : Int) := by have := HV.out.len; simp at this; omega
      obtain ⟨b, o, rfl, hc⟩ := (HV.out.below (HB0.out false)).head
      have HE : Hid (peNeg (x0 :: r) = ((x0.toNat : Int) == 45)) := byte_eqB x0 45 (by omega)
      generalize x0.toNat = x at *
      go_wp2
      go_meet
      exact ⟨by rw [HE.out], rfl⟩
  case rest =>
    obtain ⟨rfl, rfl⟩ := hcut
    go_upto_if 19 with fail
    go_cut [0] (fun s0 wx => ∃ (q : Option Addr) (m d : Nat) (rs : List UInt8) (ng : Bool) (t : Nat) (W2 : World), s0 = .slice q m d ∧ wx = W2.drewN t ∧ Hid (W2 = (w.alloc (Zn false)).alloc (Zn ng)) ∧ Hid (V W2 w.heap.size q m d rs ∧ pn bs = unsigned ng rs))
    case first =>
      cases hng : peNeg bs
      · go_wp2
        go_meet
        refine ⟨p, n, c, bs, false, 0, _, rfl, rfl, rfl, HV.out.below (HB0.out false), ?_⟩
        cases bs with
        | nil => rfl
        | cons x0 r => rw [pn, if_neg (by rw [peNeg] at hng; rw [hng]; simp)]
      · cases bs with
        | nil => cases hng
        | cons x0 r =>
          have h1 : 1 ≤ n := by have := HV.out.len; simp at this; omega
          have hf := run_from p n c 1 1 rfl h1
          go_wp2
          go_region
          all_goals (try go_wp2)
          all_goals go_meet
          all_goals
            refine ⟨_, _, _, r, true, 1, _, rfl, rfl, rfl, ?_, ?_⟩
            · exact (HV.out.below (HB0.out true)).from 1 h1
            · rw [peNeg] at hng
              rw [pn, if_pos hng]
    case rest =>
      obtain ⟨q, m, d, rs, ng, t, W2, rfl, rfl, HW, HVQ⟩ := hcut
      have hBW : Below w.heap.size w W2 := by rw [HW.out]; exact HB0.out ng
      have HBW := hide hBW
      have HV2 := hide HVQ.out.1
      have HQ : Hid (pn bs = afterInt ng (rs.take (runD rs)) (rs.drop (runD rs))) := HVQ.out.2
      clear HV HVQ HB0 hBW hn
      have hm := HV2.out.small
      have hle := runD_le rs
      rw [HV2.out.len] at hle
      have HC := hide (digitRun_calls q m d rs (W2.drewN t) HV2.out.len (by omega) HV2.out.at_)
      have HI := hide (HV2.out.to (runD rs) hle)
      have HRr := hide (HV2.out.from (runD rs) hle)
      have hto := run_to q m d (runD rs) _ rfl (by have := HV2.out.cap; omega)
      have hfr := run_from q m d (runD rs) _ rfl hle
      generalize runD rs = u at *
      generalize rs.take u = int at *
      generalize rs.drop u = r1 at *
      generalize hq1 : cutP q d u = q1 at *
      generalize hm1 : m - u = m1 at *
      generalize hd1 : d - u = d1 at *
      clear hq1 hm1 hd1 HV2
      go_wp2_with fail
      refine (HC.out).mono ?_
      rintro e w' ⟨rfl, rfl⟩
      clear HC
      go_wp2
      go_quiet (fail)
      clear hto hfr
      go_upto_region 7 with fail
      go_cut [39] (fun s39 wx => s39 = .bool (isHd 46 r1) ∧ wx = W2.drewN (t + nq))
      case first =>
        cases r1 with
        | nil =>
          have h0 : m1 = 0 := (HRr.out.len).symm
          subst h0
          go_wp2
          go_meet
          exact ⟨rfl, by simp⟩
        | cons x0 r =>
          have h0 : (0 : Int) < (m1 : Int) := by have := HRr.out.len; simp at this; omega
          obtain ⟨b, o, rfl, hc⟩ := HRr.out.head
          have HE : Hid (isHd 46 (x0 :: r) = ((x0.toNat : Int) == 46)) := isHd_cons 46 x0 r
          generalize x0.toNat = x at *
          go_wp2
          go_meet
          exact ⟨by rw [HE.out], by simp⟩
      case rest =>
        obtain ⟨rfl, rfl⟩ := hcut
        generalize t + nq = t at *
        go_upto_if 39 with fail
        go_cut [0, 7] (fun s0 s7 wx => ∃ (q2 : Option Addr) (m2 d2 : Nat) (r2 : List UInt8) (q3 : Option Addr) (m3 d3 : Nat) (fr : List UInt8) (t : Nat), s0 = .slice q2 m2 d2 ∧ s7 = .slice q3 m3 d3 ∧ wx = W2.drewN t ∧ Hid (V W2 w.heap.size q2 m2 d2 r2 ∧ V W2 w.heap.size q3 m3 d3 fr ∧ pn bs = afterFrac ng int fr r2))
        case first =>
          cases hpt : isHd 46 r1
          · go_wp2
            go_meet
            refine ⟨_, _, _, r1, _, _, _, [], t, rfl, rfl, rfl, HRr.out, V.nil _ _, ?_⟩
            rw [HQ.out]
            cases r1 with
            | nil => rfl
            | cons x0 r => rw [isHd] at hpt; rw [afterInt, if_neg (by rw [hpt]; simp)]
          · cases r1 with
            | nil => cases hpt
            | cons x0 r =>
              rw [isHd] at hpt
              have h1 : 1 ≤ m1 := by have := HRr.out.len; simp at this; omega
              have HF : Hid (V W2 w.heap.size (cutP q1 d1 1) (m1 - 1) (d1 - 1) r) := HRr.out.from 1 h1
              have HQ2 : Hid (pn bs = if runD r = 0 then failN ng else afterFrac ng int (r.take (runD r)) (r.drop (runD r))) := by
                show _ = _
                rw [HQ.out, afterInt, if_pos hpt]
              have hf := run_from q1 m1 d1 1 1 rfl h1
              have HC := hide (digitRun_calls (cutP q1 d1 1) (m1 - 1) (d1 - 1) r (W2.drewN t) HF.out.len (by have := HF.out.small; omega) HF.out.at_)
              have hle := runD_le r
              rw [HF.out.len] at hle
              have HF1 : Hid (V W2 w.heap.size (cutP q1 d1 1) (1 + runD r - 1) (d1 - 1) (r.take (runD r))) := by
                have := HRr.out.cut 1 (1 + runD r) (by omega) (by omega)
                rw [Nat.add_comm 1 (runD r), List.take_succ_cons, Nat.add_comm (runD r) 1] at this
                exact this
              have HF2 : Hid (V W2 w.heap.size (cutP q1 d1 (1 + runD r)) (m1 - (1 + runD r)) (d1 - (1 + runD r)) (r.drop (runD r))) := by
                have := HRr.out.from (1 + runD r) (by omega)
                rw [Nat.add_comm 1 (runD r), List.drop_succ_cons, Nat.add_comm (runD r) 1] at this
                exact this
              have hmid := run_mid q1 m1 d1 1 (1 + runD r) 1 (1 + (runD r : Int)) rfl (by omega) (by omega) (by have := HRr.out.cap; omega)
              have hfr2 := run_from q1 m1 d1 (1 + runD r) (1 + (runD r : Int)) (by omega) (by omega)
              have hsm := HRr.out.small
              rw [show 1 + runD r - 1 = runD r by omega] at hmid HF1
              clear HQ hpt
              generalize runD r = u2 at *
              go_wp2_with fail
              refine (HC.out).mono ?_
              rintro e w' ⟨rfl, rfl⟩
              clear HC
              go_wp2
              go_quiet (fail)
              cases hz : ((u2 : Int) == 0)
              · go_wp2
                go_meet
                refine ⟨_, _, _, _, _, _, _, _, t + nq, rfl, rfl, by simp, HF2.out, HF1.out, ?_⟩
                rw [HQ2.out, if_neg (by simp at hz; omega)]
              · have HQ3 : Hid (pn bs = failN ng) := by
                  show _ = _
                  rw [HQ2.out, if_pos (by simp at hz; omega)]
                have e := HW.out
                subst e
                clear HI HRr HF HF1 HF2
                go_wp2
                exact ret_fail w ng _ bs _ rfl rfl HQ3.out
        case rest =>
          obtain ⟨q2, m2, d2, r2, q3, m3, d3, fr, t2, rfl, rfl, rfl, HH⟩ := hcut
          have HV2 := hide HH.out.1
          have HV3 := hide HH.out.2.1
          have HQ2 := hide HH.out.2.2
          clear HH HQ HRr
          go_upto_region 13 with fail
          go_cut [68] (fun s68 wx => s68 = .bool (isHd 101 r2 || isHd 69 r2) ∧ wx = W2.drewN t2)
          case first =>
            cases r2 with
            | nil =>
              have h0 : m2 = 0 := (HV2.out.len).symm
              subst h0
              go_wp2
              go_meet
              exact ⟨rfl, rfl⟩
            | cons x0 r =>
              have h0 : (0 : Int) < (m2 : Int) := by have := HV2.out.len; simp at this; omega
              obtain ⟨b, o, rfl, hc⟩ := HV2.out.head
              have HE : Hid (isHd 101 (x0 :: r) = ((x0.toNat : Int) == 101)) := isHd_cons 101 x0 r
              have HE2 : Hid (isHd 69 (x0 :: r) = ((x0.toNat : Int) == 69)) := isHd_cons 69 x0 r
              generalize x0.toNat = x at *
              cases h1 : ((x : Int) == 101)
              all_goals cases h2 : ((x : Int) == 69)
              all_goals go_wp2
              all_goals go_meet
              all_goals exact ⟨by rw [HE.out, HE2.out, h1, h2]; rfl, rfl⟩
          case rest =>
            obtain ⟨rfl, rfl⟩ := hcut
            go_upto_if 68 with fail
            go_cut [0, 8] (fun s0 s8 wx => ∃ (q4 : Option Addr) (m4 d4 : Nat) (wr : Int) (t : Nat), s0 = .slice q4 m4 d4 ∧ s8 = .int .i64 wr ∧ wx = W2.drewN t ∧ -1000000000000000 ≤ wr ∧ wr ≤ 1000000000000000 ∧ Hid (pn bs = if int.length = 0 ∨ 0 < m4 then failN ng else finish ng int fr wr))
            case first =>
              cases hpt : (isHd 101 r2 || isHd 69 r2)
              · go_wp2
                go_meet
                refine ⟨_, _, _, 0, t2, rfl, rfl, rfl, by omega, by omega, ?_⟩
                show _ = _
                rw [HQ2.out]
                cases r2 with
                | nil =>
                  have h0 : m2 = 0 := (HV2.out.len).symm
                  rw [afterFrac, withInt, h0]
                  simp
                | cons x0 r =>
                  have h0 : 0 < m2 := by have := HV2.out.len; simp at this; omega
                  rw [isHd, isHd] at hpt
                  rw [afterFrac, if_neg (by rw [hpt]; simp), if_pos (.inr h0)]
              · cases r2 with
                | nil => cases hpt
                | cons x0 r =>
                  rw [isHd, isHd] at hpt
                  have h1 : 1 ≤ m2 := by have := HV2.out.len; simp at this; omega
                  have HF : Hid (V W2 w.heap.size (cutP q2 d2 1) (m2 - 1) (d2 - 1) r) := HV2.out.from 1 h1
                  have hf := run_from q2 m2 d2 1 1 rfl h1
                  have HQ3 : Hid (pn bs = (match pe r with | none => failN ng | some w => withInt ng int fr w)) := by
                    show _ = _
                    rw [HQ2.out, afterFrac, if_pos hpt]
                    cases pe r <;> rfl
                  have HC := hide (parseExp_calls (cutP q2 d2 1) (m2 - 1) (d2 - 1) r (W2.drewN t2) HF.out.len HF.out.small HF.out.cap HF.out.at_)
                  have HPE := hide (pe_le r)
                  clear HQ2 hpt
                  cases hpe : pe r with
                  | none =>
                    rw [hpe] at HC HQ3
                    clear hpe
                    go_wp2_with fail
                    refine (HC.out).mono ?_
                    rintro e w' ⟨rfl, k, rfl⟩
                    have e := HW.out
                    subst e
                    clear HI HV2 HF HV3
                    go_wp2
                    exact ret_fail w ng _ bs _ rfl rfl HQ3.out
                  | some wr =>
                    have hb := HPE.out wr hpe
                    rw [hpe] at HC HQ3
                    clear hpe
                    go_wp2_with fail
                    refine (HC.out).mono ?_
                    rintro e w' ⟨rfl, k, rfl⟩
                    go_wp2
                    go_meet
                    refine ⟨_, _, _, wr, t2 + k, rfl, rfl, by simp, hb.1, hb.2, ?_⟩
                    show _ = _
                    rw [HQ3.out]
                    simp [withInt]
            case rest =>
              obtain ⟨q4, m4, d4, wr, t4, rfl, rfl, rfl, hw1, hw2, HQ4⟩ := hcut
              rw [HI.out.len] at HQ4
              clear HQ2 HV2
              rcases Nat.eq_zero_or_pos u with hu | hu
              · have hu0 : ((u : Int) == 0) = true := by simp; omega
                have HQ5 : Hid (pn bs = failN ng) := by
                  show _ = _
                  rw [HQ4.out, if_pos (.inl hu)]
                have e := HW.out
                subst e
                clear HI HV3 HQ4
                go_wp2
                exact ret_fail w ng _ bs _ rfl rfl HQ5.out
              have hu0 : ((u : Int) == 0) = false := by simp; omega
              rcases Nat.eq_zero_or_pos m4 with hm4 | hm4
              · subst hm4
                have HQ5 : Hid (pn bs = finish ng int fr wr) := by
                  show _ = _
                  rw [HQ4.out, if_neg (by omega)]
                clear HQ4
                have HC1 := hide (trimL_calls W2 t4 w.heap.size q u d int HI.out)
                go_wp2_with fail
                refine (HC1.out).mono ?_
                rintro e w' ⟨q5, m5, d5, rfl, hv5, rfl⟩
                have HV5 := hide hv5
                have HC2 := hide (trimR_calls W2 t4 w.heap.size q3 m3 d3 fr HV3.out)
                clear hv5 HC1 HI
                go_wp2_with fail
                refine (HC2.out).mono ?_
                rintro e w' ⟨q6, m6, d6, rfl, hv6, rfl⟩
                have HV6 := hide hv6
                clear hv6 HC2 HV3
                have hs5 := HV5.out.small
                have hs6 := HV6.out.small
                have HL5 := hide HV5.out.len
                have HL6 := hide HV6.out.len
                rcases Nat.eq_zero_or_pos m5 with h5 | h5
                · have HC3 := hide (trimL_calls W2 t4 w.heap.size q6 m6 d6 (trimR fr) HV6.out)
                  go_wp2_with fail
                  refine (HC3.out).mono ?_
                  rintro e w' ⟨q7, m7, d7, rfl, hv7, rfl⟩
                  have HV7 := hide hv7
                  have hs7 := hv7.small
                  clear hv7 HC3
                  have e := HW.out
                  subst e
                  rcases Nat.eq_zero_or_pos m7 with h7 | h7
                  · have h70 : ((m7 : Int) == 0) = true := by simp; omega
                    have HQ6 : Hid (pn bs = ⟨false, [], [], 0, true⟩) := by
                      show _ = _
                      rw [HQ5.out, finish, if_neg (by rw [HL5.out]; omega), if_pos (by rw [HV7.out.len]; omega)]
                    go_wp2
                    exact ret_zero w ng _ bs _ rfl rfl HQ6.out
                  · have h70 : ((m7 : Int) == 0) = false := by simp; omega
                    have HQ6 : Hid (pn bs = ⟨ng, trimL (trimR fr), [], wr - ((m6 : Int) - (m7 : Int)), true⟩) := by
                      show _ = _
                      rw [HQ5.out, finish, if_neg (by rw [HL5.out]; omega), if_neg (by rw [HV7.out.len]; omega), HL6.out, HV7.out.len]
                    go_wp2
                    exact ret_sig w ng _ bs _ _ _ _ _ HV7.out _ rfl rfl HQ6.out
                · have HQ6 : Hid (pn bs = ⟨ng, trimL int, trimR fr, wr + (m5 : Int), true⟩) := by
                    show _ = _
                    rw [HQ5.out, finish, if_pos (by rw [HL5.out]; omega), HL5.out]
                  have e := HW.out
                  subst e
                  have h51 : (0 : Int) < (m5 : Int) := by omega
                  go_wp2
                  exact ret_int w ng _ bs _ _ _ _ _ _ _ _ _ HV5.out HV6.out _ rfl rfl HQ6.out
              · have hm40 : (0 : Int) < (m4 : Int) := by omega
                have HQ5 : Hid (pn bs = failN ng) := by
                  show _ = _
                  rw [HQ4.out, if_pos (.inr hm4)]
                have e := HW.out
                subst e
                clear HI HV3 HQ4
                go_wp2
                exact ret_fail w ng _ bs _ rfl rfl HQ5.out

end Go.Proofs.Qxb6602005aDoor
