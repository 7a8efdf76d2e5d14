import Derived.Test.Qxb6602005aDoorZZ
import Derived.Test.Qxb6602005aDoorModel
namespace Go.Proofs.Qxb6602005aDoor
open Go.RowKit
set_option linter.unusedSimpArgs false
set_option maxRecDepth 100000

set_option maxHeartbeats 400000 in
theorem isDigit_calls (x : UInt8) (w : World) : Calls Tryd.prog 28 #[.int .u8 (x.toNat : Int)] w fun e w' => e = .returned (.bool (dig x)) ∧ w' = w := by
  have HD := hide (dig_iff x)
  generalize dig x = b at *
  generalize x.toNat = y at *
  go_enter Tryd.func28, Tryd.ntmps28
  go_wp2
  all_goals go_ret
  all_goals refine ⟨congrArg (fun x => Ending.returned (.bool x)) ?_, rfl⟩
  all_goals rw [Bool.eq_iff_iff, HD.out]
  all_goals simp
  all_goals omega

abbrev Zm (ng : Bool) : Obj := .cells #[.bool false, .bool ng, .slice none 0 0, .slice none 0 0, .int .i64 0] 28

def Post11 (bs : List UInt8) (w : World) (e : Ending) (w' : World) : Prop :=
  ∃ v0 v1, e = .returned (.agg #[.bool (rm bs).ok, .bool (rm bs).neg, v0, v1, .int .i64 (rm bs).wr]) ∧ SL w' v0 (rm bs).ip ∧ SL w' v1 (rm bs).fp ∧ Below w.heap.size w w'

theorem sub48 (y : UInt8) : (((y - 48).toNat : Nat) : Int) = ((y.toNat : Int) - 48) % 256 := by
  have h := y.toNat_lt
  rw [UInt8.toNat_sub]
  have : (48 : UInt8).toNat = 48 := rfl
  rw [this]
  omega

theorem results11 (tmps : Array Value) (N : Nat) (v0 v1 v2 v3 v4 : Value) (W : World) (h2 : tmps.getD 2 undef = .pointer (some ⟨N, 0, none⟩))
    (c0 : W.cell? ⟨N, 0, none⟩ = some v0) (c1 : W.cell? ⟨N, 1, none⟩ = some v1) (c2 : W.cell? ⟨N, 2, none⟩ = some v2) (c3 : W.cell? ⟨N, 3, none⟩ = some v3) (c4 : W.cell? ⟨N, 4, none⟩ = some v4) :
    (results Tryd.f11 tmps).run Tryd.prog W = .ok (.agg #[v0, v1, v2, v3, v4]) W := by
  have h : Tryd.f11.results = #[.cell 2 28] := by rfl
  have h2' : tmps[2]?.getD undef = .pointer (some ⟨N, 0, none⟩) := by simpa using h2
  simp only [results, h]
  simp [Sem.run_bind, Result.andThen, go_sem, h2', c0, c1, c2, c3, c4]

theorem below_two11 (w : World) (o : Obj) (ng : Bool) : Below w.heap.size w ((w.alloc o).alloc (Zm ng)) := ((Below.refl _ w).alloc (Nat.le_refl _) _).alloc (by simp) _

theorem ret11_fail (w : World) (ng : Bool) (bs : List UInt8) (tmps : Array Value) (h2 : tmps.getD 2 undef = .pointer (some ⟨w.heap.size, 0, none⟩)) (hQ : rm bs = failM) :
    bodyPost Tryd.prog Tryd.f11 (fun e w' => Post11 bs w e w') Exit.ret { tmps := tmps, defers := [] } ((w.alloc (Zm false)).alloc (Zm ng)) := by
  have hB := below_two11 w (Zm false) ng
  refine bodyPost_ret (results11 tmps w.heap.size (.bool false) (.bool false) (.slice none 0 0) (.slice none 0 0) (.int .i64 0) _ h2 (by go_simp) (by go_simp) (by go_simp) (by go_simp) (by go_simp)) rfl ?_
  refine ⟨.slice none 0 0, .slice none 0 0, by rw [hQ]; rfl, ?_, ?_, hB⟩
  · rw [hQ]; exact (V.nil w w.heap.size).sl hB hB.size
  · rw [hQ]; exact (V.nil w w.heap.size).sl hB hB.size

theorem ret11_ok (w : World) (bs ds fs : List UInt8) (q q2 : Option Addr) (m d m2 d2 : Nat) (ng : Bool) (wr : Int) (o2 : Obj) (hV : V w w.heap.size q m d ds) (hV2 : V w w.heap.size q2 m2 d2 fs)
    (tmps : Array Value) (h2 : tmps.getD 2 undef = .pointer (some ⟨w.heap.size, 0, none⟩)) (hQ : rm bs = ⟨true, ng, ds, fs, wr⟩) :
    bodyPost Tryd.prog Tryd.f11 (fun e w' => Post11 bs w e w') Exit.ret { tmps := tmps, defers := [] }
      ((w.alloc (.cells #[.bool true, .bool ng, .slice q m d, .slice q2 m2 d2, .int .i64 wr] 28)).alloc o2) := by
  have hB : Below w.heap.size w ((w.alloc (.cells #[.bool true, .bool ng, .slice q m d, .slice q2 m2 d2, .int .i64 wr] 28)).alloc o2) := ((Below.refl _ w).alloc (Nat.le_refl _) _).alloc (by simp) _
  refine bodyPost_ret (results11 tmps w.heap.size (.bool true) (.bool ng) (.slice q m d) (.slice q2 m2 d2) (.int .i64 wr) _ h2 (by go_simp) (by go_simp) (by go_simp) (by go_simp) (by go_simp)) rfl ?_
  refine ⟨.slice q m d, .slice q2 m2 d2, by rw [hQ], ?_, ?_, hB⟩
  · rw [hQ]; exact hV.sl hB hB.size
  · rw [hQ]; exact hV2.sl hB hB.size

set_option maxHeartbeats 4000000 in
theorem read_calls (p : Option Addr) (n c : Nat) (bs : List UInt8) (w : World) (hV : V w w.heap.size p n c bs) :
    Calls Tryd.prog 11 #[.slice p n c] w fun e w' => Post11 bs w e w' := by
  have HV := hide hV
  have hn := hV.small
  have Hb := hide hV.len
  clear hV
  go_enter Tryd.func11, Tryd.ntmps11
  go_wp2
  go_loopw [4, 5, 6, 7, 8, 9, 10, 11] (fun v4 v5 v6 v7 v8 v9 v10 v11 wr => ∃ (k st is ie fs fe es : Nat) (en ng : Bool), v4 = .int .i64 st ∧ v5 = .int .i64 is ∧ v6 = .int .i64 ie ∧ v7 = .int .i64 fs ∧ v8 = .int .i64 fe ∧ v9 = .int .i64 es ∧ v10 = .bool en ∧ v11 = .int .i64 k ∧
      wr = (w.alloc (Zm false)).alloc (Zm ng) ∧ k ≤ n ∧ Hid (runM k (bs.drop k) ⟨st, is, ie, fs, fe, es, en, ng⟩ = runM 0 bs S0) ∧ Hid (Inv k ⟨st, is, ie, fs, fe, es, en, ng⟩))
    (fun _ _ _ _ _ _ _ v11 _ => n - (intOf v11).toNat)
  case atStart => exact ⟨0, 0, 0, 0, 0, 0, 0, false, false, rfl, rfl, rfl, rfl, rfl, rfl, rfl, rfl, rfl, by omega, rfl, by constructor <;> simp⟩
  case round =>
    obtain ⟨k, st, is, ie, fs, fe, es, en, ng, rfl, rfl, rfl, rfl, rfl, rfl, rfl, rfl, rfl, hk, HR, HI⟩ := hrel
    have hB : Below w.heap.size w ((w.alloc (Zm false)).alloc (Zm ng)) := ((Below.refl _ w).alloc (Nat.le_refl _) _).alloc (by simp) _
    rcases Nat.lt_or_ge k n with hlt | hge
    · obtain ⟨b, o, rfl, hcell⟩ := at_byte (HV.out.below hB).at_ Hb.out hlt
      have HB := hide hB
      clear hB
      have hst := (HI.out).st
      simp only at hst
      have HSn := hide (fun S => runM_none bs k S (by rw [Hb.out]; exact hlt))
      have HSs := hide (fun S S' => runM_some bs k S S' (by rw [Hb.out]; exact hlt))
      have HC := hide (fun W => isDigit_calls (bs[k]'(by rw [Hb.out]; exact hlt)) W)
      generalize (bs[k]'(by rw [Hb.out]; exact hlt)) = x0 at *
      have e45 : Hid ((x0 == 45) = ((x0.toNat : Int) == 45)) := byte_eqB x0 45 (by omega)
      have e46 : Hid ((x0 == 46) = ((x0.toNat : Int) == 46)) := byte_eqB x0 46 (by omega)
      have e43 : Hid ((x0 == 43) = ((x0.toNat : Int) == 43)) := byte_eqB x0 43 (by omega)
      have HEE : Hid (isE x0 = (((x0.toNat : Int) == 101) || ((x0.toNat : Int) == 69))) := by
        have h1 : (x0 == 101) = ((x0.toNat : Int) == 101) := byte_eqB x0 101 (by omega)
        have h2 : (x0 == 69) = ((x0.toNat : Int) == 69) := byte_eqB x0 69 (by omega)
        show (x0 == 101 || x0 == 69) = _
        rw [h1, h2]
      generalize x0.toNat = x at *
      generalize hd : dig x0 = dg at *
      have Hd := hide hd
      clear hd
      generalize he : isE x0 = ee at *
      have He := hide he
      clear he
      go_upto_region 14 with (go_at_call 28; refine (HC.out _).mono ?_; rintro e w' ⟨rfl, rfl⟩)
      go_cut [14] (fun s14 wx => s14 = .bool ee ∧ wx = (w.alloc (Zm false)).alloc (Zm ng))
      case first =>
        cases h101 : ((x : Int) == 101)
        all_goals cases h69 : ((x : Int) == 69)
        all_goals go_wp2
        all_goals go_meet
        all_goals exact ⟨by rw [HEE.out, h101, h69]; rfl, rfl⟩
      case rest =>
        obtain ⟨rfl, rfl⟩ := hcut
        clear HEE HC
        have NX : Hid (∀ S', step k x0 ⟨st, is, ie, fs, fe, es, en, ng⟩ = some S' → Hid (runM (k + 1) (bs.drop (k + 1)) S' = runM 0 bs S0) ∧ Hid (Inv (k + 1) S')) := fun S' hs => ⟨((HSs.out _ _ hs).symm).trans HR.out, step_inv HI.out hs⟩
        have NF : Hid (step k x0 ⟨st, is, ie, fs, fe, es, en, ng⟩ = none → rm bs = failM) := fun hs => by
          show rmOf bs (runM 0 bs S0) = _
          rw [← HR.out, HSn.out _ hs]
          rfl
        clear HSn HSs HR HI HV HB
        obtain rfl | rfl | rfl | rfl | rfl | rfl | rfl | rfl : st = 0 ∨ st = 1 ∨ st = 2 ∨ st = 3 ∨ st = 4 ∨ st = 5 ∨ st = 6 ∨ st = 7 := by omega
        · go_wp2
          · have hc45t : ((x : Int) == 45) = true := ‹_›
            have N := NX.out ⟨1, is, ie, fs, fe, es, en, true⟩ (by simp [step, e45.out, e46.out, e43.out, Hd.out, He.out, hc45t])
            go_roundw
            case rel => exact ⟨k + 1, 1, is, ie, fs, fe, es, en, true, by go_num, by go_num, by go_num, by go_num, by go_num, by go_num, rfl, by go_num, rfl, by omega, N.1, N.2⟩
            case measure => simp [intOf]; omega
          · have hc45f : ((x : Int) == 45) = false := ‹_›
            have hdgt : dg = true := ‹_›
            have N := NX.out ⟨2, k, ie, fs, fe, es, en, ng⟩ (by simp [step, e45.out, e46.out, e43.out, Hd.out, He.out, hc45f, hdgt])
            go_roundw
            case rel => exact ⟨k + 1, 2, k, ie, fs, fe, es, en, ng, by go_num, by go_num, by go_num, by go_num, by go_num, by go_num, rfl, by go_num, rfl, by omega, N.1, N.2⟩
            case measure => simp [intOf]; omega
          · have hc45f : ((x : Int) == 45) = false := ‹_›
            have hdgf : dg = false := ‹_›
            have N := NF.out (by simp [step, e45.out, e46.out, e43.out, Hd.out, He.out, hc45f, hdgf])
            exact ret11_fail w ng bs _ rfl N
        · go_wp2
          · have hdgt : dg = true := ‹_›
            have N := NX.out ⟨2, k, ie, fs, fe, es, en, ng⟩ (by simp [step, e45.out, e46.out, e43.out, Hd.out, He.out, hdgt])
            go_roundw
            case rel => exact ⟨k + 1, 2, k, ie, fs, fe, es, en, ng, by go_num, by go_num, by go_num, by go_num, by go_num, by go_num, rfl, by go_num, rfl, by omega, N.1, N.2⟩
            case measure => simp [intOf]; omega
          · have hdgf : dg = false := ‹_›
            have N := NF.out (by simp [step, e45.out, e46.out, e43.out, Hd.out, He.out, hdgf])
            exact ret11_fail w ng bs _ rfl N
        · go_wp2
          · have hc46t : ((x : Int) == 46) = true := ‹_›
            have N := NX.out ⟨3, is, k, fs, fe, es, en, ng⟩ (by simp [step, e45.out, e46.out, e43.out, Hd.out, He.out, hc46t])
            go_roundw
            case rel => exact ⟨k + 1, 3, is, k, fs, fe, es, en, ng, by go_num, by go_num, by go_num, by go_num, by go_num, by go_num, rfl, by go_num, rfl, by omega, N.1, N.2⟩
            case measure => simp [intOf]; omega
          · have hc46f : ((x : Int) == 46) = false := ‹_›
            have heet : ee = true := ‹_›
            have N := NX.out ⟨5, is, k, fs, fe, es, en, ng⟩ (by simp [step, e45.out, e46.out, e43.out, Hd.out, He.out, hc46f, heet])
            go_roundw
            case rel => exact ⟨k + 1, 5, is, k, fs, fe, es, en, ng, by go_num, by go_num, by go_num, by go_num, by go_num, by go_num, rfl, by go_num, rfl, by omega, N.1, N.2⟩
            case measure => simp [intOf]; omega
          · have hc46f : ((x : Int) == 46) = false := ‹_›
            have heef : ee = false := ‹_›
            have hndgt : dg = false := by simpa using (show (!dg) = true from ‹_›)
            have N := NF.out (by simp [step, e45.out, e46.out, e43.out, Hd.out, He.out, hc46f, heef, hndgt])
            exact ret11_fail w ng bs _ rfl N
          · have hc46f : ((x : Int) == 46) = false := ‹_›
            have heef : ee = false := ‹_›
            have hndgf : dg = true := by simpa using (show (!dg) = false from ‹_›)
            have N := NX.out ⟨2, is, ie, fs, fe, es, en, ng⟩ (by simp [step, e45.out, e46.out, e43.out, Hd.out, He.out, hc46f, heef, hndgf])
            go_roundw
            case rel => exact ⟨k + 1, 2, is, ie, fs, fe, es, en, ng, by go_num, by go_num, by go_num, by go_num, by go_num, by go_num, rfl, by go_num, rfl, by omega, N.1, N.2⟩
            case measure => simp [intOf]; omega
        · go_wp2
          · have hdgt : dg = true := ‹_›
            have N := NX.out ⟨4, is, ie, k, fe, es, en, ng⟩ (by simp [step, e45.out, e46.out, e43.out, Hd.out, He.out, hdgt])
            go_roundw
            case rel => exact ⟨k + 1, 4, is, ie, k, fe, es, en, ng, by go_num, by go_num, by go_num, by go_num, by go_num, by go_num, rfl, by go_num, rfl, by omega, N.1, N.2⟩
            case measure => simp [intOf]; omega
          · have hdgf : dg = false := ‹_›
            have N := NF.out (by simp [step, e45.out, e46.out, e43.out, Hd.out, He.out, hdgf])
            exact ret11_fail w ng bs _ rfl N
        · go_wp2
          · have heet : ee = true := ‹_›
            have N := NX.out ⟨5, is, ie, fs, k, es, en, ng⟩ (by simp [step, e45.out, e46.out, e43.out, Hd.out, He.out, heet])
            go_roundw
            case rel => exact ⟨k + 1, 5, is, ie, fs, k, es, en, ng, by go_num, by go_num, by go_num, by go_num, by go_num, by go_num, rfl, by go_num, rfl, by omega, N.1, N.2⟩
            case measure => simp [intOf]; omega
          · have heef : ee = false := ‹_›
            have hndgt : dg = false := by simpa using (show (!dg) = true from ‹_›)
            have N := NF.out (by simp [step, e45.out, e46.out, e43.out, Hd.out, He.out, heef, hndgt])
            exact ret11_fail w ng bs _ rfl N
          · have heef : ee = false := ‹_›
            have hndgf : dg = true := by simpa using (show (!dg) = false from ‹_›)
            have N := NX.out ⟨4, is, ie, fs, fe, es, en, ng⟩ (by simp [step, e45.out, e46.out, e43.out, Hd.out, He.out, heef, hndgf])
            go_roundw
            case rel => exact ⟨k + 1, 4, is, ie, fs, fe, es, en, ng, by go_num, by go_num, by go_num, by go_num, by go_num, by go_num, rfl, by go_num, rfl, by omega, N.1, N.2⟩
            case measure => simp [intOf]; omega
        · go_wp2
          · have hc43t : ((x : Int) == 43) = true := ‹_›
            have N := NX.out ⟨6, is, ie, fs, fe, es, en, ng⟩ (by simp [step, e45.out, e46.out, e43.out, Hd.out, He.out, hc43t])
            go_roundw
            case rel => exact ⟨k + 1, 6, is, ie, fs, fe, es, en, ng, by go_num, by go_num, by go_num, by go_num, by go_num, by go_num, rfl, by go_num, rfl, by omega, N.1, N.2⟩
            case measure => simp [intOf]; omega
          · have hc43f : ((x : Int) == 43) = false := ‹_›
            have hc45t : ((x : Int) == 45) = true := ‹_›
            have N := NX.out ⟨6, is, ie, fs, fe, es, true, ng⟩ (by simp [step, e45.out, e46.out, e43.out, Hd.out, He.out, hc43f, hc45t])
            go_roundw
            case rel => exact ⟨k + 1, 6, is, ie, fs, fe, es, true, ng, by go_num, by go_num, by go_num, by go_num, by go_num, by go_num, rfl, by go_num, rfl, by omega, N.1, N.2⟩
            case measure => simp [intOf]; omega
          · have hc43f : ((x : Int) == 43) = false := ‹_›
            have hc45f : ((x : Int) == 45) = false := ‹_›
            have hdgt : dg = true := ‹_›
            have N := NX.out ⟨7, is, ie, fs, fe, k, en, ng⟩ (by simp [step, e45.out, e46.out, e43.out, Hd.out, He.out, hc43f, hc45f, hdgt])
            go_roundw
            case rel => exact ⟨k + 1, 7, is, ie, fs, fe, k, en, ng, by go_num, by go_num, by go_num, by go_num, by go_num, by go_num, rfl, by go_num, rfl, by omega, N.1, N.2⟩
            case measure => simp [intOf]; omega
          · have hc43f : ((x : Int) == 43) = false := ‹_›
            have hc45f : ((x : Int) == 45) = false := ‹_›
            have hdgf : dg = false := ‹_›
            have N := NF.out (by simp [step, e45.out, e46.out, e43.out, Hd.out, He.out, hc43f, hc45f, hdgf])
            exact ret11_fail w ng bs _ rfl N
        · go_wp2
          · have hdgt : dg = true := ‹_›
            have N := NX.out ⟨7, is, ie, fs, fe, k, en, ng⟩ (by simp [step, e45.out, e46.out, e43.out, Hd.out, He.out, hdgt])
            go_roundw
            case rel => exact ⟨k + 1, 7, is, ie, fs, fe, k, en, ng, by go_num, by go_num, by go_num, by go_num, by go_num, by go_num, rfl, by go_num, rfl, by omega, N.1, N.2⟩
            case measure => simp [intOf]; omega
          · have hdgf : dg = false := ‹_›
            have N := NF.out (by simp [step, e45.out, e46.out, e43.out, Hd.out, He.out, hdgf])
            exact ret11_fail w ng bs _ rfl N
        · go_wp2
          · have hndgt : dg = false := by simpa using (show (!dg) = true from ‹_›)
            have N := NF.out (by simp [step, e45.out, e46.out, e43.out, Hd.out, He.out, hndgt])
            exact ret11_fail w ng bs _ rfl N
          · have hndgf : dg = true := by simpa using (show (!dg) = false from ‹_›)
            have N := NX.out ⟨7, is, ie, fs, fe, es, en, ng⟩ (by simp [step, e45.out, e46.out, e43.out, Hd.out, He.out, hndgf])
            go_roundw
            case rel => exact ⟨k + 1, 7, is, ie, fs, fe, es, en, ng, by go_num, by go_num, by go_num, by go_num, by go_num, by go_num, rfl, by go_num, rfl, by omega, N.1, N.2⟩
            case measure => simp [intOf]; omega
    · have e : n = k := by omega
      subst e
      have HQ : Hid (rm bs = rmEnd bs ⟨st, is, ie, fs, fe, es, en, ng⟩) := by
        show rmOf bs (runM 0 bs S0) = _
        rw [← HR.out, List.drop_eq_nil_of_le (by rw [Hb.out]; omega)]
        rfl
      obtain ⟨i1, i2, i3, i4, i5, i6, i7, i8⟩ := HI.out
      simp only at i1 i2 i3 i4 i5 i6 i7 i8
      have hcp := HV.out.cap
      clear HR HI hB
      obtain rfl | rfl | rfl | rfl | rfl | rfl | rfl | rfl : st = 0 ∨ st = 1 ∨ st = 2 ∨ st = 3 ∨ st = 4 ∨ st = 5 ∨ st = 6 ∨ st = 7 := by omega
      · go_wp2
        exact ret11_fail w ng bs _ rfl HQ.out
      · go_wp2
        exact ret11_fail w ng bs _ rfl HQ.out
      · have hr1 := run_mid p n c is n _ _ rfl rfl i2 hcp
        have hr2 := run_mid p n c fs fe _ _ rfl rfl (i8 (by omega)) (by omega)
        go_wp2
        exact ret11_ok w bs _ _ _ _ _ _ _ _ ng 0 _ (HV.out.cut is n i2 (Nat.le_refl _)) (HV.out.cut fs fe (i8 (by omega)) i5) _ rfl (by rw [HQ.out]; simp [rmEnd, cutL, Hb.out])
      · go_wp2
        exact ret11_fail w ng bs _ rfl HQ.out
      · have hr1 := run_mid p n c is ie _ _ rfl rfl (i7 (by omega)) (by omega)
        have hr2 := run_mid p n c fs n _ _ rfl rfl i4 hcp
        go_wp2
        exact ret11_ok w bs _ _ _ _ _ _ _ _ ng 0 _ (HV.out.cut is ie (i7 (by omega)) i3) (HV.out.cut fs n i4 (Nat.le_refl _)) _ rfl (by rw [HQ.out]; simp [rmEnd, cutL, Hb.out])
      · go_wp2
        exact ret11_fail w ng bs _ rfl HQ.out
      · go_wp2
        exact ret11_fail w ng bs _ rfl HQ.out
      · have hr1 := run_mid p n c is ie _ _ rfl rfl (i7 (by omega)) (by omega)
        have hr2 := run_mid p n c fs fe _ _ rfl rfl (i8 (by omega)) (by omega)
        have hr3 := run_from p n c es _ rfl i6
        have HVe := hide ((HV.out.below (below_two11 w (Zm false) ng)).from es i6)
        have HC := hide (leadZ_calls _ _ (c - es) _ ((w.alloc (Zm false)).alloc (Zm ng)) HVe.out.len (by omega) HVe.out.at_)
        have HQ2 : Hid (rm bs = (match modelExp (bs.drop es) with
            | none => failM
            | some v => ⟨true, ng, cutL bs is ie, cutL bs fs fe, if en then -(v : Int) else (v : Int)⟩)) := HQ.out
        have hz := lz_le (bs.drop es)
        rw [HVe.out.len] at hz
        clear HQ
        unfold modelExp at HQ2
        rw [HVe.out.len] at HQ2
        have HV1 := hide (HV.out.cut is ie (i7 (by omega)) i3)
        have HV2 := hide (HV.out.cut fs fe (i8 (by omega)) i5)
        have HL := hide HVe.out.len
        clear hcp
        have hL : n - es ≤ 1073741824 := by omega
        generalize bs.drop es = ex at *
        generalize lz ex = z at *
        generalize cutP p c es = q at *
        generalize n - es = L at *
        generalize c - es = d at *
        go_wp2_with fail
        refine (HC.out).mono ?_
        rintro e w' ⟨rfl, rfl⟩
        clear HC hr3
        rcases Nat.lt_or_ge 16 (L - z) with h16 | h16
        · have h16' : (16 : Int) < (L : Int) - (z : Int) := by omega
          rw [if_pos h16] at HQ2
          go_wp2
          exact ret11_fail w ng bs _ rfl HQ2.out
        · have h16' : ¬ (16 : Int) < (L : Int) - (z : Int) := by omega
          rw [if_neg (by omega)] at HQ2
          go_wp2_with fail
          go_loop [17, 18] (fun v17 v18 => ∃ (j v : Nat), v17 = .int .i64 v ∧ v18 = .int .i64 j ∧ z ≤ j ∧ j ≤ L ∧ Hid (valD v (ex.drop j) = valD 0 (ex.drop z)) ∧ Hid (v + 29 ≤ 29 * 10 ^ (j - z))) (fun _ v18 => L - (intOf v18).toNat)
          case atStart => exact ⟨z, 0, rfl, rfl, Nat.le_refl _, hz, rfl, by show _ ≤ _; simp⟩
          case round =>
            obtain ⟨j, v, rfl, rfl, hj1, hj2, HD, HP⟩ := hrel
            rcases Nat.lt_or_ge j L with hjl | hjl
            · obtain ⟨b2, o2, rfl, hc2⟩ := at_byte HVe.out.at_ HVe.out.len hjl
              have HT := hide (valD_at ex j v (by rw [HL.out]; exact hjl))
              generalize (ex[j]'(by rw [HL.out]; exact hjl)) = y0 at *
              have hy := y0.toNat_lt
              have hv : v ≤ 29 * 10 ^ 15 := by
                have h1 := HP.out
                have h2 : 10 ^ (j - z) ≤ 10 ^ 15 := Nat.pow_le_pow_right (by omega) (by omega)
                omega
              have hs := sub48 y0
              have HS2 : Hid ((v : Int) * 10 + ((y0.toNat : Int) - 48) % 256 = ((v * 10 + (y0 - 48).toNat : Nat) : Int)) := by
                show _ = _
                omega
              have HP2 : Hid (v * 10 + (y0 - 48).toNat + 29 ≤ 29 * 10 ^ (j + 1 - z)) := by
                show _ ≤ _
                have h1 := HP.out
                have h2 : 10 ^ (j + 1 - z) = 10 ^ (j - z) * 10 := by rw [show j + 1 - z = (j - z) + 1 by omega, Nat.pow_succ]
                have h3 := (y0 - 48).toNat_lt
                omega
              clear hs
              go_wp2
              go_round
              case rel => exact ⟨j + 1, v * 10 + (y0 - 48).toNat, by rw [HS2.out], by go_num, by omega, by omega, ((HT.out).symm).trans HD.out, HP2⟩
              case measure => simp [intOf]; omega
            · have hjL : L = j := by omega
              subst hjL
              have HD2 : Hid (v = valD 0 (ex.drop z)) := by
                have := HD.out
                rw [List.drop_eq_nil_of_le (by rw [HL.out]; omega)] at this
                exact this
              have hv : v ≤ 29 * 10 ^ 16 := by
                have h1 := HP.out
                have h2 : 10 ^ (L - z) ≤ 10 ^ 16 := Nat.pow_le_pow_right (by omega) (by omega)
                omega
              rw [← HD2.out] at HQ2
              clear HD2 HD HP
              rcases Nat.lt_or_ge 1000000000000000 v with hv15 | hv15
              · have hv15' : (1000000000000000 : Int) < (v : Int) := by omega
                rw [if_pos hv15] at HQ2
                go_wp2
                exact ret11_fail w ng bs _ rfl HQ2.out
              · have hv15' : ¬ (1000000000000000 : Int) < (v : Int) := by omega
                rw [if_neg (by omega)] at HQ2
                cases en
                · go_wp2
                  exact ret11_ok w bs _ _ _ _ _ _ _ _ ng _ _ HV1.out HV2.out _ rfl HQ2.out
                · go_wp2
                  exact ret11_ok w bs _ _ _ _ _ _ _ _ ng _ _ HV1.out HV2.out _ rfl HQ2.out

end Go.Proofs.Qxb6602005aDoor
