import Derived.Test.Qxb6602005aDoorSlice
namespace Go.Proofs.Qxb6602005aDoor
open Go.RowKit
set_option linter.unusedSimpArgs false

set_option maxHeartbeats 1000000 in
theorem parseExp_calls (p : Option Addr) (n c : Nat) (bs : List UInt8) (w : World) (hb : bs.length = n) (hn : n ≤ 1073741824) (hnc : n ≤ c) (h : Lib.BytesAt w p n bs) :
    Calls Tryd.prog 31 #[.slice p n c] w fun e w' => e = .returned (.tuple #[.int .i64 ((pe bs).getD 0), .bool (pe bs).isSome]) ∧ ∃ k, w' = w.drewN k := by
  have HR : Hid (∀ (q : Option Addr) (rs : List UInt8) (d : Nat) (t : Nat), Lib.BytesAt w q rs.length rs → rs.length ≤ n → Calls Tryd.prog 30 #[.slice q rs.length d] (w.drewN t) _) := fun q rs d t hq hl => digitRun_calls q rs.length d rs (w.drewN t) rfl (by omega) hq
  have hfrom : 1 ≤ n → ∀ w, (Instr.slice 22 (.slice p n c) (some (.int .i64 1)) none none).run Tryd.prog w = .ok (.slice (cutP p c 1) (n - 1) (c - 1)) w := fun h1 w => run_from p n c 1 1 rfl h1 w
  go_enter Tryd.func31, Tryd.ntmps31
  cases bs with
  | nil =>
    have h0 : n = 0 := hb.symm
    subst h0
    clear HR hfrom h hb
    go_wp2
    go_ret2
    exact ⟨rfl, 0, rfl⟩
  | cons x0 r =>
    have h0 : 0 < n := by simp at hb; omega
    obtain ⟨b, o, rfl, hcell0⟩ := at_byte h hb h0
    have hcell : w.cell? ⟨b, o, none⟩ = some (.int .u8 (x0.toNat : Int)) := hcell0
    clear hcell0
    have hf1 := hfrom (by omega)
    have H := hide h
    have Hb := hide hb
    clear h hb hfrom
    generalize hx : x0.toNat = x at *
    have Hx := hide hx
    clear hx
    go_upto_region 2 with fail
    go_cut [22] (fun s22 wx => s22 = .bool (((x : Int) == 43) || ((x : Int) == 45)) ∧ wx = w)
    case first =>
      cases h43 : ((x : Int) == 43)
      all_goals cases h45 : ((x : Int) == 45)
      all_goals go_wp2
      all_goals go_meet
      all_goals exact ⟨by rw [h43, h45]; rfl, rfl⟩
    case rest =>
      obtain ⟨rfl, rfl⟩ := hcut
      go_upto_if 22 with fail
      go_cut [0, 4] (fun s0 s4 wx => ∃ (q : Option Addr) (rs : List UInt8) (d : Nat) (ng : Bool) (t : Nat), s0 = .slice q rs.length d ∧ s4 = .bool ng ∧ wx = wc.drewN t ∧ rs.length ≤ n ∧ Hid (Lib.BytesAt wc q rs.length rs ∧ rs = peRest (x0 :: r) ∧ ng = peNeg (x0 :: r)))
      case first =>
        go_wp2
        · go_quiet (fail)
          go_wp2
          go_meet
          have hx : ((x : Int) == 43) = true ∨ ((x : Int) == 45) = true := ‹_›
          have e1 : (x0 == 43 || x0 == 45) = true := by
            have := Hx.out
            rw [Bool.or_eq_true, show (43 : UInt8) = UInt8.ofNat 43 from rfl, show (45 : UInt8) = UInt8.ofNat 45 from rfl, byte_eq _ 43 (by omega), byte_eq _ 45 (by omega), this]
            simpa using hx
          have e2 : n - 1 = r.length := by have := Hb.out; simp at this; omega
          refine ⟨_, r, _, _, nq, by rw [← e2], rfl, rfl, by omega, ?_⟩
          refine ⟨?_, by rw [peRest, if_pos e1], ?_⟩
          · have := cutP_bytes (l := 1) (h := n) (by omega) (Nat.le_refl _) hnc Hb.out H.out
            rw [List.take_of_length_le (by rw [Hb.out]; omega), e2] at this
            exact this
          · rw [peNeg, Bool.eq_iff_iff, show (45 : UInt8) = UInt8.ofNat 45 from rfl, byte_eq _ 45 (by omega), Hx.out]
            simp
        · go_meet
          have hx : ((x : Int) == 43) = false ∧ ((x : Int) == 45) = false := ‹_›
          have hx1 : x ≠ 43 ∧ x ≠ 45 := by
            simp at hx
            omega
          have e0 : ∀ m : Nat, m < 256 → x ≠ m → (x0 == UInt8.ofNat m) = false := fun m hm hne => by
            rw [Bool.eq_false_iff, ne_eq, byte_eq _ m hm, Hx.out]
            omega
          have e1 : (x0 == 43 || x0 == 45) = false := by
            rw [show (43 : UInt8) = UInt8.ofNat 43 from rfl, show (45 : UInt8) = UInt8.ofNat 45 from rfl, e0 43 (by omega) hx1.1, e0 45 (by omega) hx1.2]
            rfl
          refine ⟨_, x0 :: r, _, _, 0, by rw [Hb.out], rfl, rfl, by rw [Hb.out]; omega, ?_, by rw [peRest, e1]; rfl, ?_⟩
          · rw [Hb.out]; exact H.out
          · rw [peNeg, show (45 : UInt8) = UInt8.ofNat 45 from rfl, e0 45 (by omega) hx1.2]
      case rest =>
        obtain ⟨q, rs, d, ng, t, rfl, rfl, rfl, hrn, HH⟩ := hcut
        have HC := hide (HR.out q rs d t HH.out.1 hrn)
        have HP : Hid (pe (x0 :: r) = if rs.isEmpty || !rs.all dig then none else (peLoop 0 rs).map fun (e : Nat) => if ng then -(e : Int) else (e : Int)) := by
          show _ = _
          rw [HH.out.2.1, HH.out.2.2]
          rfl
        have HA := hide HH.out.1
        have HF := hide (runD_full rs)
        have HS := hide (runD_short rs)
        have hru := runD_le rs
        clear HH HR hf1 hcell H Hb Hx
        generalize hm : rs.length = m at *
        have Hm := hide hm
        clear hm
        generalize runD rs = u at *
        rcases Nat.eq_zero_or_pos m with hm0 | hm0
        · have h1 : ((m : Int) == 0) = true := by simp; omega
          have HN : Hid (pe (x0 :: r) = none) := by
            show _ = _
            rw [HP.out, List.length_eq_zero_iff.1 (Hm.out.trans hm0)]
            rfl
          go_wp2
          go_ret2
          exact ⟨by rw [HN.out]; rfl, t, rfl⟩
        · have h1 : ((m : Int) == 0) = false := by simp; omega
          have hne : rs.isEmpty = false := by
            cases rs with
            | nil => have := Hm.out; simp at this; omega
            | cons _ _ => rfl
          rw [hne, Bool.false_or] at HP
          clear hne
          rcases Nat.lt_or_ge u m with hu | hu
          · have HN : Hid (pe (x0 :: r) = none) := by
              show _ = _
              rw [HP.out, HS.out hu]
              rfl
            go_wp2_with fail
            refine (HC.out).mono ?_
            rintro e w' ⟨rfl, rfl⟩
            go_wp2
            go_ret2
            exact ⟨by rw [HN.out]; rfl, t, rfl⟩
          · have hum : u = m := by omega
            subst hum
            have HD := hide (HF.out rfl)
            rw [HD.out] at HP
            have HP2 : Hid (pe (x0 :: r) = (peLoop 0 rs).map fun (e : Nat) => if ng then -(e : Int) else (e : Int)) := HP
            clear HF HS hru hu HP
            go_wp2_with fail
            refine (HC.out).mono ?_
            rintro e w' ⟨rfl, rfl⟩
            clear HC
            go_wp2_with fail
            go_loop [5, 41] (fun ev i => ∃ (k E : Nat), ev = .int .i64 E ∧ i = .int .i64 k ∧ k ≤ u ∧ E ≤ 1000000000000000 ∧ Hid (peLoop E (rs.drop k) = peLoop 0 rs)) (fun _ i => u - (intOf i).toNat)
            case atStart => exact ⟨0, 0, rfl, rfl, by omega, by omega, rfl⟩
            case round =>
              obtain ⟨k, E, rfl, rfl, hk, hE, HL⟩ := hrel
              rcases Nat.lt_or_ge k u with hlt | hge
              · obtain ⟨b2, o2, rfl, hcell⟩ := at_byte HA.out Hm.out hlt
                have HT := hide (peLoop_at rs k E (by rw [Hm.out]; exact hlt))
                have hdg : 48 ≤ ((rs[k]'(by rw [Hm.out]; exact hlt)).toNat : Int) ∧ ((rs[k]'(by rw [Hm.out]; exact hlt)).toNat : Int) ≤ 57 := by
                  rw [← dig_iff]
                  exact List.all_eq_true.1 HD.out _ (List.getElem_mem _)
                generalize ((rs[k]'(by rw [Hm.out]; exact hlt)).toNat) = y at *
                obtain ⟨hy1, hy2⟩ := hdg
                go_wp2
                · have hgt : (1000000000000000 : Int) < (E : Int) * 10 + ((y : Int) - 48) := ‹_›
                  have HN : Hid (pe (x0 :: r) = none) := by
                    show _ = _
                    rw [HP2.out, ← HL.out, HT.out, if_pos (by omega)]
                    rfl
                  go_ret2
                  exact ⟨by rw [HN.out]; rfl, t, rfl⟩
                · have hle : (E : Int) * 10 + ((y : Int) - 48) ≤ 1000000000000000 := ‹_›
                  have hle2 : E * 10 + (y - 48) ≤ 1000000000000000 := by omega
                  have HQ : Hid (peLoop (E * 10 + (y - 48)) (rs.drop (k + 1)) = peLoop 0 rs) := by
                    show _ = _
                    rw [← HL.out, HT.out, if_neg (by omega)]
                  have hc : (E : Int) * 10 + ((y : Int) - 48) = ((E * 10 + (y - 48) : Nat) : Int) := by omega
                  go_round
                  case rel => exact ⟨k + 1, E * 10 + (y - 48), by rw [hc], by go_num, by omega, hle2, HQ⟩
                  case measure => simp [intOf]; omega
              · have HN : Hid (pe (x0 :: r) = some (if ng then -(E : Int) else (E : Int))) := by
                  show _ = _
                  rw [HP2.out, ← HL.out, List.drop_eq_nil_of_le (by rw [Hm.out]; exact hge)]
                  rfl
                go_wp2
                all_goals go_ret2
                · have hng : ng = true := ‹_›
                  exact ⟨by rw [HN.out, hng]; rfl, t, rfl⟩
                · have hng : ng = false := ‹_›
                  exact ⟨by rw [HN.out, hng]; rfl, t, rfl⟩

end Go.Proofs.Qxb6602005aDoor
