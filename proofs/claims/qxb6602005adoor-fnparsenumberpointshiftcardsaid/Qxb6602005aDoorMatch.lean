import Derived.Test.Qxb6602005aDoorRead
import Derived.Test.Qxb6602005aDoorLaw2
namespace Go.Proofs.Qxb6602005aDoor
open Go.RowKit
set_option linter.unusedSimpArgs false
set_option maxRecDepth 100000

theorem V.mono {W : World} {B B' : Nat} {q : Option Addr} {m d : Nat} {rs : List UInt8} (h : V W B q m d rs) (hB : B ≤ B') : V W B' q m d rs :=
  ⟨h.len, h.at_, h.cap, h.big, h.small, fun b o s e => Nat.lt_of_lt_of_le (h.old b o s e) hB⟩
theorem V.on {W W' : World} {q : Option Addr} {m d : Nat} {rs : List UInt8} (h : V W W.heap.size q m d rs) (hB : Below W.heap.size W W') : V W' W'.heap.size q m d rs :=
  (h.below hB).mono hB.size
theorem SL.v {W : World} {x : Value} {bs : List UInt8} (h : SL W x bs) (hs : bs.length ≤ 1073741824) : ∃ q d, x = .slice q bs.length d ∧ V W W.heap.size q bs.length d bs := by
  obtain ⟨p, c, rfl, h1, h2, h3, h4⟩ := h
  exact ⟨p, c, rfl, rfl, h3, h1, h2, hs, h4⟩
theorem owns_v {W : World} {base n : Nat} {v : Value} {bs : List UInt8} (h : W.ownsRow base 5 1 v n (cellsB bs)) (hs : n ≤ 1073741824) : ∃ q d, v = .slice q n d ∧ V W W.heap.size q n d bs := by
  obtain ⟨p, c, rfl, h1, h2, h3, h4, h5⟩ := owns_at h
  exact ⟨p, c, rfl, h3, h4, h1, h2, hs, fun b o s e => (h5 b o s e).2⟩

theorem partsF_w (i f : List UInt8) : ∀ l i' f' w, partsF i f l = some (i', f', w) → -1000000000000000 ≤ w ∧ w ≤ 1000000000000000
  | [], i', f', w, h => by
    rw [partsF, partsW] at h
    split at h
    · cases h
    · cases h; omega
  | c :: r, i', f', w, h => by
    rw [partsF] at h
    split at h
    · cases hp : pe r with
      | none => rw [hp] at h; cases h
      | some v =>
        have := pe_le r v hp
        rw [hp, partsE, partsW] at h
        split at h
        · cases h
        · cases h; exact this
    · cases h
theorem parts_w (s i f : List UInt8) (w : Int) (h : parts s = some (i, f, w)) : -1000000000000000 ≤ w ∧ w ≤ 1000000000000000 := by
  unfold parts partsU at h
  generalize (body s).take (runD (body s)) = a at h
  generalize (body s).drop (runD (body s)) = l at h
  cases l with
  | nil => exact partsF_w a [] [] _ _ _ h
  | cons c r =>
    rw [partsI] at h
    split at h
    · split at h
      · cases h
      · exact partsF_w _ _ _ _ _ _ h
    · exact partsF_w _ _ _ _ _ _ h

/-- A slice that comes in: nil, or an address with its bytes. -/
structure In (w : World) (p : Option Addr) (n c : Nat) (bs : List UInt8) : Prop where
  len : bs.length = n
  at_ : Lib.BytesAt w p n bs
  nil : p = none → n = 0 ∧ c = 0
  old : ∀ b o s, 0 < n → p = some ⟨b, o, s⟩ → b < w.heap.size

theorem clone_calls (p : Option Addr) (n c : Nat) (bs : List UInt8) (w : World) (h : In w p n c bs) (hn : n ≤ 1073741824) :
    Calls Tryd.prog 9 #[.slice p n c] w fun e w' => ∃ q d, e = .returned (.slice q n d) ∧ V w' w'.heap.size q n d bs ∧ Below w.heap.size w w' := by
  cases p with
  | none =>
    obtain ⟨rfl, rfl⟩ := h.nil rfl
    have e : bs = [] := List.length_eq_zero_iff.1 h.len
    subst e
    exact (clone_nil w).mono fun e w' ⟨he, hw⟩ => ⟨none, 0, he, V.nil _ _, by rw [hw]; exact Below.refl _ _⟩
  | some a =>
    refine (clone_some a n c bs w h.len hn h.at_ (fun h0 => by obtain ⟨b, o, s⟩ := a; exact h.old b o s h0 rfl)).mono fun e w' ⟨he, ho, hB⟩ => ?_
    obtain ⟨q, d, e2, hV⟩ := owns_v ho hn
    cases e2
    exact ⟨_, _, he, hV, hB⟩

set_option maxHeartbeats 4000000 in
theorem match_walk (p : Option Addr) (n c : Nat) (bs : List UInt8) (w : World) (h : In w p n c bs) :
    Calls Tryd.prog 3 #[.slice p n c] w fun e w' => e = .returned (.bool true) ∧ Below w.heap.size w w' := by
  by_cases hn : n ≤ 1048576
  · have h1 : ¬ (1048576 : Int) < (n : Int) := by omega
    have HC := hide (clone_calls p n c bs w h (by omega))
    clear h
    go_enter Tryd.func3, Tryd.ntmps3
    go_wp2_with (first | (go_at_call 8; go_in) | fail)
    refine (HC.out).mono ?_
    rintro e W1 ⟨q, d, rfl, hV1, hB1⟩
    have HC2 := hide (zzParse_calls q n d bs W1 hV1)
    have HV1 := hide hV1
    have HB1 := hide hB1
    clear hV1 hB1 HC
    go_wp2_with fail
    refine (HC2.out).mono ?_
    rintro e W2 ⟨v0, v1, rfl, hs0, hs1, hB2⟩
    have HC3 := hide (read_calls q n d bs W2 (HV1.out.on hB2))
    have HV2 := hide (HV1.out.on hB2)
    have HB2 := hide ((HB1.out).trans (hB2.mono (HB1.out).size))
    have H0 := hide hs0
    have H1 := hide hs1
    clear HC2 HV1 HB1 hB2 hs0 hs1
    go_wp2_with fail
    refine (HC3.out).mono ?_
    rintro e W3 ⟨u0, u1, rfl, ht0, ht1, hB3⟩
    have HV3 := hide (HV2.out.on hB3)
    have HB3 := hide ((HB2.out).trans (hB3.mono (HB2.out).size))
    have H0' := hide ((H0.out).below hB3)
    have H1' := hide ((H1.out).below hB3)
    have T0 := hide ht0
    have T1 := hide ht1
    clear HC3 HV2 HB2 hB3 H0 H1 ht0 ht1
    rw [pn_is bs] at H0' H1'
    rw [rm_is bs] at T0 T1
    have HL := hide (parts_len bs)
    rw [pn_is bs, rm_is bs]
    cases hp : parts bs with
    | none =>
      rw [hp] at H0' H1' T0 T1
      obtain ⟨p0, c0, rfl, _⟩ := (H0'.out).v (Nat.zero_le _)
      obtain ⟨p1, c1, rfl, _⟩ := (H1'.out).v (Nat.zero_le _)
      obtain ⟨p2, c2, rfl, _⟩ := (T0.out).v (Nat.zero_le _)
      obtain ⟨p3, c3, rfl, _⟩ := (T1.out).v (Nat.zero_le _)
      simp only [pnOf, mOf, failN, failM, List.length_nil]
      clear H0' H1' T0 T1 HL hp
      cases bs with
      | nil =>
        have h0 : n = 0 := (HV3.out.len).symm
        subst h0
        simp only [signed]
        go_wp2
        all_goals go_ret
        all_goals exact ⟨rfl, (HB3.out).alloc (HB3.out).size _⟩
      | cons x0 r =>
        have h0 : (0 : Int) < (n : Int) := by have := HV3.out.len; simp at this; omega
        have hV4 := HV3.out.on ((Below.refl W3.heap.size W3).alloc (Nat.le_refl _) (.cells #[.bool false, .bool false, .slice p2 0 c2, .slice p3 0 c3, .int .i64 0] 28))
        obtain ⟨b, o, rfl, hc⟩ := hV4.head
        clear hV4
        have HE : Hid (signed (x0 :: r) = ((x0.toNat : Int) == 45)) := byte_eqB x0 45 (by omega)
        rw [HE.out]
        generalize x0.toNat = x at *
        go_wp2
        go_ret
        exact ⟨rfl, (HB3.out).alloc (HB3.out).size _⟩
    | some t =>
      obtain ⟨i, f, wr⟩ := t
      obtain ⟨hl, hl0⟩ := HL.out i f wr hp
      obtain ⟨hw1, hw2⟩ := parts_w bs i f wr hp
      have hlen := HV3.out.len
      rw [hp] at H0' H1' T0 T1
      obtain ⟨pi, ci, rfl, hvi⟩ := (T0.out).v (by show i.length ≤ _; omega)
      obtain ⟨pf, cf, rfl, hvf⟩ := (T1.out).v (by show f.length ≤ _; omega)
      have HVi : Hid (V W3 W3.heap.size pi i.length ci i) := hvi
      have HVf : Hid (V W3 W3.heap.size pf f.length cf f) := hvf
      clear hvi hvf T0 T1 HL hp
      have hB4 : Below W3.heap.size W3 (W3.alloc (.cells #[.bool true, .bool (signed bs), .slice pi i.length ci, .slice pf f.length cf, .int .i64 wr] 28)) := (Below.refl _ _).alloc (Nat.le_refl _) _
      have HW4 := hide hB4
      have hvi4 := HVi.out.on hB4
      have hvf4 := HVf.out.on hB4
      have HC4 := hide (concat_calls pi pf i.length f.length ci cf i f _ rfl rfl (by omega) (by omega) hvi4.at_ hvf4.at_ hvi4.old hvf4.old)
      clear hvi4 hvf4 hB4
      have htz := tz_le f
      have hlz := lz_le (i ++ f)
      have hlzi := lz_le i
      rw [List.length_append] at hlz
      by_cases hz : lz (i ++ f) = (i ++ f).length
      · have HF := hide (finish_zero (signed bs) i f wr hz)
        rw [show pnOf (signed bs) (some (i, f, wr)) = ⟨false, [], [], 0, true⟩ from HF.out] at H0' H1' ⊢
        obtain ⟨p0, c0, rfl, _⟩ := (H0'.out).v (Nat.zero_le _)
        obtain ⟨p1, c1, rfl, _⟩ := (H1'.out).v (Nat.zero_le _)
        simp only [mOf, List.length_nil]
        rw [List.length_append] at hz
        clear H0' H1' HF
        generalize signed bs = sg at *
        generalize hni : i.length = ni at *
        generalize hnf : f.length = nf at *
        have hz' : (((lz (i ++ f) : Nat) : Int) == (ni : Int) + (nf : Int)) = true := by simp; omega
        generalize hL : lz (i ++ f) = L at *
        have HLz := hide hL
        have Hni := hide hni
        have Hnf := hide hnf
        clear hL hni hnf hz
        go_wp2_with fail
        refine (HC4.out).mono ?_
        rintro e W5 ⟨v5, rfl, ho5, hB5⟩
        obtain ⟨q5, d5, rfl, hv5⟩ := owns_v ho5 (by omega)
        have HC5 := hide (leadZ_calls q5 (ni + nf) d5 (i ++ f) W5 hv5.len (by omega) hv5.at_)
        rw [HLz.out] at HC5
        have HB5 := hide ((HB3.out).trans ((HW4.out).mono (HB3.out).size))
        have HB6 := hide ((HB5.out).trans (hB5.mono (HB5.out).size))
        clear ho5 hB5 hv5 HC4 HB5
        go_wp2_with fail
        refine (HC5.out).mono ?_
        rintro e w' ⟨rfl, rfl⟩
        clear HC5
        go_wp2
        go_ret
        exact ⟨rfl, HB6.out⟩
      · obtain ⟨d0, d1, hfin, hcat, hd0, hd1, hdl⟩ := finish_some (signed bs) i f wr (by rw [List.length_append] at hz ⊢; omega)
        rw [show pnOf (signed bs) (some (i, f, wr)) = _ from hfin] at H0' H1' ⊢
        obtain ⟨p0, c0, rfl, hw0⟩ := (H0'.out).v (by show d0.length ≤ _; omega)
        obtain ⟨p1, c1, rfl, hw1⟩ := (H1'.out).v (by show d1.length ≤ _; omega)
        have HV0 : Hid (V W3 W3.heap.size p0 d0.length c0 d0) := hw0
        have HV1 : Hid (V W3 W3.heap.size p1 d1.length c1 d1) := hw1
        simp only [mOf]
        rw [List.length_append] at hz hcat
        clear H0' H1' hfin hw0 hw1
        have HE : Hid ((d0 ++ d1 == ((i ++ f).take (i.length + f.length - tz f)).drop (lz (i ++ f))) = true) := by
          show _ = _
          rw [hcat]
          simp
        clear hcat
        have hlt : lz (i ++ f) ≤ i.length + f.length - tz f := by
          have h1 : lz (i ++ f) < i.length + f.length := by omega
          have h2 := lz_append i f
          split at h2
          · have h3 : lz f < f.length := by omega
            have h4 := lz_tz f h3
            omega
          · omega
        generalize signed bs = sg at *
        have hz' : (((lz (i ++ f) : Nat) : Int) == (i.length : Int) + (f.length : Int)) = false := by simp; omega
        have HCI := hide (fun (W : World) (hv : V W W.heap.size pi i.length ci i) => leadZ_calls pi i.length ci i W rfl (by omega) hv.at_)
        have HCF := hide (fun (W : World) (hv : V W W.heap.size pf f.length cf f) => trailZ_calls pf f.length cf f W rfl (by omega) hv.at_)
        have HCA := hide (fun (W : World) (q : Option Addr) (d : Nat) (hv : V W W.heap.size q (i.length + f.length) d (i ++ f)) => leadZ_calls q (i.length + f.length) d (i ++ f) W hv.len (by omega) hv.at_)
        have HCD := hide (fun (W : World) (hv0 : V W W.heap.size p0 d0.length c0 d0) (hv1 : V W W.heap.size p1 d1.length c1 d1) => concat_calls p0 p1 d0.length d1.length c0 c1 d0 d1 W rfl rfl (by omega) (by omega) hv0.at_ hv1.at_ hv0.old hv1.old)
        have HCE := hide (fun (W : World) (q1 q2 : Option Addr) (e1 e2 : Nat) (hv0 : V W W.heap.size q1 (d0.length + d1.length) e1 (d0 ++ d1)) (hv1 : V W W.heap.size q2 (i.length + f.length - tz f - lz (i ++ f)) e2 (((i ++ f).take (i.length + f.length - tz f)).drop (lz (i ++ f)))) => equal_calls q1 q2 _ _ e1 e2 _ _ W hv0.len hv1.len (by omega) (by omega) hv0.at_ hv1.at_)
        rw [HE.out] at HCE
        generalize hL : lz (i ++ f) = L at *
        generalize hT : tz f = T at *
        generalize hI : lz i = I at *
        generalize hni : i.length = ni at *
        generalize hnf : f.length = nf at *
        generalize hn0 : d0.length = n0 at *
        generalize hn1 : d1.length = n1 at *
        clear hL hT hI hni hnf hn0 hn1 HE hz
        have HM : Hid (∀ W', Below (W3.heap.size + 1) (W3.alloc (.cells #[.bool true, .bool sg, .slice pi ni ci, .slice pf nf cf, .int .i64 wr] 28)) W' → W'.cell? ⟨W3.heap.size, 1, none⟩ = some (.bool sg) ∧ W'.cell? ⟨W3.heap.size, 2, none⟩ = some (.slice pi ni ci) ∧ W'.cell? ⟨W3.heap.size, 3, none⟩ = some (.slice pf nf cf) ∧ W'.cell? ⟨W3.heap.size, 4, none⟩ = some (.int .i64 wr)) := fun W' hb => by
          refine ⟨?_, ?_, ?_, ?_⟩
          all_goals (rw [hb.cell (by simp)]; simp)
        have hsz4 : (W3.alloc (.cells #[.bool true, .bool sg, .slice pi ni ci, .slice pf nf cf, .int .i64 wr] 28)).heap.size = W3.heap.size + 1 := by simp
        rw [hsz4] at HC4
        clear hsz4
        go_wp2_with fail
        refine (HC4.out).mono ?_
        rintro e W5 ⟨v5, rfl, ho5, hB5⟩
        obtain ⟨q5, d5, rfl, hv5⟩ := owns_v ho5 (by omega)
        have HV5 := hide hv5
        have hcm := HM.out W5 hB5
        have hB35 : Below W3.heap.size W3 W5 := (HW4.out).trans (hB5.mono (by omega))
        have HB35 := hide hB35
        have HB5 := hide hB5
        obtain ⟨m1, m2, m3, m4⟩ := hcm
        have HC5 := hide (HCA.out W5 q5 d5 hv5)
        have HC6 := hide (HCF.out W5 (HVf.out.on hB35))
        have HC7 := hide (HCD.out W5 (HV0.out.on hB35) (HV1.out.on hB35))
        have hmid := run_mid q5 (ni + nf) d5 L (ni + nf - T) (L : Int) ((ni : Int) + (nf : Int) - (T : Int)) rfl (by omega) hlt (by have := hv5.cap; omega)
        have HVw := hide (hv5.cut L (ni + nf - T) hlt (by omega))
        clear ho5 hB5 hv5 HC4 hB35 HCA HCF HCD
        go_wp2_with fail
        refine (HC5.out).mono ?_
        rintro e w' ⟨rfl, rfl⟩
        clear HC5
        go_wp2_with fail
        refine (HC6.out).mono ?_
        rintro e w' ⟨rfl, rfl⟩
        clear HC6
        go_wp2_with fail
        refine (HC7.out).mono ?_
        rintro e W6 ⟨v6, rfl, ho6, hB6⟩
        obtain ⟨q6, d6, rfl, hv6⟩ := owns_v ho6 (by omega)
        have HC8 := hide (HCE.out W6 q6 _ d6 _ hv6 (HVw.out.on hB6))
        have hB36 : Below W3.heap.size W3 W6 := (HB35.out).trans (hB6.mono (HB35.out).size)
        have HB36 := hide hB36
        have HB46 : Hid (Below (W3.heap.size + 1) (W3.alloc (.cells #[.bool true, .bool sg, .slice pi ni ci, .slice pf nf cf, .int .i64 wr] 28)) W6) := (HB5.out).trans (hB6.mono (by have := (HB5.out).size; simp at this; omega))
        clear m1 m2 m3 m4
        obtain ⟨m1, m2, m3, m4⟩ := HM.out W6 HB46.out
        have HVi6 := hide (HVi.out.on hB36)
        clear HC7 ho6 hB6 hv6 HVw HCE hB36 HB35 HB5 HM
        go_wp2_with fail
        refine (HC8.out).mono ?_
        rintro e w' ⟨rfl, k, rfl⟩
        have HC9 := hide (HCI.out (W6.drewN k) (HVi6.out.on (below_drewN (Below.refl _ _) k)))
        clear HC8
        go_wp2_with fail
        refine (HC9.out).mono ?_
        rintro e w' ⟨rfl, rfl⟩
        clear HC9
        have HBZ := hide (below_drewN ((HB3.out).trans ((HB36.out).mono (HB3.out).size)) k)
        rcases Nat.lt_or_ge I ni with hI | hI
        · have e0 := hd0 hI
          have hI' : (I : Int) < (ni : Int) := by omega
          have hne : ((n0 : Int) != (ni : Int) - (I : Int)) = false := by simp; omega
          clear e0 hd0 hd1
          go_wp2
          go_ret
          exact ⟨by first | rfl | simp, HBZ.out⟩
        · have e0 := hd1 (by omega)
          have hI' : ¬ (I : Int) < (ni : Int) := by omega
          have hne : ((n1 : Int) != 0) = false := by simp; omega
          clear e0 hd0 hd1
          go_wp2
          go_ret
          exact ⟨by first | rfl | simp, HBZ.out⟩
  · have h1 : (1048576 : Int) < (n : Int) := by omega
    clear h
    go_enter Tryd.func3, Tryd.ntmps3
    go_wp2
    go_ret
    exact ⟨rfl, Below.refl _ _⟩

end Go.Proofs.Qxb6602005aDoor
