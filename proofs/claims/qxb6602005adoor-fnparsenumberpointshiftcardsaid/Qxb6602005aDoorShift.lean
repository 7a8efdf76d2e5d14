import Derived.Test.Qxb6602005aDoorDec
import Derived.Test.Qxb6602005aDoorLaw3
namespace Go.Proofs.Qxb6602005aDoor
open Go.RowKit
set_option linter.unusedSimpArgs false
set_option maxRecDepth 100000

/-- Behind the sign: two slices of the call's own, in two rows. -/
def Sh (W : World) (base k : Nat) (ds : List UInt8) (s7 s8 : Value) (wx : World) : Prop :=
  wx.ownsRow base 5 1 s7 k (cellsB ds) ∧ wx.ownsRow base 5 1 s8 k (cellsB ds) ∧ (∀ g, s8.ownBlock = some g → s7.ownBlock ≠ some g) ∧ Below base W wx ∧ base ≤ wx.heap.size

theorem Grew.apart {w w1 : World} {v v1 u : Value} {base n : Nat} {xs : List Value} (h : Grew w w1 v v1) (ho : w.ownsRow base 5 1 u n xs) (hne : ∀ g, u.ownBlock = some g → v.ownBlock ≠ some g) :
    ∀ g, v1.ownBlock = some g → u.ownBlock ≠ some g := fun g h1 h2 => (h.other ho hne).2 g h2 h1

set_option maxHeartbeats 4000000 in
theorem shift_walk (pa pb : Option Addr) (na ca nb cb : Nat) (xs ys : List UInt8) (ng : Bool) (w : World) (ha : In w pa na ca xs) (hb : In w pb nb cb ys) :
    Calls Tryd.prog 4 #[.slice pa na ca, .slice pb nb cb, .bool ng] w fun e w' => e = .returned (.bool true) ∧ Below w.heap.size w w' := by
  by_cases c1 : 1048576 < na
  · have h1 : (1048576 : Int) < (na : Int) := by omega
    clear ha hb
    go_enter Tryd.func4, Tryd.ntmps4
    go_wp2
    go_ret
    exact ⟨rfl, Below.refl _ _⟩
  have h1 : ¬ (1048576 : Int) < (na : Int) := by omega
  by_cases c2 : 1048576 < nb
  · have h2 : (1048576 : Int) < (nb : Int) := by omega
    clear ha hb
    go_enter Tryd.func4, Tryd.ntmps4
    go_wp2
    go_ret
    exact ⟨rfl, Below.refl _ _⟩
  have h2 : ¬ (1048576 : Int) < (nb : Int) := by omega
  by_cases c3 : 1048576 < na + nb
  · have h3 : (1048576 : Int) < (na : Int) + (nb : Int) := by omega
    clear ha hb
    go_enter Tryd.func4, Tryd.ntmps4
    go_wp2
    go_ret
    exact ⟨rfl, Below.refl _ _⟩
  have h3 : ¬ (1048576 : Int) < (na : Int) + (nb : Int) := by omega
  by_cases c4 : 65536 < na
  · have h4 : (65536 : Int) < (na : Int) := by omega
    clear ha hb
    go_enter Tryd.func4, Tryd.ntmps4
    go_wp2
    go_ret
    exact ⟨rfl, Below.refl _ _⟩
  have h4 : ¬ (65536 : Int) < (na : Int) := by omega
  by_cases c5 : 65536 < nb
  · have h5 : (65536 : Int) < (nb : Int) := by omega
    clear ha hb
    go_enter Tryd.func4, Tryd.ntmps4
    go_wp2
    go_ret
    exact ⟨rfl, Below.refl _ _⟩
  have h5 : ¬ (65536 : Int) < (nb : Int) := by omega
  by_cases c6 : na = 0
  · have h6 : ((na : Int) == 0) = true := by simp; omega
    have HC6 := hide c6
    clear ha hb c6
    go_enter Tryd.func4, Tryd.ntmps4
    go_wp2
    go_ret
    exact ⟨rfl, Below.refl _ _⟩
  have h6 : ((na : Int) == 0) = false := by simp; omega
  by_cases c7 : nb = 0
  · have h7 : ((nb : Int) == 0) = true := by simp; omega
    have HC7 := hide c7
    clear ha hb c7
    go_enter Tryd.func4, Tryd.ntmps4
    go_wp2
    go_ret
    exact ⟨rfl, Below.refl _ _⟩
  have h7 : ((nb : Int) == 0) = false := by simp; omega
  have HA := hide (allDigits_calls pa na ca xs w ha.len (by omega) ha.at_)
  have HBd := hide (allDigits_calls pb nb cb ys w hb.len (by omega) hb.at_)
  cases da : xs.all dig
  · rw [da] at HA
    clear ha hb HBd da
    go_enter Tryd.func4, Tryd.ntmps4
    go_wp2_with (first | (go_at_call 17; refine (HA.out).mono ?_; rintro e w' ⟨rfl, rfl⟩) | (go_at_call 16; go_in))
    go_ret
    exact ⟨rfl, Below.refl _ _⟩
  cases db : ys.all dig
  · rw [da] at HA
    rw [db] at HBd
    clear ha hb da db
    go_enter Tryd.func4, Tryd.ntmps4
    go_wp2_with (go_at_call 16; go_in)
    refine (HA.out).mono ?_
    rintro e w' ⟨rfl, rfl⟩
    go_wp2_with fail
    refine (HBd.out).mono ?_
    rintro e w' ⟨rfl, rfl⟩
    go_wp2
    go_ret
    exact ⟨rfl, Below.refl _ _⟩
  rw [da] at HA
  rw [db] at HBd
  have HCa := hide (clone_calls pa na ca xs w ha (by omega))
  have HCb := hide (fun (W : World) (hB : Below w.heap.size w W) => clone_calls pb nb cb ys W ⟨hb.len, fun h0 => by
      obtain ⟨b, o, e, hc⟩ := hb.at_ h0
      exact ⟨b, o, e, fun i hi => by rw [hB.cell (hb.old b o none h0 e)]; exact hc i hi⟩, hb.nil, fun b o s h0 e => Nat.lt_of_lt_of_le (hb.old b o s h0 e) hB.size⟩ (by omega))
  have Hda := hide da
  have Hdb := hide db
  clear ha hb da db
  go_enter Tryd.func4, Tryd.ntmps4
  go_wp2_with (go_at_call 16; go_in)
  refine (HA.out).mono ?_
  rintro e w' ⟨rfl, rfl⟩
  go_wp2_with fail
  refine (HBd.out).mono ?_
  rintro e w' ⟨rfl, rfl⟩
  clear HA HBd
  go_wp2_with fail
  refine (HCa.out).mono ?_
  rintro e W1 ⟨q1, d1, rfl, hV1, hB1⟩
  have HC2 := hide (HCb.out W1 hB1)
  have HV1 := hide hV1
  have HB1 := hide hB1
  clear hV1 hB1 HCa HCb
  go_wp2_with fail
  refine (HC2.out).mono ?_
  rintro e W2 ⟨q2, d2, rfl, hV2, hB2⟩
  have HVa := hide (HV1.out.on hB2)
  have HVb := hide hV2
  have HB2 := hide ((HB1.out).trans (hB2.mono (HB1.out).size))
  clear HC2 HV1 HB1 hB2 hV2
  go_upto_if 52 with fail
  have hx45 : ∀ u ∈ [Value.int .u8 45], u.oneCell' = true := by intro u hu; simp at hu; subst hu; rfl
  go_cut [7, 8] (fun s7 s8 wx => Sh W2 W2.heap.size (pre ng).length (pre ng) s7 s8 wx)
  case first =>
    cases ng
    · go_wp2
      go_meet
      exact ⟨World.ownsRow_nil _ _ _ _, World.ownsRow_nil _ _ _ _, (fun g e => by cases e), Below.refl _ _, Nat.le_refl _⟩
    · go_wp2_with (at_builtin; refine wpList_app _ rfl (.tmp 53) (.tmp 54) rfl W2.heap.size _ _ _ rfl (World.ownsRow_nil _ _ _ _) ⟨W2.heap.size, 0, none⟩ 1 1 [.int .u8 45] rfl rfl (cell_one_new _ _ _) hx45 (by omega) (by simp) ?_)
      intro v' w1 ho1 hg1 hn1
      have hB1 : Below W2.heap.size W2 w1 := ((Below.refl _ W2).alloc (Nat.le_refl _) _).grown hg1 (by simp) (fun g hg => by cases hg)
      have hs1 := hB1.size
      have Ho1 := hide ho1
      have HB1 := hide hB1
      clear ho1 hg1 hn1 hB1
      go_wp2_with (at_builtin; refine wpList_app _ rfl (.tmp 56) (.tmp 57) rfl W2.heap.size _ _ _ rfl (World.ownsRow_nil _ _ _ _) ⟨w1.heap.size, 0, none⟩ 1 1 [.int .u8 45] rfl rfl (cell_one_new _ _ _) hx45 (by omega) (by simp; omega) ?_)
      intro v2 w2 ho2 hg2 hn2
      have hG := (Grew.still (.slice none 0 0) ((Below.refl w1.heap.size w1).alloc (Nat.le_refl _) (.cells #[.int .u8 45] 5))).trans (Grew.app hg2 (by simpa using hn2))
      have hoth := hG.other (Ho1.out) (fun g _ e => by cases e)
      have hap := hG.apart (Ho1.out) (fun g _ e => by cases e)
      have hBB := (HB1.out).trans (hG.below hs1 (fun g e => by cases e))
      have HH : Hid (Sh W2 W2.heap.size (pre true).length (pre true) v' v2 w2) := ⟨by simpa [pre, cellsB, B] using hoth.1, by simpa [pre, cellsB, B] using ho2, fun g e1 e2 => hap g e1 e2, hBB, by have := hBB.size; omega⟩
      clear ho2 hg2 hn2 hG hoth hap hBB
      go_wp2
      go_meet
      exact HH.out
  case rest =>
    obtain ⟨o7, o8, hdis, hBx, hsx⟩ := hcut
    have hk : (pre ng).length ≤ 1 := by cases ng <;> decide
    have Hxl := hide HVa.out.len
    have Hyl := hide HVb.out.len
    have HC3 := hide (append_calls2 q1 na d1 (pre ng).length W2.heap.size _ (pre ng) xs wc Hxl.out (by omega) (by omega) (HVa.out.below hBx).at_ o7 hsx HVa.out.old)
    have HO7 := hide o7
    have HO8 := hide o8
    have HD := hide hdis
    have HBx := hide hBx
    clear o7 o8 hdis hBx
    go_wp2_with fail
    refine (HC3.out).mono ?_
    rintro e W3 ⟨v3, rfl, o3, G3⟩
    rw [Hxl.out] at o3
    have hp3 := G3.other HO8.out HD.out
    have hB3 : Below W2.heap.size W2 W3 := (HBx.out).trans (G3.below hsx (fun g hg => ((HO7.out).lt g hg).1))
    have HO3 := hide o3
    have HP3 := hide hp3
    have HB3 := hide hB3
    have hs3 : W2.heap.size ≤ W3.heap.size := hB3.size
    clear o3 G3 hp3 hB3 HC3 HO7 HO8 HD HBx hsx
    have hx46 : ∀ u ∈ [Value.int .u8 46], u.oneCell' = true := by intro u hu; simp at hu; subst hu; rfl
    go_wp2_with (at_builtin; refine wpList_app _ rfl (.tmp 62) (.tmp 63) rfl W2.heap.size _ _ _ rfl ((HO3.out).alloc _) ⟨W3.heap.size, 0, none⟩ 1 1 [.int .u8 46] rfl rfl (cell_one_new _ _ _) hx46 (by omega) (by simp; omega) ?_)
    intro v4 W4 o4 g4 n4
    have G4 := (Grew.still v3 ((Below.refl W3.heap.size W3).alloc (Nat.le_refl _) (.cells #[.int .u8 46] 5))).trans (Grew.app g4 (by simpa using n4))
    have hp4 := G4.other (HP3.out).1 (HP3.out).2
    have hB4 : Below W2.heap.size W2 W4 := (HB3.out).trans (G4.below hs3 (fun g hg => ((HO3.out).lt g hg).1))
    have hs4 : W2.heap.size ≤ W4.heap.size := hB4.size
    have e4 : cellsB (pre ng ++ xs) ++ [Value.int .u8 46] = cellsB (pre ng ++ xs ++ [46]) := by
      simp only [cellsB, List.map_append, List.map_cons, List.map_nil]
      rfl
    rw [e4] at o4
    have HC5 := hide (append_calls2 q2 nb d2 ((pre ng).length + na + 1) W2.heap.size v4 (pre ng ++ xs ++ [46]) ys W4 Hyl.out (by omega) (by omega) (HVb.out.below hB4).at_ o4 hs4 HVb.out.old)
    have HO4 := hide o4
    have HP4 := hide hp4
    have HB4 := hide hB4
    clear o4 g4 n4 G4 hp4 hB4 e4 HO3 HP3 HB3
    go_wp2_with fail
    refine (HC5.out).mono ?_
    rintro e W5 ⟨v5, rfl, o5, G5⟩
    rw [Hyl.out] at o5
    have hp5 := G5.other (HP4.out).1 (HP4.out).2
    have hap5 := G5.apart (HP4.out).1 (HP4.out).2
    have hB5 : Below W2.heap.size W2 W5 := (HB4.out).trans (G5.below hs4 (fun g hg => ((HO4.out).lt g hg).1))
    have hs5 : W2.heap.size ≤ W5.heap.size := hB5.size
    have HC6 := hide (append_calls2 q1 na d1 (pre ng).length W2.heap.size _ (pre ng) xs W5 Hxl.out (by omega) (by omega) (HVa.out.below hB5).at_ hp5.1 hs5 HVa.out.old)
    have HO5 := hide o5
    have HP5 := hide hp5
    have HA5 := hide hap5
    have HB5 := hide hB5
    clear o5 G5 hp5 hap5 hB5 HC5 HO4 HP4 HB4
    go_wp2_with fail
    refine (HC6.out).mono ?_
    rintro e W6 ⟨v6, rfl, o6, G6⟩
    rw [Hxl.out] at o6
    have hp6 := G6.other HO5.out HA5.out
    have hB6 : Below W2.heap.size W2 W6 := (HB5.out).trans (G6.below hs5 (fun g hg => ((HP5.out).1.lt g hg).1))
    have hs6 : W2.heap.size ≤ W6.heap.size := hB6.size
    have HC7 := hide (append_calls2 q2 nb d2 ((pre ng).length + na) W2.heap.size v6 (pre ng ++ xs) ys W6 Hyl.out (by omega) (by omega) (HVb.out.below hB6).at_ o6 hs6 HVb.out.old)
    have HO6 := hide o6
    have HP6 := hide hp6
    have HB6 := hide hB6
    clear o6 G6 hp6 hB6 HC6 HO5 HP5 HA5 HB5
    go_wp2_with fail
    refine (HC7.out).mono ?_
    rintro e W7 ⟨v7, rfl, o7, G7⟩
    rw [Hyl.out] at o7
    have hp7 := G7.other (HP6.out).1 (HP6.out).2
    have hB7 : Below W2.heap.size W2 W7 := (HB6.out).trans (G7.below hs6 (fun g hg => ((HO6.out).lt g hg).1))
    have hs7 : W2.heap.size ≤ W7.heap.size := hB7.size
    have HO7 := hide o7
    have HP7 := hide hp7
    have HB7 := hide hB7
    clear o7 G7 hp7 hB7 HC7 HO6 HP6 HB6
    have hxe : ∀ u ∈ [Value.int .u8 101, Value.int .u8 45], u.oneCell' = true := by intro u hu; simp at hu; rcases hu with rfl | rfl <;> rfl
    go_wp2_with (at_builtin; refine wpList_app _ rfl (.tmp 74) (.tmp 75) rfl W2.heap.size _ _ _ rfl ((HO7.out).alloc _) ⟨W7.heap.size, 0, none⟩ 2 2 [.int .u8 101, .int .u8 45] rfl rfl (cell_two_new _ _ _ _) hxe (by omega) (by simp; omega) ?_)
    intro v8 W8 o8 g8 n8
    have G8 := (Grew.still v7 ((Below.refl W7.heap.size W7).alloc (Nat.le_refl _) (.cells #[.int .u8 101, .int .u8 45] 5))).trans (Grew.app g8 (by simpa using n8))
    have hp8 := G8.other (HP7.out).1 (HP7.out).2
    have hB8 : Below W2.heap.size W2 W8 := (HB7.out).trans (G8.below hs7 (fun g hg => ((HO7.out).lt g hg).1))
    have hs8 : W2.heap.size ≤ W8.heap.size := hB8.size
    have e8 : ∀ l, cellsB l ++ [Value.int .u8 101, Value.int .u8 45] = cellsB (l ++ [101, 45]) := fun l => by
      simp only [cellsB, List.map_append, List.map_cons, List.map_nil]
      rfl
    rw [e8] at o8
    have HC9 := hide (appendInt_calls ((pre ng).length + na + nb + 2) W2.heap.size nb v8 (pre ng ++ (xs ++ ys) ++ [101, 45]) W8 (by omega) (by omega) o8 hs8)
    have HO8 := hide o8
    have HP8 := hide hp8
    have HB8 := hide hB8
    clear o8 g8 n8 G8 hp8 hB8 e8 HO7 HP7 HB7
    go_wp2_with fail
    refine (HC9.out).mono ?_
    rintro e W9 ⟨v9, tl, rfl, o9, G9, htl1, htl2, htl3, htl4⟩
    have hp9 := G9.other (HP8.out).1 (HP8.out).2
    have hB9 : Below W2.heap.size W2 W9 := (HB8.out).trans (G9.below hs8 (fun g hg => ((HO8.out).lt g hg).1))
    obtain ⟨qt, dt, rfl, hVt⟩ := owns_v hp9.1 (by omega)
    obtain ⟨qu, du, rfl, hVu⟩ := owns_v o9 (by omega)
    have HB9 := hide ((HB2.out).trans (hB9.mono (HB2.out).size))
    have HC10 := hide (zzParse_calls qt _ dt _ W9 hVt)
    have HVu := hide hVu
    clear o9 G9 hp9 hB9 hVt hVu HC9 HO8 HP8 HB8 HB2
    obtain ⟨n, e, z0, z1, y0, y1, hf1, hf2, htr, hz, hy⟩ := shift_law ng xs ys
    have hN1 : pn (pre ng ++ xs ++ [46] ++ ys) = ⟨n, z0, z1, e, true⟩ := by
      have hp := parts_point ng xs ys Hda.out Hdb.out (by rw [Hxl.out]; omega) (by rw [Hyl.out]; omega)
      rw [show pre ng ++ xs ++ [46] ++ ys = pre ng ++ xs ++ 46 :: ys by simp, pn_is, hp.1, hp.2]
      exact hf1
    have hN2 : pn (pre ng ++ (xs ++ ys) ++ [101, 45] ++ tl) = ⟨n, y0, y1, e, true⟩ := by
      have hp := parts_exp ng (xs ++ ys) tl nb (by rw [List.all_append, Hda.out, Hdb.out]; rfl) (by rw [List.length_append, Hxl.out]; omega) htl1 htl2 htl4 (by omega)
      rw [show pre ng ++ (xs ++ ys) ++ [101, 45] ++ tl = pre ng ++ (xs ++ ys) ++ 101 :: 45 :: tl by simp, pn_is, hp.1, hp.2, ← Hyl.out]
      exact hf2
    unfold Post10 at HC10
    rw [hN1] at HC10
    have HC11 := hide (fun (W : World) (hv : V W W.heap.size qu ((pre ng).length + na + nb + 2 + tl.length) du (pre ng ++ (xs ++ ys) ++ [101, 45] ++ tl)) => zzParse_calls qu ((pre ng).length + na + nb + 2 + tl.length) du (pre ng ++ (xs ++ ys) ++ [101, 45] ++ tl) W hv)
    unfold Post10 at HC11
    rw [hN2] at HC11
    rw [Hxl.out, Hyl.out] at hz hy
    have HTR := hide htr
    clear hf1 hf2 htr hN1 hN2 htl1 htl2 htl3 htl4 HVa HVb Hda Hdb
    go_wp2_with fail
    refine (HC10.out).mono ?_
    rintro e1 W10 ⟨w0, w1, rfl, s0, s1, B10⟩
    have HC12 := hide (HC11.out W10 (HVu.out.on B10))
    have S0' := hide s0
    have S1' := hide s1
    have HB10 := hide ((HB9.out).trans (B10.mono (HB9.out).size))
    clear HC10 HC11 HVu HB9 s0 s1 B10
    go_wp2_with fail
    refine (HC12.out).mono ?_
    rintro e2 W11 ⟨r0, r1, rfl, t0, t1, B11⟩
    obtain ⟨p0, c0, rfl, k0⟩ := ((S0'.out).below B11).v (by show z0.length ≤ _; omega)
    obtain ⟨p1, cc1, rfl, k1⟩ := ((S1'.out).below B11).v (by show z1.length ≤ _; omega)
    obtain ⟨p2, cc2, rfl, k2⟩ := t0.v (by show y0.length ≤ _; omega)
    obtain ⟨p3, cc3, rfl, k3⟩ := t1.v (by show y1.length ≤ _; omega)
    have HB11 := hide ((HB10.out).trans (B11.mono (HB10.out).size))
    have K2 : Hid (V W11 W11.heap.size p2 y0.length cc2 y0) := k2
    have K3 : Hid (V W11 W11.heap.size p3 y1.length cc3 y1) := k3
    have HC13 : Hid (Calls Tryd.prog 12 #[.slice p0 z0.length c0, .slice p1 z1.length cc1] W11 _) := concat_calls p0 p1 z0.length z1.length c0 cc1 z0 z1 W11 rfl rfl (by omega) (by omega) k0.at_ k1.at_ k0.old k1.old
    have HC14 := hide (fun (W : World) (hv2 : V W W.heap.size p2 y0.length cc2 y0) (hv3 : V W W.heap.size p3 y1.length cc3 y1) => concat_calls p2 p3 y0.length y1.length cc2 cc3 y0 y1 W rfl rfl (by omega) (by omega) hv2.at_ hv3.at_ hv2.old hv3.old)
    clear HC12 S0' S1' HB10 t0 t1 B11 k0 k1 k2 k3
    simp only
    go_wp2_with fail
    refine (HC13.out).mono ?_
    rintro e3 W12 ⟨v12, rfl, o12, B12⟩
    obtain ⟨q12, d12, rfl, hv12⟩ := owns_v o12 (by omega)
    have HC15 := hide (trimRZ_calls q12 _ d12 _ W12 W12.heap.size hv12)
    have HC16 := hide (HC14.out W12 (K2.out.on B12) (K3.out.on B12))
    have HB12 := hide ((HB11.out).trans (B12.mono (HB11.out).size))
    clear o12 B12 hv12 HC13 HC14 HB11 K2 K3
    go_wp2_with fail
    refine (HC15.out).mono ?_
    rintro e4 w4 ⟨m4, rfl, hv4, rfl⟩
    have HV4 := hide hv4
    clear hv4 HC15
    go_wp2_with fail
    refine (HC16.out).mono ?_
    rintro e5 W13 ⟨v13, rfl, o13, B13⟩
    obtain ⟨q13, d13, rfl, hv13⟩ := owns_v o13 (by omega)
    have HC17 := hide (trimRZ_calls q13 _ d13 _ W13 W13.heap.size hv13)
    have HV5 := hide (HV4.out.on B13)
    have HB13 := hide ((HB12.out).trans (B13.mono (HB12.out).size))
    clear o13 B13 hv13 HC16 HB12 HV4
    go_wp2_with fail
    refine (HC17.out).mono ?_
    rintro e6 w6 ⟨m6, rfl, hv6, rfl⟩
    have HC18 := hide (equal_calls q12 q13 m4 m6 d12 d13 _ _ w6 HV5.out.len hv6.len (by have := HV5.out.small; omega) (by have := hv6.small; omega) HV5.out.at_ hv6.at_)
    rw [HTR.out] at HC18
    rw [beq_self_eq_true] at HC18
    clear hv6 HC17 HV5
    go_wp2_with fail
    refine (HC18.out).mono ?_
    rintro e7 w7 ⟨rfl, k7, rfl⟩
    go_wp2
    go_ret
    exact ⟨rfl, below_drewN HB13.out k7⟩

end Go.Proofs.Qxb6602005aDoor
