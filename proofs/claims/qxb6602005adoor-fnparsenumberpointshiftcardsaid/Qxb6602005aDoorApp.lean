import Derived.Test.Qxb6602005aDoorMatch
import Derived.Lib.SmallJoins
namespace Go.Proofs.Qxb6602005aDoor
open Go.RowKit
set_option linter.unusedSimpArgs false
set_option maxRecDepth 100000

/-- An append of bytes onto a slice of the call's own: WHERE the new value lies: in the old row, or in a new block. -/
theorem run_app (w : World) (base : Nat) (ty : TypeId) (v : Value) (n : Nat) (xs : List Value) (hown : w.ownsRow base 5 1 v n xs) (a : Addr) (m c : Nat) (news : List Value) (hl : news.length = m)
    (hnews : ∀ j u, news[j]? = some u → w.cell? (a.add j) = some u) (h1 : ∀ u ∈ news, u.oneCell' = true) (hnm : n + m ≤ 4294967296) (hbase : base ≤ w.heap.size) :
    ∃ v' w', (Builtin.append_ #[22, 22] ty #[v, .slice (some a) m c]).run Tryd.prog w = .ok v' w' ∧ w'.ownsRow base 5 1 v' (n + m) (xs ++ news) ∧ w.grownBy w' v.ownBlock ∧
      ∀ g, v'.ownBlock = some g → v.ownBlock = some g ∨ w.heap.size ≤ g := by
  obtain ⟨i0, hi, hz0, hz1, hz2⟩ := info_parts Tryd.info5
  have h63 : n + m ≤ maxLen := by unfold maxLen; omega
  obtain ⟨v', w', hr, h2, h3, _⟩ := run_append_own (P := Tryd.prog) w base 22 ty 5 i0 (.int .u8 0) 1 1 Tryd.underlying22 hi hz0 hz1 hz2 rfl (by decide) v n xs hown a m c news (by omega) hnews h1 h63 (by omega) hbase
  refine ⟨v', w', hr, h2, h3, fun g hg => ?_⟩
  rcases hown.2 with ⟨rfl, rfl⟩ | ⟨g1, cap, cur, rfl, _, hb1, _⟩
  · have hx : xs = [] := List.eq_nil_of_length_eq_zero (by simpa using hown.1)
    subst hx
    obtain ⟨v2, w2, hr2, h22, _⟩ := run_append_own (P := Tryd.prog) w w.heap.size 22 ty 5 i0 (.int .u8 0) 1 1 Tryd.underlying22 hi hz0 hz1 hz2 rfl (by decide) _ 0 [] (World.ownsRow_nil _ _ _ _) a m c news (by omega) hnews h1 h63 (by omega) (Nat.le_refl _)
    rw [hr] at hr2
    cases hr2
    exact .inr (h22.lt g hg).1
  · by_cases hroom : n + m ≤ cap
    · obtain ⟨w2, hr2, _⟩ := run_append_fits (P := Tryd.prog) w base 22 ty 5 i0 1 Tryd.underlying22 hi hz1 g1 n cap xs hown a m c news (by omega) hnews h1 hroom
      rw [hr] at hr2
      cases hr2
      exact .inl hg
    · have holds : ∀ j u, xs[j]? = some u → w.cell? ((⟨g1, 0, none⟩ : Addr).add j) = some u := hown.cells (g := g1) rfl
      have hr2 := run_append_grow (P := Tryd.prog) w 22 ty 5 i0 (.int .u8 0) Tryd.underlying22 hi hz0 ⟨g1, 0, none⟩ n cap xs (by rw [hz1]; exact hown.1) holds a m c news (by rw [hz1]; omega) hnews (by omega) (by omega) (growslice_fits (by omega) (by rw [hz2]; omega))
      rw [hr] at hr2
      cases hr2
      right
      have e : w.heap.size = g := by simpa [Value.ownBlock] using hg
      omega

theorem wpList_app (w : World) {ops : Array Oper} {rest : List Oper} {o : Oper} {a : Act} {Q : Exit → Act → World → Prop} (hgd : o.guard = none) (s x : Operand)
    (ho : o.op = .call { callee := .builtin .append, args := #[s, x], argTypes := #[22, 22] })
    (base : Nat) (v : Value) (n : Nat) (xs : List Value) (hs : a.eval s = v) (hown : w.ownsRow base 5 1 v n xs)
    (ad : Addr) (m c : Nat) (news : List Value) (hx : a.eval x = .slice (some ad) m c) (hl : news.length = m) (hnews : ∀ j u, news[j]? = some u → w.cell? (ad.add j) = some u) (h1 : ∀ u ∈ news, u.oneCell' = true)
    (hnm : n + m ≤ 4294967296) (hbase : base ≤ w.heap.size)
    (h : ∀ v' w', w'.ownsRow base 5 1 v' (n + m) (xs ++ news) → w.grownBy w' v.ownBlock → (∀ g, v'.ownBlock = some g → v.ownBlock = some g ∨ w.heap.size ≤ g) → wpList Tryd.prog ops Q rest (a.put o.dst v') w') : wpList Tryd.prog ops Q (o :: rest) a w := by
  refine wpList_plain hgd fun K hK => ?_
  obtain ⟨v', w', hr, h2, h3, h4⟩ := run_app w base o.type v n xs hown ad m c news hl hnews h1 hnm hbase
  unfold Oper.wp execOp
  simp only [ho, resolve, invoke, builtin, Sem.run_bind, Sem.run_pure, Result.andThen_ok, List.map_toArray, List.map_cons, List.map_nil, hs, hx, hr]
  exact hK _ _ (h v' w' h2 h3 h4)

/-- From w to w' nothing has turned but the row of v; v' lies in that row or in a new block. -/
structure Grew (w w' : World) (v v' : Value) : Prop where
  os : w'.os = w.os
  tape : w'.tape = w.tape
  output : w'.output = w.output
  size : w.heap.size ≤ w'.heap.size
  keep : ∀ k, k < w.heap.size → some k ≠ v.ownBlock → w'.heap[k]? = w.heap[k]?
  own : ∀ g, v'.ownBlock = some g → v.ownBlock = some g ∨ w.heap.size ≤ g

theorem Grew.refl (w : World) (v : Value) : Grew w w v v := ⟨rfl, rfl, rfl, Nat.le_refl _, fun _ _ _ => rfl, fun _ h => .inl h⟩
theorem Grew.trans {w w1 w2 : World} {v v1 v2 : Value} (h : Grew w w1 v v1) (k : Grew w1 w2 v1 v2) : Grew w w2 v v2 :=
  ⟨k.os.trans h.os, k.tape.trans h.tape, k.output.trans h.output, Nat.le_trans h.size k.size, fun j hj hne => by
    rw [k.keep j (Nat.lt_of_lt_of_le hj h.size) (fun e => by
      rcases h.own j e.symm with h1 | h1
      · exact hne h1.symm
      · omega)]
    exact h.keep j hj hne, fun g hg => by
    rcases k.own g hg with h1 | h1
    · exact h.own g h1
    · exact .inr (Nat.le_trans h.size h1)⟩
/-- A step that leaves all blocks as they are (new ones, draws). -/
theorem Grew.still {w w1 : World} (v : Value) (h : Below w.heap.size w w1) : Grew w w1 v v :=
  ⟨h.os, h.tape, h.output, h.size, fun k hk _ => h.block k hk, fun _ h => .inl h⟩
theorem Grew.app {w w1 : World} {v v1 : Value} (h : w.grownBy w1 v.ownBlock) (h2 : ∀ g, v1.ownBlock = some g → v.ownBlock = some g ∨ w.heap.size ≤ g) : Grew w w1 v v1 :=
  ⟨h.os, h.tape, h.output, h.size, h.block, h2⟩
theorem Grew.below {w w1 : World} {v v1 : Value} {base : Nat} (h : Grew w w1 v v1) (hb : base ≤ w.heap.size) (hv : ∀ g, v.ownBlock = some g → base ≤ g) : Below base w w1 :=
  ⟨h.os, h.tape, h.output, h.size, fun k hk => h.keep k (by omega) (fun e => by have := hv k e.symm; omega)⟩
/-- Another slice's row stays, and stays another's. -/
theorem Grew.other {w w1 : World} {v v1 u : Value} {base n : Nat} {xs : List Value} (h : Grew w w1 v v1) (ho : w.ownsRow base 5 1 u n xs) (hne : ∀ g, u.ownBlock = some g → v.ownBlock ≠ some g) :
    w1.ownsRow base 5 1 u n xs ∧ ∀ g, u.ownBlock = some g → v1.ownBlock ≠ some g := by
  have hlt := ho.lt
  refine ⟨⟨ho.1, ?_⟩, fun g hg e => ?_⟩
  · rcases ho.2 with h0 | ⟨g, cap, cur, rfl, hg, hb, hc, hm, hs, ht⟩
    · exact .inl h0
    · exact .inr ⟨g, cap, cur, rfl, hg, by rw [h.keep g (hlt g rfl).2 (fun e => hne g rfl e.symm)]; exact hb, hc, hm, hs, ht⟩
  · rcases h.own g e with h1 | h1
    · exact hne g hg h1
    · have := (hlt g hg).2
      omega

def R18 (w : World) (v : Value) (base m : Nat) (ds bs : List UInt8) (s i : Value) (wr : World) : Prop :=
  ∃ k : Nat, i = .int .i64 k ∧ k ≤ bs.length ∧ wr.ownsRow base 5 1 s (m + k) (cellsB (ds ++ bs.take k)) ∧ Grew w wr v s

def Post18 (w : World) (v : Value) (base m : Nat) (ds bs : List UInt8) (e : Ending) (w' : World) : Prop :=
  ∃ v', e = .returned v' ∧ w'.ownsRow base 5 1 v' (m + bs.length) (cellsB (ds ++ bs)) ∧ Grew w w' v v'

set_option maxHeartbeats 800000 in
theorem append_calls2 (p : Option Addr) (n c m base : Nat) (v : Value) (ds bs : List UInt8) (w : World) (hb : bs.length = n) (hn : n ≤ 1073741824) (hm : m ≤ 1073741824) (h : Lib.BytesAt w p n bs)
    (hown : w.ownsRow base 5 1 v m (cellsB ds)) (hbase : base ≤ w.heap.size) (hp : ∀ b o s, p = some ⟨b, o, s⟩ → b < base) :
    Calls Tryd.prog 18 #[v, .slice p n c] w fun e w' => Post18 w v base m ds bs e w' := by
  have Hc := hide h; clear h
  have Hb := hide hb; clear hb
  have Hp := hide hp; clear hp
  have HvB := hide (fun g hg => (hown.lt g hg).1)
  go_enter Tryd.func18, Tryd.ntmps18
  go_wp2
  go_loopw [0, 5] (fun s i wr => R18 w v base m ds bs s i wr) (fun _ i _ => n - (intOf i).toNat)
  case atStart => exact ⟨0, rfl, by omega, by simpa using hown, Grew.refl _ _⟩
  case round =>
    obtain ⟨k, rfl, hk, hownr, hG⟩ := hrel
    rw [Hb.out] at hk
    clear hown
    have hB := hG.below hbase HvB.out
    rcases Nat.lt_or_ge k n with hlt | hge
    · obtain ⟨b, o, rfl, hcell⟩ := at_byte Hc.out Hb.out hlt
      have hcr : wr.cell? ⟨b, o + k, none⟩ = some (B (bs[k]'(by rw [Hb.out]; exact hlt))) := by
        rw [hB.cell (Hp.out b o none rfl)]; exact hcell
      clear hcell
      have hsz := hB.size
      have HT : Hid (cellsB (ds ++ bs.take k) ++ [B (bs[k]'(by rw [Hb.out]; exact hlt))] = cellsB (ds ++ bs.take (k + 1))) := by
        show _ = _
        rw [List.take_succ_eq_append_getElem (by rw [Hb.out]; exact hlt), ← List.append_assoc]
        simp only [cellsB, List.map_append, List.map_cons, List.map_nil]
      unfold B at hcr HT
      generalize ((bs[k]'(by rw [Hb.out]; exact hlt)).toNat) = x at *
      have HG := hide hG
      clear hB hG
      have hx1 : ∀ u ∈ [Value.int .u8 (x : Int)], u.oneCell' = true := by intro u hu; simp at hu; subst hu; rfl
      go_wp2_with (at_builtin; refine wpList_app _ rfl _ _ rfl base _ _ _ rfl (hownr.alloc _) ⟨wr.heap.size, 0, none⟩ 1 1 [.int .u8 (x : Int)] rfl rfl (cell_one_new _ _ _) hx1 (by omega) (by simp; omega) ?_)
      intro v' w1 hown' hgrow hnew
      rw [HT.out] at hown'
      have hG1 := (HG.out).trans ((Grew.still u0 ((Below.refl wr.heap.size wr).alloc (Nat.le_refl _) _)).trans (Grew.app hgrow (by simpa using hnew)))
      have HG1 := hide hG1
      clear hownr hgrow hnew hG1
      go_wp2
      go_roundw
      case rel => exact ⟨k + 1, by go_num, by rw [Hb.out]; omega, hown', HG1.out⟩
      case measure => simp [intOf]; omega
    · have e : n = k := by omega
      subst e
      rw [List.take_of_length_le (by rw [Hb.out]; omega)] at hownr
      have HG := hide hG
      clear hG
      have HO : Hid (wr.ownsRow base 5 1 u0 (m + bs.length) (cellsB (ds ++ bs))) := by rw [Hb.out]; exact hownr
      go_wp2
      go_ret
      exact ⟨_, rfl, HO.out, HG.out⟩

end Go.Proofs.Qxb6602005aDoor
