import Derived.Test.Qxb6602005aDoorParse
namespace Go.Proofs.Qxb6602005aDoor
open Go.RowKit
set_option linter.unusedSimpArgs false
set_option maxRecDepth 100000

theorem SL.below {w w' : World} {v : Value} {bs : List UInt8} (h : SL w v bs) (hB : Below w.heap.size w w') : SL w' v bs := by
  obtain ⟨p, c, rfl, h1, h2, h3, h4⟩ := h
  exact ⟨p, c, rfl, h1, h2, h3.below hB, fun b o s e => Nat.lt_of_lt_of_le (h4 b o s e) hB.size⟩

theorem results10 (tmps : Array Value) (W : World) : (results Tryd.f10 tmps).run Tryd.prog W = .ok (.tuple #[tmps.getD 2 undef, tmps.getD 3 undef, tmps.getD 4 undef, tmps.getD 5 undef, tmps.getD 6 undef]) W := by
  have h : Tryd.f10.results = #[.tmp 2, .tmp 3, .tmp 4, .tmp 5, .tmp 6] := by rfl
  simp only [results, h]
  simp [Sem.run_bind, Result.andThen]

def Post10 (bs : List UInt8) (w : World) (e : Ending) (w' : World) : Prop :=
  ∃ v0 v1, e = .returned (.tuple #[.bool (pn bs).neg, v0, v1, .int .i64 (pn bs).exp, .bool (pn bs).ok]) ∧ SL w' v0 (pn bs).d0 ∧ SL w' v1 (pn bs).d1 ∧ Below w.heap.size w w'

set_option maxHeartbeats 1000000 in
theorem zzParse_calls (p : Option Addr) (n c : Nat) (bs : List UInt8) (w : World) (hV : V w w.heap.size p n c bs) :
    Calls Tryd.prog 10 #[.slice p n c] w fun e w' => Post10 bs w e w' := by
  have HC := hide (parse_calls p n c bs w hV)
  clear hV
  go_enter Tryd.func10, Tryd.ntmps10
  go_wp2_with fail
  refine (HC.out).mono ?_
  rintro e w' ⟨v0, v1, rfl, h0, h1, hB⟩
  have H0 := hide h0
  have H1 := hide h1
  have HB := hide hB
  obtain ⟨q0, c0, rfl, _⟩ := h0
  obtain ⟨q1, c1, rfl, _⟩ := h1
  clear hB HC
  go_wp2
  go_quiet (fail)
  go_wp2
  refine bodyPost_ret (results10 _ _) rfl ?_
  have hb2 := below_drewN ((Below.refl w'.heap.size w').alloc (Nat.le_refl _) (Obj.cells #[Value.bool (pn bs).neg, Value.slice q0 (pn bs).d0.length c0, Value.slice q1 (pn bs).d1.length c1, Value.int IntKind.i64 (pn bs).exp] 45)) nq
  exact ⟨_, _, rfl, (H0.out).below hb2, (H1.out).below hb2, (HB.out).trans (hb2.mono (HB.out).size)⟩

end Go.Proofs.Qxb6602005aDoor
