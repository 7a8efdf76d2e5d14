import Derived.Test.Qxb6602005aDoorExp
import Derived.Laws.ResultCell
namespace Go.Proofs.Qxb6602005aDoor
open Go.RowKit
set_option linter.unusedSimpArgs false
set_option maxRecDepth 100000

theorem results27 (tmps : Array Value) (N : Nat) (v0 v1 v2 v3 vb : Value) (W : World) (h2 : tmps.getD 2 undef = .pointer (some ⟨N, 0, none⟩)) (h3 : tmps.getD 3 undef = vb)
    (c0 : W.cell? ⟨N, 0, none⟩ = some v0) (c1 : W.cell? ⟨N, 1, none⟩ = some v1) (c2 : W.cell? ⟨N, 2, none⟩ = some v2) (c3 : W.cell? ⟨N, 3, none⟩ = some v3) :
    (results Tryd.f27 tmps).run Tryd.prog W = .ok (.tuple #[.agg #[v0, v1, v2, v3], vb]) W := by
  rw [results_cell_tmp (p := 2) (u := 3) (ty := 45) (by rfl), h2, h3]
  simp [go_sem, c0, c1, c2, c3]
theorem ret27 {tmps : Array Value} {post : Ending → World → Prop} (N : Nat) (v0 v1 v2 v3 vb : Value) (W : World) (h2 : tmps.getD 2 undef = .pointer (some ⟨N, 0, none⟩)) (h3 : tmps.getD 3 undef = vb)
    (c0 : W.cell? ⟨N, 0, none⟩ = some v0) (c1 : W.cell? ⟨N, 1, none⟩ = some v1) (c2 : W.cell? ⟨N, 2, none⟩ = some v2) (c3 : W.cell? ⟨N, 3, none⟩ = some v3)
    (hp : post (.returned (.tuple #[.agg #[v0, v1, v2, v3], vb])) W) : bodyPost Tryd.prog Tryd.f27 post Exit.ret { tmps := tmps, defers := [] } W :=
  bodyPost_ret (v := .tuple #[.agg #[v0, v1, v2, v3], vb]) (results27 tmps N v0 v1 v2 v3 vb W h2 h3 c0 c1 c2 c3) rfl hp
end Go.Proofs.Qxb6602005aDoor
