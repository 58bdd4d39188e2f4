/- What the walks ask of the package's errors, and what keeps it. -/
import Derived.Test.YtiilihafcdmccaaDoorBase
namespace Go.Proofs.YtiilihafcdmccaaDoor.P
open Go.RowKit Go.Proofs.YtiilihafcdmccaaDoorW.PrintWords Go.Proofs.YtiilihafcdmccaaDoorW.PrintLast Go.Proofs.YtiilihafcdmccaaDoorW.PrintMore
set_option linter.unusedVariables false

/-- The package's errors are laid: the cells hold something that is not nil. -/
def GoodU (w : World) : Prop := ∃ t0 x0 t1 x1 t2 x2, w.cell? ⟨0, 0, none⟩ = some (.iface t0 x0) ∧ w.cell? ⟨1, 0, none⟩ = some (.iface t1 x1) ∧ w.cell? ⟨2, 0, none⟩ = some (.iface t2 x2)
theorem GoodU.below {w w' : World} (h : GoodU w) (hb : Below w.heap.size w w') : GoodU w' := by
  obtain ⟨t0, x0, t1, x1, t2, x2, h0, h1, h2⟩ := h
  exact ⟨t0, x0, t1, x1, t2, x2, (hb.cell (World.block_lt_of_cell? w _ h0)).trans h0, (hb.cell (World.block_lt_of_cell? w _ h1)).trans h1, (hb.cell (World.block_lt_of_cell? w _ h2)).trans h2⟩
/-- An error that is nil or not. -/
def ErrV : Option Int → Value → Prop
  | none, v => v = .nilIface
  | some _, v => ∃ t x, v = .iface t x

end Go.Proofs.YtiilihafcdmccaaDoor.P
