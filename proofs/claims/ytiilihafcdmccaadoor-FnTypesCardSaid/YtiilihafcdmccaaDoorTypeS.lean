/- '(dns.Type).String' at a type that the table names; the table is laid. -/
import Derived.Test.YtiilihafcdmccaaDoorBase
import Derived.Test.YtiilihafcdmccaaDoorRows
import Derived.Maps.OwnSet
import Derived.Maps.StringElems
import Derived.WalkSpells
import Derived.Lib.LaidU8
namespace Go.Proofs.YtiilihafcdmccaaDoor.P
open Go.Maps Go.RowKit Go.Proofs.YtiilihafcdmccaaDoorW.PrintWords Go.Proofs.YtiilihafcdmccaaDoorW.PrintLast Go.Proofs.YtiilihafcdmccaaDoorW.PrintMore
set_option linter.unusedVariables false
set_option linter.unusedSimpArgs false

def tyD : DataW Unit := Rows.laid_domainrecords_pub_dns_TypeToString
/-- The table of the types' names is laid. -/
def GoodM (w : World) : Prop := ∃ b n, w.cell? ⟨3, 0, none⟩ = some (.map (some b)) ∧ w.ownsMap Tryd.prog 55 (plainElem Tryd.prog 9) b n tyD
theorem GoodM.below {w w' : World} (h : GoodM w) (hb : Below w.heap.size w w') : GoodM w' := by
  obtain ⟨b, n, h1, es, clock, h2, h3, h4, h5⟩ := h
  refine ⟨b, n, (hb.cell (World.block_lt_of_cell? w _ h1)).trans h1, es, clock, (hb.block b (Array.getElem?_eq_some_iff.1 h2).1).trans h2, h3, h4, h5⟩
theorem keyed16 : Keyed Tryd.prog 55 := int_keyed Tryd.underlying55
set_option maxRecDepth 100000
set_option maxHeartbeats 2000000
theorem types_any (t : Int) (s : ByteArray) (w : World) (h0 : 0 ≤ t) (h1 : t ≤ 65535) (hG : GoodM w) (hat : tyD.atKey (.int .u16 t) (.lit (.string [])) = .lit (.string s.data.toList)) (hhas : Maps.has tyD (.int .u16 t) = true) :
    Calls Tryd.prog 65 #[.int .u16 t] w fun e w' => e = .returned (.string s) ∧ w' = w := by
  obtain ⟨b, n, hc, hown0⟩ := hG
  have hown := Aside0.mk hown0
  clear hown0
  have hkey : keyOf Tryd.prog 55 (.int .u16 t) = some (.int .u16 t) := keyOf_int_mk Tryd.underlying55 (by simp [Lit.wf]; rw [show IntKind.u16.min = 0 from rfl, show IntKind.u16.max = 65535 from rfl]; omega)
  go_enter Tryd.func65, Tryd.ntmps65
  go_wp2_with (first | (at_lookup; refine wpList_lookup_own_ok _ rfl _ _ 110 rfl 55 9 keyed16 Tryd.underlying110 _ (z := .string ⟨#[]⟩) (by kernel_rfl) (.lit (.string [])) [] (by kernel_rfl) b n tyD rfl hown.out _ _ rfl hkey ?_; intro v ps hv; rw [hat] at hv; rw [hhas]; obtain ⟨s2, rfl, he, _⟩ := plainElem_string_inv Tryd.underlying9 hv; (have hs2 : s2 = s := ByteArray.ext (Array.ext' (by simpa using (congrArg Prod.fst he).symm))); subst hs2; clear he hv))
  go_ret
  exact ⟨rfl, rfl⟩

end Go.Proofs.YtiilihafcdmccaaDoor.P
