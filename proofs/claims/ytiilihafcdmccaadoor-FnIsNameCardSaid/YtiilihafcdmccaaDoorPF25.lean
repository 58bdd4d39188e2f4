-- Written by a program of this session (wip/tools/pprint.py) out of the translation: it goes by the kit's print and by the contracts of YtiilihafcdmccaaDoorHand. Not trusted: Lean checks it.
import Derived.Test.YtiilihafcdmccaaDoorP0
import Derived.Test.YtiilihafcdmccaaDoorPF53
namespace Go.Proofs.YtiilihafcdmccaaDoor.P
open Go.RowKit Go.Proofs.YtiilihafcdmccaaDoorW.PrintWords Go.Proofs.YtiilihafcdmccaaDoorW.PrintLast Go.Proofs.YtiilihafcdmccaaDoorW.PrintMore
attribute [local go_sem] max2_int min2_int max_two min_two max_three min_three max_four min_four   -- for this text's walks alone
set_option linter.unusedVariables false
set_option linter.unusedSimpArgs false

/-! ### impl_IsName: function 25 -/
def impl_IsName.f (k : Nat) (a0 : ByteArray) : Option (Int × Bool) := (dns_IsDomainName.f k a0).bind fun bt152 => (some (bt152.1, bt152.2))
theorem impl_IsName.mono : ∀ a0 k, LeO (impl_IsName.f k a0) (impl_IsName.f (k + 1) a0) := by
  intro a0 k
  unfold impl_IsName.f
  repeat' first
      | (with_reducible exact dns_IsDomainName.mono _ _)
      | (with_reducible exact LeO.refl _)
      | (with_reducible exact LeO.none _)
      | (with_reducible refine LeO.ite ?_ ?_)
      | (with_reducible refine LeO.bind ?_ (fun _ => ?_))
      | exact dns_IsDomainName.mono _ _
      | exact LeO.none _
      | refine LeO.ite ?_ ?_
      | refine LeO.bind ?_ (fun _ => ?_)
set_option maxHeartbeats 8000000 in
set_option maxRecDepth 100000 in
theorem impl_IsName.calls (k : Nat) (a0 : ByteArray) (r1 : Int) (r2 : Bool) (w : World) (h : impl_IsName.f k a0 = some (r1, r2)) :
    Calls Tryd.prog 25 #[.string a0] w fun e w' => e = .returned (.tuple #[.int .i64 r1, .bool r2]) ∧ Drawn0 w w' := by
  have H : ((dns_IsDomainName.f k a0).bind fun bt152 => (some (bt152.1, bt152.2))) = some (r1, r2) := h
  clear h
  replace H := Option.bind_eq_some_iff.mp H
  obtain ⟨⟨t152, t153⟩, A20, H⟩ := H
  replace H : (some (t152, t153)) = some (r1, r2) := H
  have A2 := Aside0.mk A20
  clear A20
  simp only [Option.some.injEq, Prod.mk.injEq] at H
  obtain ⟨rfl, rfl⟩ := H
  go_enter Tryd.func25, Tryd.ntmps25
  go_wp2_with (first | ((with_reducible refine gate_callee (f := 53) rfl ?_); refine goesL_ (some 5) rfl rfl Tryd.func53 (by kernel_rfl) rfl #[.string a0] rfl (by (try simp only [List.map_toArray, List.map_cons, List.map_nil]); first | done | rfl | (simp only [List.length_drop, List.length_take]; rfl)) ?_; (with_reducible refine (dns_IsDomainName.calls k a0 t152 t153 _ A2.out).mono ?_); rintro e w' ⟨rfl, ⟨nd, rfl⟩⟩; refine ⟨_, rfl, ?_⟩))
  go_ret2
  exact ⟨by first | rfl | (simp; done) | (simp [*]; done) | (simp [wrap64]; done), by repeat (first | exact Drawn0.refl _ | apply Drawn0.step)⟩

end Go.Proofs.YtiilihafcdmccaaDoor.P
