/- 'dns.CanonicalName': strings.Map by the shelf's contract (at any string), where the tables of utf8 are laid. -/
import Derived.Test.YtiilihafcdmccaaDoorBase
import Derived.Test.YtiilihafcdmccaaDoorFqdn
import Derived.Test.YtiilihafcdmccaaDoorPF50
import Derived.Test.YtiilihafcdmccaaDoorShMap
import Derived.Lib.LaidU8
namespace Go.Proofs.YtiilihafcdmccaaDoor.P
open Go.RowKit Go.Proofs.YtiilihafcdmccaaDoorW.PrintWords Go.Proofs.YtiilihafcdmccaaDoorW.PrintLast Go.Proofs.YtiilihafcdmccaaDoorW.PrintMore
set_option linter.unusedVariables false
set_option linter.unusedSimpArgs false

/-- The tables of utf8 are laid. -/
def GoodT (w : World) : Prop := Lib.Utf8Tabs 7 8 w
theorem GoodT.below {w w' : World} (h : GoodT w) (hb : Below w.heap.size w w') : GoodT w' :=
  ⟨fun c hc => (hb.cell (World.block_lt_of_cell? w _ (h.1 c hc))).trans (h.1 c hc), fun i hi => ⟨(hb.cell (World.block_lt_of_cell? w _ (h.2 i hi).1)).trans (h.2 i hi).1, (hb.cell (World.block_lt_of_cell? w _ (h.2 i hi).2)).trans (h.2 i hi).2⟩⟩

def lowR (x : Int) : Int := if 65 ≤ x ∧ x ≤ 90 then x + 32 else x
set_option maxHeartbeats 1000000 in
theorem canon_low (x : Int) (w : World) (h0 : 0 ≤ x) (h1 : x ≤ 1114111) : Calls Tryd.prog 81 #[.int .i32 x] w fun e w' => e = .returned (.int .i32 (lowR x)) ∧ w' = w := by
  unfold lowR
  by_cases c1 : 65 ≤ x
  · have c1b : decide (65 ≤ x) = true := decide_eq_true c1
    by_cases c2 : x ≤ 90
    · have c2b : decide (x ≤ 90) = true := decide_eq_true c2
      rw [if_pos ⟨c1, c2⟩]
      go_enter Tryd.func81, Tryd.ntmps81
      go_wp2
      go_ret
      exact ⟨by first | rfl | (simp; omega), rfl⟩
    · have c2b : decide (x ≤ 90) = false := decide_eq_false c2
      rw [if_neg (by omega)]
      go_enter Tryd.func81, Tryd.ntmps81
      go_wp2
      go_ret
      exact ⟨rfl, rfl⟩
  · have c1b : decide (65 ≤ x) = false := decide_eq_false c1
    rw [if_neg (by omega)]
    go_enter Tryd.func81, Tryd.ntmps81
    go_wp2
    go_ret
    exact ⟨rfl, rfl⟩

def dns_CanonicalName.f (s : ByteArray) : Option ByteArray := (dns_Fqdn.f s).bind fun t => if t.size < 35184372088832 then some ⟨(Lib.mapD lowR t.data.toList).toArray⟩ else none
theorem dns_CanonicalName.calls (a0 : ByteArray) (r : ByteArray) (w : World) (hG : GoodT w) (h : dns_CanonicalName.f a0 = some r) :
    Calls Tryd.prog 59 #[.string a0] w fun e w' => e = .returned (.string r) ∧ Below w.heap.size w w' := by
  obtain ⟨t, h1, h2⟩ := Option.bind_eq_some_iff.mp h
  by_cases hs : t.size < 35184372088832
  · rw [if_pos hs] at h2
    obtain rfl := Option.some.inj h2
    have hG' := Aside0.mk hG
    clear h2
    go_enter Tryd.func59, Tryd.ntmps59
    go_wp2_with (first
      | ((with_reducible refine gate_callee (f := 50) rfl ?_); refine goesL_ (some 4) rfl rfl Tryd.func50 (by kernel_rfl) rfl #[.string a0] rfl (by (try simp only [List.map_toArray, List.map_cons, List.map_nil]); first | done | rfl) ?_; (with_reducible refine (dns_Fqdn.calls a0 t _ h1).mono ?_); rintro e w' ⟨rfl, ⟨nd, rfl⟩⟩; refine ⟨_, rfl, ?_⟩)
      | ((with_reducible refine gate_callee (f := 80) rfl ?_); refine goesL_ (some 5) rfl rfl Tryd.func80 (by kernel_rfl) rfl #[.func (.func 81) #[] #[], .string t] rfl (by (try simp only [List.map_toArray, List.map_cons, List.map_nil]); first | done | rfl) ?_;
         (with_reducible refine (Tryd.strings_Map_runes 81 #[] ?eg lowR t _ hs ?hf ?hnn ?hT).mono ?_);
         (case eg => exact enters_of Tryd.func81 (by kernel_rfl) rfl);
         (case hf => exact fun W x hx _ => (canon_low x W (by omega) (by omega)).mono fun e w' ⟨h1, h2⟩ => ⟨h1, 0, h2.trans (World.drewN_zero W).symm⟩);
         (case hnn => intro x hx; unfold lowR; split <;> omega);
         (case hT => exact GoodT.below hG'.out (by repeat (first | (with_reducible first | exact Below.refl _ _ | apply below_alloc | apply pw_below_drewN | apply below_drew1) | exact Below.refl _ _)));
         rintro e w'' ⟨rfl, hb⟩; refine ⟨_, rfl, ?_⟩))
    go_ret
    exact ⟨rfl, below_step (by repeat (first | (with_reducible first | exact Below.refl _ _ | apply below_alloc | apply pw_below_drewN | apply below_drew1) | exact Below.refl _ _)) hb⟩
  · rw [if_neg hs] at h2
    cases h2

end Go.Proofs.YtiilihafcdmccaaDoor.P
