-- Written by a program of this session (wip/tools/pprint.py) out of the translation: it goes by the kit's print and by the contracts of YtiilihafcdmccaaDoorHand. Not trusted: Lean checks it.
import Derived.Test.YtiilihafcdmccaaDoorP0
import Derived.Test.YtiilihafcdmccaaDoorPF24
import Derived.Test.YtiilihafcdmccaaDoorPF17
import Derived.Test.YtiilihafcdmccaaDoorPF19
import Derived.Test.YtiilihafcdmccaaDoorPF20
import Derived.Test.YtiilihafcdmccaaDoorPF23
import Derived.Test.YtiilihafcdmccaaDoorPF25
namespace Go.Proofs.YtiilihafcdmccaaDoor.P
open Go.RowKit Go.Proofs.YtiilihafcdmccaaDoorW.PrintWords Go.Proofs.YtiilihafcdmccaaDoorW.PrintLast Go.Proofs.YtiilihafcdmccaaDoorW.PrintMore
attribute [local go_sem] max2_int min2_int max_two min_two max_three min_three max_four min_four   -- for this text's walks alone
set_option linter.unusedVariables false
set_option linter.unusedSimpArgs false

/-! ### laws_FnIsName: function 5 -/
def laws_FnIsName.j0 : Nat → ByteArray → Bool → Option (Bool)
  | 0, _, _ => none
  | k + 1, x0, x32 => if x32 = true then (some true) else ((spec_ParseName.f k x0).bind fun bt157 => ((spec_Name_Size.f k bt157.1).bind fun t162 => (if bt157.2.2 = true then ((impl_IsName.f k x0).bind fun bt163 => (if (bt163.2 == bt157.2.2) = true then (some (bt163.1 == (bt157.1.length : Int))) else (some false))) else (if t162 > 255 then (if t162 < 260 then (some true) else ((impl_IsName.f k x0).bind fun bt165 => (if (bt165.2 == bt157.2.2) = true then (some true) else (some false)))) else ((impl_IsName.f k x0).bind fun bt167 => (if (bt167.2 == bt157.2.2) = true then (some true) else (some false)))))))
def laws_FnIsName.f (k : Nat) (a0 : ByteArray) : Option (Bool) := if (a0.size : Int) > 2147483647 then (some true) else (if a0.toList = ([] : List UInt8) then (laws_FnIsName.j0 k a0 true) else (if a0.toList = ([46] : List UInt8) then (laws_FnIsName.j0 k a0 true) else ((laws_few.f a0).bind fun t154 => (if t154 = true then ((laws_ascii.f k a0).bind fun t155 => (if t155 = true then ((laws_escapes.f k a0).bind fun t156 => (laws_FnIsName.j0 k a0 (!t156))) else (laws_FnIsName.j0 k a0 true))) else (laws_FnIsName.j0 k a0 true)))))
theorem laws_FnIsName.mono_l : ∀ k, (∀ y0 y1, LeO (laws_FnIsName.j0 k y0 y1) (laws_FnIsName.j0 (k + 1) y0 y1))
  | 0 => fun _ _ r h => by simp [laws_FnIsName.j0] at h
  | k + 1 => by
    have ih0 := laws_FnIsName.mono_l k
    · intro y0 y1
      unfold laws_FnIsName.j0
      repeat' first
      | (with_reducible exact ih0 _ _)
      | (with_reducible exact impl_IsName.mono _ _)
      | (with_reducible exact laws_ascii.mono _ _)
      | (with_reducible exact laws_escapes.mono _ _)
      | (with_reducible exact spec_Name_Size.mono _ _)
      | (with_reducible exact spec_ParseName.mono _ _)
      | (with_reducible exact LeO.refl _)
      | (with_reducible exact LeO.none _)
      | (with_reducible refine LeO.ite ?_ ?_)
      | (with_reducible refine LeO.bind ?_ (fun _ => ?_))
      | exact ih0 _ _
      | exact impl_IsName.mono _ _
      | exact laws_ascii.mono _ _
      | exact laws_escapes.mono _ _
      | exact spec_Name_Size.mono _ _
      | exact spec_ParseName.mono _ _
      | exact LeO.none _
      | refine LeO.ite ?_ ?_
      | refine LeO.bind ?_ (fun _ => ?_)
theorem laws_FnIsName.mono : ∀ a0 k, LeO (laws_FnIsName.f k a0) (laws_FnIsName.f (k + 1) a0) := by
  intro a0 k
  have ih0 := laws_FnIsName.mono_l k
  unfold laws_FnIsName.f
  repeat' first
      | (with_reducible exact ih0 _ _)
      | (with_reducible exact impl_IsName.mono _ _)
      | (with_reducible exact laws_ascii.mono _ _)
      | (with_reducible exact laws_escapes.mono _ _)
      | (with_reducible exact spec_Name_Size.mono _ _)
      | (with_reducible exact spec_ParseName.mono _ _)
      | (with_reducible exact LeO.refl _)
      | (with_reducible exact LeO.none _)
      | (with_reducible refine LeO.ite ?_ ?_)
      | (with_reducible refine LeO.bind ?_ (fun _ => ?_))
      | exact ih0 _ _
      | exact impl_IsName.mono _ _
      | exact laws_ascii.mono _ _
      | exact laws_escapes.mono _ _
      | exact spec_Name_Size.mono _ _
      | exact spec_ParseName.mono _ _
      | exact LeO.none _
      | refine LeO.ite ?_ ?_
      | refine LeO.bind ?_ (fun _ => ?_)
set_option maxHeartbeats 8000000 in
set_option maxRecDepth 100000 in
theorem laws_FnIsName.calls (k : Nat) (a0 : ByteArray) (r : Bool) (w : World) (h : laws_FnIsName.f k a0 = some r) :
    Calls Tryd.prog 5 #[.string a0] w fun e w' => e = .returned (.bool r) ∧ Below w.heap.size w w' := by
  have HB := Aside0.mk (Below.refl w.heap.size w)
  have H : (if (a0.size : Int) > 2147483647 then (some true) else (if a0.toList = ([] : List UInt8) then (laws_FnIsName.j0 k a0 true) else (if a0.toList = ([46] : List UInt8) then (laws_FnIsName.j0 k a0 true) else ((laws_few.f a0).bind fun t154 => (if t154 = true then ((laws_ascii.f k a0).bind fun t155 => (if t155 = true then ((laws_escapes.f k a0).bind fun t156 => (laws_FnIsName.j0 k a0 (!t156))) else (laws_FnIsName.j0 k a0 true))) else (laws_FnIsName.j0 k a0 true)))))) = some r := h
  clear h
  by_cases c2 : (a0.size : Int) > 2147483647
  · rw [if_pos c2] at H
    have c2b0 : decide (2147483647 < (a0.size : Int)) = true := decide_eq_true c2
    have c2b1 : decide (2147483647 < a0.size) = true := decide_eq_true (by omega)
    clear c2
    obtain rfl := Option.some.inj H
    go_enter Tryd.func5, Tryd.ntmps5
    go_wp2
    go_ret
    exact ⟨by first | rfl | (simp [errW_none, errW_some] <;> rfl) | (simp [*, errW_none, errW_some] <;> rfl), by repeat (first | (with_reducible first | exact HB.out | apply below_alloc | apply pw_below_drewN | apply below_drew1) | exact HB.out)⟩
  · rw [if_neg c2] at H
    have c2b0 : decide (2147483647 < (a0.size : Int)) = false := decide_eq_false c2
    have c2b1 : decide (2147483647 < a0.size) = false := decide_eq_false (by omega)
    clear c2
    have HC3 := Aside0.mk H
    clear H
    go_enter Tryd.func5, Tryd.ntmps5
    go_upto_region 3 with (fail)
    go_cut [32] (fun v32 wc => ∃ (kq : Nat) (x32_2 : Bool), v32 = .bool x32_2 ∧ Aside0 (laws_FnIsName.j0 kq a0 x32_2 = some r) ∧ Aside0 (kq ≤ k) ∧ Aside0 (Below w.heap.size w wc))
    case first =>
      have H := HC3.out
      clear HC3
      by_cases c4 : a0.toList = ([] : List UInt8)
      · rw [if_pos c4] at H
        have c4b0 : (a0.toList == ([] : List UInt8)) = true := beq_iff_eq.mpr c4
        have c4b1 : (a0.toList != ([] : List UInt8)) = false := bne_eq_false_iff_eq.mpr c4
        clear c4
        (first | rw [c4b0] | (simp only [i64_w, i32_w]; rw [c4b0]) | skip)
        have H' := Aside0.mk H
        clear H
        go_wp2
        go_meet
        case rel => exact ⟨_, (true), (by first | rfl | (simp; done) | (simp [*]; done) | (simp [wrap64]; done)), H', ⟨by first | omega | exact Nat.le_refl _⟩, ⟨by repeat (first | (with_reducible first | exact HB.out | apply below_alloc | apply pw_below_drewN | apply below_drew1) | exact HB.out)⟩⟩
      · rw [if_neg c4] at H
        have c4b0 : (a0.toList == ([] : List UInt8)) = false := beq_eq_false_iff_ne.mpr c4
        have c4b1 : (a0.toList != ([] : List UInt8)) = true := bne_iff_ne.mpr c4
        (first | rw [c4b0] | (simp only [i64_w, i32_w]; rw [c4b0]) | skip)
        by_cases c5 : a0.toList = ([46] : List UInt8)
        · rw [if_pos c5] at H
          have c5b0 : (a0.toList == ([46] : List UInt8)) = true := beq_iff_eq.mpr c5
          have c5b1 : (a0.toList != ([46] : List UInt8)) = false := bne_eq_false_iff_eq.mpr c5
          clear c5
          have H' := Aside0.mk H
          clear H
          go_wp2
          go_meet
          case rel => exact ⟨_, (true), (by first | rfl | (simp; done) | (simp [*]; done) | (simp [wrap64]; done)), H', ⟨by first | omega | exact Nat.le_refl _⟩, ⟨by repeat (first | (with_reducible first | exact HB.out | apply below_alloc | apply pw_below_drewN | apply below_drew1) | exact HB.out)⟩⟩
        · rw [if_neg c5] at H
          have c5b0 : (a0.toList == ([46] : List UInt8)) = false := beq_eq_false_iff_ne.mpr c5
          have c5b1 : (a0.toList != ([46] : List UInt8)) = true := bne_iff_ne.mpr c5
          replace H := Option.bind_eq_some_iff.mp H
          obtain ⟨t154, A60, H⟩ := H
          replace H : (if t154 = true then ((laws_ascii.f k a0).bind fun t155 => (if t155 = true then ((laws_escapes.f k a0).bind fun t156 => (laws_FnIsName.j0 k a0 (!t156))) else (laws_FnIsName.j0 k a0 true))) else (laws_FnIsName.j0 k a0 true)) = some r := H
          have A6 := Aside0.mk A60
          clear A60
          by_cases c7 : t154 = true
          · subst c7
            have H1 : ((laws_ascii.f k a0).bind fun t155 => (if t155 = true then ((laws_escapes.f k a0).bind fun t156 => (laws_FnIsName.j0 k a0 (!t156))) else (laws_FnIsName.j0 k a0 true))) = some r := by rw [if_pos rfl] at H; exact H
            clear H
            have H := H1
            clear H1
            replace H := Option.bind_eq_some_iff.mp H
            obtain ⟨t155, A80, H⟩ := H
            replace H : (if t155 = true then ((laws_escapes.f k a0).bind fun t156 => (laws_FnIsName.j0 k a0 (!t156))) else (laws_FnIsName.j0 k a0 true)) = some r := H
            have A8 := Aside0.mk A80
            clear A80
            by_cases c9 : t155 = true
            · subst c9
              have H1 : ((laws_escapes.f k a0).bind fun t156 => (laws_FnIsName.j0 k a0 (!t156))) = some r := by rw [if_pos rfl] at H; exact H
              clear H
              have H := H1
              clear H1
              replace H := Option.bind_eq_some_iff.mp H
              obtain ⟨t156, A100, H⟩ := H
              replace H : (laws_FnIsName.j0 k a0 (!t156)) = some r := H
              have A10 := Aside0.mk A100
              clear A100
              have H' := Aside0.mk H
              clear H
              go_wp2_with (first | (go_at_call 19; (with_reducible refine (laws_few.calls a0 true _ A6.out).mono ?_); rintro e w' ⟨rfl, ⟨nd, rfl⟩⟩) | (go_at_call 20; (with_reducible refine (laws_ascii.calls k a0 true _ A8.out).mono ?_); rintro e w' ⟨rfl, ⟨nd, rfl⟩⟩) | (go_at_call 23; (with_reducible refine (laws_escapes.calls k a0 t156 _ A10.out).mono ?_); rintro e w' ⟨rfl, ⟨nd, rfl⟩⟩))
              go_meet
              case rel => exact ⟨_, (!t156), (by first | rfl | (simp; done) | (simp [*]; done) | (simp [wrap64]; done)), H', ⟨by first | omega | exact Nat.le_refl _⟩, ⟨by repeat (first | (with_reducible first | exact HB.out | apply below_alloc | apply pw_below_drewN | apply below_drew1) | exact HB.out)⟩⟩
            · replace c9 := Bool.eq_false_iff.mpr c9
              subst c9
              have H1 : (laws_FnIsName.j0 k a0 true) = some r := by rw [if_neg (show ¬ (false = true) by decide)] at H; exact H
              clear H
              have H := H1
              clear H1
              have H' := Aside0.mk H
              clear H
              go_wp2_with (first | (go_at_call 19; (with_reducible refine (laws_few.calls a0 true _ A6.out).mono ?_); rintro e w' ⟨rfl, ⟨nd, rfl⟩⟩) | (go_at_call 20; (with_reducible refine (laws_ascii.calls k a0 false _ A8.out).mono ?_); rintro e w' ⟨rfl, ⟨nd, rfl⟩⟩))
              go_meet
              case rel => exact ⟨_, (true), (by first | rfl | (simp; done) | (simp [*]; done) | (simp [wrap64]; done)), H', ⟨by first | omega | exact Nat.le_refl _⟩, ⟨by repeat (first | (with_reducible first | exact HB.out | apply below_alloc | apply pw_below_drewN | apply below_drew1) | exact HB.out)⟩⟩
          · replace c7 := Bool.eq_false_iff.mpr c7
            subst c7
            have H1 : (laws_FnIsName.j0 k a0 true) = some r := by rw [if_neg (show ¬ (false = true) by decide)] at H; exact H
            clear H
            have H := H1
            clear H1
            have H' := Aside0.mk H
            clear H
            go_wp2_with (first | (go_at_call 19; (with_reducible refine (laws_few.calls a0 false _ A6.out).mono ?_); rintro e w' ⟨rfl, ⟨nd, rfl⟩⟩))
            go_meet
            case rel => exact ⟨_, (true), (by first | rfl | (simp; done) | (simp [*]; done) | (simp [wrap64]; done)), H', ⟨by first | omega | exact Nat.le_refl _⟩, ⟨by repeat (first | (with_reducible first | exact HB.out | apply below_alloc | apply pw_below_drewN | apply below_drew1) | exact HB.out)⟩⟩
    case rest =>
      clear HC3
      try clear c2
      try clear c2b0
      try clear c2b1
      try clear p2
      try clear c4
      try clear c4b0
      try clear c4b1
      try clear c5
      try clear c5b0
      try clear c5b1
      try clear p6
      try clear c7
      try clear c9
      obtain ⟨kq, x32_2, rfl, HA, HJ2, HB⟩ := hcut
      cases kq with
      | zero => exact absurd HA.out (by simp [laws_FnIsName.j0])
      | succ kj2 =>
        have H := HA.out
        clear HA
        simp only [laws_FnIsName.j0] at H
        by_cases c11 : x32_2 = true
        · subst c11
          have H1 : (some true) = some r := by rw [if_pos rfl] at H; exact H
          clear H
          have H := H1
          clear H1
          obtain rfl := Option.some.inj H
          go_wp2
          go_ret
          exact ⟨by first | rfl | (simp [errW_none, errW_some] <;> rfl) | (simp [*, errW_none, errW_some] <;> rfl), by repeat (first | (with_reducible first | exact HB.out | apply below_alloc | apply pw_below_drewN | apply below_drew1) | exact HB.out)⟩
        · replace c11 := Bool.eq_false_iff.mpr c11
          subst c11
          have H1 : ((spec_ParseName.f kj2 a0).bind fun bt157 => ((spec_Name_Size.f kj2 bt157.1).bind fun t162 => (if bt157.2.2 = true then ((impl_IsName.f kj2 a0).bind fun bt163 => (if (bt163.2 == bt157.2.2) = true then (some (bt163.1 == (bt157.1.length : Int))) else (some false))) else (if t162 > 255 then (if t162 < 260 then (some true) else ((impl_IsName.f kj2 a0).bind fun bt165 => (if (bt165.2 == bt157.2.2) = true then (some true) else (some false)))) else ((impl_IsName.f kj2 a0).bind fun bt167 => (if (bt167.2 == bt157.2.2) = true then (some true) else (some false))))))) = some r := by rw [if_neg (show ¬ (false = true) by decide)] at H; exact H
          clear H
          have H := H1
          clear H1
          replace H := Option.bind_eq_some_iff.mp H
          obtain ⟨⟨t157, t158, t159⟩, A120, H⟩ := H
          replace H : ((spec_Name_Size.f kj2 t157).bind fun t162 => (if t159 = true then ((impl_IsName.f kj2 a0).bind fun bt163 => (if (bt163.2 == t159) = true then (some (bt163.1 == (t157.length : Int))) else (some false))) else (if t162 > 255 then (if t162 < 260 then (some true) else ((impl_IsName.f kj2 a0).bind fun bt165 => (if (bt165.2 == t159) = true then (some true) else (some false)))) else ((impl_IsName.f kj2 a0).bind fun bt167 => (if (bt167.2 == t159) = true then (some true) else (some false)))))) = some r := H
          have A12 := Aside0.mk A120
          clear A120
          replace H := Option.bind_eq_some_iff.mp H
          obtain ⟨t162, A130, H⟩ := H
          replace H : (if t159 = true then ((impl_IsName.f kj2 a0).bind fun bt163 => (if (bt163.2 == t159) = true then (some (bt163.1 == (t157.length : Int))) else (some false))) else (if t162 > 255 then (if t162 < 260 then (some true) else ((impl_IsName.f kj2 a0).bind fun bt165 => (if (bt165.2 == t159) = true then (some true) else (some false)))) else ((impl_IsName.f kj2 a0).bind fun bt167 => (if (bt167.2 == t159) = true then (some true) else (some false))))) = some r := H
          have A13 := Aside0.mk A130
          clear A130
          by_cases c14 : t159 = true
          · subst c14
            have H1 : ((impl_IsName.f kj2 a0).bind fun bt163 => (if (bt163.2 == true) = true then (some (bt163.1 == (t157.length : Int))) else (some false))) = some r := by rw [if_pos rfl] at H; exact H
            clear H
            have H := H1
            clear H1
            replace H := Option.bind_eq_some_iff.mp H
            obtain ⟨⟨t163, t164⟩, A150, H⟩ := H
            replace H : (if (t164 == true) = true then (some (t163 == (t157.length : Int))) else (some false)) = some r := H
            have A15 := Aside0.mk A150
            clear A150
            by_cases c16 : (t164 == true) = true
            · rw [if_pos c16] at H
              have c16b0 : (t164 == true) = true := c16
              (try (have c16b1 : decide (t164 = true) = true := by simpa using c16))
              (try (have c16b2 : (t164 == true) = true := by simpa using c16))
              clear c16
              obtain rfl := Option.some.inj H
              go_wp2_with (first | ((with_reducible refine gate_callee (f := 17) rfl ?_); refine goesL_ (some 35) rfl rfl Tryd.func17 (by kernel_rfl) rfl #[.string a0] rfl (by (try simp only [List.map_toArray, List.map_cons, List.map_nil]); first | done | rfl | (simp only [List.length_drop, List.length_take]; rfl)) ?_; (with_reducible refine (spec_ParseName.calls kj2 a0 t157 t158 true _ A12.out).mono ?_); rintro e w17 ⟨v160, rfl, ho0, hb⟩; refine ⟨_, rfl, ?_⟩; have n0_ := Aside0.mk (Kd.R_lower ho0 (below_size (by repeat (first | (with_reducible first | exact HB.out | apply below_alloc | apply pw_below_drewN | apply below_drew1) | exact HB.out)))); have n1_ := Aside0.mk (below_step (by repeat (first | (with_reducible first | exact HB.out | apply below_alloc | apply pw_below_drewN | apply below_drew1) | exact HB.out)) hb); clear HB; have HO161 := n0_; have HB := n1_; clear n0_ n1_; (try clear hb); (try clear hb2); (try clear hk); (try clear hi); (try clear ho0); obtain ⟨Ao18, co18, eo18⟩ := Kd.R_slice HO161.out; subst eo18) | ((with_reducible refine gate_callee (f := 24) rfl ?_); refine goesL_ (some 40) rfl rfl Tryd.func24 (by kernel_rfl) rfl #[.slice Ao18 t157.length co18] rfl (by (try simp only [List.map_toArray, List.map_cons, List.map_nil]); first | done | rfl | (simp only [List.length_drop, List.length_take]; rfl)) ?_; (with_reducible refine (spec_Name_Size.calls kj2 _ _ t157 t162 _ ?side1 ?side2 A13.out).mono ?_); (case side1 => repeat (first | exact (Kd.R_reads' HO161.out).2.2 | (with_reducible refine Kd.C_alloc ?_ _) | (with_reducible refine Kd.C_drewN ?_ _) | (with_reducible refine Kd.C_drew ?_))); (case side2 => exact (Kd.R_reads' HO161.out).2.1); rintro e w' ⟨rfl, ⟨nd, rfl⟩⟩; refine ⟨_, rfl, ?_⟩) | ((with_reducible refine gate_callee (f := 25) rfl ?_); refine goesL_ (some 53) rfl rfl Tryd.func25 (by kernel_rfl) rfl #[.string a0] rfl (by (try simp only [List.map_toArray, List.map_cons, List.map_nil]); first | done | rfl | (simp only [List.length_drop, List.length_take]; rfl)) ?_; (with_reducible refine (impl_IsName.calls kj2 a0 t163 t164 _ A15.out).mono ?_); rintro e w' ⟨rfl, ⟨nd, rfl⟩⟩; refine ⟨_, rfl, ?_⟩))
              go_ret
              exact ⟨by first | rfl | (simp [errW_none, errW_some] <;> rfl) | (simp [*, errW_none, errW_some] <;> rfl), by repeat (first | (with_reducible first | exact HB.out | apply below_alloc | apply pw_below_drewN | apply below_drew1) | exact HB.out)⟩
            · rw [if_neg c16] at H
              have c16b0 : (t164 == true) = false := by simpa using c16
              (try (have c16b1 : decide (t164 = true) = false := by simpa using c16))
              (try (have c16b2 : (t164 == true) = false := by simpa using c16))
              (try (have c16b3 : ¬ (t164 = true) := by simpa using c16))
              clear c16
              obtain rfl := Option.some.inj H
              go_wp2_with (first | ((with_reducible refine gate_callee (f := 17) rfl ?_); refine goesL_ (some 35) rfl rfl Tryd.func17 (by kernel_rfl) rfl #[.string a0] rfl (by (try simp only [List.map_toArray, List.map_cons, List.map_nil]); first | done | rfl | (simp only [List.length_drop, List.length_take]; rfl)) ?_; (with_reducible refine (spec_ParseName.calls kj2 a0 t157 t158 true _ A12.out).mono ?_); rintro e w19 ⟨v160, rfl, ho0, hb⟩; refine ⟨_, rfl, ?_⟩; have n0_ := Aside0.mk (Kd.R_lower ho0 (below_size (by repeat (first | (with_reducible first | exact HB.out | apply below_alloc | apply pw_below_drewN | apply below_drew1) | exact HB.out)))); have n1_ := Aside0.mk (below_step (by repeat (first | (with_reducible first | exact HB.out | apply below_alloc | apply pw_below_drewN | apply below_drew1) | exact HB.out)) hb); clear HB; have HO161 := n0_; have HB := n1_; clear n0_ n1_; (try clear hb); (try clear hb2); (try clear hk); (try clear hi); (try clear ho0); obtain ⟨Ao20, co20, eo20⟩ := Kd.R_slice HO161.out; subst eo20) | ((with_reducible refine gate_callee (f := 24) rfl ?_); refine goesL_ (some 40) rfl rfl Tryd.func24 (by kernel_rfl) rfl #[.slice Ao20 t157.length co20] rfl (by (try simp only [List.map_toArray, List.map_cons, List.map_nil]); first | done | rfl | (simp only [List.length_drop, List.length_take]; rfl)) ?_; (with_reducible refine (spec_Name_Size.calls kj2 _ _ t157 t162 _ ?side1 ?side2 A13.out).mono ?_); (case side1 => repeat (first | exact (Kd.R_reads' HO161.out).2.2 | (with_reducible refine Kd.C_alloc ?_ _) | (with_reducible refine Kd.C_drewN ?_ _) | (with_reducible refine Kd.C_drew ?_))); (case side2 => exact (Kd.R_reads' HO161.out).2.1); rintro e w' ⟨rfl, ⟨nd, rfl⟩⟩; refine ⟨_, rfl, ?_⟩) | ((with_reducible refine gate_callee (f := 25) rfl ?_); refine goesL_ (some 53) rfl rfl Tryd.func25 (by kernel_rfl) rfl #[.string a0] rfl (by (try simp only [List.map_toArray, List.map_cons, List.map_nil]); first | done | rfl | (simp only [List.length_drop, List.length_take]; rfl)) ?_; (with_reducible refine (impl_IsName.calls kj2 a0 t163 t164 _ A15.out).mono ?_); rintro e w' ⟨rfl, ⟨nd, rfl⟩⟩; refine ⟨_, rfl, ?_⟩))
              go_ret
              exact ⟨by first | rfl | (simp [errW_none, errW_some] <;> rfl) | (simp [*, errW_none, errW_some] <;> rfl), by repeat (first | (with_reducible first | exact HB.out | apply below_alloc | apply pw_below_drewN | apply below_drew1) | exact HB.out)⟩
          · replace c14 := Bool.eq_false_iff.mpr c14
            subst c14
            have H1 : (if t162 > 255 then (if t162 < 260 then (some true) else ((impl_IsName.f kj2 a0).bind fun bt165 => (if (bt165.2 == false) = true then (some true) else (some false)))) else ((impl_IsName.f kj2 a0).bind fun bt167 => (if (bt167.2 == false) = true then (some true) else (some false)))) = some r := by rw [if_neg (show ¬ (false = true) by decide)] at H; exact H
            clear H
            have H := H1
            clear H1
            by_cases c21 : t162 > 255
            · rw [if_pos c21] at H
              have c21b0 : decide (255 < t162) = true := decide_eq_true c21
              clear c21
              by_cases c22 : t162 < 260
              · rw [if_pos c22] at H
                have c22b0 : decide (t162 < 260) = true := decide_eq_true c22
                clear c22
                obtain rfl := Option.some.inj H
                go_wp2_with (first | ((with_reducible refine gate_callee (f := 17) rfl ?_); refine goesL_ (some 35) rfl rfl Tryd.func17 (by kernel_rfl) rfl #[.string a0] rfl (by (try simp only [List.map_toArray, List.map_cons, List.map_nil]); first | done | rfl | (simp only [List.length_drop, List.length_take]; rfl)) ?_; (with_reducible refine (spec_ParseName.calls kj2 a0 t157 t158 false _ A12.out).mono ?_); rintro e w23 ⟨v160, rfl, ho0, hb⟩; refine ⟨_, rfl, ?_⟩; have n0_ := Aside0.mk (Kd.R_lower ho0 (below_size (by repeat (first | (with_reducible first | exact HB.out | apply below_alloc | apply pw_below_drewN | apply below_drew1) | exact HB.out)))); have n1_ := Aside0.mk (below_step (by repeat (first | (with_reducible first | exact HB.out | apply below_alloc | apply pw_below_drewN | apply below_drew1) | exact HB.out)) hb); clear HB; have HO161 := n0_; have HB := n1_; clear n0_ n1_; (try clear hb); (try clear hb2); (try clear hk); (try clear hi); (try clear ho0); obtain ⟨Ao24, co24, eo24⟩ := Kd.R_slice HO161.out; subst eo24) | ((with_reducible refine gate_callee (f := 24) rfl ?_); refine goesL_ (some 40) rfl rfl Tryd.func24 (by kernel_rfl) rfl #[.slice Ao24 t157.length co24] rfl (by (try simp only [List.map_toArray, List.map_cons, List.map_nil]); first | done | rfl | (simp only [List.length_drop, List.length_take]; rfl)) ?_; (with_reducible refine (spec_Name_Size.calls kj2 _ _ t157 t162 _ ?side1 ?side2 A13.out).mono ?_); (case side1 => repeat (first | exact (Kd.R_reads' HO161.out).2.2 | (with_reducible refine Kd.C_alloc ?_ _) | (with_reducible refine Kd.C_drewN ?_ _) | (with_reducible refine Kd.C_drew ?_))); (case side2 => exact (Kd.R_reads' HO161.out).2.1); rintro e w' ⟨rfl, ⟨nd, rfl⟩⟩; refine ⟨_, rfl, ?_⟩))
                go_ret
                exact ⟨by first | rfl | (simp [errW_none, errW_some] <;> rfl) | (simp [*, errW_none, errW_some] <;> rfl), by repeat (first | (with_reducible first | exact HB.out | apply below_alloc | apply pw_below_drewN | apply below_drew1) | exact HB.out)⟩
              · rw [if_neg c22] at H
                have c22b0 : decide (t162 < 260) = false := decide_eq_false c22
                clear c22
                replace H := Option.bind_eq_some_iff.mp H
                obtain ⟨⟨t165, t166⟩, A250, H⟩ := H
                replace H : (if (t166 == false) = true then (some true) else (some false)) = some r := H
                have A25 := Aside0.mk A250
                clear A250
                by_cases c26 : (t166 == false) = true
                · rw [if_pos c26] at H
                  have c26b0 : (t166 == false) = true := c26
                  (try (have c26b1 : decide (t166 = false) = true := by simpa using c26))
                  (try (have c26b2 : (t166 == false) = true := by simpa using c26))
                  clear c26
                  obtain rfl := Option.some.inj H
                  go_wp2_with (first | ((with_reducible refine gate_callee (f := 17) rfl ?_); refine goesL_ (some 35) rfl rfl Tryd.func17 (by kernel_rfl) rfl #[.string a0] rfl (by (try simp only [List.map_toArray, List.map_cons, List.map_nil]); first | done | rfl | (simp only [List.length_drop, List.length_take]; rfl)) ?_; (with_reducible refine (spec_ParseName.calls kj2 a0 t157 t158 false _ A12.out).mono ?_); rintro e w27 ⟨v160, rfl, ho0, hb⟩; refine ⟨_, rfl, ?_⟩; have n0_ := Aside0.mk (Kd.R_lower ho0 (below_size (by repeat (first | (with_reducible first | exact HB.out | apply below_alloc | apply pw_below_drewN | apply below_drew1) | exact HB.out)))); have n1_ := Aside0.mk (below_step (by repeat (first | (with_reducible first | exact HB.out | apply below_alloc | apply pw_below_drewN | apply below_drew1) | exact HB.out)) hb); clear HB; have HO161 := n0_; have HB := n1_; clear n0_ n1_; (try clear hb); (try clear hb2); (try clear hk); (try clear hi); (try clear ho0); obtain ⟨Ao28, co28, eo28⟩ := Kd.R_slice HO161.out; subst eo28) | ((with_reducible refine gate_callee (f := 24) rfl ?_); refine goesL_ (some 40) rfl rfl Tryd.func24 (by kernel_rfl) rfl #[.slice Ao28 t157.length co28] rfl (by (try simp only [List.map_toArray, List.map_cons, List.map_nil]); first | done | rfl | (simp only [List.length_drop, List.length_take]; rfl)) ?_; (with_reducible refine (spec_Name_Size.calls kj2 _ _ t157 t162 _ ?side1 ?side2 A13.out).mono ?_); (case side1 => repeat (first | exact (Kd.R_reads' HO161.out).2.2 | (with_reducible refine Kd.C_alloc ?_ _) | (with_reducible refine Kd.C_drewN ?_ _) | (with_reducible refine Kd.C_drew ?_))); (case side2 => exact (Kd.R_reads' HO161.out).2.1); rintro e w' ⟨rfl, ⟨nd, rfl⟩⟩; refine ⟨_, rfl, ?_⟩) | ((with_reducible refine gate_callee (f := 25) rfl ?_); refine goesL_ (some 53) rfl rfl Tryd.func25 (by kernel_rfl) rfl #[.string a0] rfl (by (try simp only [List.map_toArray, List.map_cons, List.map_nil]); first | done | rfl | (simp only [List.length_drop, List.length_take]; rfl)) ?_; (with_reducible refine (impl_IsName.calls kj2 a0 t165 t166 _ A25.out).mono ?_); rintro e w' ⟨rfl, ⟨nd, rfl⟩⟩; refine ⟨_, rfl, ?_⟩))
                  go_ret
                  exact ⟨by first | rfl | (simp [errW_none, errW_some] <;> rfl) | (simp [*, errW_none, errW_some] <;> rfl), by repeat (first | (with_reducible first | exact HB.out | apply below_alloc | apply pw_below_drewN | apply below_drew1) | exact HB.out)⟩
                · rw [if_neg c26] at H
                  have c26b0 : (t166 == false) = false := by simpa using c26
                  (try (have c26b1 : decide (t166 = false) = false := by simpa using c26))
                  (try (have c26b2 : (t166 == false) = false := by simpa using c26))
                  (try (have c26b3 : ¬ (t166 = false) := by simpa using c26))
                  clear c26
                  obtain rfl := Option.some.inj H
                  go_wp2_with (first | ((with_reducible refine gate_callee (f := 17) rfl ?_); refine goesL_ (some 35) rfl rfl Tryd.func17 (by kernel_rfl) rfl #[.string a0] rfl (by (try simp only [List.map_toArray, List.map_cons, List.map_nil]); first | done | rfl | (simp only [List.length_drop, List.length_take]; rfl)) ?_; (with_reducible refine (spec_ParseName.calls kj2 a0 t157 t158 false _ A12.out).mono ?_); rintro e w29 ⟨v160, rfl, ho0, hb⟩; refine ⟨_, rfl, ?_⟩; have n0_ := Aside0.mk (Kd.R_lower ho0 (below_size (by repeat (first | (with_reducible first | exact HB.out | apply below_alloc | apply pw_below_drewN | apply below_drew1) | exact HB.out)))); have n1_ := Aside0.mk (below_step (by repeat (first | (with_reducible first | exact HB.out | apply below_alloc | apply pw_below_drewN | apply below_drew1) | exact HB.out)) hb); clear HB; have HO161 := n0_; have HB := n1_; clear n0_ n1_; (try clear hb); (try clear hb2); (try clear hk); (try clear hi); (try clear ho0); obtain ⟨Ao30, co30, eo30⟩ := Kd.R_slice HO161.out; subst eo30) | ((with_reducible refine gate_callee (f := 24) rfl ?_); refine goesL_ (some 40) rfl rfl Tryd.func24 (by kernel_rfl) rfl #[.slice Ao30 t157.length co30] rfl (by (try simp only [List.map_toArray, List.map_cons, List.map_nil]); first | done | rfl | (simp only [List.length_drop, List.length_take]; rfl)) ?_; (with_reducible refine (spec_Name_Size.calls kj2 _ _ t157 t162 _ ?side1 ?side2 A13.out).mono ?_); (case side1 => repeat (first | exact (Kd.R_reads' HO161.out).2.2 | (with_reducible refine Kd.C_alloc ?_ _) | (with_reducible refine Kd.C_drewN ?_ _) | (with_reducible refine Kd.C_drew ?_))); (case side2 => exact (Kd.R_reads' HO161.out).2.1); rintro e w' ⟨rfl, ⟨nd, rfl⟩⟩; refine ⟨_, rfl, ?_⟩) | ((with_reducible refine gate_callee (f := 25) rfl ?_); refine goesL_ (some 53) rfl rfl Tryd.func25 (by kernel_rfl) rfl #[.string a0] rfl (by (try simp only [List.map_toArray, List.map_cons, List.map_nil]); first | done | rfl | (simp only [List.length_drop, List.length_take]; rfl)) ?_; (with_reducible refine (impl_IsName.calls kj2 a0 t165 t166 _ A25.out).mono ?_); rintro e w' ⟨rfl, ⟨nd, rfl⟩⟩; refine ⟨_, rfl, ?_⟩))
                  go_ret
                  exact ⟨by first | rfl | (simp [errW_none, errW_some] <;> rfl) | (simp [*, errW_none, errW_some] <;> rfl), by repeat (first | (with_reducible first | exact HB.out | apply below_alloc | apply pw_below_drewN | apply below_drew1) | exact HB.out)⟩
            · rw [if_neg c21] at H
              have c21b0 : decide (255 < t162) = false := decide_eq_false c21
              clear c21
              replace H := Option.bind_eq_some_iff.mp H
              obtain ⟨⟨t167, t168⟩, A310, H⟩ := H
              replace H : (if (t168 == false) = true then (some true) else (some false)) = some r := H
              have A31 := Aside0.mk A310
              clear A310
              by_cases c32 : (t168 == false) = true
              · rw [if_pos c32] at H
                have c32b0 : (t168 == false) = true := c32
                (try (have c32b1 : decide (t168 = false) = true := by simpa using c32))
                (try (have c32b2 : (t168 == false) = true := by simpa using c32))
                clear c32
                obtain rfl := Option.some.inj H
                go_wp2_with (first | ((with_reducible refine gate_callee (f := 17) rfl ?_); refine goesL_ (some 35) rfl rfl Tryd.func17 (by kernel_rfl) rfl #[.string a0] rfl (by (try simp only [List.map_toArray, List.map_cons, List.map_nil]); first | done | rfl | (simp only [List.length_drop, List.length_take]; rfl)) ?_; (with_reducible refine (spec_ParseName.calls kj2 a0 t157 t158 false _ A12.out).mono ?_); rintro e w33 ⟨v160, rfl, ho0, hb⟩; refine ⟨_, rfl, ?_⟩; have n0_ := Aside0.mk (Kd.R_lower ho0 (below_size (by repeat (first | (with_reducible first | exact HB.out | apply below_alloc | apply pw_below_drewN | apply below_drew1) | exact HB.out)))); have n1_ := Aside0.mk (below_step (by repeat (first | (with_reducible first | exact HB.out | apply below_alloc | apply pw_below_drewN | apply below_drew1) | exact HB.out)) hb); clear HB; have HO161 := n0_; have HB := n1_; clear n0_ n1_; (try clear hb); (try clear hb2); (try clear hk); (try clear hi); (try clear ho0); obtain ⟨Ao34, co34, eo34⟩ := Kd.R_slice HO161.out; subst eo34) | ((with_reducible refine gate_callee (f := 24) rfl ?_); refine goesL_ (some 40) rfl rfl Tryd.func24 (by kernel_rfl) rfl #[.slice Ao34 t157.length co34] rfl (by (try simp only [List.map_toArray, List.map_cons, List.map_nil]); first | done | rfl | (simp only [List.length_drop, List.length_take]; rfl)) ?_; (with_reducible refine (spec_Name_Size.calls kj2 _ _ t157 t162 _ ?side1 ?side2 A13.out).mono ?_); (case side1 => repeat (first | exact (Kd.R_reads' HO161.out).2.2 | (with_reducible refine Kd.C_alloc ?_ _) | (with_reducible refine Kd.C_drewN ?_ _) | (with_reducible refine Kd.C_drew ?_))); (case side2 => exact (Kd.R_reads' HO161.out).2.1); rintro e w' ⟨rfl, ⟨nd, rfl⟩⟩; refine ⟨_, rfl, ?_⟩) | ((with_reducible refine gate_callee (f := 25) rfl ?_); refine goesL_ (some 53) rfl rfl Tryd.func25 (by kernel_rfl) rfl #[.string a0] rfl (by (try simp only [List.map_toArray, List.map_cons, List.map_nil]); first | done | rfl | (simp only [List.length_drop, List.length_take]; rfl)) ?_; (with_reducible refine (impl_IsName.calls kj2 a0 t167 t168 _ A31.out).mono ?_); rintro e w' ⟨rfl, ⟨nd, rfl⟩⟩; refine ⟨_, rfl, ?_⟩))
                go_ret
                exact ⟨by first | rfl | (simp [errW_none, errW_some] <;> rfl) | (simp [*, errW_none, errW_some] <;> rfl), by repeat (first | (with_reducible first | exact HB.out | apply below_alloc | apply pw_below_drewN | apply below_drew1) | exact HB.out)⟩
              · rw [if_neg c32] at H
                have c32b0 : (t168 == false) = false := by simpa using c32
                (try (have c32b1 : decide (t168 = false) = false := by simpa using c32))
                (try (have c32b2 : (t168 == false) = false := by simpa using c32))
                (try (have c32b3 : ¬ (t168 = false) := by simpa using c32))
                clear c32
                obtain rfl := Option.some.inj H
                go_wp2_with (first | ((with_reducible refine gate_callee (f := 17) rfl ?_); refine goesL_ (some 35) rfl rfl Tryd.func17 (by kernel_rfl) rfl #[.string a0] rfl (by (try simp only [List.map_toArray, List.map_cons, List.map_nil]); first | done | rfl | (simp only [List.length_drop, List.length_take]; rfl)) ?_; (with_reducible refine (spec_ParseName.calls kj2 a0 t157 t158 false _ A12.out).mono ?_); rintro e w35 ⟨v160, rfl, ho0, hb⟩; refine ⟨_, rfl, ?_⟩; have n0_ := Aside0.mk (Kd.R_lower ho0 (below_size (by repeat (first | (with_reducible first | exact HB.out | apply below_alloc | apply pw_below_drewN | apply below_drew1) | exact HB.out)))); have n1_ := Aside0.mk (below_step (by repeat (first | (with_reducible first | exact HB.out | apply below_alloc | apply pw_below_drewN | apply below_drew1) | exact HB.out)) hb); clear HB; have HO161 := n0_; have HB := n1_; clear n0_ n1_; (try clear hb); (try clear hb2); (try clear hk); (try clear hi); (try clear ho0); obtain ⟨Ao36, co36, eo36⟩ := Kd.R_slice HO161.out; subst eo36) | ((with_reducible refine gate_callee (f := 24) rfl ?_); refine goesL_ (some 40) rfl rfl Tryd.func24 (by kernel_rfl) rfl #[.slice Ao36 t157.length co36] rfl (by (try simp only [List.map_toArray, List.map_cons, List.map_nil]); first | done | rfl | (simp only [List.length_drop, List.length_take]; rfl)) ?_; (with_reducible refine (spec_Name_Size.calls kj2 _ _ t157 t162 _ ?side1 ?side2 A13.out).mono ?_); (case side1 => repeat (first | exact (Kd.R_reads' HO161.out).2.2 | (with_reducible refine Kd.C_alloc ?_ _) | (with_reducible refine Kd.C_drewN ?_ _) | (with_reducible refine Kd.C_drew ?_))); (case side2 => exact (Kd.R_reads' HO161.out).2.1); rintro e w' ⟨rfl, ⟨nd, rfl⟩⟩; refine ⟨_, rfl, ?_⟩) | ((with_reducible refine gate_callee (f := 25) rfl ?_); refine goesL_ (some 53) rfl rfl Tryd.func25 (by kernel_rfl) rfl #[.string a0] rfl (by (try simp only [List.map_toArray, List.map_cons, List.map_nil]); first | done | rfl | (simp only [List.length_drop, List.length_take]; rfl)) ?_; (with_reducible refine (impl_IsName.calls kj2 a0 t167 t168 _ A31.out).mono ?_); rintro e w' ⟨rfl, ⟨nd, rfl⟩⟩; refine ⟨_, rfl, ?_⟩))
                go_ret
                exact ⟨by first | rfl | (simp [errW_none, errW_some] <;> rfl) | (simp [*, errW_none, errW_some] <;> rfl), by repeat (first | (with_reducible first | exact HB.out | apply below_alloc | apply pw_below_drewN | apply below_drew1) | exact HB.out)⟩

/-- THE ONE PURE STATEMENT of laws_FnIsName: yours. -/
def laws_FnIsName.Pure : Prop := ∀ (a0 : ByteArray), a0.size ≤ 140737488351232 → ∃ k, laws_FnIsName.f k a0 = some true
theorem laws_FnIsName.walk (P : laws_FnIsName.Pure) (a0 : ByteArray) (w : World) (w0 : a0.size ≤ 140737488351232) :
    Calls Tryd.prog 5 #[.string a0] w fun e w' => e = .returned (.bool true) ∧ Below w.heap.size w w' := by
  obtain ⟨k, h⟩ := P a0 w0
  refine (laws_FnIsName.calls k a0 true w h).mono ?_
  rintro e w' ⟨rfl, hd⟩
  exact ⟨rfl, hd⟩

end Go.Proofs.YtiilihafcdmccaaDoor.P
