/- Texts of this session merged by program (wip/tools/merge.py): PF11, PureFnNameComesBack. -/
import Derived.Test.YtiilihafcdmccaaDoorXA1
import Derived.Test.YtiilihafcdmccaaDoorXNc1
import Derived.Test.YtiilihafcdmccaaDoorXA2
-- Written by a program of this session (wip/tools/pprint.py) out of the translation: it goes by the kit's print and by the contracts of YtiilihafcdmccaaDoorHand. Not trusted: Lean checks it.
namespace Go.Proofs.YtiilihafcdmccaaDoor.P
open Go.RowKit Go.Proofs.YtiilihafcdmccaaDoorW.PrintWords Go.Proofs.YtiilihafcdmccaaDoorW.PrintLast Go.Proofs.YtiilihafcdmccaaDoorW.PrintMore
attribute [local go_sem] max2_int min2_int max_two min_two max_three min_three max_four min_four   -- for this text's walks alone
set_option linter.unusedVariables false
set_option linter.unusedSimpArgs false

/-! ### laws_FnNameComesBack: function 11 -/
def laws_FnNameComesBack.j0 : Nat → List (List Int) → List Int → Bool → Option (Bool)
  | 0, _, _, _ => none
  | k + 1, x0, x1, x22 => if x22 = true then (some true) else ((laws_name.f k x0).bind fun bt450 => (if bt450.2 = true then ((spec_Name_Text.f k bt450.1 x1).bind fun t454 => ((impl_PackName.f k t454 255).bind fun bt455 => ((impl_UnpackName.f k bt455.1 0).bind fun bt459 => ((spec_ParseName.f k bt459.1).bind fun bt462 => (if bt455.2 = true then (if bt459.2.2 = true then (if bt462.2.2 = true then (if bt462.2.1 = true then ((spec_Name_Equal.f k bt462.1 bt450.1).bind fun t467 => (if t467 = true then (some (bt459.2.1 == (bt455.1.length : Int))) else (some false))) else (some false)) else (some false)) else (some false)) else (some false)))))) else (some true)))
def laws_FnNameComesBack.f (k : Nat) (l0 : List (List Int)) (l1 : List Int) : Option (Bool) := (laws_zzFits9.f k l0).bind fun t449 => (if t449 = true then (laws_FnNameComesBack.j0 k l0 l1 (decide ((l1.length : Int) > 2147483647))) else (laws_FnNameComesBack.j0 k l0 l1 true))
theorem laws_FnNameComesBack.mono_l : ∀ k, (∀ y0 y1 y2, LeO (laws_FnNameComesBack.j0 k y0 y1 y2) (laws_FnNameComesBack.j0 (k + 1) y0 y1 y2))
  | 0 => fun _ _ _ r h => by simp [laws_FnNameComesBack.j0] at h
  | k + 1 => by
    have ih0 := laws_FnNameComesBack.mono_l k
    · intro y0 y1 y2
      unfold laws_FnNameComesBack.j0
      repeat' first
      | (with_reducible exact ih0 _ _ _)
      | (with_reducible exact impl_PackName.mono _ _ _)
      | (with_reducible exact impl_UnpackName.mono _ _ _)
      | (with_reducible exact laws_name.mono _ _)
      | (with_reducible exact laws_zzFits9.mono _ _)
      | (with_reducible exact spec_Name_Equal.mono _ _ _)
      | (with_reducible exact spec_Name_Text.mono _ _ _)
      | (with_reducible exact spec_ParseName.mono _ _)
      | (with_reducible exact LeO.refl _)
      | (with_reducible exact LeO.none _)
      | (with_reducible refine LeO.ite ?_ ?_)
      | (with_reducible refine LeO.bind ?_ (fun _ => ?_))
      | exact ih0 _ _ _
      | exact impl_PackName.mono _ _ _
      | exact impl_UnpackName.mono _ _ _
      | exact laws_name.mono _ _
      | exact laws_zzFits9.mono _ _
      | exact spec_Name_Equal.mono _ _ _
      | exact spec_Name_Text.mono _ _ _
      | exact spec_ParseName.mono _ _
      | exact LeO.none _
      | refine LeO.ite ?_ ?_
      | refine LeO.bind ?_ (fun _ => ?_)
theorem laws_FnNameComesBack.mono : ∀ a0 a1 k, LeO (laws_FnNameComesBack.f k a0 a1) (laws_FnNameComesBack.f (k + 1) a0 a1) := by
  intro a0 a1 k
  have ih0 := laws_FnNameComesBack.mono_l k
  unfold laws_FnNameComesBack.f
  repeat' first
      | (with_reducible exact ih0 _ _ _)
      | (with_reducible exact impl_PackName.mono _ _ _)
      | (with_reducible exact impl_UnpackName.mono _ _ _)
      | (with_reducible exact laws_name.mono _ _)
      | (with_reducible exact laws_zzFits9.mono _ _)
      | (with_reducible exact spec_Name_Equal.mono _ _ _)
      | (with_reducible exact spec_Name_Text.mono _ _ _)
      | (with_reducible exact spec_ParseName.mono _ _)
      | (with_reducible exact LeO.refl _)
      | (with_reducible exact LeO.none _)
      | (with_reducible refine LeO.ite ?_ ?_)
      | (with_reducible refine LeO.bind ?_ (fun _ => ?_))
      | exact ih0 _ _ _
      | exact impl_PackName.mono _ _ _
      | exact impl_UnpackName.mono _ _ _
      | exact laws_name.mono _ _
      | exact laws_zzFits9.mono _ _
      | exact spec_Name_Equal.mono _ _ _
      | exact spec_Name_Text.mono _ _ _
      | exact spec_ParseName.mono _ _
      | exact LeO.none _
      | refine LeO.ite ?_ ?_
      | refine LeO.bind ?_ (fun _ => ?_)
set_option maxHeartbeats 8000000 in
set_option maxRecDepth 100000 in
theorem laws_FnNameComesBack.calls (k : Nat) (A0 : Option Addr) (c0 : Nat) (l0 : List (List Int)) (A1 : Option Addr) (c1 : Nat) (l1 : List Int) (r : Bool) (w : World) (hr0 : Kd.C (Kd.slice 5 (Kd.int .u8)) w A0 l0.length l0) (hc0 : l0.length ≤ c0) (hr1 : Kd.C (Kd.int .i64) w A1 l1.length l1) (hc1 : l1.length ≤ c1) (hG : GoodPU w) (h : laws_FnNameComesBack.f k l0 l1 = some r) :
    Calls Tryd.prog 11 #[.slice A0 l0.length c0, .slice A1 l1.length c1] w fun e w' => e = .returned (.bool r) ∧ Below w.heap.size w w' := by
  have HG := Aside0.mk hG
  clear hG
  have HR0 := Aside0.mk hr0
  have HC0 := Aside0.mk hc0
  clear hr0 hc0
  have HR1 := Aside0.mk hr1
  have HC1 := Aside0.mk hc1
  clear hr1 hc1
  have HB := Aside0.mk (Below.refl w.heap.size w)
  have H : ((laws_zzFits9.f k l0).bind fun t449 => (if t449 = true then (laws_FnNameComesBack.j0 k l0 l1 (decide ((l1.length : Int) > 2147483647))) else (laws_FnNameComesBack.j0 k l0 l1 true))) = some r := h
  clear h
  have HC3 := Aside0.mk H
  clear H
  go_enter Tryd.func11, Tryd.ntmps11
  go_upto_region 1 with (fail)
  go_cut [22] (fun v22 wc => ∃ (kq : Nat) (x22_2 : Bool), v22 = .bool x22_2 ∧ Aside0 (laws_FnNameComesBack.j0 kq l0 l1 x22_2 = some r) ∧ Aside0 (kq ≤ k) ∧ Aside0 (Below w.heap.size w wc))
  case first =>
    have H := HC3.out
    clear HC3
    replace H := Option.bind_eq_some_iff.mp H
    obtain ⟨t449, A40, H⟩ := H
    replace H : (if t449 = true then (laws_FnNameComesBack.j0 k l0 l1 (decide ((l1.length : Int) > 2147483647))) else (laws_FnNameComesBack.j0 k l0 l1 true)) = some r := H
    have A4 := Aside0.mk A40
    clear A40
    by_cases c5 : t449 = true
    · subst c5
      have H1 : (laws_FnNameComesBack.j0 k l0 l1 (decide ((l1.length : Int) > 2147483647))) = some r := by rw [if_pos rfl] at H; exact H
      clear H
      have H := H1
      clear H1
      have H' := Aside0.mk H
      clear H
      go_wp2_with (first | ((with_reducible refine gate_callee (f := 34) rfl ?_); refine goesL_ (some 16) rfl rfl Tryd.func34 (by kernel_rfl) rfl #[.slice A0 l0.length c0] rfl (by (try simp only [List.map_toArray, List.map_cons, List.map_nil]); first | done | rfl | (simp only [List.length_drop, List.length_take]; rfl)) ?_; (with_reducible refine (laws_zzFits9.calls k _ _ l0 true _ ?side1 ?side2 A4.out).mono ?_); (case side1 => repeat (first | exact (Kd.C_below HR0.out HB.out) | (with_reducible refine Kd.C_alloc ?_ _) | (with_reducible refine Kd.C_drewN ?_ _) | (with_reducible refine Kd.C_drew ?_))); (case side2 => exact HC0.out); rintro e w' ⟨rfl, ⟨nd, rfl⟩⟩; refine ⟨_, rfl, ?_⟩))
      go_meet
      case rel => exact ⟨_, (decide ((l1.length : Int) > 2147483647)), (by first | rfl | (simp; done) | (simp [*]; done) | (simp [wrap64]; done)), H', ⟨by first | omega | exact Nat.le_refl _⟩, ⟨by repeat (first | (with_reducible first | exact HB.out | apply below_alloc | apply pw_below_drewN | apply below_drew1) | exact HB.out)⟩⟩
    · replace c5 := Bool.eq_false_iff.mpr c5
      subst c5
      have H1 : (laws_FnNameComesBack.j0 k l0 l1 true) = some r := by rw [if_neg (show ¬ (false = true) by decide)] at H; exact H
      clear H
      have H := H1
      clear H1
      have H' := Aside0.mk H
      clear H
      go_wp2_with (first | ((with_reducible refine gate_callee (f := 34) rfl ?_); refine goesL_ (some 16) rfl rfl Tryd.func34 (by kernel_rfl) rfl #[.slice A0 l0.length c0] rfl (by (try simp only [List.map_toArray, List.map_cons, List.map_nil]); first | done | rfl | (simp only [List.length_drop, List.length_take]; rfl)) ?_; (with_reducible refine (laws_zzFits9.calls k _ _ l0 false _ ?side1 ?side2 A4.out).mono ?_); (case side1 => repeat (first | exact (Kd.C_below HR0.out HB.out) | (with_reducible refine Kd.C_alloc ?_ _) | (with_reducible refine Kd.C_drewN ?_ _) | (with_reducible refine Kd.C_drew ?_))); (case side2 => exact HC0.out); rintro e w' ⟨rfl, ⟨nd, rfl⟩⟩; refine ⟨_, rfl, ?_⟩))
      go_meet
      case rel => exact ⟨_, (true), (by first | rfl | (simp; done) | (simp [*]; done) | (simp [wrap64]; done)), H', ⟨by first | omega | exact Nat.le_refl _⟩, ⟨by repeat (first | (with_reducible first | exact HB.out | apply below_alloc | apply pw_below_drewN | apply below_drew1) | exact HB.out)⟩⟩
  case rest =>
    clear HC3
    try clear c1
    try clear p2
    try clear c3
    try clear c5
    obtain ⟨kq, x22_2, rfl, HA, HJ2, HB⟩ := hcut
    cases kq with
    | zero => exact absurd HA.out (by simp [laws_FnNameComesBack.j0])
    | succ kj2 =>
      have H := HA.out
      clear HA
      simp only [laws_FnNameComesBack.j0] at H
      by_cases c6 : x22_2 = true
      · subst c6
        have H1 : (some true) = some r := by rw [if_pos rfl] at H; exact H
        clear H
        have H := H1
        clear H1
        obtain rfl := Option.some.inj H
        go_wp2
        go_ret
        exact ⟨by first | rfl | (simp [errW_none, errW_some] <;> rfl) | (simp [*, errW_none, errW_some] <;> rfl), by repeat (first | (with_reducible first | exact HB.out | apply below_alloc | apply pw_below_drewN | apply below_drew1) | exact HB.out)⟩
      · replace c6 := Bool.eq_false_iff.mpr c6
        subst c6
        have H1 : ((laws_name.f kj2 l0).bind fun bt450 => (if bt450.2 = true then ((spec_Name_Text.f kj2 bt450.1 l1).bind fun t454 => ((impl_PackName.f kj2 t454 255).bind fun bt455 => ((impl_UnpackName.f kj2 bt455.1 0).bind fun bt459 => ((spec_ParseName.f kj2 bt459.1).bind fun bt462 => (if bt455.2 = true then (if bt459.2.2 = true then (if bt462.2.2 = true then (if bt462.2.1 = true then ((spec_Name_Equal.f kj2 bt462.1 bt450.1).bind fun t467 => (if t467 = true then (some (bt459.2.1 == (bt455.1.length : Int))) else (some false))) else (some false)) else (some false)) else (some false)) else (some false)))))) else (some true))) = some r := by rw [if_neg (show ¬ (false = true) by decide)] at H; exact H
        clear H
        have H := H1
        clear H1
        replace H := Option.bind_eq_some_iff.mp H
        obtain ⟨⟨t450, t451⟩, A70, H⟩ := H
        replace H : (if t451 = true then ((spec_Name_Text.f kj2 t450 l1).bind fun t454 => ((impl_PackName.f kj2 t454 255).bind fun bt455 => ((impl_UnpackName.f kj2 bt455.1 0).bind fun bt459 => ((spec_ParseName.f kj2 bt459.1).bind fun bt462 => (if bt455.2 = true then (if bt459.2.2 = true then (if bt462.2.2 = true then (if bt462.2.1 = true then ((spec_Name_Equal.f kj2 bt462.1 t450).bind fun t467 => (if t467 = true then (some (bt459.2.1 == (bt455.1.length : Int))) else (some false))) else (some false)) else (some false)) else (some false)) else (some false)))))) else (some true)) = some r := H
        have A7 := Aside0.mk A70
        clear A70
        by_cases c8 : t451 = true
        · subst c8
          have H1 : ((spec_Name_Text.f kj2 t450 l1).bind fun t454 => ((impl_PackName.f kj2 t454 255).bind fun bt455 => ((impl_UnpackName.f kj2 bt455.1 0).bind fun bt459 => ((spec_ParseName.f kj2 bt459.1).bind fun bt462 => (if bt455.2 = true then (if bt459.2.2 = true then (if bt462.2.2 = true then (if bt462.2.1 = true then ((spec_Name_Equal.f kj2 bt462.1 t450).bind fun t467 => (if t467 = true then (some (bt459.2.1 == (bt455.1.length : Int))) else (some false))) else (some false)) else (some false)) else (some false)) else (some false)))))) = some r := by rw [if_pos rfl] at H; exact H
          clear H
          have H := H1
          clear H1
          replace H := Option.bind_eq_some_iff.mp H
          obtain ⟨t454, A90, H⟩ := H
          replace H : ((impl_PackName.f kj2 t454 255).bind fun bt455 => ((impl_UnpackName.f kj2 bt455.1 0).bind fun bt459 => ((spec_ParseName.f kj2 bt459.1).bind fun bt462 => (if bt455.2 = true then (if bt459.2.2 = true then (if bt462.2.2 = true then (if bt462.2.1 = true then ((spec_Name_Equal.f kj2 bt462.1 t450).bind fun t467 => (if t467 = true then (some (bt459.2.1 == (bt455.1.length : Int))) else (some false))) else (some false)) else (some false)) else (some false)) else (some false))))) = some r := H
          have A9 := Aside0.mk A90
          clear A90
          replace H := Option.bind_eq_some_iff.mp H
          obtain ⟨⟨t455, t456⟩, A100, H⟩ := H
          replace H : ((impl_UnpackName.f kj2 t455 0).bind fun bt459 => ((spec_ParseName.f kj2 bt459.1).bind fun bt462 => (if t456 = true then (if bt459.2.2 = true then (if bt462.2.2 = true then (if bt462.2.1 = true then ((spec_Name_Equal.f kj2 bt462.1 t450).bind fun t467 => (if t467 = true then (some (bt459.2.1 == (t455.length : Int))) else (some false))) else (some false)) else (some false)) else (some false)) else (some false)))) = some r := H
          have A10 := Aside0.mk A100
          clear A100
          replace H := Option.bind_eq_some_iff.mp H
          obtain ⟨⟨t459, t460, t461⟩, A110, H⟩ := H
          replace H : ((spec_ParseName.f kj2 t459).bind fun bt462 => (if t456 = true then (if t461 = true then (if bt462.2.2 = true then (if bt462.2.1 = true then ((spec_Name_Equal.f kj2 bt462.1 t450).bind fun t467 => (if t467 = true then (some (t460 == (t455.length : Int))) else (some false))) else (some false)) else (some false)) else (some false)) else (some false))) = some r := H
          have A11 := Aside0.mk A110
          clear A110
          replace H := Option.bind_eq_some_iff.mp H
          obtain ⟨⟨t462, t463, t464⟩, A120, H⟩ := H
          replace H : (if t456 = true then (if t461 = true then (if t464 = true then (if t463 = true then ((spec_Name_Equal.f kj2 t462 t450).bind fun t467 => (if t467 = true then (some (t460 == (t455.length : Int))) else (some false))) else (some false)) else (some false)) else (some false)) else (some false)) = some r := H
          have A12 := Aside0.mk A120
          clear A120
          by_cases c13 : t456 = true
          · subst c13
            have H1 : (if t461 = true then (if t464 = true then (if t463 = true then ((spec_Name_Equal.f kj2 t462 t450).bind fun t467 => (if t467 = true then (some (t460 == (t455.length : Int))) else (some false))) else (some false)) else (some false)) else (some false)) = some r := by rw [if_pos rfl] at H; exact H
            clear H
            have H := H1
            clear H1
            by_cases c14 : t461 = true
            · subst c14
              have H1 : (if t464 = true then (if t463 = true then ((spec_Name_Equal.f kj2 t462 t450).bind fun t467 => (if t467 = true then (some (t460 == (t455.length : Int))) else (some false))) else (some false)) else (some false)) = some r := by rw [if_pos rfl] at H; exact H
              clear H
              have H := H1
              clear H1
              by_cases c15 : t464 = true
              · subst c15
                have H1 : (if t463 = true then ((spec_Name_Equal.f kj2 t462 t450).bind fun t467 => (if t467 = true then (some (t460 == (t455.length : Int))) else (some false))) else (some false)) = some r := by rw [if_pos rfl] at H; exact H
                clear H
                have H := H1
                clear H1
                by_cases c16 : t463 = true
                · subst c16
                  have H1 : ((spec_Name_Equal.f kj2 t462 t450).bind fun t467 => (if t467 = true then (some (t460 == (t455.length : Int))) else (some false))) = some r := by rw [if_pos rfl] at H; exact H
                  clear H
                  have H := H1
                  clear H1
                  replace H := Option.bind_eq_some_iff.mp H
                  obtain ⟨t467, A170, H⟩ := H
                  replace H : (if t467 = true then (some (t460 == (t455.length : Int))) else (some false)) = some r := H
                  have A17 := Aside0.mk A170
                  clear A170
                  by_cases c18 : t467 = true
                  · subst c18
                    have H1 : (some (t460 == (t455.length : Int))) = some r := by rw [if_pos rfl] at H; exact H
                    clear H
                    have H := H1
                    clear H1
                    obtain rfl := Option.some.inj H
                    go_wp2_with (first | ((with_reducible refine gate_callee (f := 35) rfl ?_); refine goesL_ (some 25) rfl rfl Tryd.func35 (by kernel_rfl) rfl #[.slice A0 l0.length c0] rfl (by (try simp only [List.map_toArray, List.map_cons, List.map_nil]); first | done | rfl | (simp only [List.length_drop, List.length_take]; rfl)) ?_; (with_reducible refine (laws_name.calls kj2 _ _ l0 t450 true _ ?side1 ?side2 A7.out).mono ?_); (case side1 => repeat (first | exact (Kd.C_below HR0.out HB.out) | (with_reducible refine Kd.C_alloc ?_ _) | (with_reducible refine Kd.C_drewN ?_ _) | (with_reducible refine Kd.C_drew ?_))); (case side2 => exact HC0.out); rintro e w19 ⟨v452, rfl, ho0, hb⟩; refine ⟨_, rfl, ?_⟩; have n0_ := Aside0.mk (Kd.R_lower ho0 (below_size (by repeat (first | (with_reducible first | exact HB.out | apply below_alloc | apply pw_below_drewN | apply below_drew1) | exact HB.out)))); have n1_ := Aside0.mk (below_step (by repeat (first | (with_reducible first | exact HB.out | apply below_alloc | apply pw_below_drewN | apply below_drew1) | exact HB.out)) hb); clear HB; have HO453 := n0_; have HB := n1_; clear n0_ n1_; (try clear hb); (try clear hb2); (try clear hk); (try clear hi); (try clear ho0); obtain ⟨Ao20, co20, eo20⟩ := Kd.R_slice HO453.out; subst eo20) | ((with_reducible refine gate_callee (f := 37) rfl ?_); refine goesL_ (some 33) rfl rfl Tryd.func37 (by kernel_rfl) rfl #[.slice Ao20 t450.length co20, .slice A1 l1.length c1] rfl (by (try simp only [List.map_toArray, List.map_cons, List.map_nil]); first | done | rfl | (simp only [List.length_drop, List.length_take]; rfl)) ?_; (with_reducible refine (spec_Name_Text.calls kj2 _ _ t450 _ _ l1 t454 _ ?side1 ?side2 ?side3 ?side4 A9.out).mono ?_); (case side1 => repeat (first | exact (Kd.R_reads' HO453.out).2.2 | (with_reducible refine Kd.C_alloc ?_ _) | (with_reducible refine Kd.C_drewN ?_ _) | (with_reducible refine Kd.C_drew ?_))); (case side2 => exact (Kd.R_reads' HO453.out).2.1); (case side3 => repeat (first | exact (Kd.C_below HR1.out HB.out) | (with_reducible refine Kd.C_alloc ?_ _) | (with_reducible refine Kd.C_drewN ?_ _) | (with_reducible refine Kd.C_drew ?_))); (case side4 => exact HC1.out); rintro e w21 ⟨rfl, hb⟩; refine ⟨_, rfl, ?_⟩; have n0_ := Aside0.mk (Kd.R_below (by (with_reducible repeat (first | apply Kd.R_alloc | apply Kd.R_drewN | apply Kd.R_drew)); exact HO453.out) hb); have n1_ := Aside0.mk (below_step (by repeat (first | (with_reducible first | exact HB.out | apply below_alloc | apply pw_below_drewN | apply below_drew1) | exact HB.out)) hb); clear HO453; clear HB; have HO453 := n0_; have HB := n1_; clear n0_ n1_; (try clear hb); (try clear hb2); (try clear hk); (try clear hi)) | ((with_reducible refine gate_callee (f := 36) rfl ?_); refine goesL_ (some 34) rfl rfl Tryd.func36 (by kernel_rfl) rfl #[.string t454, .int .i64 255] rfl (by (try simp only [List.map_toArray, List.map_cons, List.map_nil]); first | done | rfl | (simp only [List.length_drop, List.length_take]; rfl)) ?_; (with_reducible refine (impl_PackName.calls kj2 t454 255 t455 true _ (GoodP.below (GoodPU.p HG.out) (by repeat (first | (with_reducible first | exact HB.out | apply below_alloc | apply pw_below_drewN | apply below_drew1) | exact HB.out))) A10.out).mono ?_); rintro e w22 ⟨v457, rfl, ho0, hb⟩; refine ⟨_, rfl, ?_⟩; have n0_ := Aside0.mk (Kd.R_below (by (with_reducible repeat (first | apply Kd.R_alloc | apply Kd.R_drewN | apply Kd.R_drew)); exact HO453.out) hb); have n1_ := Aside0.mk (Kd.R_lower ho0 (below_size (by repeat (first | (with_reducible first | exact HB.out | apply below_alloc | apply pw_below_drewN | apply below_drew1) | exact HB.out)))); have n2_ := Aside0.mk (below_step (by repeat (first | (with_reducible first | exact HB.out | apply below_alloc | apply pw_below_drewN | apply below_drew1) | exact HB.out)) hb); clear HO453; clear HB; have HO453 := n0_; have HO458 := n1_; have HB := n2_; clear n0_ n1_ n2_; (try clear hb); (try clear hb2); (try clear hk); (try clear hi); (try clear ho0); obtain ⟨Ao23, co23, eo23⟩ := Kd.R_slice HO458.out; subst eo23) | ((with_reducible refine gate_callee (f := 16) rfl ?_); refine goesL_ (some 39) rfl rfl Tryd.func16 (by kernel_rfl) rfl #[.slice Ao23 t455.length co23, .int .i64 0] rfl (by (try simp only [List.map_toArray, List.map_cons, List.map_nil]); first | done | rfl | (simp only [List.length_drop, List.length_take]; rfl)) ?_; (with_reducible refine (impl_UnpackName.calls kj2 _ _ t455 0 t459 t460 true _ ?side1 ?side2 (GoodU.below (GoodPU.u HG.out) (by repeat (first | (with_reducible first | exact HB.out | apply below_alloc | apply pw_below_drewN | apply below_drew1) | exact HB.out))) A11.out).mono ?_); (case side1 => repeat (first | exact (Kd.R_reads' HO458.out).2.2 | (with_reducible refine Kd.C_alloc ?_ _) | (with_reducible refine Kd.C_drewN ?_ _) | (with_reducible refine Kd.C_drew ?_))); (case side2 => exact (Kd.R_reads' HO458.out).2.1); rintro e w24 ⟨rfl, hb⟩; refine ⟨_, rfl, ?_⟩; have n0_ := Aside0.mk (Kd.R_below (by (with_reducible repeat (first | apply Kd.R_alloc | apply Kd.R_drewN | apply Kd.R_drew)); exact HO453.out) hb); have n1_ := Aside0.mk (Kd.R_below (by (with_reducible repeat (first | apply Kd.R_alloc | apply Kd.R_drewN | apply Kd.R_drew)); exact HO458.out) hb); have n2_ := Aside0.mk (below_step (by repeat (first | (with_reducible first | exact HB.out | apply below_alloc | apply pw_below_drewN | apply below_drew1) | exact HB.out)) hb); clear HO453; clear HO458; clear HB; have HO453 := n0_; have HO458 := n1_; have HB := n2_; clear n0_ n1_ n2_; (try clear hb); (try clear hb2); (try clear hk); (try clear hi)) | ((with_reducible refine gate_callee (f := 17) rfl ?_); refine goesL_ (some 45) rfl rfl Tryd.func17 (by kernel_rfl) rfl #[.string t459] rfl (by (try simp only [List.map_toArray, List.map_cons, List.map_nil]); first | done | rfl | (simp only [List.length_drop, List.length_take]; rfl)) ?_; (with_reducible refine (spec_ParseName.calls kj2 t459 t462 true true _ A12.out).mono ?_); rintro e w25 ⟨v465, rfl, ho0, hb⟩; refine ⟨_, rfl, ?_⟩; have n0_ := Aside0.mk (Kd.R_elder' (by (with_reducible repeat (first | apply Kd.R_alloc | apply Kd.R_drewN | apply Kd.R_drew)); exact HO453.out) (Kd.R_base ho0) hb); have n1_ := Aside0.mk (Kd.R_below (by (with_reducible repeat (first | apply Kd.R_alloc | apply Kd.R_drewN | apply Kd.R_drew)); exact HO458.out) hb); have n2_ := Aside0.mk (Kd.R_lower (Kd.R_new' ho0 (Kd.R_lt (by (with_reducible repeat (first | apply Kd.R_alloc | apply Kd.R_drewN | apply Kd.R_drew)); exact HO453.out))) (below_size (by repeat (first | (with_reducible first | exact HB.out | apply below_alloc | apply pw_below_drewN | apply below_drew1) | exact HB.out)))); have n3_ := Aside0.mk (below_step (by repeat (first | (with_reducible first | exact HB.out | apply below_alloc | apply pw_below_drewN | apply below_drew1) | exact HB.out)) hb); clear HO453; clear HO458; clear HB; have HO453 := n0_; have HO458 := n1_; have HO466 := n2_; have HB := n3_; clear n0_ n1_ n2_ n3_; (try clear hb); (try clear hb2); (try clear hk); (try clear hi); (try clear ho0); obtain ⟨Ao26, co26, eo26⟩ := Kd.R_slice HO466.out; subst eo26) | (go_at_call 18; (with_reducible refine (spec_Name_Equal.calls kj2 _ _ t462 _ _ t450 true _ ?side1 ?side2 ?side3 ?side4 A17.out).mono ?_); (case side1 => repeat (first | exact (Kd.R_reads' HO466.out).2.2 | (with_reducible refine Kd.C_alloc ?_ _) | (with_reducible refine Kd.C_drewN ?_ _) | (with_reducible refine Kd.C_drew ?_))); (case side2 => exact (Kd.R_reads' HO466.out).2.1); (case side3 => repeat (first | exact (Kd.R_reads' HO453.out).2.2 | (with_reducible refine Kd.C_alloc ?_ _) | (with_reducible refine Kd.C_drewN ?_ _) | (with_reducible refine Kd.C_drew ?_))); (case side4 => exact (Kd.R_reads' HO453.out).2.1); rintro e w' ⟨rfl, ⟨nd, rfl⟩⟩))
                    go_ret
                    exact ⟨by first | rfl | (simp [errW_none, errW_some] <;> rfl) | (simp [*, errW_none, errW_some] <;> rfl), by repeat (first | (with_reducible first | exact HB.out | apply below_alloc | apply pw_below_drewN | apply below_drew1) | exact HB.out)⟩
                  · replace c18 := Bool.eq_false_iff.mpr c18
                    subst c18
                    have H1 : (some false) = some r := by rw [if_neg (show ¬ (false = true) by decide)] at H; exact H
                    clear H
                    have H := H1
                    clear H1
                    obtain rfl := Option.some.inj H
                    go_wp2_with (first | ((with_reducible refine gate_callee (f := 35) rfl ?_); refine goesL_ (some 25) rfl rfl Tryd.func35 (by kernel_rfl) rfl #[.slice A0 l0.length c0] rfl (by (try simp only [List.map_toArray, List.map_cons, List.map_nil]); first | done | rfl | (simp only [List.length_drop, List.length_take]; rfl)) ?_; (with_reducible refine (laws_name.calls kj2 _ _ l0 t450 true _ ?side1 ?side2 A7.out).mono ?_); (case side1 => repeat (first | exact (Kd.C_below HR0.out HB.out) | (with_reducible refine Kd.C_alloc ?_ _) | (with_reducible refine Kd.C_drewN ?_ _) | (with_reducible refine Kd.C_drew ?_))); (case side2 => exact HC0.out); rintro e w27 ⟨v452, rfl, ho0, hb⟩; refine ⟨_, rfl, ?_⟩; have n0_ := Aside0.mk (Kd.R_lower ho0 (below_size (by repeat (first | (with_reducible first | exact HB.out | apply below_alloc | apply pw_below_drewN | apply below_drew1) | exact HB.out)))); have n1_ := Aside0.mk (below_step (by repeat (first | (with_reducible first | exact HB.out | apply below_alloc | apply pw_below_drewN | apply below_drew1) | exact HB.out)) hb); clear HB; have HO453 := n0_; have HB := n1_; clear n0_ n1_; (try clear hb); (try clear hb2); (try clear hk); (try clear hi); (try clear ho0); obtain ⟨Ao28, co28, eo28⟩ := Kd.R_slice HO453.out; subst eo28) | ((with_reducible refine gate_callee (f := 37) rfl ?_); refine goesL_ (some 33) rfl rfl Tryd.func37 (by kernel_rfl) rfl #[.slice Ao28 t450.length co28, .slice A1 l1.length c1] rfl (by (try simp only [List.map_toArray, List.map_cons, List.map_nil]); first | done | rfl | (simp only [List.length_drop, List.length_take]; rfl)) ?_; (with_reducible refine (spec_Name_Text.calls kj2 _ _ t450 _ _ l1 t454 _ ?side1 ?side2 ?side3 ?side4 A9.out).mono ?_); (case side1 => repeat (first | exact (Kd.R_reads' HO453.out).2.2 | (with_reducible refine Kd.C_alloc ?_ _) | (with_reducible refine Kd.C_drewN ?_ _) | (with_reducible refine Kd.C_drew ?_))); (case side2 => exact (Kd.R_reads' HO453.out).2.1); (case side3 => repeat (first | exact (Kd.C_below HR1.out HB.out) | (with_reducible refine Kd.C_alloc ?_ _) | (with_reducible refine Kd.C_drewN ?_ _) | (with_reducible refine Kd.C_drew ?_))); (case side4 => exact HC1.out); rintro e w29 ⟨rfl, hb⟩; refine ⟨_, rfl, ?_⟩; have n0_ := Aside0.mk (Kd.R_below (by (with_reducible repeat (first | apply Kd.R_alloc | apply Kd.R_drewN | apply Kd.R_drew)); exact HO453.out) hb); have n1_ := Aside0.mk (below_step (by repeat (first | (with_reducible first | exact HB.out | apply below_alloc | apply pw_below_drewN | apply below_drew1) | exact HB.out)) hb); clear HO453; clear HB; have HO453 := n0_; have HB := n1_; clear n0_ n1_; (try clear hb); (try clear hb2); (try clear hk); (try clear hi)) | ((with_reducible refine gate_callee (f := 36) rfl ?_); refine goesL_ (some 34) rfl rfl Tryd.func36 (by kernel_rfl) rfl #[.string t454, .int .i64 255] rfl (by (try simp only [List.map_toArray, List.map_cons, List.map_nil]); first | done | rfl | (simp only [List.length_drop, List.length_take]; rfl)) ?_; (with_reducible refine (impl_PackName.calls kj2 t454 255 t455 true _ (GoodP.below (GoodPU.p HG.out) (by repeat (first | (with_reducible first | exact HB.out | apply below_alloc | apply pw_below_drewN | apply below_drew1) | exact HB.out))) A10.out).mono ?_); rintro e w30 ⟨v457, rfl, ho0, hb⟩; refine ⟨_, rfl, ?_⟩; have n0_ := Aside0.mk (Kd.R_below (by (with_reducible repeat (first | apply Kd.R_alloc | apply Kd.R_drewN | apply Kd.R_drew)); exact HO453.out) hb); have n1_ := Aside0.mk (Kd.R_lower ho0 (below_size (by repeat (first | (with_reducible first | exact HB.out | apply below_alloc | apply pw_below_drewN | apply below_drew1) | exact HB.out)))); have n2_ := Aside0.mk (below_step (by repeat (first | (with_reducible first | exact HB.out | apply below_alloc | apply pw_below_drewN | apply below_drew1) | exact HB.out)) hb); clear HO453; clear HB; have HO453 := n0_; have HO458 := n1_; have HB := n2_; clear n0_ n1_ n2_; (try clear hb); (try clear hb2); (try clear hk); (try clear hi); (try clear ho0); obtain ⟨Ao31, co31, eo31⟩ := Kd.R_slice HO458.out; subst eo31) | ((with_reducible refine gate_callee (f := 16) rfl ?_); refine goesL_ (some 39) rfl rfl Tryd.func16 (by kernel_rfl) rfl #[.slice Ao31 t455.length co31, .int .i64 0] rfl (by (try simp only [List.map_toArray, List.map_cons, List.map_nil]); first | done | rfl | (simp only [List.length_drop, List.length_take]; rfl)) ?_; (with_reducible refine (impl_UnpackName.calls kj2 _ _ t455 0 t459 t460 true _ ?side1 ?side2 (GoodU.below (GoodPU.u HG.out) (by repeat (first | (with_reducible first | exact HB.out | apply below_alloc | apply pw_below_drewN | apply below_drew1) | exact HB.out))) A11.out).mono ?_); (case side1 => repeat (first | exact (Kd.R_reads' HO458.out).2.2 | (with_reducible refine Kd.C_alloc ?_ _) | (with_reducible refine Kd.C_drewN ?_ _) | (with_reducible refine Kd.C_drew ?_))); (case side2 => exact (Kd.R_reads' HO458.out).2.1); rintro e w32 ⟨rfl, hb⟩; refine ⟨_, rfl, ?_⟩; have n0_ := Aside0.mk (Kd.R_below (by (with_reducible repeat (first | apply Kd.R_alloc | apply Kd.R_drewN | apply Kd.R_drew)); exact HO453.out) hb); have n1_ := Aside0.mk (Kd.R_below (by (with_reducible repeat (first | apply Kd.R_alloc | apply Kd.R_drewN | apply Kd.R_drew)); exact HO458.out) hb); have n2_ := Aside0.mk (below_step (by repeat (first | (with_reducible first | exact HB.out | apply below_alloc | apply pw_below_drewN | apply below_drew1) | exact HB.out)) hb); clear HO453; clear HO458; clear HB; have HO453 := n0_; have HO458 := n1_; have HB := n2_; clear n0_ n1_ n2_; (try clear hb); (try clear hb2); (try clear hk); (try clear hi)) | ((with_reducible refine gate_callee (f := 17) rfl ?_); refine goesL_ (some 45) rfl rfl Tryd.func17 (by kernel_rfl) rfl #[.string t459] rfl (by (try simp only [List.map_toArray, List.map_cons, List.map_nil]); first | done | rfl | (simp only [List.length_drop, List.length_take]; rfl)) ?_; (with_reducible refine (spec_ParseName.calls kj2 t459 t462 true true _ A12.out).mono ?_); rintro e w33 ⟨v465, rfl, ho0, hb⟩; refine ⟨_, rfl, ?_⟩; have n0_ := Aside0.mk (Kd.R_elder' (by (with_reducible repeat (first | apply Kd.R_alloc | apply Kd.R_drewN | apply Kd.R_drew)); exact HO453.out) (Kd.R_base ho0) hb); have n1_ := Aside0.mk (Kd.R_below (by (with_reducible repeat (first | apply Kd.R_alloc | apply Kd.R_drewN | apply Kd.R_drew)); exact HO458.out) hb); have n2_ := Aside0.mk (Kd.R_lower (Kd.R_new' ho0 (Kd.R_lt (by (with_reducible repeat (first | apply Kd.R_alloc | apply Kd.R_drewN | apply Kd.R_drew)); exact HO453.out))) (below_size (by repeat (first | (with_reducible first | exact HB.out | apply below_alloc | apply pw_below_drewN | apply below_drew1) | exact HB.out)))); have n3_ := Aside0.mk (below_step (by repeat (first | (with_reducible first | exact HB.out | apply below_alloc | apply pw_below_drewN | apply below_drew1) | exact HB.out)) hb); clear HO453; clear HO458; clear HB; have HO453 := n0_; have HO458 := n1_; have HO466 := n2_; have HB := n3_; clear n0_ n1_ n2_ n3_; (try clear hb); (try clear hb2); (try clear hk); (try clear hi); (try clear ho0); obtain ⟨Ao34, co34, eo34⟩ := Kd.R_slice HO466.out; subst eo34) | (go_at_call 18; (with_reducible refine (spec_Name_Equal.calls kj2 _ _ t462 _ _ t450 false _ ?side1 ?side2 ?side3 ?side4 A17.out).mono ?_); (case side1 => repeat (first | exact (Kd.R_reads' HO466.out).2.2 | (with_reducible refine Kd.C_alloc ?_ _) | (with_reducible refine Kd.C_drewN ?_ _) | (with_reducible refine Kd.C_drew ?_))); (case side2 => exact (Kd.R_reads' HO466.out).2.1); (case side3 => repeat (first | exact (Kd.R_reads' HO453.out).2.2 | (with_reducible refine Kd.C_alloc ?_ _) | (with_reducible refine Kd.C_drewN ?_ _) | (with_reducible refine Kd.C_drew ?_))); (case side4 => exact (Kd.R_reads' HO453.out).2.1); rintro e w' ⟨rfl, ⟨nd, rfl⟩⟩))
                    go_ret
                    exact ⟨by first | rfl | (simp [errW_none, errW_some] <;> rfl) | (simp [*, errW_none, errW_some] <;> rfl), by repeat (first | (with_reducible first | exact HB.out | apply below_alloc | apply pw_below_drewN | apply below_drew1) | exact HB.out)⟩
                · replace c16 := Bool.eq_false_iff.mpr c16
                  subst c16
                  have H1 : (some false) = some r := by rw [if_neg (show ¬ (false = true) by decide)] at H; exact H
                  clear H
                  have H := H1
                  clear H1
                  obtain rfl := Option.some.inj H
                  go_wp2_with (first | ((with_reducible refine gate_callee (f := 35) rfl ?_); refine goesL_ (some 25) rfl rfl Tryd.func35 (by kernel_rfl) rfl #[.slice A0 l0.length c0] rfl (by (try simp only [List.map_toArray, List.map_cons, List.map_nil]); first | done | rfl | (simp only [List.length_drop, List.length_take]; rfl)) ?_; (with_reducible refine (laws_name.calls kj2 _ _ l0 t450 true _ ?side1 ?side2 A7.out).mono ?_); (case side1 => repeat (first | exact (Kd.C_below HR0.out HB.out) | (with_reducible refine Kd.C_alloc ?_ _) | (with_reducible refine Kd.C_drewN ?_ _) | (with_reducible refine Kd.C_drew ?_))); (case side2 => exact HC0.out); rintro e w35 ⟨v452, rfl, ho0, hb⟩; refine ⟨_, rfl, ?_⟩; have n0_ := Aside0.mk (Kd.R_lower ho0 (below_size (by repeat (first | (with_reducible first | exact HB.out | apply below_alloc | apply pw_below_drewN | apply below_drew1) | exact HB.out)))); have n1_ := Aside0.mk (below_step (by repeat (first | (with_reducible first | exact HB.out | apply below_alloc | apply pw_below_drewN | apply below_drew1) | exact HB.out)) hb); clear HB; have HO453 := n0_; have HB := n1_; clear n0_ n1_; (try clear hb); (try clear hb2); (try clear hk); (try clear hi); (try clear ho0); obtain ⟨Ao36, co36, eo36⟩ := Kd.R_slice HO453.out; subst eo36) | ((with_reducible refine gate_callee (f := 37) rfl ?_); refine goesL_ (some 33) rfl rfl Tryd.func37 (by kernel_rfl) rfl #[.slice Ao36 t450.length co36, .slice A1 l1.length c1] rfl (by (try simp only [List.map_toArray, List.map_cons, List.map_nil]); first | done | rfl | (simp only [List.length_drop, List.length_take]; rfl)) ?_; (with_reducible refine (spec_Name_Text.calls kj2 _ _ t450 _ _ l1 t454 _ ?side1 ?side2 ?side3 ?side4 A9.out).mono ?_); (case side1 => repeat (first | exact (Kd.R_reads' HO453.out).2.2 | (with_reducible refine Kd.C_alloc ?_ _) | (with_reducible refine Kd.C_drewN ?_ _) | (with_reducible refine Kd.C_drew ?_))); (case side2 => exact (Kd.R_reads' HO453.out).2.1); (case side3 => repeat (first | exact (Kd.C_below HR1.out HB.out) | (with_reducible refine Kd.C_alloc ?_ _) | (with_reducible refine Kd.C_drewN ?_ _) | (with_reducible refine Kd.C_drew ?_))); (case side4 => exact HC1.out); rintro e w37 ⟨rfl, hb⟩; refine ⟨_, rfl, ?_⟩; have n0_ := Aside0.mk (Kd.R_below (by (with_reducible repeat (first | apply Kd.R_alloc | apply Kd.R_drewN | apply Kd.R_drew)); exact HO453.out) hb); have n1_ := Aside0.mk (below_step (by repeat (first | (with_reducible first | exact HB.out | apply below_alloc | apply pw_below_drewN | apply below_drew1) | exact HB.out)) hb); clear HO453; clear HB; have HO453 := n0_; have HB := n1_; clear n0_ n1_; (try clear hb); (try clear hb2); (try clear hk); (try clear hi)) | ((with_reducible refine gate_callee (f := 36) rfl ?_); refine goesL_ (some 34) rfl rfl Tryd.func36 (by kernel_rfl) rfl #[.string t454, .int .i64 255] rfl (by (try simp only [List.map_toArray, List.map_cons, List.map_nil]); first | done | rfl | (simp only [List.length_drop, List.length_take]; rfl)) ?_; (with_reducible refine (impl_PackName.calls kj2 t454 255 t455 true _ (GoodP.below (GoodPU.p HG.out) (by repeat (first | (with_reducible first | exact HB.out | apply below_alloc | apply pw_below_drewN | apply below_drew1) | exact HB.out))) A10.out).mono ?_); rintro e w38 ⟨v457, rfl, ho0, hb⟩; refine ⟨_, rfl, ?_⟩; have n0_ := Aside0.mk (Kd.R_below (by (with_reducible repeat (first | apply Kd.R_alloc | apply Kd.R_drewN | apply Kd.R_drew)); exact HO453.out) hb); have n1_ := Aside0.mk (Kd.R_lower ho0 (below_size (by repeat (first | (with_reducible first | exact HB.out | apply below_alloc | apply pw_below_drewN | apply below_drew1) | exact HB.out)))); have n2_ := Aside0.mk (below_step (by repeat (first | (with_reducible first | exact HB.out | apply below_alloc | apply pw_below_drewN | apply below_drew1) | exact HB.out)) hb); clear HO453; clear HB; have HO453 := n0_; have HO458 := n1_; have HB := n2_; clear n0_ n1_ n2_; (try clear hb); (try clear hb2); (try clear hk); (try clear hi); (try clear ho0); obtain ⟨Ao39, co39, eo39⟩ := Kd.R_slice HO458.out; subst eo39) | ((with_reducible refine gate_callee (f := 16) rfl ?_); refine goesL_ (some 39) rfl rfl Tryd.func16 (by kernel_rfl) rfl #[.slice Ao39 t455.length co39, .int .i64 0] rfl (by (try simp only [List.map_toArray, List.map_cons, List.map_nil]); first | done | rfl | (simp only [List.length_drop, List.length_take]; rfl)) ?_; (with_reducible refine (impl_UnpackName.calls kj2 _ _ t455 0 t459 t460 true _ ?side1 ?side2 (GoodU.below (GoodPU.u HG.out) (by repeat (first | (with_reducible first | exact HB.out | apply below_alloc | apply pw_below_drewN | apply below_drew1) | exact HB.out))) A11.out).mono ?_); (case side1 => repeat (first | exact (Kd.R_reads' HO458.out).2.2 | (with_reducible refine Kd.C_alloc ?_ _) | (with_reducible refine Kd.C_drewN ?_ _) | (with_reducible refine Kd.C_drew ?_))); (case side2 => exact (Kd.R_reads' HO458.out).2.1); rintro e w40 ⟨rfl, hb⟩; refine ⟨_, rfl, ?_⟩; have n0_ := Aside0.mk (Kd.R_below (by (with_reducible repeat (first | apply Kd.R_alloc | apply Kd.R_drewN | apply Kd.R_drew)); exact HO453.out) hb); have n1_ := Aside0.mk (Kd.R_below (by (with_reducible repeat (first | apply Kd.R_alloc | apply Kd.R_drewN | apply Kd.R_drew)); exact HO458.out) hb); have n2_ := Aside0.mk (below_step (by repeat (first | (with_reducible first | exact HB.out | apply below_alloc | apply pw_below_drewN | apply below_drew1) | exact HB.out)) hb); clear HO453; clear HO458; clear HB; have HO453 := n0_; have HO458 := n1_; have HB := n2_; clear n0_ n1_ n2_; (try clear hb); (try clear hb2); (try clear hk); (try clear hi)) | ((with_reducible refine gate_callee (f := 17) rfl ?_); refine goesL_ (some 45) rfl rfl Tryd.func17 (by kernel_rfl) rfl #[.string t459] rfl (by (try simp only [List.map_toArray, List.map_cons, List.map_nil]); first | done | rfl | (simp only [List.length_drop, List.length_take]; rfl)) ?_; (with_reducible refine (spec_ParseName.calls kj2 t459 t462 false true _ A12.out).mono ?_); rintro e w41 ⟨v465, rfl, ho0, hb⟩; refine ⟨_, rfl, ?_⟩; have n0_ := Aside0.mk (Kd.R_elder' (by (with_reducible repeat (first | apply Kd.R_alloc | apply Kd.R_drewN | apply Kd.R_drew)); exact HO453.out) (Kd.R_base ho0) hb); have n1_ := Aside0.mk (Kd.R_below (by (with_reducible repeat (first | apply Kd.R_alloc | apply Kd.R_drewN | apply Kd.R_drew)); exact HO458.out) hb); have n2_ := Aside0.mk (Kd.R_lower (Kd.R_new' ho0 (Kd.R_lt (by (with_reducible repeat (first | apply Kd.R_alloc | apply Kd.R_drewN | apply Kd.R_drew)); exact HO453.out))) (below_size (by repeat (first | (with_reducible first | exact HB.out | apply below_alloc | apply pw_below_drewN | apply below_drew1) | exact HB.out)))); have n3_ := Aside0.mk (below_step (by repeat (first | (with_reducible first | exact HB.out | apply below_alloc | apply pw_below_drewN | apply below_drew1) | exact HB.out)) hb); clear HO453; clear HO458; clear HB; have HO453 := n0_; have HO458 := n1_; have HO466 := n2_; have HB := n3_; clear n0_ n1_ n2_ n3_; (try clear hb); (try clear hb2); (try clear hk); (try clear hi); (try clear ho0)))
                  go_ret
                  exact ⟨by first | rfl | (simp [errW_none, errW_some] <;> rfl) | (simp [*, errW_none, errW_some] <;> rfl), by repeat (first | (with_reducible first | exact HB.out | apply below_alloc | apply pw_below_drewN | apply below_drew1) | exact HB.out)⟩
              · replace c15 := Bool.eq_false_iff.mpr c15
                subst c15
                have H1 : (some false) = some r := by rw [if_neg (show ¬ (false = true) by decide)] at H; exact H
                clear H
                have H := H1
                clear H1
                obtain rfl := Option.some.inj H
                go_wp2_with (first | ((with_reducible refine gate_callee (f := 35) rfl ?_); refine goesL_ (some 25) rfl rfl Tryd.func35 (by kernel_rfl) rfl #[.slice A0 l0.length c0] rfl (by (try simp only [List.map_toArray, List.map_cons, List.map_nil]); first | done | rfl | (simp only [List.length_drop, List.length_take]; rfl)) ?_; (with_reducible refine (laws_name.calls kj2 _ _ l0 t450 true _ ?side1 ?side2 A7.out).mono ?_); (case side1 => repeat (first | exact (Kd.C_below HR0.out HB.out) | (with_reducible refine Kd.C_alloc ?_ _) | (with_reducible refine Kd.C_drewN ?_ _) | (with_reducible refine Kd.C_drew ?_))); (case side2 => exact HC0.out); rintro e w42 ⟨v452, rfl, ho0, hb⟩; refine ⟨_, rfl, ?_⟩; have n0_ := Aside0.mk (Kd.R_lower ho0 (below_size (by repeat (first | (with_reducible first | exact HB.out | apply below_alloc | apply pw_below_drewN | apply below_drew1) | exact HB.out)))); have n1_ := Aside0.mk (below_step (by repeat (first | (with_reducible first | exact HB.out | apply below_alloc | apply pw_below_drewN | apply below_drew1) | exact HB.out)) hb); clear HB; have HO453 := n0_; have HB := n1_; clear n0_ n1_; (try clear hb); (try clear hb2); (try clear hk); (try clear hi); (try clear ho0); obtain ⟨Ao43, co43, eo43⟩ := Kd.R_slice HO453.out; subst eo43) | ((with_reducible refine gate_callee (f := 37) rfl ?_); refine goesL_ (some 33) rfl rfl Tryd.func37 (by kernel_rfl) rfl #[.slice Ao43 t450.length co43, .slice A1 l1.length c1] rfl (by (try simp only [List.map_toArray, List.map_cons, List.map_nil]); first | done | rfl | (simp only [List.length_drop, List.length_take]; rfl)) ?_; (with_reducible refine (spec_Name_Text.calls kj2 _ _ t450 _ _ l1 t454 _ ?side1 ?side2 ?side3 ?side4 A9.out).mono ?_); (case side1 => repeat (first | exact (Kd.R_reads' HO453.out).2.2 | (with_reducible refine Kd.C_alloc ?_ _) | (with_reducible refine Kd.C_drewN ?_ _) | (with_reducible refine Kd.C_drew ?_))); (case side2 => exact (Kd.R_reads' HO453.out).2.1); (case side3 => repeat (first | exact (Kd.C_below HR1.out HB.out) | (with_reducible refine Kd.C_alloc ?_ _) | (with_reducible refine Kd.C_drewN ?_ _) | (with_reducible refine Kd.C_drew ?_))); (case side4 => exact HC1.out); rintro e w44 ⟨rfl, hb⟩; refine ⟨_, rfl, ?_⟩; have n0_ := Aside0.mk (Kd.R_below (by (with_reducible repeat (first | apply Kd.R_alloc | apply Kd.R_drewN | apply Kd.R_drew)); exact HO453.out) hb); have n1_ := Aside0.mk (below_step (by repeat (first | (with_reducible first | exact HB.out | apply below_alloc | apply pw_below_drewN | apply below_drew1) | exact HB.out)) hb); clear HO453; clear HB; have HO453 := n0_; have HB := n1_; clear n0_ n1_; (try clear hb); (try clear hb2); (try clear hk); (try clear hi)) | ((with_reducible refine gate_callee (f := 36) rfl ?_); refine goesL_ (some 34) rfl rfl Tryd.func36 (by kernel_rfl) rfl #[.string t454, .int .i64 255] rfl (by (try simp only [List.map_toArray, List.map_cons, List.map_nil]); first | done | rfl | (simp only [List.length_drop, List.length_take]; rfl)) ?_; (with_reducible refine (impl_PackName.calls kj2 t454 255 t455 true _ (GoodP.below (GoodPU.p HG.out) (by repeat (first | (with_reducible first | exact HB.out | apply below_alloc | apply pw_below_drewN | apply below_drew1) | exact HB.out))) A10.out).mono ?_); rintro e w45 ⟨v457, rfl, ho0, hb⟩; refine ⟨_, rfl, ?_⟩; have n0_ := Aside0.mk (Kd.R_below (by (with_reducible repeat (first | apply Kd.R_alloc | apply Kd.R_drewN | apply Kd.R_drew)); exact HO453.out) hb); have n1_ := Aside0.mk (Kd.R_lower ho0 (below_size (by repeat (first | (with_reducible first | exact HB.out | apply below_alloc | apply pw_below_drewN | apply below_drew1) | exact HB.out)))); have n2_ := Aside0.mk (below_step (by repeat (first | (with_reducible first | exact HB.out | apply below_alloc | apply pw_below_drewN | apply below_drew1) | exact HB.out)) hb); clear HO453; clear HB; have HO453 := n0_; have HO458 := n1_; have HB := n2_; clear n0_ n1_ n2_; (try clear hb); (try clear hb2); (try clear hk); (try clear hi); (try clear ho0); obtain ⟨Ao46, co46, eo46⟩ := Kd.R_slice HO458.out; subst eo46) | ((with_reducible refine gate_callee (f := 16) rfl ?_); refine goesL_ (some 39) rfl rfl Tryd.func16 (by kernel_rfl) rfl #[.slice Ao46 t455.length co46, .int .i64 0] rfl (by (try simp only [List.map_toArray, List.map_cons, List.map_nil]); first | done | rfl | (simp only [List.length_drop, List.length_take]; rfl)) ?_; (with_reducible refine (impl_UnpackName.calls kj2 _ _ t455 0 t459 t460 true _ ?side1 ?side2 (GoodU.below (GoodPU.u HG.out) (by repeat (first | (with_reducible first | exact HB.out | apply below_alloc | apply pw_below_drewN | apply below_drew1) | exact HB.out))) A11.out).mono ?_); (case side1 => repeat (first | exact (Kd.R_reads' HO458.out).2.2 | (with_reducible refine Kd.C_alloc ?_ _) | (with_reducible refine Kd.C_drewN ?_ _) | (with_reducible refine Kd.C_drew ?_))); (case side2 => exact (Kd.R_reads' HO458.out).2.1); rintro e w47 ⟨rfl, hb⟩; refine ⟨_, rfl, ?_⟩; have n0_ := Aside0.mk (Kd.R_below (by (with_reducible repeat (first | apply Kd.R_alloc | apply Kd.R_drewN | apply Kd.R_drew)); exact HO453.out) hb); have n1_ := Aside0.mk (Kd.R_below (by (with_reducible repeat (first | apply Kd.R_alloc | apply Kd.R_drewN | apply Kd.R_drew)); exact HO458.out) hb); have n2_ := Aside0.mk (below_step (by repeat (first | (with_reducible first | exact HB.out | apply below_alloc | apply pw_below_drewN | apply below_drew1) | exact HB.out)) hb); clear HO453; clear HO458; clear HB; have HO453 := n0_; have HO458 := n1_; have HB := n2_; clear n0_ n1_ n2_; (try clear hb); (try clear hb2); (try clear hk); (try clear hi)) | ((with_reducible refine gate_callee (f := 17) rfl ?_); refine goesL_ (some 45) rfl rfl Tryd.func17 (by kernel_rfl) rfl #[.string t459] rfl (by (try simp only [List.map_toArray, List.map_cons, List.map_nil]); first | done | rfl | (simp only [List.length_drop, List.length_take]; rfl)) ?_; (with_reducible refine (spec_ParseName.calls kj2 t459 t462 t463 false _ A12.out).mono ?_); rintro e w48 ⟨v465, rfl, ho0, hb⟩; refine ⟨_, rfl, ?_⟩; have n0_ := Aside0.mk (Kd.R_elder' (by (with_reducible repeat (first | apply Kd.R_alloc | apply Kd.R_drewN | apply Kd.R_drew)); exact HO453.out) (Kd.R_base ho0) hb); have n1_ := Aside0.mk (Kd.R_below (by (with_reducible repeat (first | apply Kd.R_alloc | apply Kd.R_drewN | apply Kd.R_drew)); exact HO458.out) hb); have n2_ := Aside0.mk (Kd.R_lower (Kd.R_new' ho0 (Kd.R_lt (by (with_reducible repeat (first | apply Kd.R_alloc | apply Kd.R_drewN | apply Kd.R_drew)); exact HO453.out))) (below_size (by repeat (first | (with_reducible first | exact HB.out | apply below_alloc | apply pw_below_drewN | apply below_drew1) | exact HB.out)))); have n3_ := Aside0.mk (below_step (by repeat (first | (with_reducible first | exact HB.out | apply below_alloc | apply pw_below_drewN | apply below_drew1) | exact HB.out)) hb); clear HO453; clear HO458; clear HB; have HO453 := n0_; have HO458 := n1_; have HO466 := n2_; have HB := n3_; clear n0_ n1_ n2_ n3_; (try clear hb); (try clear hb2); (try clear hk); (try clear hi); (try clear ho0)))
                go_ret
                exact ⟨by first | rfl | (simp [errW_none, errW_some] <;> rfl) | (simp [*, errW_none, errW_some] <;> rfl), by repeat (first | (with_reducible first | exact HB.out | apply below_alloc | apply pw_below_drewN | apply below_drew1) | exact HB.out)⟩
            · replace c14 := Bool.eq_false_iff.mpr c14
              subst c14
              have H1 : (some false) = some r := by rw [if_neg (show ¬ (false = true) by decide)] at H; exact H
              clear H
              have H := H1
              clear H1
              obtain rfl := Option.some.inj H
              go_wp2_with (first | ((with_reducible refine gate_callee (f := 35) rfl ?_); refine goesL_ (some 25) rfl rfl Tryd.func35 (by kernel_rfl) rfl #[.slice A0 l0.length c0] rfl (by (try simp only [List.map_toArray, List.map_cons, List.map_nil]); first | done | rfl | (simp only [List.length_drop, List.length_take]; rfl)) ?_; (with_reducible refine (laws_name.calls kj2 _ _ l0 t450 true _ ?side1 ?side2 A7.out).mono ?_); (case side1 => repeat (first | exact (Kd.C_below HR0.out HB.out) | (with_reducible refine Kd.C_alloc ?_ _) | (with_reducible refine Kd.C_drewN ?_ _) | (with_reducible refine Kd.C_drew ?_))); (case side2 => exact HC0.out); rintro e w49 ⟨v452, rfl, ho0, hb⟩; refine ⟨_, rfl, ?_⟩; have n0_ := Aside0.mk (Kd.R_lower ho0 (below_size (by repeat (first | (with_reducible first | exact HB.out | apply below_alloc | apply pw_below_drewN | apply below_drew1) | exact HB.out)))); have n1_ := Aside0.mk (below_step (by repeat (first | (with_reducible first | exact HB.out | apply below_alloc | apply pw_below_drewN | apply below_drew1) | exact HB.out)) hb); clear HB; have HO453 := n0_; have HB := n1_; clear n0_ n1_; (try clear hb); (try clear hb2); (try clear hk); (try clear hi); (try clear ho0); obtain ⟨Ao50, co50, eo50⟩ := Kd.R_slice HO453.out; subst eo50) | ((with_reducible refine gate_callee (f := 37) rfl ?_); refine goesL_ (some 33) rfl rfl Tryd.func37 (by kernel_rfl) rfl #[.slice Ao50 t450.length co50, .slice A1 l1.length c1] rfl (by (try simp only [List.map_toArray, List.map_cons, List.map_nil]); first | done | rfl | (simp only [List.length_drop, List.length_take]; rfl)) ?_; (with_reducible refine (spec_Name_Text.calls kj2 _ _ t450 _ _ l1 t454 _ ?side1 ?side2 ?side3 ?side4 A9.out).mono ?_); (case side1 => repeat (first | exact (Kd.R_reads' HO453.out).2.2 | (with_reducible refine Kd.C_alloc ?_ _) | (with_reducible refine Kd.C_drewN ?_ _) | (with_reducible refine Kd.C_drew ?_))); (case side2 => exact (Kd.R_reads' HO453.out).2.1); (case side3 => repeat (first | exact (Kd.C_below HR1.out HB.out) | (with_reducible refine Kd.C_alloc ?_ _) | (with_reducible refine Kd.C_drewN ?_ _) | (with_reducible refine Kd.C_drew ?_))); (case side4 => exact HC1.out); rintro e w51 ⟨rfl, hb⟩; refine ⟨_, rfl, ?_⟩; have n0_ := Aside0.mk (Kd.R_below (by (with_reducible repeat (first | apply Kd.R_alloc | apply Kd.R_drewN | apply Kd.R_drew)); exact HO453.out) hb); have n1_ := Aside0.mk (below_step (by repeat (first | (with_reducible first | exact HB.out | apply below_alloc | apply pw_below_drewN | apply below_drew1) | exact HB.out)) hb); clear HO453; clear HB; have HO453 := n0_; have HB := n1_; clear n0_ n1_; (try clear hb); (try clear hb2); (try clear hk); (try clear hi)) | ((with_reducible refine gate_callee (f := 36) rfl ?_); refine goesL_ (some 34) rfl rfl Tryd.func36 (by kernel_rfl) rfl #[.string t454, .int .i64 255] rfl (by (try simp only [List.map_toArray, List.map_cons, List.map_nil]); first | done | rfl | (simp only [List.length_drop, List.length_take]; rfl)) ?_; (with_reducible refine (impl_PackName.calls kj2 t454 255 t455 true _ (GoodP.below (GoodPU.p HG.out) (by repeat (first | (with_reducible first | exact HB.out | apply below_alloc | apply pw_below_drewN | apply below_drew1) | exact HB.out))) A10.out).mono ?_); rintro e w52 ⟨v457, rfl, ho0, hb⟩; refine ⟨_, rfl, ?_⟩; have n0_ := Aside0.mk (Kd.R_below (by (with_reducible repeat (first | apply Kd.R_alloc | apply Kd.R_drewN | apply Kd.R_drew)); exact HO453.out) hb); have n1_ := Aside0.mk (Kd.R_lower ho0 (below_size (by repeat (first | (with_reducible first | exact HB.out | apply below_alloc | apply pw_below_drewN | apply below_drew1) | exact HB.out)))); have n2_ := Aside0.mk (below_step (by repeat (first | (with_reducible first | exact HB.out | apply below_alloc | apply pw_below_drewN | apply below_drew1) | exact HB.out)) hb); clear HO453; clear HB; have HO453 := n0_; have HO458 := n1_; have HB := n2_; clear n0_ n1_ n2_; (try clear hb); (try clear hb2); (try clear hk); (try clear hi); (try clear ho0); obtain ⟨Ao53, co53, eo53⟩ := Kd.R_slice HO458.out; subst eo53) | ((with_reducible refine gate_callee (f := 16) rfl ?_); refine goesL_ (some 39) rfl rfl Tryd.func16 (by kernel_rfl) rfl #[.slice Ao53 t455.length co53, .int .i64 0] rfl (by (try simp only [List.map_toArray, List.map_cons, List.map_nil]); first | done | rfl | (simp only [List.length_drop, List.length_take]; rfl)) ?_; (with_reducible refine (impl_UnpackName.calls kj2 _ _ t455 0 t459 t460 false _ ?side1 ?side2 (GoodU.below (GoodPU.u HG.out) (by repeat (first | (with_reducible first | exact HB.out | apply below_alloc | apply pw_below_drewN | apply below_drew1) | exact HB.out))) A11.out).mono ?_); (case side1 => repeat (first | exact (Kd.R_reads' HO458.out).2.2 | (with_reducible refine Kd.C_alloc ?_ _) | (with_reducible refine Kd.C_drewN ?_ _) | (with_reducible refine Kd.C_drew ?_))); (case side2 => exact (Kd.R_reads' HO458.out).2.1); rintro e w54 ⟨rfl, hb⟩; refine ⟨_, rfl, ?_⟩; have n0_ := Aside0.mk (Kd.R_below (by (with_reducible repeat (first | apply Kd.R_alloc | apply Kd.R_drewN | apply Kd.R_drew)); exact HO453.out) hb); have n1_ := Aside0.mk (Kd.R_below (by (with_reducible repeat (first | apply Kd.R_alloc | apply Kd.R_drewN | apply Kd.R_drew)); exact HO458.out) hb); have n2_ := Aside0.mk (below_step (by repeat (first | (with_reducible first | exact HB.out | apply below_alloc | apply pw_below_drewN | apply below_drew1) | exact HB.out)) hb); clear HO453; clear HO458; clear HB; have HO453 := n0_; have HO458 := n1_; have HB := n2_; clear n0_ n1_ n2_; (try clear hb); (try clear hb2); (try clear hk); (try clear hi)) | ((with_reducible refine gate_callee (f := 17) rfl ?_); refine goesL_ (some 45) rfl rfl Tryd.func17 (by kernel_rfl) rfl #[.string t459] rfl (by (try simp only [List.map_toArray, List.map_cons, List.map_nil]); first | done | rfl | (simp only [List.length_drop, List.length_take]; rfl)) ?_; (with_reducible refine (spec_ParseName.calls kj2 t459 t462 t463 t464 _ A12.out).mono ?_); rintro e w55 ⟨v465, rfl, ho0, hb⟩; refine ⟨_, rfl, ?_⟩; have n0_ := Aside0.mk (Kd.R_elder' (by (with_reducible repeat (first | apply Kd.R_alloc | apply Kd.R_drewN | apply Kd.R_drew)); exact HO453.out) (Kd.R_base ho0) hb); have n1_ := Aside0.mk (Kd.R_below (by (with_reducible repeat (first | apply Kd.R_alloc | apply Kd.R_drewN | apply Kd.R_drew)); exact HO458.out) hb); have n2_ := Aside0.mk (Kd.R_lower (Kd.R_new' ho0 (Kd.R_lt (by (with_reducible repeat (first | apply Kd.R_alloc | apply Kd.R_drewN | apply Kd.R_drew)); exact HO453.out))) (below_size (by repeat (first | (with_reducible first | exact HB.out | apply below_alloc | apply pw_below_drewN | apply below_drew1) | exact HB.out)))); have n3_ := Aside0.mk (below_step (by repeat (first | (with_reducible first | exact HB.out | apply below_alloc | apply pw_below_drewN | apply below_drew1) | exact HB.out)) hb); clear HO453; clear HO458; clear HB; have HO453 := n0_; have HO458 := n1_; have HO466 := n2_; have HB := n3_; clear n0_ n1_ n2_ n3_; (try clear hb); (try clear hb2); (try clear hk); (try clear hi); (try clear ho0)))
              go_ret
              exact ⟨by first | rfl | (simp [errW_none, errW_some] <;> rfl) | (simp [*, errW_none, errW_some] <;> rfl), by repeat (first | (with_reducible first | exact HB.out | apply below_alloc | apply pw_below_drewN | apply below_drew1) | exact HB.out)⟩
          · replace c13 := Bool.eq_false_iff.mpr c13
            subst c13
            have H1 : (some false) = some r := by rw [if_neg (show ¬ (false = true) by decide)] at H; exact H
            clear H
            have H := H1
            clear H1
            obtain rfl := Option.some.inj H
            go_wp2_with (first | ((with_reducible refine gate_callee (f := 35) rfl ?_); refine goesL_ (some 25) rfl rfl Tryd.func35 (by kernel_rfl) rfl #[.slice A0 l0.length c0] rfl (by (try simp only [List.map_toArray, List.map_cons, List.map_nil]); first | done | rfl | (simp only [List.length_drop, List.length_take]; rfl)) ?_; (with_reducible refine (laws_name.calls kj2 _ _ l0 t450 true _ ?side1 ?side2 A7.out).mono ?_); (case side1 => repeat (first | exact (Kd.C_below HR0.out HB.out) | (with_reducible refine Kd.C_alloc ?_ _) | (with_reducible refine Kd.C_drewN ?_ _) | (with_reducible refine Kd.C_drew ?_))); (case side2 => exact HC0.out); rintro e w56 ⟨v452, rfl, ho0, hb⟩; refine ⟨_, rfl, ?_⟩; have n0_ := Aside0.mk (Kd.R_lower ho0 (below_size (by repeat (first | (with_reducible first | exact HB.out | apply below_alloc | apply pw_below_drewN | apply below_drew1) | exact HB.out)))); have n1_ := Aside0.mk (below_step (by repeat (first | (with_reducible first | exact HB.out | apply below_alloc | apply pw_below_drewN | apply below_drew1) | exact HB.out)) hb); clear HB; have HO453 := n0_; have HB := n1_; clear n0_ n1_; (try clear hb); (try clear hb2); (try clear hk); (try clear hi); (try clear ho0); obtain ⟨Ao57, co57, eo57⟩ := Kd.R_slice HO453.out; subst eo57) | ((with_reducible refine gate_callee (f := 37) rfl ?_); refine goesL_ (some 33) rfl rfl Tryd.func37 (by kernel_rfl) rfl #[.slice Ao57 t450.length co57, .slice A1 l1.length c1] rfl (by (try simp only [List.map_toArray, List.map_cons, List.map_nil]); first | done | rfl | (simp only [List.length_drop, List.length_take]; rfl)) ?_; (with_reducible refine (spec_Name_Text.calls kj2 _ _ t450 _ _ l1 t454 _ ?side1 ?side2 ?side3 ?side4 A9.out).mono ?_); (case side1 => repeat (first | exact (Kd.R_reads' HO453.out).2.2 | (with_reducible refine Kd.C_alloc ?_ _) | (with_reducible refine Kd.C_drewN ?_ _) | (with_reducible refine Kd.C_drew ?_))); (case side2 => exact (Kd.R_reads' HO453.out).2.1); (case side3 => repeat (first | exact (Kd.C_below HR1.out HB.out) | (with_reducible refine Kd.C_alloc ?_ _) | (with_reducible refine Kd.C_drewN ?_ _) | (with_reducible refine Kd.C_drew ?_))); (case side4 => exact HC1.out); rintro e w58 ⟨rfl, hb⟩; refine ⟨_, rfl, ?_⟩; have n0_ := Aside0.mk (Kd.R_below (by (with_reducible repeat (first | apply Kd.R_alloc | apply Kd.R_drewN | apply Kd.R_drew)); exact HO453.out) hb); have n1_ := Aside0.mk (below_step (by repeat (first | (with_reducible first | exact HB.out | apply below_alloc | apply pw_below_drewN | apply below_drew1) | exact HB.out)) hb); clear HO453; clear HB; have HO453 := n0_; have HB := n1_; clear n0_ n1_; (try clear hb); (try clear hb2); (try clear hk); (try clear hi)) | ((with_reducible refine gate_callee (f := 36) rfl ?_); refine goesL_ (some 34) rfl rfl Tryd.func36 (by kernel_rfl) rfl #[.string t454, .int .i64 255] rfl (by (try simp only [List.map_toArray, List.map_cons, List.map_nil]); first | done | rfl | (simp only [List.length_drop, List.length_take]; rfl)) ?_; (with_reducible refine (impl_PackName.calls kj2 t454 255 t455 false _ (GoodP.below (GoodPU.p HG.out) (by repeat (first | (with_reducible first | exact HB.out | apply below_alloc | apply pw_below_drewN | apply below_drew1) | exact HB.out))) A10.out).mono ?_); rintro e w59 ⟨v457, rfl, ho0, hb⟩; refine ⟨_, rfl, ?_⟩; have n0_ := Aside0.mk (Kd.R_below (by (with_reducible repeat (first | apply Kd.R_alloc | apply Kd.R_drewN | apply Kd.R_drew)); exact HO453.out) hb); have n1_ := Aside0.mk (Kd.R_lower ho0 (below_size (by repeat (first | (with_reducible first | exact HB.out | apply below_alloc | apply pw_below_drewN | apply below_drew1) | exact HB.out)))); have n2_ := Aside0.mk (below_step (by repeat (first | (with_reducible first | exact HB.out | apply below_alloc | apply pw_below_drewN | apply below_drew1) | exact HB.out)) hb); clear HO453; clear HB; have HO453 := n0_; have HO458 := n1_; have HB := n2_; clear n0_ n1_ n2_; (try clear hb); (try clear hb2); (try clear hk); (try clear hi); (try clear ho0); obtain ⟨Ao60, co60, eo60⟩ := Kd.R_slice HO458.out; subst eo60) | ((with_reducible refine gate_callee (f := 16) rfl ?_); refine goesL_ (some 39) rfl rfl Tryd.func16 (by kernel_rfl) rfl #[.slice Ao60 t455.length co60, .int .i64 0] rfl (by (try simp only [List.map_toArray, List.map_cons, List.map_nil]); first | done | rfl | (simp only [List.length_drop, List.length_take]; rfl)) ?_; (with_reducible refine (impl_UnpackName.calls kj2 _ _ t455 0 t459 t460 t461 _ ?side1 ?side2 (GoodU.below (GoodPU.u HG.out) (by repeat (first | (with_reducible first | exact HB.out | apply below_alloc | apply pw_below_drewN | apply below_drew1) | exact HB.out))) A11.out).mono ?_); (case side1 => repeat (first | exact (Kd.R_reads' HO458.out).2.2 | (with_reducible refine Kd.C_alloc ?_ _) | (with_reducible refine Kd.C_drewN ?_ _) | (with_reducible refine Kd.C_drew ?_))); (case side2 => exact (Kd.R_reads' HO458.out).2.1); rintro e w61 ⟨rfl, hb⟩; refine ⟨_, rfl, ?_⟩; have n0_ := Aside0.mk (Kd.R_below (by (with_reducible repeat (first | apply Kd.R_alloc | apply Kd.R_drewN | apply Kd.R_drew)); exact HO453.out) hb); have n1_ := Aside0.mk (Kd.R_below (by (with_reducible repeat (first | apply Kd.R_alloc | apply Kd.R_drewN | apply Kd.R_drew)); exact HO458.out) hb); have n2_ := Aside0.mk (below_step (by repeat (first | (with_reducible first | exact HB.out | apply below_alloc | apply pw_below_drewN | apply below_drew1) | exact HB.out)) hb); clear HO453; clear HO458; clear HB; have HO453 := n0_; have HO458 := n1_; have HB := n2_; clear n0_ n1_ n2_; (try clear hb); (try clear hb2); (try clear hk); (try clear hi)) | ((with_reducible refine gate_callee (f := 17) rfl ?_); refine goesL_ (some 45) rfl rfl Tryd.func17 (by kernel_rfl) rfl #[.string t459] rfl (by (try simp only [List.map_toArray, List.map_cons, List.map_nil]); first | done | rfl | (simp only [List.length_drop, List.length_take]; rfl)) ?_; (with_reducible refine (spec_ParseName.calls kj2 t459 t462 t463 t464 _ A12.out).mono ?_); rintro e w62 ⟨v465, rfl, ho0, hb⟩; refine ⟨_, rfl, ?_⟩; have n0_ := Aside0.mk (Kd.R_elder' (by (with_reducible repeat (first | apply Kd.R_alloc | apply Kd.R_drewN | apply Kd.R_drew)); exact HO453.out) (Kd.R_base ho0) hb); have n1_ := Aside0.mk (Kd.R_below (by (with_reducible repeat (first | apply Kd.R_alloc | apply Kd.R_drewN | apply Kd.R_drew)); exact HO458.out) hb); have n2_ := Aside0.mk (Kd.R_lower (Kd.R_new' ho0 (Kd.R_lt (by (with_reducible repeat (first | apply Kd.R_alloc | apply Kd.R_drewN | apply Kd.R_drew)); exact HO453.out))) (below_size (by repeat (first | (with_reducible first | exact HB.out | apply below_alloc | apply pw_below_drewN | apply below_drew1) | exact HB.out)))); have n3_ := Aside0.mk (below_step (by repeat (first | (with_reducible first | exact HB.out | apply below_alloc | apply pw_below_drewN | apply below_drew1) | exact HB.out)) hb); clear HO453; clear HO458; clear HB; have HO453 := n0_; have HO458 := n1_; have HO466 := n2_; have HB := n3_; clear n0_ n1_ n2_ n3_; (try clear hb); (try clear hb2); (try clear hk); (try clear hi); (try clear ho0)))
            go_ret
            exact ⟨by first | rfl | (simp [errW_none, errW_some] <;> rfl) | (simp [*, errW_none, errW_some] <;> rfl), by repeat (first | (with_reducible first | exact HB.out | apply below_alloc | apply pw_below_drewN | apply below_drew1) | exact HB.out)⟩
        · replace c8 := Bool.eq_false_iff.mpr c8
          subst c8
          have H1 : (some true) = some r := by rw [if_neg (show ¬ (false = true) by decide)] at H; exact H
          clear H
          have H := H1
          clear H1
          obtain rfl := Option.some.inj H
          go_wp2_with (first | ((with_reducible refine gate_callee (f := 35) rfl ?_); refine goesL_ (some 25) rfl rfl Tryd.func35 (by kernel_rfl) rfl #[.slice A0 l0.length c0] rfl (by (try simp only [List.map_toArray, List.map_cons, List.map_nil]); first | done | rfl | (simp only [List.length_drop, List.length_take]; rfl)) ?_; (with_reducible refine (laws_name.calls kj2 _ _ l0 t450 false _ ?side1 ?side2 A7.out).mono ?_); (case side1 => repeat (first | exact (Kd.C_below HR0.out HB.out) | (with_reducible refine Kd.C_alloc ?_ _) | (with_reducible refine Kd.C_drewN ?_ _) | (with_reducible refine Kd.C_drew ?_))); (case side2 => exact HC0.out); rintro e w63 ⟨v452, rfl, ho0, hb⟩; refine ⟨_, rfl, ?_⟩; have n0_ := Aside0.mk (Kd.R_lower ho0 (below_size (by repeat (first | (with_reducible first | exact HB.out | apply below_alloc | apply pw_below_drewN | apply below_drew1) | exact HB.out)))); have n1_ := Aside0.mk (below_step (by repeat (first | (with_reducible first | exact HB.out | apply below_alloc | apply pw_below_drewN | apply below_drew1) | exact HB.out)) hb); clear HB; have HO453 := n0_; have HB := n1_; clear n0_ n1_; (try clear hb); (try clear hb2); (try clear hk); (try clear hi); (try clear ho0)))
          go_ret
          exact ⟨by first | rfl | (simp [errW_none, errW_some] <;> rfl) | (simp [*, errW_none, errW_some] <;> rfl), by repeat (first | (with_reducible first | exact HB.out | apply below_alloc | apply pw_below_drewN | apply below_drew1) | exact HB.out)⟩

end Go.Proofs.YtiilihafcdmccaaDoor.P
/- What is proved: for all labels and choices the law FnNameComesBack answers true: a name that is packed is unpacked as this name. Conditions: none beyond the row's own. -/
namespace Go.Proofs.YtiilihafcdmccaaDoor.Pure
open Go.RowKit Go.Proofs.YtiilihafcdmccaaDoor.P Go.Proofs.YtiilihafcdmccaaDoorW.PrintWords Go.Proofs.YtiilihafcdmccaaDoorW.PrintLast
set_option linter.unusedVariables false
set_option linter.unusedSimpArgs false

theorem back_ok {x : List Int} {off nx : Int} {t : ByteArray} (h : Ev (fun k => dns_UnpackDomainName.l0 k x off [] 0 x.length 255 0) (t, nx, none)) : Ev (fun k => impl_UnpackName.f k x off) (t, nx, true) := by
  refine Ev.congr (fun k => ?_) (Ev.bind (f := fun k (bt : UnR) => if bt.2.2.isNone = true then (some (bt.1, bt.2.1, true)) else (some ((⟨#[]⟩ : ByteArray), 0, false))) h (Ev.now _))
  unfold impl_UnpackName.f dns_UnpackDomainName.f
  rw [if_pos (by omega)]
  rfl
theorem wireL_isB {n : List (List Int)} (hB : ∀ l ∈ n, IsB l) (h63 : ∀ l ∈ n, l.length ≤ 63) : IsB (wireL n) := by
  induction n with
  | nil => exact IsB.cons (by omega) IsB.nil
  | cons l ls ih =>
    have h1 := h63 l List.mem_cons_self
    exact IsB.cons (by omega) ((hB l List.mem_cons_self).append (ih (fun x hx => hB x (List.mem_cons_of_mem _ hx)) (fun x hx => h63 x (List.mem_cons_of_mem _ hx))))
theorem wireL_append (D ls : List (List Int)) : wireL (D ++ ls) = wpL D ++ wireL ls := by
  rw [wireL_eq, wpL_append, List.append_assoc, ← wireL_eq]
theorem escs_join_len (D : List (List Int)) : (joinD (D.map escs)).length ≤ 4 * (wpL D).length := by
  induction D with
  | nil => simp [joinD]
  | cons l ls ih =>
    have := escs_len l
    simp [joinD, wpL]
    omega
theorem escs_join_isB {D : List (List Int)} (hB : ∀ l ∈ D, IsB l) : IsB (joinD (D.map escs)) := by
  induction D with
  | nil => exact IsB.nil
  | cons l ls ih =>
    exact (escs_isB (hB l List.mem_cons_self)).append (IsB.cons (by omega) (ih (fun x hx => hB x (List.mem_cons_of_mem _ hx))))
theorem escs_labs {n : List (List Int)} (hB : ∀ l ∈ n, IsB l) (hne : ∀ l ∈ n, l ≠ []) : Labs (n.map escs) n := by
  induction n with
  | nil => exact .nil
  | cons l ls ih => exact .cons (escs_lab (hB l List.mem_cons_self)) (hne l List.mem_cons_self) (ih (fun x hx => hB x (List.mem_cons_of_mem _ hx)) (fun x hx => hne x (List.mem_cons_of_mem _ hx)))
def backT (n : List (List Int)) : ByteArray := if joinD (n.map escs) = [] then ⟨#[46]⟩ else strOfNums (joinD (n.map escs))
theorem unp_wire {n : List (List Int)} (hB : ∀ l ∈ n, IsB l) (hne : ∀ l ∈ n, l ≠ []) (h63 : ∀ l ∈ n, l.length ≤ 63) (hz : sizeL n ≤ 255) : ∀ (ls D : List (List Int)), n = D ++ ls →
    Ev (fun k => dns_UnpackDomainName.l0 k (wireL n) ((wpL D).length : Nat) (joinD (D.map escs)) 0 (wireL n).length (255 - ((wpL D).length : Nat)) 0) (backT n, ((wireL n).length : Int), none) := by
  have hxB := wireL_isB hB h63
  have hxl : (wireL n).length = sizeL n := wireL_length n
  intro ls
  induction ls with
  | nil =>
    intro D e
    rw [List.append_nil] at e
    subst e
    have hrd : rd (wireL n) ((wpL n).length : Nat) = 0 := by
      unfold rd
      rw [wireL_eq, Int.toNat_natCast, List.getD_eq_getElem?_getD, List.getElem?_append_right (Nat.le_refl _), Nat.sub_self]
      rfl
    have hlen : (wireL n).length = (wpL n).length + 1 := by rw [wireL_eq, List.length_append]; rfl
    have h := unp_zero hxB (by omega) (off := ((wpL n).length : Nat)) (by omega) (s := joinD (n.map escs)) (off1 := 0) (bud := 255 - ((wpL n).length : Nat)) (cnt := 0) (by omega) hrd
    rw [if_pos rfl] at h
    have e1 : (((wpL n).length : Nat) : Int) + 1 = ((wireL n).length : Int) := by omega
    rw [e1] at h
    exact h
  | cons l ls ih =>
    intro D e
    have hm : l ∈ n := by rw [e]; simp
    have hl0 : 0 < l.length := List.length_pos_iff.2 (hne l hm)
    have hl1 := h63 l hm
    have hx : wireL n = wpL D ++ ((l.length : Int) :: (l ++ wireL ls)) := by rw [e, wireL_append]; rfl
    have hxl2 : (wireL n).length = (wpL D).length + (1 + l.length + (wireL ls).length) := by rw [hx]; simp; omega
    have hwp : 0 < (wireL ls).length := by rw [wireL_length]; have := sizeL_pos ls; omega
    have hrd : rd (wireL n) ((wpL D).length : Nat) = l.length := by
      unfold rd
      rw [hx, Int.toNat_natCast, List.getD_eq_getElem?_getD, List.getElem?_append_right (Nat.le_refl _), Nat.sub_self]
      rfl
    have hcut : ((wireL n).take ((((wpL D).length : Nat) : Int) + 1 + (l.length : Nat)).toNat).drop ((((wpL D).length : Nat) : Int) + 1).toNat = l := by
      have e1 : ((((wpL D).length : Nat) : Int) + 1 + (l.length : Nat)).toNat = (wpL D ++ [(l.length : Int)]).length + l.length := by rw [List.length_append]; simp only [List.length_cons, List.length_nil]; omega
      have e2 : ((((wpL D).length : Nat) : Int) + 1).toNat = (wpL D ++ [(l.length : Int)]).length := by rw [List.length_append]; simp only [List.length_cons, List.length_nil]; omega
      have e3 : wireL n = (wpL D ++ [(l.length : Int)]) ++ (l ++ wireL ls) := by rw [hx]; simp
      rw [e1, e2, e3, List.take_append, List.take_of_length_le (by omega), Nat.add_sub_cancel_left, List.take_left, List.drop_left]
    have hs := escs_join_len D
    have h1 := ih (D ++ [l]) (by rw [e]; simp)
    have hj : joinD ((D ++ [l]).map escs) = joinD (D.map escs) ++ escs l ++ [46] := by rw [List.map_append, List.map_cons, List.map_nil, joinD_snoc, List.append_assoc]
    have hwl : (wpL (D ++ [l])).length = (wpL D).length + 1 + l.length := by rw [wpL_snoc]; simp; omega
    rw [hj, hwl] at h1
    refine unp_label (R := (backT n, ((wireL n).length : Int), none)) hxB (by omega) (off := ((wpL D).length : Nat)) (by omega) (s := joinD (D.map escs)) (off1 := 0) (bud := 255 - ((wpL D).length : Nat)) (cnt := 0) (by omega) (by rw [hrd]; omega) (by rw [hrd]; omega) (by rw [hrd]; omega) (by omega) (by omega) (by rw [hrd]; omega) (by omega) ?_
    rw [hrd, hcut]
    have e4 : (((wpL D).length : Nat) : Int) + 1 + (l.length : Nat) = (((wpL D).length + 1 + l.length : Nat) : Int) := by omega
    have e5 : (255 : Int) - ((wpL D).length : Nat) - ((l.length : Nat) + 1) = 255 - (((wpL D).length + 1 + l.length : Nat) : Int) := by omega
    rw [e4, e5]
    exact h1
theorem backT_text {n : List (List Int)} (hB : ∀ l ∈ n, IsB l) (hne : ∀ l ∈ n, l ≠ []) : TextOf (backT n) n := by
  unfold backT
  cases n with
  | nil => exact .inl ⟨rfl, rfl⟩
  | cons l ls =>
    rw [if_neg (by simp [joinD])]
    exact .inr ⟨by simp, _, escs_labs hB hne, bytesOf_strOfNums (escs_join_isB hB)⟩
theorem backT_size {n : List (List Int)} (hz : sizeL n ≤ 255) : (backT n).size ≤ 2000 := by
  unfold backT
  split
  · show 1 ≤ 2000
    omega
  · have h1 := escs_join_len n
    have h2 : (wireL n).length = (wpL n).length + 1 := by rw [wireL_eq, List.length_append]; rfl
    rw [wireL_length] at h2
    rw [strOfNums_size]
    omega

theorem comes_true (n : List (List Int)) (nums : List Int) : Ev (fun k => laws_FnNameComesBack.j0 k n nums true) true := by
  refine ⟨1, fun k hk => ?_⟩
  obtain ⟨m, rfl⟩ : ∃ m, k = m + 1 := ⟨k - 1, by omega⟩
  simp only [laws_FnNameComesBack.j0]
  rw [if_pos trivial]
abbrev tail4 (k : Nat) (bt450 : List ByteArray) (bt455 : List Int × Bool) (bt459 : ByteArray × Int × Bool) (bt462 : List ByteArray × Bool × Bool) : Option Bool :=
  (if bt455.2 = true then (if bt459.2.2 = true then (if bt462.2.2 = true then (if bt462.2.1 = true then ((spec_Name_Equal.f k bt462.1 bt450).bind fun t467 => (if t467 = true then (some (bt459.2.1 == (bt455.1.length : Int))) else (some false))) else (some false)) else (some false)) else (some false)) else (some false))
theorem comes_j0 (n : List (List Int)) (nums : List Int) (hB : ∀ l ∈ n, IsB l) (hl : (nums.length : Int) ≤ 140737488351232) (h1 : n.length ≤ 2147483647) (h2 : ∀ l ∈ n, l.length ≤ 2147483647) (fl : Bool) : Ev (fun k => laws_FnNameComesBack.j0 k n nums fl) true := by
  cases fl with
  | true => exact comes_true n nums
  | false =>
    have hn := name_ev n h1 h2
    refine Ev.step (f := fun k => (laws_name.f k n).bind fun bt450 => (if bt450.2 = true then ((spec_Name_Text.f k bt450.1 nums).bind fun t454 => ((impl_PackName.f k t454 255).bind fun bt455 => ((impl_UnpackName.f k bt455.1 0).bind fun bt459 => ((spec_ParseName.f k bt459.1).bind fun bt462 => tail4 k bt450.1 bt455 bt459 bt462)))) else (some true))) (fun k => ?_) (Ev.bind (f := fun k (bt450 : List ByteArray × Bool) => (if bt450.2 = true then ((spec_Name_Text.f k bt450.1 nums).bind fun t454 => ((impl_PackName.f k t454 255).bind fun bt455 => ((impl_UnpackName.f k bt455.1 0).bind fun bt459 => ((spec_ParseName.f k bt459.1).bind fun bt462 => tail4 k bt450.1 bt455 bt459 bt462)))) else (some true))) hn ?_)
    · simp only [laws_FnNameComesBack.j0]
      rw [if_neg Bool.false_ne_true]
    · cases hv : validB n with
      | false => exact ⟨0, fun k _ => rfl⟩
      | true =>
        obtain ⟨s, hs, hT, ha, hz⟩ := text_ev nums hl n hB hv
        obtain ⟨hne, h63, h255⟩ := validB_inv hv
        have hp := pack_ev hT hB hv ha hz 255 (by omega) (by omega)
        rw [if_pos (by omega)] at hp
        have hu := unp_wire hB hne h63 h255 n [] rfl
        have hu2 := back_ok (off := 0) hu
        have hps := (backT_text hB hne).parse (by have := backT_size h255; omega)
        rw [hv] at hps
        have he := neq_ev n n hB hB (by omega)
        rw [decide_eq_true rfl] at he
        simp only [if_true]
        refine Ev.bind (f := fun k t454 => ((impl_PackName.f k t454 255).bind fun bt455 => ((impl_UnpackName.f k bt455.1 0).bind fun bt459 => ((spec_ParseName.f k bt459.1).bind fun bt462 => tail4 k (n.map strOfNums) bt455 bt459 bt462)))) hs ?_
        refine Ev.bind (f := fun k (bt455 : List Int × Bool) => ((impl_UnpackName.f k bt455.1 0).bind fun bt459 => ((spec_ParseName.f k bt459.1).bind fun bt462 => tail4 k (n.map strOfNums) bt455 bt459 bt462))) hp ?_
        refine Ev.bind (f := fun k (bt459 : ByteArray × Int × Bool) => ((spec_ParseName.f k bt459.1).bind fun bt462 => tail4 k (n.map strOfNums) (wireL n, true) bt459 bt462)) hu2 ?_
        refine Ev.bind (f := fun k (bt462 : List ByteArray × Bool × Bool) => tail4 k (n.map strOfNums) (wireL n, true) (backT n, ((wireL n).length : Int), true) bt462) hps ?_
        refine Ev.congr (fun k => ?_) (Ev.bind (f := fun k t467 => (if t467 = true then (some (((wireL n).length : Int) == ((wireL n).length : Int))) else (some false))) he ⟨0, fun k _ => by simp⟩)
        rfl
theorem FnNameComesBack (n : List (List Int)) (nums : List Int) (hB : ∀ l ∈ n, IsB l) (hl : (nums.length : Int) ≤ 140737488351232) : ∃ k, laws_FnNameComesBack.f k n nums = some true := by
  obtain ⟨b, h1, h2⟩ := fits_ev n
  refine Ev.rounds (g := fun k => laws_FnNameComesBack.f k n nums) (Ev.bind (g := fun k => laws_zzFits9.f k n) (f := fun k t449 => (if t449 = true then (laws_FnNameComesBack.j0 k n nums (decide ((nums.length : Int) > 2147483647))) else (laws_FnNameComesBack.j0 k n nums true))) h1 ?_)
  cases b with
  | false => exact Ev.congr (fun k => if_neg Bool.false_ne_true) (comes_true n nums)
  | true => exact Ev.congr (fun k => if_pos rfl) (comes_j0 n nums hB hl (h2 rfl).1 (h2 rfl).2 _)

end Go.Proofs.YtiilihafcdmccaaDoor.Pure
