/- Texts of this session merged by program (wip/tools/merge.py): PF9, PF8, PureFnPackName. -/
import Derived.Test.YtiilihafcdmccaaDoorXA1
import Derived.Test.YtiilihafcdmccaaDoorXA2
-- Written by a program of this session (wip/tools/pprint.py) out of the translation: it goes by the kit's print and by the contracts of YtiilihafcdmccaaDoorHand. Not trusted: Lean checks it.
namespace Go.Proofs.YtiilihafcdmccaaDoor.P
open Go.RowKit Go.Proofs.YtiilihafcdmccaaDoorW.PrintWords Go.Proofs.YtiilihafcdmccaaDoorW.PrintLast Go.Proofs.YtiilihafcdmccaaDoorW.PrintMore
attribute [local go_sem] max2_int min2_int max_two min_two max_three min_three max_four min_four   -- for this text's walks alone
set_option linter.unusedVariables false
set_option linter.unusedSimpArgs false

/-! ### laws_FnPackName: function 9 -/
def laws_FnPackName.j0 : Nat → List (List Int) → List Int → Bool → Option (Bool)
  | 0, _, _, _ => none
  | k + 1, x0, x1, x17 => if x17 = true then (some true) else ((laws_name.f k x0).bind fun bt409 => (if bt409.2 = true then ((spec_Name_Wire.f k bt409.1).bind fun t413 => ((spec_Name_Text.f k bt409.1 x1).bind fun t416 => ((impl_PackName.f k t416 (t413.length : Int)).bind fun bt417 => (if bt417.2 = true then (some ((strOfNums bt417.1).toList == (strOfNums t413).toList)) else (some false))))) else (some true)))
def laws_FnPackName.f (k : Nat) (l0 : List (List Int)) (l1 : List Int) : Option (Bool) := (laws_zzFits9.f k l0).bind fun t408 => (if t408 = true then (laws_FnPackName.j0 k l0 l1 (decide ((l1.length : Int) > 2147483647))) else (laws_FnPackName.j0 k l0 l1 true))
theorem laws_FnPackName.mono_l : ∀ k, (∀ y0 y1 y2, LeO (laws_FnPackName.j0 k y0 y1 y2) (laws_FnPackName.j0 (k + 1) y0 y1 y2))
  | 0 => fun _ _ _ r h => by simp [laws_FnPackName.j0] at h
  | k + 1 => by
    have ih0 := laws_FnPackName.mono_l k
    · intro y0 y1 y2
      unfold laws_FnPackName.j0
      repeat' first
      | (with_reducible exact ih0 _ _ _)
      | (with_reducible exact impl_PackName.mono _ _ _)
      | (with_reducible exact laws_name.mono _ _)
      | (with_reducible exact laws_zzFits9.mono _ _)
      | (with_reducible exact spec_Name_Text.mono _ _ _)
      | (with_reducible exact spec_Name_Wire.mono _ _)
      | (with_reducible exact LeO.refl _)
      | (with_reducible exact LeO.none _)
      | (with_reducible refine LeO.ite ?_ ?_)
      | (with_reducible refine LeO.bind ?_ (fun _ => ?_))
      | exact ih0 _ _ _
      | exact impl_PackName.mono _ _ _
      | exact laws_name.mono _ _
      | exact laws_zzFits9.mono _ _
      | exact spec_Name_Text.mono _ _ _
      | exact spec_Name_Wire.mono _ _
      | exact LeO.none _
      | refine LeO.ite ?_ ?_
      | refine LeO.bind ?_ (fun _ => ?_)
theorem laws_FnPackName.mono : ∀ a0 a1 k, LeO (laws_FnPackName.f k a0 a1) (laws_FnPackName.f (k + 1) a0 a1) := by
  intro a0 a1 k
  have ih0 := laws_FnPackName.mono_l k
  unfold laws_FnPackName.f
  repeat' first
      | (with_reducible exact ih0 _ _ _)
      | (with_reducible exact impl_PackName.mono _ _ _)
      | (with_reducible exact laws_name.mono _ _)
      | (with_reducible exact laws_zzFits9.mono _ _)
      | (with_reducible exact spec_Name_Text.mono _ _ _)
      | (with_reducible exact spec_Name_Wire.mono _ _)
      | (with_reducible exact LeO.refl _)
      | (with_reducible exact LeO.none _)
      | (with_reducible refine LeO.ite ?_ ?_)
      | (with_reducible refine LeO.bind ?_ (fun _ => ?_))
      | exact ih0 _ _ _
      | exact impl_PackName.mono _ _ _
      | exact laws_name.mono _ _
      | exact laws_zzFits9.mono _ _
      | exact spec_Name_Text.mono _ _ _
      | exact spec_Name_Wire.mono _ _
      | exact LeO.none _
      | refine LeO.ite ?_ ?_
      | refine LeO.bind ?_ (fun _ => ?_)
set_option maxHeartbeats 8000000 in
set_option maxRecDepth 100000 in
theorem laws_FnPackName.calls (k : Nat) (A0 : Option Addr) (c0 : Nat) (l0 : List (List Int)) (A1 : Option Addr) (c1 : Nat) (l1 : List Int) (r : Bool) (w : World) (hr0 : Kd.C (Kd.slice 5 (Kd.int .u8)) w A0 l0.length l0) (hc0 : l0.length ≤ c0) (hr1 : Kd.C (Kd.int .i64) w A1 l1.length l1) (hc1 : l1.length ≤ c1) (hG : GoodP w) (h : laws_FnPackName.f k l0 l1 = some r) :
    Calls Tryd.prog 9 #[.slice A0 l0.length c0, .slice A1 l1.length c1] w fun e w' => e = .returned (.bool r) ∧ Below w.heap.size w w' := by
  have HG := Aside0.mk hG
  clear hG
  have HR0 := Aside0.mk hr0
  have HC0 := Aside0.mk hc0
  clear hr0 hc0
  have HR1 := Aside0.mk hr1
  have HC1 := Aside0.mk hc1
  clear hr1 hc1
  have HB := Aside0.mk (Below.refl w.heap.size w)
  have H : ((laws_zzFits9.f k l0).bind fun t408 => (if t408 = true then (laws_FnPackName.j0 k l0 l1 (decide ((l1.length : Int) > 2147483647))) else (laws_FnPackName.j0 k l0 l1 true))) = some r := h
  clear h
  have HC3 := Aside0.mk H
  clear H
  go_enter Tryd.func9, Tryd.ntmps9
  go_upto_region 1 with (fail)
  go_cut [17] (fun v17 wc => ∃ (kq : Nat) (x17_2 : Bool), v17 = .bool x17_2 ∧ Aside0 (laws_FnPackName.j0 kq l0 l1 x17_2 = some r) ∧ Aside0 (kq ≤ k) ∧ Aside0 (Below w.heap.size w wc))
  case first =>
    have H := HC3.out
    clear HC3
    replace H := Option.bind_eq_some_iff.mp H
    obtain ⟨t408, A40, H⟩ := H
    replace H : (if t408 = true then (laws_FnPackName.j0 k l0 l1 (decide ((l1.length : Int) > 2147483647))) else (laws_FnPackName.j0 k l0 l1 true)) = some r := H
    have A4 := Aside0.mk A40
    clear A40
    by_cases c5 : t408 = true
    · subst c5
      have H1 : (laws_FnPackName.j0 k l0 l1 (decide ((l1.length : Int) > 2147483647))) = some r := by rw [if_pos rfl] at H; exact H
      clear H
      have H := H1
      clear H1
      have H' := Aside0.mk H
      clear H
      go_wp2_with (first | ((with_reducible refine gate_callee (f := 34) rfl ?_); refine goesL_ (some 11) rfl rfl Tryd.func34 (by kernel_rfl) rfl #[.slice A0 l0.length c0] rfl (by (try simp only [List.map_toArray, List.map_cons, List.map_nil]); first | done | rfl | (simp only [List.length_drop, List.length_take]; rfl)) ?_; (with_reducible refine (laws_zzFits9.calls k _ _ l0 true _ ?side1 ?side2 A4.out).mono ?_); (case side1 => repeat (first | exact (Kd.C_below HR0.out HB.out) | (with_reducible refine Kd.C_alloc ?_ _) | (with_reducible refine Kd.C_drewN ?_ _) | (with_reducible refine Kd.C_drew ?_))); (case side2 => exact HC0.out); rintro e w' ⟨rfl, ⟨nd, rfl⟩⟩; refine ⟨_, rfl, ?_⟩))
      go_meet
      case rel => exact ⟨_, (decide ((l1.length : Int) > 2147483647)), (by first | rfl | (simp; done) | (simp [*]; done) | (simp [wrap64]; done)), H', ⟨by first | omega | exact Nat.le_refl _⟩, ⟨by repeat (first | (with_reducible first | exact HB.out | apply below_alloc | apply pw_below_drewN | apply below_drew1) | exact HB.out)⟩⟩
    · replace c5 := Bool.eq_false_iff.mpr c5
      subst c5
      have H1 : (laws_FnPackName.j0 k l0 l1 true) = some r := by rw [if_neg (show ¬ (false = true) by decide)] at H; exact H
      clear H
      have H := H1
      clear H1
      have H' := Aside0.mk H
      clear H
      go_wp2_with (first | ((with_reducible refine gate_callee (f := 34) rfl ?_); refine goesL_ (some 11) rfl rfl Tryd.func34 (by kernel_rfl) rfl #[.slice A0 l0.length c0] rfl (by (try simp only [List.map_toArray, List.map_cons, List.map_nil]); first | done | rfl | (simp only [List.length_drop, List.length_take]; rfl)) ?_; (with_reducible refine (laws_zzFits9.calls k _ _ l0 false _ ?side1 ?side2 A4.out).mono ?_); (case side1 => repeat (first | exact (Kd.C_below HR0.out HB.out) | (with_reducible refine Kd.C_alloc ?_ _) | (with_reducible refine Kd.C_drewN ?_ _) | (with_reducible refine Kd.C_drew ?_))); (case side2 => exact HC0.out); rintro e w' ⟨rfl, ⟨nd, rfl⟩⟩; refine ⟨_, rfl, ?_⟩))
      go_meet
      case rel => exact ⟨_, (true), (by first | rfl | (simp; done) | (simp [*]; done) | (simp [wrap64]; done)), H', ⟨by first | omega | exact Nat.le_refl _⟩, ⟨by repeat (first | (with_reducible first | exact HB.out | apply below_alloc | apply pw_below_drewN | apply below_drew1) | exact HB.out)⟩⟩
  case rest =>
    clear HC3
    try clear c1
    try clear p2
    try clear c3
    try clear c5
    obtain ⟨kq, x17_2, rfl, HA, HJ2, HB⟩ := hcut
    cases kq with
    | zero => exact absurd HA.out (by simp [laws_FnPackName.j0])
    | succ kj2 =>
      have H := HA.out
      clear HA
      simp only [laws_FnPackName.j0] at H
      by_cases c6 : x17_2 = true
      · subst c6
        have H1 : (some true) = some r := by rw [if_pos rfl] at H; exact H
        clear H
        have H := H1
        clear H1
        obtain rfl := Option.some.inj H
        go_wp2
        go_ret
        exact ⟨by first | rfl | (simp [errW_none, errW_some] <;> rfl) | (simp [*, errW_none, errW_some] <;> rfl), by repeat (first | (with_reducible first | exact HB.out | apply below_alloc | apply pw_below_drewN | apply below_drew1) | exact HB.out)⟩
      · replace c6 := Bool.eq_false_iff.mpr c6
        subst c6
        have H1 : ((laws_name.f kj2 l0).bind fun bt409 => (if bt409.2 = true then ((spec_Name_Wire.f kj2 bt409.1).bind fun t413 => ((spec_Name_Text.f kj2 bt409.1 l1).bind fun t416 => ((impl_PackName.f kj2 t416 (t413.length : Int)).bind fun bt417 => (if bt417.2 = true then (some ((strOfNums bt417.1).toList == (strOfNums t413).toList)) else (some false))))) else (some true))) = some r := by rw [if_neg (show ¬ (false = true) by decide)] at H; exact H
        clear H
        have H := H1
        clear H1
        replace H := Option.bind_eq_some_iff.mp H
        obtain ⟨⟨t409, t410⟩, A70, H⟩ := H
        replace H : (if t410 = true then ((spec_Name_Wire.f kj2 t409).bind fun t413 => ((spec_Name_Text.f kj2 t409 l1).bind fun t416 => ((impl_PackName.f kj2 t416 (t413.length : Int)).bind fun bt417 => (if bt417.2 = true then (some ((strOfNums bt417.1).toList == (strOfNums t413).toList)) else (some false))))) else (some true)) = some r := H
        have A7 := Aside0.mk A70
        clear A70
        by_cases c8 : t410 = true
        · subst c8
          have H1 : ((spec_Name_Wire.f kj2 t409).bind fun t413 => ((spec_Name_Text.f kj2 t409 l1).bind fun t416 => ((impl_PackName.f kj2 t416 (t413.length : Int)).bind fun bt417 => (if bt417.2 = true then (some ((strOfNums bt417.1).toList == (strOfNums t413).toList)) else (some false))))) = some r := by rw [if_pos rfl] at H; exact H
          clear H
          have H := H1
          clear H1
          replace H := Option.bind_eq_some_iff.mp H
          obtain ⟨t413, A90, H⟩ := H
          replace H : ((spec_Name_Text.f kj2 t409 l1).bind fun t416 => ((impl_PackName.f kj2 t416 (t413.length : Int)).bind fun bt417 => (if bt417.2 = true then (some ((strOfNums bt417.1).toList == (strOfNums t413).toList)) else (some false)))) = some r := H
          have A9 := Aside0.mk A90
          clear A90
          replace H := Option.bind_eq_some_iff.mp H
          obtain ⟨t416, A100, H⟩ := H
          replace H : ((impl_PackName.f kj2 t416 (t413.length : Int)).bind fun bt417 => (if bt417.2 = true then (some ((strOfNums bt417.1).toList == (strOfNums t413).toList)) else (some false))) = some r := H
          have A10 := Aside0.mk A100
          clear A100
          replace H := Option.bind_eq_some_iff.mp H
          obtain ⟨⟨t417, t418⟩, A110, H⟩ := H
          replace H : (if t418 = true then (some ((strOfNums t417).toList == (strOfNums t413).toList)) else (some false)) = some r := H
          have A11 := Aside0.mk A110
          clear A110
          by_cases c12 : t418 = true
          · subst c12
            have H1 : (some ((strOfNums t417).toList == (strOfNums t413).toList)) = some r := by rw [if_pos rfl] at H; exact H
            clear H
            have H := H1
            clear H1
            obtain rfl := Option.some.inj H
            go_wp2_with (first | ((with_reducible refine gate_callee (f := 35) rfl ?_); refine goesL_ (some 20) rfl rfl Tryd.func35 (by kernel_rfl) rfl #[.slice A0 l0.length c0] rfl (by (try simp only [List.map_toArray, List.map_cons, List.map_nil]); first | done | rfl | (simp only [List.length_drop, List.length_take]; rfl)) ?_; (with_reducible refine (laws_name.calls kj2 _ _ l0 t409 true _ ?side1 ?side2 A7.out).mono ?_); (case side1 => repeat (first | exact (Kd.C_below HR0.out HB.out) | (with_reducible refine Kd.C_alloc ?_ _) | (with_reducible refine Kd.C_drewN ?_ _) | (with_reducible refine Kd.C_drew ?_))); (case side2 => exact HC0.out); rintro e w13 ⟨v411, rfl, ho0, hb⟩; refine ⟨_, rfl, ?_⟩; have n0_ := Aside0.mk (Kd.R_lower ho0 (below_size (by repeat (first | (with_reducible first | exact HB.out | apply below_alloc | apply pw_below_drewN | apply below_drew1) | exact HB.out)))); have n1_ := Aside0.mk (below_step (by repeat (first | (with_reducible first | exact HB.out | apply below_alloc | apply pw_below_drewN | apply below_drew1) | exact HB.out)) hb); clear HB; have HO412 := n0_; have HB := n1_; clear n0_ n1_; (try clear hb); (try clear hb2); (try clear hk); (try clear hi); (try clear ho0); obtain ⟨Ao14, co14, eo14⟩ := Kd.R_slice HO412.out; subst eo14) | ((with_reducible refine gate_callee (f := 38) rfl ?_); refine goesL_ (some 26) rfl rfl Tryd.func38 (by kernel_rfl) rfl #[.slice Ao14 t409.length co14] rfl (by (try simp only [List.map_toArray, List.map_cons, List.map_nil]); first | done | rfl | (simp only [List.length_drop, List.length_take]; rfl)) ?_; (with_reducible refine (spec_Name_Wire.calls kj2 _ _ t409 t413 _ ?side1 ?side2 A9.out).mono ?_); (case side1 => repeat (first | exact (Kd.R_reads' HO412.out).2.2 | (with_reducible refine Kd.C_alloc ?_ _) | (with_reducible refine Kd.C_drewN ?_ _) | (with_reducible refine Kd.C_drew ?_))); (case side2 => exact (Kd.R_reads' HO412.out).2.1); rintro e w15 ⟨v414, rfl, ho0, hb⟩; refine ⟨_, rfl, ?_⟩; have n0_ := Aside0.mk (Kd.R_below (by (with_reducible repeat (first | apply Kd.R_alloc | apply Kd.R_drewN | apply Kd.R_drew)); exact HO412.out) hb); have n1_ := Aside0.mk (Kd.R_lower ho0 (below_size (by repeat (first | (with_reducible first | exact HB.out | apply below_alloc | apply pw_below_drewN | apply below_drew1) | exact HB.out)))); have n2_ := Aside0.mk (below_step (by repeat (first | (with_reducible first | exact HB.out | apply below_alloc | apply pw_below_drewN | apply below_drew1) | exact HB.out)) hb); clear HO412; clear HB; have HO412 := n0_; have HO415 := n1_; have HB := n2_; clear n0_ n1_ n2_; (try clear hb); (try clear hb2); (try clear hk); (try clear hi); (try clear ho0)) | ((with_reducible refine gate_callee (f := 37) rfl ?_); refine goesL_ (some 30) rfl rfl Tryd.func37 (by kernel_rfl) rfl #[.slice Ao14 t409.length co14, .slice A1 l1.length c1] rfl (by (try simp only [List.map_toArray, List.map_cons, List.map_nil]); first | done | rfl | (simp only [List.length_drop, List.length_take]; rfl)) ?_; (with_reducible refine (spec_Name_Text.calls kj2 _ _ t409 _ _ l1 t416 _ ?side1 ?side2 ?side3 ?side4 A10.out).mono ?_); (case side1 => repeat (first | exact (Kd.R_reads' HO412.out).2.2 | (with_reducible refine Kd.C_alloc ?_ _) | (with_reducible refine Kd.C_drewN ?_ _) | (with_reducible refine Kd.C_drew ?_))); (case side2 => exact (Kd.R_reads' HO412.out).2.1); (case side3 => repeat (first | exact (Kd.C_below HR1.out HB.out) | (with_reducible refine Kd.C_alloc ?_ _) | (with_reducible refine Kd.C_drewN ?_ _) | (with_reducible refine Kd.C_drew ?_))); (case side4 => exact HC1.out); rintro e w16 ⟨rfl, hb⟩; refine ⟨_, rfl, ?_⟩; have n0_ := Aside0.mk (Kd.R_below (by (with_reducible repeat (first | apply Kd.R_alloc | apply Kd.R_drewN | apply Kd.R_drew)); exact HO412.out) hb); have n1_ := Aside0.mk (Kd.R_below (by (with_reducible repeat (first | apply Kd.R_alloc | apply Kd.R_drewN | apply Kd.R_drew)); exact HO415.out) hb); have n2_ := Aside0.mk (below_step (by repeat (first | (with_reducible first | exact HB.out | apply below_alloc | apply pw_below_drewN | apply below_drew1) | exact HB.out)) hb); clear HO412; clear HO415; clear HB; have HO412 := n0_; have HO415 := n1_; have HB := n2_; clear n0_ n1_ n2_; (try clear hb); (try clear hb2); (try clear hk); (try clear hi); obtain ⟨Ao17, co17, eo17⟩ := Kd.R_slice HO415.out; subst eo17) | ((with_reducible refine gate_callee (f := 36) rfl ?_); refine goesL_ (some 33) rfl rfl Tryd.func36 (by kernel_rfl) rfl #[.string t416, .int .i64 (t413.length : Int)] rfl (by (try simp only [List.map_toArray, List.map_cons, List.map_nil]); first | done | rfl | (simp only [List.length_drop, List.length_take]; rfl)) ?_; (with_reducible refine (impl_PackName.calls kj2 t416 (t413.length : Int) t417 true _ (GoodP.below HG.out (by repeat (first | (with_reducible first | exact HB.out | apply below_alloc | apply pw_below_drewN | apply below_drew1) | exact HB.out))) A11.out).mono ?_); rintro e w18 ⟨v419, rfl, ho0, hb⟩; refine ⟨_, rfl, ?_⟩; have n0_ := Aside0.mk (Kd.R_below (by (with_reducible repeat (first | apply Kd.R_alloc | apply Kd.R_drewN | apply Kd.R_drew)); exact HO412.out) hb); have n1_ := Aside0.mk (Kd.R_elder' (by (with_reducible repeat (first | apply Kd.R_alloc | apply Kd.R_drewN | apply Kd.R_drew)); exact HO415.out) (Kd.R_base ho0) hb); have n2_ := Aside0.mk (Kd.R_lower (Kd.R_new' ho0 (Kd.R_lt (by (with_reducible repeat (first | apply Kd.R_alloc | apply Kd.R_drewN | apply Kd.R_drew)); exact HO415.out))) (below_size (by repeat (first | (with_reducible first | exact HB.out | apply below_alloc | apply pw_below_drewN | apply below_drew1) | exact HB.out)))); have n3_ := Aside0.mk (below_step (by repeat (first | (with_reducible first | exact HB.out | apply below_alloc | apply pw_below_drewN | apply below_drew1) | exact HB.out)) hb); clear HO412; clear HO415; clear HB; have HO412 := n0_; have HO415 := n1_; have HO420 := n2_; have HB := n3_; clear n0_ n1_ n2_ n3_; (try clear hb); (try clear hb2); (try clear hk); (try clear hi); (try clear ho0); have hcv19 := own_string (P := Tryd.prog) Tryd.underlying22 Tryd.underlying5 Tryd.underlying9 (Kd.own_of_R HO420.out); have hcv20 := own_string (P := Tryd.prog) Tryd.underlying22 Tryd.underlying5 Tryd.underlying9 (Kd.own_of_R HO415.out)))
            go_ret
            exact ⟨by first | rfl | (simp [errW_none, errW_some] <;> rfl) | (simp [*, errW_none, errW_some] <;> rfl), by repeat (first | (with_reducible first | exact HB.out | apply below_alloc | apply pw_below_drewN | apply below_drew1) | exact HB.out)⟩
          · replace c12 := Bool.eq_false_iff.mpr c12
            subst c12
            have H1 : (some false) = some r := by rw [if_neg (show ¬ (false = true) by decide)] at H; exact H
            clear H
            have H := H1
            clear H1
            obtain rfl := Option.some.inj H
            go_wp2_with (first | ((with_reducible refine gate_callee (f := 35) rfl ?_); refine goesL_ (some 20) rfl rfl Tryd.func35 (by kernel_rfl) rfl #[.slice A0 l0.length c0] rfl (by (try simp only [List.map_toArray, List.map_cons, List.map_nil]); first | done | rfl | (simp only [List.length_drop, List.length_take]; rfl)) ?_; (with_reducible refine (laws_name.calls kj2 _ _ l0 t409 true _ ?side1 ?side2 A7.out).mono ?_); (case side1 => repeat (first | exact (Kd.C_below HR0.out HB.out) | (with_reducible refine Kd.C_alloc ?_ _) | (with_reducible refine Kd.C_drewN ?_ _) | (with_reducible refine Kd.C_drew ?_))); (case side2 => exact HC0.out); rintro e w21 ⟨v411, rfl, ho0, hb⟩; refine ⟨_, rfl, ?_⟩; have n0_ := Aside0.mk (Kd.R_lower ho0 (below_size (by repeat (first | (with_reducible first | exact HB.out | apply below_alloc | apply pw_below_drewN | apply below_drew1) | exact HB.out)))); have n1_ := Aside0.mk (below_step (by repeat (first | (with_reducible first | exact HB.out | apply below_alloc | apply pw_below_drewN | apply below_drew1) | exact HB.out)) hb); clear HB; have HO412 := n0_; have HB := n1_; clear n0_ n1_; (try clear hb); (try clear hb2); (try clear hk); (try clear hi); (try clear ho0); obtain ⟨Ao22, co22, eo22⟩ := Kd.R_slice HO412.out; subst eo22) | ((with_reducible refine gate_callee (f := 38) rfl ?_); refine goesL_ (some 26) rfl rfl Tryd.func38 (by kernel_rfl) rfl #[.slice Ao22 t409.length co22] rfl (by (try simp only [List.map_toArray, List.map_cons, List.map_nil]); first | done | rfl | (simp only [List.length_drop, List.length_take]; rfl)) ?_; (with_reducible refine (spec_Name_Wire.calls kj2 _ _ t409 t413 _ ?side1 ?side2 A9.out).mono ?_); (case side1 => repeat (first | exact (Kd.R_reads' HO412.out).2.2 | (with_reducible refine Kd.C_alloc ?_ _) | (with_reducible refine Kd.C_drewN ?_ _) | (with_reducible refine Kd.C_drew ?_))); (case side2 => exact (Kd.R_reads' HO412.out).2.1); rintro e w23 ⟨v414, rfl, ho0, hb⟩; refine ⟨_, rfl, ?_⟩; have n0_ := Aside0.mk (Kd.R_below (by (with_reducible repeat (first | apply Kd.R_alloc | apply Kd.R_drewN | apply Kd.R_drew)); exact HO412.out) hb); have n1_ := Aside0.mk (Kd.R_lower ho0 (below_size (by repeat (first | (with_reducible first | exact HB.out | apply below_alloc | apply pw_below_drewN | apply below_drew1) | exact HB.out)))); have n2_ := Aside0.mk (below_step (by repeat (first | (with_reducible first | exact HB.out | apply below_alloc | apply pw_below_drewN | apply below_drew1) | exact HB.out)) hb); clear HO412; clear HB; have HO412 := n0_; have HO415 := n1_; have HB := n2_; clear n0_ n1_ n2_; (try clear hb); (try clear hb2); (try clear hk); (try clear hi); (try clear ho0)) | ((with_reducible refine gate_callee (f := 37) rfl ?_); refine goesL_ (some 30) rfl rfl Tryd.func37 (by kernel_rfl) rfl #[.slice Ao22 t409.length co22, .slice A1 l1.length c1] rfl (by (try simp only [List.map_toArray, List.map_cons, List.map_nil]); first | done | rfl | (simp only [List.length_drop, List.length_take]; rfl)) ?_; (with_reducible refine (spec_Name_Text.calls kj2 _ _ t409 _ _ l1 t416 _ ?side1 ?side2 ?side3 ?side4 A10.out).mono ?_); (case side1 => repeat (first | exact (Kd.R_reads' HO412.out).2.2 | (with_reducible refine Kd.C_alloc ?_ _) | (with_reducible refine Kd.C_drewN ?_ _) | (with_reducible refine Kd.C_drew ?_))); (case side2 => exact (Kd.R_reads' HO412.out).2.1); (case side3 => repeat (first | exact (Kd.C_below HR1.out HB.out) | (with_reducible refine Kd.C_alloc ?_ _) | (with_reducible refine Kd.C_drewN ?_ _) | (with_reducible refine Kd.C_drew ?_))); (case side4 => exact HC1.out); rintro e w24 ⟨rfl, hb⟩; refine ⟨_, rfl, ?_⟩; have n0_ := Aside0.mk (Kd.R_below (by (with_reducible repeat (first | apply Kd.R_alloc | apply Kd.R_drewN | apply Kd.R_drew)); exact HO412.out) hb); have n1_ := Aside0.mk (Kd.R_below (by (with_reducible repeat (first | apply Kd.R_alloc | apply Kd.R_drewN | apply Kd.R_drew)); exact HO415.out) hb); have n2_ := Aside0.mk (below_step (by repeat (first | (with_reducible first | exact HB.out | apply below_alloc | apply pw_below_drewN | apply below_drew1) | exact HB.out)) hb); clear HO412; clear HO415; clear HB; have HO412 := n0_; have HO415 := n1_; have HB := n2_; clear n0_ n1_ n2_; (try clear hb); (try clear hb2); (try clear hk); (try clear hi); obtain ⟨Ao25, co25, eo25⟩ := Kd.R_slice HO415.out; subst eo25) | ((with_reducible refine gate_callee (f := 36) rfl ?_); refine goesL_ (some 33) rfl rfl Tryd.func36 (by kernel_rfl) rfl #[.string t416, .int .i64 (t413.length : Int)] rfl (by (try simp only [List.map_toArray, List.map_cons, List.map_nil]); first | done | rfl | (simp only [List.length_drop, List.length_take]; rfl)) ?_; (with_reducible refine (impl_PackName.calls kj2 t416 (t413.length : Int) t417 false _ (GoodP.below HG.out (by repeat (first | (with_reducible first | exact HB.out | apply below_alloc | apply pw_below_drewN | apply below_drew1) | exact HB.out))) A11.out).mono ?_); rintro e w26 ⟨v419, rfl, ho0, hb⟩; refine ⟨_, rfl, ?_⟩; have n0_ := Aside0.mk (Kd.R_below (by (with_reducible repeat (first | apply Kd.R_alloc | apply Kd.R_drewN | apply Kd.R_drew)); exact HO412.out) hb); have n1_ := Aside0.mk (Kd.R_elder' (by (with_reducible repeat (first | apply Kd.R_alloc | apply Kd.R_drewN | apply Kd.R_drew)); exact HO415.out) (Kd.R_base ho0) hb); have n2_ := Aside0.mk (Kd.R_lower (Kd.R_new' ho0 (Kd.R_lt (by (with_reducible repeat (first | apply Kd.R_alloc | apply Kd.R_drewN | apply Kd.R_drew)); exact HO415.out))) (below_size (by repeat (first | (with_reducible first | exact HB.out | apply below_alloc | apply pw_below_drewN | apply below_drew1) | exact HB.out)))); have n3_ := Aside0.mk (below_step (by repeat (first | (with_reducible first | exact HB.out | apply below_alloc | apply pw_below_drewN | apply below_drew1) | exact HB.out)) hb); clear HO412; clear HO415; clear HB; have HO412 := n0_; have HO415 := n1_; have HO420 := n2_; have HB := n3_; clear n0_ n1_ n2_ n3_; (try clear hb); (try clear hb2); (try clear hk); (try clear hi); (try clear ho0)))
            go_ret
            exact ⟨by first | rfl | (simp [errW_none, errW_some] <;> rfl) | (simp [*, errW_none, errW_some] <;> rfl), by repeat (first | (with_reducible first | exact HB.out | apply below_alloc | apply pw_below_drewN | apply below_drew1) | exact HB.out)⟩
        · replace c8 := Bool.eq_false_iff.mpr c8
          subst c8
          have H1 : (some true) = some r := by rw [if_neg (show ¬ (false = true) by decide)] at H; exact H
          clear H
          have H := H1
          clear H1
          obtain rfl := Option.some.inj H
          go_wp2_with (first | ((with_reducible refine gate_callee (f := 35) rfl ?_); refine goesL_ (some 20) rfl rfl Tryd.func35 (by kernel_rfl) rfl #[.slice A0 l0.length c0] rfl (by (try simp only [List.map_toArray, List.map_cons, List.map_nil]); first | done | rfl | (simp only [List.length_drop, List.length_take]; rfl)) ?_; (with_reducible refine (laws_name.calls kj2 _ _ l0 t409 false _ ?side1 ?side2 A7.out).mono ?_); (case side1 => repeat (first | exact (Kd.C_below HR0.out HB.out) | (with_reducible refine Kd.C_alloc ?_ _) | (with_reducible refine Kd.C_drewN ?_ _) | (with_reducible refine Kd.C_drew ?_))); (case side2 => exact HC0.out); rintro e w27 ⟨v411, rfl, ho0, hb⟩; refine ⟨_, rfl, ?_⟩; have n0_ := Aside0.mk (Kd.R_lower ho0 (below_size (by repeat (first | (with_reducible first | exact HB.out | apply below_alloc | apply pw_below_drewN | apply below_drew1) | exact HB.out)))); have n1_ := Aside0.mk (below_step (by repeat (first | (with_reducible first | exact HB.out | apply below_alloc | apply pw_below_drewN | apply below_drew1) | exact HB.out)) hb); clear HB; have HO412 := n0_; have HB := n1_; clear n0_ n1_; (try clear hb); (try clear hb2); (try clear hk); (try clear hi); (try clear ho0)))
          go_ret
          exact ⟨by first | rfl | (simp [errW_none, errW_some] <;> rfl) | (simp [*, errW_none, errW_some] <;> rfl), by repeat (first | (with_reducible first | exact HB.out | apply below_alloc | apply pw_below_drewN | apply below_drew1) | exact HB.out)⟩

end Go.Proofs.YtiilihafcdmccaaDoor.P
-- Written by a program of this session (wip/tools/pprint.py) out of the translation: it goes by the kit's print and by the contracts of YtiilihafcdmccaaDoorHand. Not trusted: Lean checks it.
namespace Go.Proofs.YtiilihafcdmccaaDoor.P
open Go.RowKit Go.Proofs.YtiilihafcdmccaaDoorW.PrintWords Go.Proofs.YtiilihafcdmccaaDoorW.PrintLast Go.Proofs.YtiilihafcdmccaaDoorW.PrintMore
attribute [local go_sem] max2_int min2_int max_two min_two max_three min_three max_four min_four   -- for this text's walks alone
set_option linter.unusedVariables false
set_option linter.unusedSimpArgs false

/-! ### laws_FnNoRoom: function 8 -/
mutual
def laws_FnNoRoom.j0 : Nat → List (List Int) → List Int → Int → Bool → Option (Bool)
  | 0, _, _, _, _ => none
  | k + 1, x0, x1, x2, x20 => if x20 = true then (some true) else ((laws_name.f k x0).bind fun bt382 => (if bt382.2 = true then (if x2 < 0 then (laws_FnNoRoom.j1 k x1 x2 bt382.1 true) else ((spec_Name_Size.f k bt382.1).bind fun t386 => (laws_FnNoRoom.j1 k x1 x2 bt382.1 (decide (x2 ≥ t386))))) else (laws_FnNoRoom.j1 k x1 x2 bt382.1 true)))
def laws_FnNoRoom.j1 : Nat → List Int → Int → List ByteArray → Bool → Option (Bool)
  | 0, _, _, _, _ => none
  | k + 1, x1, x2, x7, x37 => if x37 = true then (some true) else ((spec_Name_Text.f k x7 x1).bind fun t387 => ((impl_PackName.f k t387 x2).bind fun bt388 => ((spec_Name_Text.f k x7 x1).bind fun t392 => ((spec_Name_Size.f k x7).bind fun t393 => ((impl_PackName.f k t392 t393).bind fun bt394 => (if bt388.2 = true then (some false) else (some bt394.2)))))))
end
def laws_FnNoRoom.f (k : Nat) (l0 : List (List Int)) (l1 : List Int) (a2 : Int) : Option (Bool) := (laws_zzFits9.f k l0).bind fun t381 => (if t381 = true then (laws_FnNoRoom.j0 k l0 l1 a2 (decide ((l1.length : Int) > 2147483647))) else (laws_FnNoRoom.j0 k l0 l1 a2 true))
theorem laws_FnNoRoom.mono_l : ∀ k, (∀ y0 y1 y2 y3, LeO (laws_FnNoRoom.j0 k y0 y1 y2 y3) (laws_FnNoRoom.j0 (k + 1) y0 y1 y2 y3)) ∧ (∀ y0 y1 y2 y3, LeO (laws_FnNoRoom.j1 k y0 y1 y2 y3) (laws_FnNoRoom.j1 (k + 1) y0 y1 y2 y3))
  | 0 => ⟨fun _ _ _ _ r h => by simp [laws_FnNoRoom.j0] at h, fun _ _ _ _ r h => by simp [laws_FnNoRoom.j1] at h⟩
  | k + 1 => by
    obtain ⟨ih0, ih1⟩ := laws_FnNoRoom.mono_l k
    refine ⟨?_, ?_⟩
    · intro y0 y1 y2 y3
      unfold laws_FnNoRoom.j0
      repeat' first
      | (with_reducible exact ih0 _ _ _ _)
      | (with_reducible exact ih1 _ _ _ _)
      | (with_reducible exact impl_PackName.mono _ _ _)
      | (with_reducible exact laws_name.mono _ _)
      | (with_reducible exact laws_zzFits9.mono _ _)
      | (with_reducible exact spec_Name_Size.mono _ _)
      | (with_reducible exact spec_Name_Text.mono _ _ _)
      | (with_reducible exact LeO.refl _)
      | (with_reducible exact LeO.none _)
      | (with_reducible refine LeO.ite ?_ ?_)
      | (with_reducible refine LeO.bind ?_ (fun _ => ?_))
      | exact ih0 _ _ _ _
      | exact ih1 _ _ _ _
      | exact impl_PackName.mono _ _ _
      | exact laws_name.mono _ _
      | exact laws_zzFits9.mono _ _
      | exact spec_Name_Size.mono _ _
      | exact spec_Name_Text.mono _ _ _
      | exact LeO.none _
      | refine LeO.ite ?_ ?_
      | refine LeO.bind ?_ (fun _ => ?_)
    · intro y0 y1 y2 y3
      unfold laws_FnNoRoom.j1
      repeat' first
      | (with_reducible exact ih0 _ _ _ _)
      | (with_reducible exact ih1 _ _ _ _)
      | (with_reducible exact impl_PackName.mono _ _ _)
      | (with_reducible exact laws_name.mono _ _)
      | (with_reducible exact laws_zzFits9.mono _ _)
      | (with_reducible exact spec_Name_Size.mono _ _)
      | (with_reducible exact spec_Name_Text.mono _ _ _)
      | (with_reducible exact LeO.refl _)
      | (with_reducible exact LeO.none _)
      | (with_reducible refine LeO.ite ?_ ?_)
      | (with_reducible refine LeO.bind ?_ (fun _ => ?_))
      | exact ih0 _ _ _ _
      | exact ih1 _ _ _ _
      | exact impl_PackName.mono _ _ _
      | exact laws_name.mono _ _
      | exact laws_zzFits9.mono _ _
      | exact spec_Name_Size.mono _ _
      | exact spec_Name_Text.mono _ _ _
      | exact LeO.none _
      | refine LeO.ite ?_ ?_
      | refine LeO.bind ?_ (fun _ => ?_)
theorem laws_FnNoRoom.mono : ∀ a0 a1 a2 k, LeO (laws_FnNoRoom.f k a0 a1 a2) (laws_FnNoRoom.f (k + 1) a0 a1 a2) := by
  intro a0 a1 a2 k
  obtain ⟨ih0, ih1⟩ := laws_FnNoRoom.mono_l k
  unfold laws_FnNoRoom.f
  repeat' first
      | (with_reducible exact ih0 _ _ _ _)
      | (with_reducible exact ih1 _ _ _ _)
      | (with_reducible exact impl_PackName.mono _ _ _)
      | (with_reducible exact laws_name.mono _ _)
      | (with_reducible exact laws_zzFits9.mono _ _)
      | (with_reducible exact spec_Name_Size.mono _ _)
      | (with_reducible exact spec_Name_Text.mono _ _ _)
      | (with_reducible exact LeO.refl _)
      | (with_reducible exact LeO.none _)
      | (with_reducible refine LeO.ite ?_ ?_)
      | (with_reducible refine LeO.bind ?_ (fun _ => ?_))
      | exact ih0 _ _ _ _
      | exact ih1 _ _ _ _
      | exact impl_PackName.mono _ _ _
      | exact laws_name.mono _ _
      | exact laws_zzFits9.mono _ _
      | exact spec_Name_Size.mono _ _
      | exact spec_Name_Text.mono _ _ _
      | exact LeO.none _
      | refine LeO.ite ?_ ?_
      | refine LeO.bind ?_ (fun _ => ?_)
set_option maxHeartbeats 8000000 in
set_option maxRecDepth 100000 in
theorem laws_FnNoRoom.calls (k : Nat) (A0 : Option Addr) (c0 : Nat) (l0 : List (List Int)) (A1 : Option Addr) (c1 : Nat) (l1 : List Int) (a2 : Int) (r : Bool) (w : World) (hr0 : Kd.C (Kd.slice 5 (Kd.int .u8)) w A0 l0.length l0) (hc0 : l0.length ≤ c0) (hr1 : Kd.C (Kd.int .i64) w A1 l1.length l1) (hc1 : l1.length ≤ c1) (hG : GoodP w) (h : laws_FnNoRoom.f k l0 l1 a2 = some r) :
    Calls Tryd.prog 8 #[.slice A0 l0.length c0, .slice A1 l1.length c1, .int .i64 a2] w fun e w' => e = .returned (.bool r) ∧ Below w.heap.size w w' := by
  have HG := Aside0.mk hG
  clear hG
  have HR0 := Aside0.mk hr0
  have HC0 := Aside0.mk hc0
  clear hr0 hc0
  have HR1 := Aside0.mk hr1
  have HC1 := Aside0.mk hc1
  clear hr1 hc1
  have HB := Aside0.mk (Below.refl w.heap.size w)
  have H : ((laws_zzFits9.f k l0).bind fun t381 => (if t381 = true then (laws_FnNoRoom.j0 k l0 l1 a2 (decide ((l1.length : Int) > 2147483647))) else (laws_FnNoRoom.j0 k l0 l1 a2 true))) = some r := h
  clear h
  have HC4 := Aside0.mk H
  clear H
  go_enter Tryd.func8, Tryd.ntmps8
  go_upto_region 1 with (fail)
  go_cut [20] (fun v20 wc => ∃ (kq : Nat) (x20_3 : Bool), v20 = .bool x20_3 ∧ Aside0 (laws_FnNoRoom.j0 kq l0 l1 a2 x20_3 = some r) ∧ Aside0 (kq ≤ k) ∧ Aside0 (Below w.heap.size w wc))
  case first =>
    have H := HC4.out
    clear HC4
    replace H := Option.bind_eq_some_iff.mp H
    obtain ⟨t381, A50, H⟩ := H
    replace H : (if t381 = true then (laws_FnNoRoom.j0 k l0 l1 a2 (decide ((l1.length : Int) > 2147483647))) else (laws_FnNoRoom.j0 k l0 l1 a2 true)) = some r := H
    have A5 := Aside0.mk A50
    clear A50
    by_cases c6 : t381 = true
    · subst c6
      have H1 : (laws_FnNoRoom.j0 k l0 l1 a2 (decide ((l1.length : Int) > 2147483647))) = some r := by rw [if_pos rfl] at H; exact H
      clear H
      have H := H1
      clear H1
      have H' := Aside0.mk H
      clear H
      go_wp2_with (first | ((with_reducible refine gate_callee (f := 34) rfl ?_); refine goesL_ (some 14) rfl rfl Tryd.func34 (by kernel_rfl) rfl #[.slice A0 l0.length c0] rfl (by (try simp only [List.map_toArray, List.map_cons, List.map_nil]); first | done | rfl | (simp only [List.length_drop, List.length_take]; rfl)) ?_; (with_reducible refine (laws_zzFits9.calls k _ _ l0 true _ ?side1 ?side2 A5.out).mono ?_); (case side1 => repeat (first | exact (Kd.C_below HR0.out HB.out) | (with_reducible refine Kd.C_alloc ?_ _) | (with_reducible refine Kd.C_drewN ?_ _) | (with_reducible refine Kd.C_drew ?_))); (case side2 => exact HC0.out); rintro e w' ⟨rfl, ⟨nd, rfl⟩⟩; refine ⟨_, rfl, ?_⟩))
      go_meet
      case rel => exact ⟨_, (decide ((l1.length : Int) > 2147483647)), (by first | rfl | (simp; done) | (simp [*]; done) | (simp [wrap64]; done)), H', ⟨by first | omega | exact Nat.le_refl _⟩, ⟨by repeat (first | (with_reducible first | exact HB.out | apply below_alloc | apply pw_below_drewN | apply below_drew1) | exact HB.out)⟩⟩
    · replace c6 := Bool.eq_false_iff.mpr c6
      subst c6
      have H1 : (laws_FnNoRoom.j0 k l0 l1 a2 true) = some r := by rw [if_neg (show ¬ (false = true) by decide)] at H; exact H
      clear H
      have H := H1
      clear H1
      have H' := Aside0.mk H
      clear H
      go_wp2_with (first | ((with_reducible refine gate_callee (f := 34) rfl ?_); refine goesL_ (some 14) rfl rfl Tryd.func34 (by kernel_rfl) rfl #[.slice A0 l0.length c0] rfl (by (try simp only [List.map_toArray, List.map_cons, List.map_nil]); first | done | rfl | (simp only [List.length_drop, List.length_take]; rfl)) ?_; (with_reducible refine (laws_zzFits9.calls k _ _ l0 false _ ?side1 ?side2 A5.out).mono ?_); (case side1 => repeat (first | exact (Kd.C_below HR0.out HB.out) | (with_reducible refine Kd.C_alloc ?_ _) | (with_reducible refine Kd.C_drewN ?_ _) | (with_reducible refine Kd.C_drew ?_))); (case side2 => exact HC0.out); rintro e w' ⟨rfl, ⟨nd, rfl⟩⟩; refine ⟨_, rfl, ?_⟩))
      go_meet
      case rel => exact ⟨_, (true), (by first | rfl | (simp; done) | (simp [*]; done) | (simp [wrap64]; done)), H', ⟨by first | omega | exact Nat.le_refl _⟩, ⟨by repeat (first | (with_reducible first | exact HB.out | apply below_alloc | apply pw_below_drewN | apply below_drew1) | exact HB.out)⟩⟩
  case rest =>
    clear HC4
    try clear c1
    try clear p2
    try clear c3
    try clear c6
    try clear p6
    obtain ⟨kq, x20_3, rfl, HA, HJ3, HB⟩ := hcut
    cases kq with
    | zero => exact absurd HA.out (by simp [laws_FnNoRoom.j0])
    | succ kj3 =>
      have H := HA.out
      clear HA
      simp only [laws_FnNoRoom.j0] at H
      by_cases c7 : x20_3 = true
      · subst c7
        have H1 : (some true) = some r := by rw [if_pos rfl] at H; exact H
        clear H
        have H := H1
        clear H1
        obtain rfl := Option.some.inj H
        go_wp2
        go_ret
        exact ⟨by first | rfl | (simp [errW_none, errW_some] <;> rfl) | (simp [*, errW_none, errW_some] <;> rfl), by repeat (first | (with_reducible first | exact HB.out | apply below_alloc | apply pw_below_drewN | apply below_drew1) | exact HB.out)⟩
      · replace c7 := Bool.eq_false_iff.mpr c7
        subst c7
        have H1 : ((laws_name.f kj3 l0).bind fun bt382 => (if bt382.2 = true then (if a2 < 0 then (laws_FnNoRoom.j1 kj3 l1 a2 bt382.1 true) else ((spec_Name_Size.f kj3 bt382.1).bind fun t386 => (laws_FnNoRoom.j1 kj3 l1 a2 bt382.1 (decide (a2 ≥ t386))))) else (laws_FnNoRoom.j1 kj3 l1 a2 bt382.1 true))) = some r := by rw [if_neg (show ¬ (false = true) by decide)] at H; exact H
        clear H
        have H := H1
        clear H1
        replace H := Option.bind_eq_some_iff.mp H
        obtain ⟨⟨t382, t383⟩, A80, H⟩ := H
        replace H : (if t383 = true then (if a2 < 0 then (laws_FnNoRoom.j1 kj3 l1 a2 t382 true) else ((spec_Name_Size.f kj3 t382).bind fun t386 => (laws_FnNoRoom.j1 kj3 l1 a2 t382 (decide (a2 ≥ t386))))) else (laws_FnNoRoom.j1 kj3 l1 a2 t382 true)) = some r := H
        have A8 := Aside0.mk A80
        clear A80
        have HC9 := Aside0.mk H
        clear H
        go_upto_region 4 with (first | ((with_reducible refine gate_callee (f := 35) rfl ?_); refine goesL_ (some 23) rfl rfl Tryd.func35 (by kernel_rfl) rfl #[.slice A0 l0.length c0] rfl (by (try simp only [List.map_toArray, List.map_cons, List.map_nil]); first | done | rfl | (simp only [List.length_drop, List.length_take]; rfl)) ?_; (with_reducible refine (laws_name.calls kj3 _ _ l0 t382 t383 _ ?side1 ?side2 A8.out).mono ?_); (case side1 => repeat (first | exact (Kd.C_below HR0.out HB.out) | (with_reducible refine Kd.C_alloc ?_ _) | (with_reducible refine Kd.C_drewN ?_ _) | (with_reducible refine Kd.C_drew ?_))); (case side2 => exact HC0.out); rintro e w10 ⟨v384, rfl, ho0, hb⟩; refine ⟨_, rfl, ?_⟩; have n0_ := Aside0.mk (Kd.R_lower ho0 (below_size (by repeat (first | (with_reducible first | exact HB.out | apply below_alloc | apply pw_below_drewN | apply below_drew1) | exact HB.out)))); have n1_ := Aside0.mk (below_step (by repeat (first | (with_reducible first | exact HB.out | apply below_alloc | apply pw_below_drewN | apply below_drew1) | exact HB.out)) hb); clear HB; have HO385 := n0_; have HB := n1_; clear n0_ n1_; (try clear hb); (try clear hb2); (try clear hk); (try clear hi); (try clear ho0)))
        (try simp only [Act.put, List.setIfInBounds_toArray, List.set_cons_zero, List.set_cons_succ])
        go_cut [37] (fun v37 wc => ∃ (kq : Nat) (x37_8 : Bool), v37 = .bool x37_8 ∧ Aside0 (laws_FnNoRoom.j1 kq l1 a2 t382 x37_8 = some r) ∧ Aside0 (kq ≤ kj3) ∧ Aside0 (Kd.R Kd.string 9 wc w.heap.size (fun _ => True) v384 t382) ∧ Aside0 (Below w.heap.size w wc))
        case first =>
          have H := HC9.out
          clear HC9
          by_cases c11 : t383 = true
          · subst c11
            have H1 : (if a2 < 0 then (laws_FnNoRoom.j1 kj3 l1 a2 t382 true) else ((spec_Name_Size.f kj3 t382).bind fun t386 => (laws_FnNoRoom.j1 kj3 l1 a2 t382 (decide (a2 ≥ t386))))) = some r := by rw [if_pos rfl] at H; exact H
            clear H
            have H := H1
            clear H1
            by_cases c12 : a2 < 0
            · rw [if_pos c12] at H
              have c12b0 : decide (a2 < 0) = true := decide_eq_true c12
              clear c12
              (first | rw [c12b0] | (simp only [i64_w, i32_w]; rw [c12b0]) | skip)
              have H' := Aside0.mk H
              clear H
              go_wp2
              go_meet
              case rel => exact ⟨_, (true), (by first | rfl | (simp; done) | (simp [*]; done) | (simp [wrap64]; done)), H', ⟨by have := HJ3.out; first | omega | exact Nat.le_refl _⟩, ⟨by (with_reducible repeat (first | apply Kd.R_alloc | apply Kd.R_drewN | apply Kd.R_drew)); exact HO385.out⟩, ⟨by repeat (first | (with_reducible first | exact HB.out | apply below_alloc | apply pw_below_drewN | apply below_drew1) | exact HB.out)⟩⟩
            · rw [if_neg c12] at H
              have c12b0 : decide (a2 < 0) = false := decide_eq_false c12
              clear c12
              (first | rw [c12b0] | (simp only [i64_w, i32_w]; rw [c12b0]) | skip)
              replace H := Option.bind_eq_some_iff.mp H
              obtain ⟨t386, A130, H⟩ := H
              replace H : (laws_FnNoRoom.j1 kj3 l1 a2 t382 (decide (a2 ≥ t386))) = some r := H
              have A13 := Aside0.mk A130
              clear A130
              have H' := Aside0.mk H
              clear H
              obtain ⟨Ao14, co14, eo14⟩ := Kd.R_slice HO385.out
              subst eo14
              go_wp2_with (first | (go_at_call 24; (with_reducible refine (spec_Name_Size.calls kj3 _ _ t382 t386 _ ?side1 ?side2 A13.out).mono ?_); (case side1 => repeat (first | exact (Kd.R_reads' HO385.out).2.2 | (with_reducible refine Kd.C_alloc ?_ _) | (with_reducible refine Kd.C_drewN ?_ _) | (with_reducible refine Kd.C_drew ?_))); (case side2 => exact (Kd.R_reads' HO385.out).2.1); rintro e w' ⟨rfl, ⟨nd, rfl⟩⟩))
              go_meet
              case rel => exact ⟨_, (decide (a2 ≥ t386)), (by first | rfl | (simp; done) | (simp [*]; done) | (simp [wrap64]; done)), H', ⟨by have := HJ3.out; first | omega | exact Nat.le_refl _⟩, ⟨by (with_reducible repeat (first | apply Kd.R_alloc | apply Kd.R_drewN | apply Kd.R_drew)); exact HO385.out⟩, ⟨by repeat (first | (with_reducible first | exact HB.out | apply below_alloc | apply pw_below_drewN | apply below_drew1) | exact HB.out)⟩⟩
          · replace c11 := Bool.eq_false_iff.mpr c11
            subst c11
            have H1 : (laws_FnNoRoom.j1 kj3 l1 a2 t382 true) = some r := by rw [if_neg (show ¬ (false = true) by decide)] at H; exact H
            clear H
            have H := H1
            clear H1
            have H' := Aside0.mk H
            clear H
            go_wp2
            go_meet
            case rel => exact ⟨_, (true), (by first | rfl | (simp; done) | (simp [*]; done) | (simp [wrap64]; done)), H', ⟨by have := HJ3.out; first | omega | exact Nat.le_refl _⟩, ⟨by (with_reducible repeat (first | apply Kd.R_alloc | apply Kd.R_drewN | apply Kd.R_drew)); exact HO385.out⟩, ⟨by repeat (first | (with_reducible first | exact HB.out | apply below_alloc | apply pw_below_drewN | apply below_drew1) | exact HB.out)⟩⟩
        case rest =>
          clear HC9
          try clear c1
          try clear p2
          try clear c3
          try clear c6
          try clear p6
          try clear c7
          try clear c8
          try clear c11
          try clear c12
          try clear c12b0
          try clear p2
          try clear p6
          obtain ⟨kq, x37_8, rfl, HA, HJ8, HO_7, HB⟩ := hcut
          cases kq with
          | zero => exact absurd HA.out (by simp [laws_FnNoRoom.j1])
          | succ kj8 =>
            have H := HA.out
            clear HA
            simp only [laws_FnNoRoom.j1] at H
            by_cases c15 : x37_8 = true
            · subst c15
              have H1 : (some true) = some r := by rw [if_pos rfl] at H; exact H
              clear H
              have H := H1
              clear H1
              obtain rfl := Option.some.inj H
              go_wp2
              go_ret
              exact ⟨by first | rfl | (simp [errW_none, errW_some] <;> rfl) | (simp [*, errW_none, errW_some] <;> rfl), by repeat (first | (with_reducible first | exact HB.out | apply below_alloc | apply pw_below_drewN | apply below_drew1) | exact HB.out)⟩
            · replace c15 := Bool.eq_false_iff.mpr c15
              subst c15
              have H1 : ((spec_Name_Text.f kj8 t382 l1).bind fun t387 => ((impl_PackName.f kj8 t387 a2).bind fun bt388 => ((spec_Name_Text.f kj8 t382 l1).bind fun t392 => ((spec_Name_Size.f kj8 t382).bind fun t393 => ((impl_PackName.f kj8 t392 t393).bind fun bt394 => (if bt388.2 = true then (some false) else (some bt394.2))))))) = some r := by rw [if_neg (show ¬ (false = true) by decide)] at H; exact H
              clear H
              have H := H1
              clear H1
              replace H := Option.bind_eq_some_iff.mp H
              obtain ⟨t387, A160, H⟩ := H
              replace H : ((impl_PackName.f kj8 t387 a2).bind fun bt388 => ((spec_Name_Text.f kj8 t382 l1).bind fun t392 => ((spec_Name_Size.f kj8 t382).bind fun t393 => ((impl_PackName.f kj8 t392 t393).bind fun bt394 => (if bt388.2 = true then (some false) else (some bt394.2)))))) = some r := H
              have A16 := Aside0.mk A160
              clear A160
              replace H := Option.bind_eq_some_iff.mp H
              obtain ⟨⟨t388, t389⟩, A170, H⟩ := H
              replace H : ((spec_Name_Text.f kj8 t382 l1).bind fun t392 => ((spec_Name_Size.f kj8 t382).bind fun t393 => ((impl_PackName.f kj8 t392 t393).bind fun bt394 => (if t389 = true then (some false) else (some bt394.2))))) = some r := H
              have A17 := Aside0.mk A170
              clear A170
              replace H := Option.bind_eq_some_iff.mp H
              obtain ⟨t392, A180, H⟩ := H
              replace H : ((spec_Name_Size.f kj8 t382).bind fun t393 => ((impl_PackName.f kj8 t392 t393).bind fun bt394 => (if t389 = true then (some false) else (some bt394.2)))) = some r := H
              have A18 := Aside0.mk A180
              clear A180
              replace H := Option.bind_eq_some_iff.mp H
              obtain ⟨t393, A190, H⟩ := H
              replace H : ((impl_PackName.f kj8 t392 t393).bind fun bt394 => (if t389 = true then (some false) else (some bt394.2))) = some r := H
              have A19 := Aside0.mk A190
              clear A190
              replace H := Option.bind_eq_some_iff.mp H
              obtain ⟨⟨t394, t395⟩, A200, H⟩ := H
              replace H : (if t389 = true then (some false) else (some t395)) = some r := H
              have A20 := Aside0.mk A200
              clear A200
              by_cases c21 : t389 = true
              · subst c21
                have H1 : (some false) = some r := by rw [if_pos rfl] at H; exact H
                clear H
                have H := H1
                clear H1
                obtain rfl := Option.some.inj H
                obtain ⟨Ao22, co22, eo22⟩ := Kd.R_slice HO_7.out
                subst eo22
                go_wp2_with (first | ((with_reducible refine gate_callee (f := 37) rfl ?_); refine goesL_ (some 41) rfl rfl Tryd.func37 (by kernel_rfl) rfl #[.slice Ao22 t382.length co22, .slice A1 l1.length c1] rfl (by (try simp only [List.map_toArray, List.map_cons, List.map_nil]); first | done | rfl | (simp only [List.length_drop, List.length_take]; rfl)) ?_; (with_reducible refine (spec_Name_Text.calls kj8 _ _ t382 _ _ l1 t387 _ ?side1 ?side2 ?side3 ?side4 A16.out).mono ?_); (case side1 => repeat (first | exact (Kd.R_reads' HO_7.out).2.2 | (with_reducible refine Kd.C_alloc ?_ _) | (with_reducible refine Kd.C_drewN ?_ _) | (with_reducible refine Kd.C_drew ?_))); (case side2 => exact (Kd.R_reads' HO_7.out).2.1); (case side3 => repeat (first | exact (Kd.C_below HR1.out HB.out) | (with_reducible refine Kd.C_alloc ?_ _) | (with_reducible refine Kd.C_drewN ?_ _) | (with_reducible refine Kd.C_drew ?_))); (case side4 => exact HC1.out); rintro e w23 ⟨rfl, hb⟩; refine ⟨_, rfl, ?_⟩; have n0_ := Aside0.mk (Kd.R_below (by (with_reducible repeat (first | apply Kd.R_alloc | apply Kd.R_drewN | apply Kd.R_drew)); exact HO_7.out) hb); have n1_ := Aside0.mk (below_step (by repeat (first | (with_reducible first | exact HB.out | apply below_alloc | apply pw_below_drewN | apply below_drew1) | exact HB.out)) hb); clear HO_7; clear HB; have HO_7 := n0_; have HB := n1_; clear n0_ n1_; (try clear hb); (try clear hb2); (try clear hk); (try clear hi)) | ((with_reducible refine gate_callee (f := 36) rfl ?_); refine goesL_ (some 43) rfl rfl Tryd.func36 (by kernel_rfl) rfl #[.string t387, .int .i64 a2] rfl (by (try simp only [List.map_toArray, List.map_cons, List.map_nil]); first | done | rfl | (simp only [List.length_drop, List.length_take]; rfl)) ?_; (with_reducible refine (impl_PackName.calls kj8 t387 a2 t388 true _ (GoodP.below HG.out (by repeat (first | (with_reducible first | exact HB.out | apply below_alloc | apply pw_below_drewN | apply below_drew1) | exact HB.out))) A17.out).mono ?_); rintro e w24 ⟨v390, rfl, ho0, hb⟩; refine ⟨_, rfl, ?_⟩; have n0_ := Aside0.mk (Kd.R_below (by (with_reducible repeat (first | apply Kd.R_alloc | apply Kd.R_drewN | apply Kd.R_drew)); exact HO_7.out) hb); have n1_ := Aside0.mk (Kd.R_lower ho0 (below_size (by repeat (first | (with_reducible first | exact HB.out | apply below_alloc | apply pw_below_drewN | apply below_drew1) | exact HB.out)))); have n2_ := Aside0.mk (below_step (by repeat (first | (with_reducible first | exact HB.out | apply below_alloc | apply pw_below_drewN | apply below_drew1) | exact HB.out)) hb); clear HO_7; clear HB; have HO_7 := n0_; have HO391 := n1_; have HB := n2_; clear n0_ n1_ n2_; (try clear hb); (try clear hb2); (try clear hk); (try clear hi); (try clear ho0)) | ((with_reducible refine gate_callee (f := 37) rfl ?_); refine goesL_ (some 49) rfl rfl Tryd.func37 (by kernel_rfl) rfl #[.slice Ao22 t382.length co22, .slice A1 l1.length c1] rfl (by (try simp only [List.map_toArray, List.map_cons, List.map_nil]); first | done | rfl | (simp only [List.length_drop, List.length_take]; rfl)) ?_; (with_reducible refine (spec_Name_Text.calls kj8 _ _ t382 _ _ l1 t392 _ ?side1 ?side2 ?side3 ?side4 A18.out).mono ?_); (case side1 => repeat (first | exact (Kd.R_reads' HO_7.out).2.2 | (with_reducible refine Kd.C_alloc ?_ _) | (with_reducible refine Kd.C_drewN ?_ _) | (with_reducible refine Kd.C_drew ?_))); (case side2 => exact (Kd.R_reads' HO_7.out).2.1); (case side3 => repeat (first | exact (Kd.C_below HR1.out HB.out) | (with_reducible refine Kd.C_alloc ?_ _) | (with_reducible refine Kd.C_drewN ?_ _) | (with_reducible refine Kd.C_drew ?_))); (case side4 => exact HC1.out); rintro e w25 ⟨rfl, hb⟩; refine ⟨_, rfl, ?_⟩; have n0_ := Aside0.mk (Kd.R_below (by (with_reducible repeat (first | apply Kd.R_alloc | apply Kd.R_drewN | apply Kd.R_drew)); exact HO_7.out) hb); have n1_ := Aside0.mk (Kd.R_below (by (with_reducible repeat (first | apply Kd.R_alloc | apply Kd.R_drewN | apply Kd.R_drew)); exact HO391.out) hb); have n2_ := Aside0.mk (below_step (by repeat (first | (with_reducible first | exact HB.out | apply below_alloc | apply pw_below_drewN | apply below_drew1) | exact HB.out)) hb); clear HO_7; clear HO391; clear HB; have HO_7 := n0_; have HO391 := n1_; have HB := n2_; clear n0_ n1_ n2_; (try clear hb); (try clear hb2); (try clear hk); (try clear hi)) | ((with_reducible refine gate_callee (f := 24) rfl ?_); refine goesL_ (some 51) rfl rfl Tryd.func24 (by kernel_rfl) rfl #[.slice Ao22 t382.length co22] rfl (by (try simp only [List.map_toArray, List.map_cons, List.map_nil]); first | done | rfl | (simp only [List.length_drop, List.length_take]; rfl)) ?_; (with_reducible refine (spec_Name_Size.calls kj8 _ _ t382 t393 _ ?side1 ?side2 A19.out).mono ?_); (case side1 => repeat (first | exact (Kd.R_reads' HO_7.out).2.2 | (with_reducible refine Kd.C_alloc ?_ _) | (with_reducible refine Kd.C_drewN ?_ _) | (with_reducible refine Kd.C_drew ?_))); (case side2 => exact (Kd.R_reads' HO_7.out).2.1); rintro e w' ⟨rfl, ⟨nd, rfl⟩⟩; refine ⟨_, rfl, ?_⟩) | ((with_reducible refine gate_callee (f := 36) rfl ?_); refine goesL_ (some 52) rfl rfl Tryd.func36 (by kernel_rfl) rfl #[.string t392, .int .i64 t393] rfl (by (try simp only [List.map_toArray, List.map_cons, List.map_nil]); first | done | rfl | (simp only [List.length_drop, List.length_take]; rfl)) ?_; (with_reducible refine (impl_PackName.calls kj8 t392 t393 t394 t395 _ (GoodP.below HG.out (by repeat (first | (with_reducible first | exact HB.out | apply below_alloc | apply pw_below_drewN | apply below_drew1) | exact HB.out))) A20.out).mono ?_); rintro e w26 ⟨v396, rfl, ho0, hb⟩; refine ⟨_, rfl, ?_⟩; have n0_ := Aside0.mk (Kd.R_below (by (with_reducible repeat (first | apply Kd.R_alloc | apply Kd.R_drewN | apply Kd.R_drew)); exact HO_7.out) hb); have n1_ := Aside0.mk (Kd.R_elder' (by (with_reducible repeat (first | apply Kd.R_alloc | apply Kd.R_drewN | apply Kd.R_drew)); exact HO391.out) (Kd.R_base ho0) hb); have n2_ := Aside0.mk (Kd.R_lower (Kd.R_new' ho0 (Kd.R_lt (by (with_reducible repeat (first | apply Kd.R_alloc | apply Kd.R_drewN | apply Kd.R_drew)); exact HO391.out))) (below_size (by repeat (first | (with_reducible first | exact HB.out | apply below_alloc | apply pw_below_drewN | apply below_drew1) | exact HB.out)))); have n3_ := Aside0.mk (below_step (by repeat (first | (with_reducible first | exact HB.out | apply below_alloc | apply pw_below_drewN | apply below_drew1) | exact HB.out)) hb); clear HO_7; clear HO391; clear HB; have HO_7 := n0_; have HO391 := n1_; have HO397 := n2_; have HB := n3_; clear n0_ n1_ n2_ n3_; (try clear hb); (try clear hb2); (try clear hk); (try clear hi); (try clear ho0)))
                go_ret
                exact ⟨by first | rfl | (simp [errW_none, errW_some] <;> rfl) | (simp [*, errW_none, errW_some] <;> rfl), by repeat (first | (with_reducible first | exact HB.out | apply below_alloc | apply pw_below_drewN | apply below_drew1) | exact HB.out)⟩
              · replace c21 := Bool.eq_false_iff.mpr c21
                subst c21
                have H1 : (some t395) = some r := by rw [if_neg (show ¬ (false = true) by decide)] at H; exact H
                clear H
                have H := H1
                clear H1
                obtain rfl := Option.some.inj H
                obtain ⟨Ao27, co27, eo27⟩ := Kd.R_slice HO_7.out
                subst eo27
                go_wp2_with (first | ((with_reducible refine gate_callee (f := 37) rfl ?_); refine goesL_ (some 41) rfl rfl Tryd.func37 (by kernel_rfl) rfl #[.slice Ao27 t382.length co27, .slice A1 l1.length c1] rfl (by (try simp only [List.map_toArray, List.map_cons, List.map_nil]); first | done | rfl | (simp only [List.length_drop, List.length_take]; rfl)) ?_; (with_reducible refine (spec_Name_Text.calls kj8 _ _ t382 _ _ l1 t387 _ ?side1 ?side2 ?side3 ?side4 A16.out).mono ?_); (case side1 => repeat (first | exact (Kd.R_reads' HO_7.out).2.2 | (with_reducible refine Kd.C_alloc ?_ _) | (with_reducible refine Kd.C_drewN ?_ _) | (with_reducible refine Kd.C_drew ?_))); (case side2 => exact (Kd.R_reads' HO_7.out).2.1); (case side3 => repeat (first | exact (Kd.C_below HR1.out HB.out) | (with_reducible refine Kd.C_alloc ?_ _) | (with_reducible refine Kd.C_drewN ?_ _) | (with_reducible refine Kd.C_drew ?_))); (case side4 => exact HC1.out); rintro e w28 ⟨rfl, hb⟩; refine ⟨_, rfl, ?_⟩; have n0_ := Aside0.mk (Kd.R_below (by (with_reducible repeat (first | apply Kd.R_alloc | apply Kd.R_drewN | apply Kd.R_drew)); exact HO_7.out) hb); have n1_ := Aside0.mk (below_step (by repeat (first | (with_reducible first | exact HB.out | apply below_alloc | apply pw_below_drewN | apply below_drew1) | exact HB.out)) hb); clear HO_7; clear HB; have HO_7 := n0_; have HB := n1_; clear n0_ n1_; (try clear hb); (try clear hb2); (try clear hk); (try clear hi)) | ((with_reducible refine gate_callee (f := 36) rfl ?_); refine goesL_ (some 43) rfl rfl Tryd.func36 (by kernel_rfl) rfl #[.string t387, .int .i64 a2] rfl (by (try simp only [List.map_toArray, List.map_cons, List.map_nil]); first | done | rfl | (simp only [List.length_drop, List.length_take]; rfl)) ?_; (with_reducible refine (impl_PackName.calls kj8 t387 a2 t388 false _ (GoodP.below HG.out (by repeat (first | (with_reducible first | exact HB.out | apply below_alloc | apply pw_below_drewN | apply below_drew1) | exact HB.out))) A17.out).mono ?_); rintro e w29 ⟨v390, rfl, ho0, hb⟩; refine ⟨_, rfl, ?_⟩; have n0_ := Aside0.mk (Kd.R_below (by (with_reducible repeat (first | apply Kd.R_alloc | apply Kd.R_drewN | apply Kd.R_drew)); exact HO_7.out) hb); have n1_ := Aside0.mk (Kd.R_lower ho0 (below_size (by repeat (first | (with_reducible first | exact HB.out | apply below_alloc | apply pw_below_drewN | apply below_drew1) | exact HB.out)))); have n2_ := Aside0.mk (below_step (by repeat (first | (with_reducible first | exact HB.out | apply below_alloc | apply pw_below_drewN | apply below_drew1) | exact HB.out)) hb); clear HO_7; clear HB; have HO_7 := n0_; have HO391 := n1_; have HB := n2_; clear n0_ n1_ n2_; (try clear hb); (try clear hb2); (try clear hk); (try clear hi); (try clear ho0)) | ((with_reducible refine gate_callee (f := 37) rfl ?_); refine goesL_ (some 49) rfl rfl Tryd.func37 (by kernel_rfl) rfl #[.slice Ao27 t382.length co27, .slice A1 l1.length c1] rfl (by (try simp only [List.map_toArray, List.map_cons, List.map_nil]); first | done | rfl | (simp only [List.length_drop, List.length_take]; rfl)) ?_; (with_reducible refine (spec_Name_Text.calls kj8 _ _ t382 _ _ l1 t392 _ ?side1 ?side2 ?side3 ?side4 A18.out).mono ?_); (case side1 => repeat (first | exact (Kd.R_reads' HO_7.out).2.2 | (with_reducible refine Kd.C_alloc ?_ _) | (with_reducible refine Kd.C_drewN ?_ _) | (with_reducible refine Kd.C_drew ?_))); (case side2 => exact (Kd.R_reads' HO_7.out).2.1); (case side3 => repeat (first | exact (Kd.C_below HR1.out HB.out) | (with_reducible refine Kd.C_alloc ?_ _) | (with_reducible refine Kd.C_drewN ?_ _) | (with_reducible refine Kd.C_drew ?_))); (case side4 => exact HC1.out); rintro e w30 ⟨rfl, hb⟩; refine ⟨_, rfl, ?_⟩; have n0_ := Aside0.mk (Kd.R_below (by (with_reducible repeat (first | apply Kd.R_alloc | apply Kd.R_drewN | apply Kd.R_drew)); exact HO_7.out) hb); have n1_ := Aside0.mk (Kd.R_below (by (with_reducible repeat (first | apply Kd.R_alloc | apply Kd.R_drewN | apply Kd.R_drew)); exact HO391.out) hb); have n2_ := Aside0.mk (below_step (by repeat (first | (with_reducible first | exact HB.out | apply below_alloc | apply pw_below_drewN | apply below_drew1) | exact HB.out)) hb); clear HO_7; clear HO391; clear HB; have HO_7 := n0_; have HO391 := n1_; have HB := n2_; clear n0_ n1_ n2_; (try clear hb); (try clear hb2); (try clear hk); (try clear hi)) | ((with_reducible refine gate_callee (f := 24) rfl ?_); refine goesL_ (some 51) rfl rfl Tryd.func24 (by kernel_rfl) rfl #[.slice Ao27 t382.length co27] rfl (by (try simp only [List.map_toArray, List.map_cons, List.map_nil]); first | done | rfl | (simp only [List.length_drop, List.length_take]; rfl)) ?_; (with_reducible refine (spec_Name_Size.calls kj8 _ _ t382 t393 _ ?side1 ?side2 A19.out).mono ?_); (case side1 => repeat (first | exact (Kd.R_reads' HO_7.out).2.2 | (with_reducible refine Kd.C_alloc ?_ _) | (with_reducible refine Kd.C_drewN ?_ _) | (with_reducible refine Kd.C_drew ?_))); (case side2 => exact (Kd.R_reads' HO_7.out).2.1); rintro e w' ⟨rfl, ⟨nd, rfl⟩⟩; refine ⟨_, rfl, ?_⟩) | ((with_reducible refine gate_callee (f := 36) rfl ?_); refine goesL_ (some 52) rfl rfl Tryd.func36 (by kernel_rfl) rfl #[.string t392, .int .i64 t393] rfl (by (try simp only [List.map_toArray, List.map_cons, List.map_nil]); first | done | rfl | (simp only [List.length_drop, List.length_take]; rfl)) ?_; (with_reducible refine (impl_PackName.calls kj8 t392 t393 t394 t395 _ (GoodP.below HG.out (by repeat (first | (with_reducible first | exact HB.out | apply below_alloc | apply pw_below_drewN | apply below_drew1) | exact HB.out))) A20.out).mono ?_); rintro e w31 ⟨v396, rfl, ho0, hb⟩; refine ⟨_, rfl, ?_⟩; have n0_ := Aside0.mk (Kd.R_below (by (with_reducible repeat (first | apply Kd.R_alloc | apply Kd.R_drewN | apply Kd.R_drew)); exact HO_7.out) hb); have n1_ := Aside0.mk (Kd.R_elder' (by (with_reducible repeat (first | apply Kd.R_alloc | apply Kd.R_drewN | apply Kd.R_drew)); exact HO391.out) (Kd.R_base ho0) hb); have n2_ := Aside0.mk (Kd.R_lower (Kd.R_new' ho0 (Kd.R_lt (by (with_reducible repeat (first | apply Kd.R_alloc | apply Kd.R_drewN | apply Kd.R_drew)); exact HO391.out))) (below_size (by repeat (first | (with_reducible first | exact HB.out | apply below_alloc | apply pw_below_drewN | apply below_drew1) | exact HB.out)))); have n3_ := Aside0.mk (below_step (by repeat (first | (with_reducible first | exact HB.out | apply below_alloc | apply pw_below_drewN | apply below_drew1) | exact HB.out)) hb); clear HO_7; clear HO391; clear HB; have HO_7 := n0_; have HO391 := n1_; have HO397 := n2_; have HB := n3_; clear n0_ n1_ n2_ n3_; (try clear hb); (try clear hb2); (try clear hk); (try clear hi); (try clear ho0)))
                go_ret
                exact ⟨by first | rfl | (simp [errW_none, errW_some] <;> rfl) | (simp [*, errW_none, errW_some] <;> rfl), by repeat (first | (with_reducible first | exact HB.out | apply below_alloc | apply pw_below_drewN | apply below_drew1) | exact HB.out)⟩

end Go.Proofs.YtiilihafcdmccaaDoor.P
/- What is proved: for all labels and choices the laws FnPackName and FnNoRoom answer true: a name is packed as its labels, each behind its length, and a byte 0; not where there is less room. Conditions: none beyond the row's own. -/
namespace Go.Proofs.YtiilihafcdmccaaDoor.Pure
open Go.RowKit Go.Proofs.YtiilihafcdmccaaDoor.P Go.Proofs.YtiilihafcdmccaaDoorW.PrintWords Go.Proofs.YtiilihafcdmccaaDoorW.PrintLast
set_option linter.unusedVariables false
set_option linter.unusedSimpArgs false

theorem packn_true (n : List (List Int)) (nums : List Int) : Ev (fun k => laws_FnPackName.j0 k n nums true) true := by
  refine ⟨1, fun k hk => ?_⟩
  obtain ⟨m, rfl⟩ : ∃ m, k = m + 1 := ⟨k - 1, by omega⟩
  simp only [laws_FnPackName.j0]
  rw [if_pos trivial]
theorem packn_j0 (n : List (List Int)) (nums : List Int) (hB : ∀ l ∈ n, IsB l) (hl : (nums.length : Int) ≤ 140737488351232) (h1 : n.length ≤ 2147483647) (h2 : ∀ l ∈ n, l.length ≤ 2147483647) (fl : Bool) : Ev (fun k => laws_FnPackName.j0 k n nums fl) true := by
  cases fl with
  | true => exact packn_true n nums
  | false =>
    have hn := name_ev n h1 h2
    refine Ev.step (f := fun k => (laws_name.f k n).bind fun bt409 => (if bt409.2 = true then ((spec_Name_Wire.f k bt409.1).bind fun t413 => ((spec_Name_Text.f k bt409.1 nums).bind fun t416 => ((impl_PackName.f k t416 (t413.length : Int)).bind fun bt417 => (if bt417.2 = true then (some ((strOfNums bt417.1).toList == (strOfNums t413).toList)) else (some false))))) else (some true))) (fun k => ?_) (Ev.bind (f := fun k (bt409 : List ByteArray × Bool) => (if bt409.2 = true then ((spec_Name_Wire.f k bt409.1).bind fun t413 => ((spec_Name_Text.f k bt409.1 nums).bind fun t416 => ((impl_PackName.f k t416 (t413.length : Int)).bind fun bt417 => (if bt417.2 = true then (some ((strOfNums bt417.1).toList == (strOfNums t413).toList)) else (some false))))) else (some true))) hn ?_)
    · simp only [laws_FnPackName.j0]
      rw [if_neg Bool.false_ne_true]
    · cases hv : validB n with
      | false => exact ⟨0, fun k _ => rfl⟩
      | true =>
        obtain ⟨s, hs, hT, ha, hz⟩ := text_ev nums hl n hB hv
        obtain ⟨_, _, h255⟩ := validB_inv hv
        have hp := pack_ev hT hB hv ha hz (sizeL n : Nat) (by omega) (by omega)
        rw [if_pos (Int.le_refl _)] at hp
        simp only [if_true]
        refine Ev.bind (f := fun k t413 => ((spec_Name_Text.f k (n.map strOfNums) nums).bind fun t416 => ((impl_PackName.f k t416 (t413.length : Int)).bind fun bt417 => (if bt417.2 = true then (some ((strOfNums bt417.1).toList == (strOfNums t413).toList)) else (some false))))) (wire_ev n hB hv) ?_
        refine Ev.bind (f := fun k t416 => ((impl_PackName.f k t416 ((wireL n).length : Int)).bind fun bt417 => (if bt417.2 = true then (some ((strOfNums bt417.1).toList == (strOfNums (wireL n)).toList)) else (some false)))) hs ?_
        rw [wireL_length]
        refine Ev.bind (f := fun k (bt417 : List Int × Bool) => (if bt417.2 = true then (some ((strOfNums bt417.1).toList == (strOfNums (wireL n)).toList)) else (some false))) hp ?_
        refine ⟨0, fun k _ => ?_⟩
        simp
theorem FnPackName (n : List (List Int)) (nums : List Int) (hB : ∀ l ∈ n, IsB l) (hl : (nums.length : Int) ≤ 140737488351232) : ∃ k, laws_FnPackName.f k n nums = some true := by
  obtain ⟨b, h1, h2⟩ := fits_ev n
  refine Ev.rounds (g := fun k => laws_FnPackName.f k n nums) (Ev.bind (g := fun k => laws_zzFits9.f k n) (f := fun k t408 => (if t408 = true then (laws_FnPackName.j0 k n nums (decide ((nums.length : Int) > 2147483647))) else (laws_FnPackName.j0 k n nums true))) h1 ?_)
  cases b with
  | false => exact Ev.congr (fun k => if_neg Bool.false_ne_true) (packn_true n nums)
  | true => exact Ev.congr (fun k => if_pos rfl) (packn_j0 n nums hB hl (h2 rfl).1 (h2 rfl).2 _)

theorem noroom_true (nums : List Int) (room : Int) (names : List ByteArray) : Ev (fun k => laws_FnNoRoom.j1 k nums room names true) true := by
  refine ⟨1, fun k hk => ?_⟩
  obtain ⟨m, rfl⟩ : ∃ m, k = m + 1 := ⟨k - 1, by omega⟩
  simp only [laws_FnNoRoom.j1]
  rw [if_pos trivial]
theorem noroom_j1 (n : List (List Int)) (nums : List Int) (room : Int) (hB : ∀ l ∈ n, IsB l) (hl : (nums.length : Int) ≤ 140737488351232) (hv : validB n = true) (h0 : 0 ≤ room) (hr : room < (sizeL n : Nat)) :
    Ev (fun k => laws_FnNoRoom.j1 k nums room (n.map strOfNums) false) true := by
  obtain ⟨s, hs, hT, ha, hz⟩ := text_ev nums hl n hB hv
  obtain ⟨_, _, h255⟩ := validB_inv hv
  have hp := pack_ev hT hB hv ha hz room h0 (by omega)
  rw [if_neg (by omega)] at hp
  have hq := pack_ev hT hB hv ha hz (sizeL n : Nat) (by omega) (by omega)
  rw [if_pos (Int.le_refl _)] at hq
  refine Ev.step (f := fun k => (spec_Name_Text.f k (n.map strOfNums) nums).bind fun t387 => ((impl_PackName.f k t387 room).bind fun bt388 => ((spec_Name_Text.f k (n.map strOfNums) nums).bind fun t392 => ((spec_Name_Size.f k (n.map strOfNums)).bind fun t393 => ((impl_PackName.f k t392 t393).bind fun bt394 => (if bt388.2 = true then (some false) else (some bt394.2))))))) (fun k => ?_) ?_
  · simp only [laws_FnNoRoom.j1]
    rw [if_neg Bool.false_ne_true]
  · refine Ev.bind (f := fun k t387 => ((impl_PackName.f k t387 room).bind fun bt388 => ((spec_Name_Text.f k (n.map strOfNums) nums).bind fun t392 => ((spec_Name_Size.f k (n.map strOfNums)).bind fun t393 => ((impl_PackName.f k t392 t393).bind fun bt394 => (if bt388.2 = true then (some false) else (some bt394.2))))))) hs ?_
    refine Ev.bind (f := fun k (bt388 : List Int × Bool) => ((spec_Name_Text.f k (n.map strOfNums) nums).bind fun t392 => ((spec_Name_Size.f k (n.map strOfNums)).bind fun t393 => ((impl_PackName.f k t392 t393).bind fun bt394 => (if bt388.2 = true then (some false) else (some bt394.2)))))) hp ?_
    refine Ev.bind (f := fun k t392 => ((spec_Name_Size.f k (n.map strOfNums)).bind fun t393 => ((impl_PackName.f k t392 t393).bind fun bt394 => (if false = true then (some false) else (some bt394.2))))) hs ?_
    refine Ev.bind (f := fun k t393 => ((impl_PackName.f k s t393).bind fun bt394 => (if false = true then (some false) else (some bt394.2)))) (size_ev n (by omega)) ?_
    exact Ev.bind (f := fun k (bt394 : List Int × Bool) => (if false = true then (some false) else (some bt394.2))) hq ⟨0, fun k _ => rfl⟩
theorem noroom_j0_true (n : List (List Int)) (nums : List Int) (room : Int) : Ev (fun k => laws_FnNoRoom.j0 k n nums room true) true := by
  refine ⟨1, fun k hk => ?_⟩
  obtain ⟨m, rfl⟩ : ∃ m, k = m + 1 := ⟨k - 1, by omega⟩
  simp only [laws_FnNoRoom.j0]
  rw [if_pos trivial]
theorem noroom_j0 (n : List (List Int)) (nums : List Int) (room : Int) (hB : ∀ l ∈ n, IsB l) (hl : (nums.length : Int) ≤ 140737488351232) (h1 : n.length ≤ 2147483647) (h2 : ∀ l ∈ n, l.length ≤ 2147483647) (fl : Bool) : Ev (fun k => laws_FnNoRoom.j0 k n nums room fl) true := by
  cases fl with
  | true => exact noroom_j0_true n nums room
  | false =>
    have hn := name_ev n h1 h2
    have hz := sizeL_le n h2
    refine Ev.step (f := fun k => (laws_name.f k n).bind fun bt382 => (if bt382.2 = true then (if room < 0 then (laws_FnNoRoom.j1 k nums room bt382.1 true) else ((spec_Name_Size.f k bt382.1).bind fun t386 => (laws_FnNoRoom.j1 k nums room bt382.1 (decide (room ≥ t386))))) else (laws_FnNoRoom.j1 k nums room bt382.1 true))) (fun k => ?_) (Ev.bind (f := fun k (bt382 : List ByteArray × Bool) => (if bt382.2 = true then (if room < 0 then (laws_FnNoRoom.j1 k nums room bt382.1 true) else ((spec_Name_Size.f k bt382.1).bind fun t386 => (laws_FnNoRoom.j1 k nums room bt382.1 (decide (room ≥ t386))))) else (laws_FnNoRoom.j1 k nums room bt382.1 true))) hn ?_)
    · simp only [laws_FnNoRoom.j0]
      rw [if_neg Bool.false_ne_true]
    · cases hv : validB n with
      | false => exact Ev.congr (fun k => if_neg Bool.false_ne_true) (noroom_true nums room (n.map strOfNums))
      | true =>
        by_cases h0 : room < 0
        · exact Ev.congr (fun k => (if_pos rfl).trans (if_pos h0)) (noroom_true nums room (n.map strOfNums))
        · refine Ev.congr (fun k => (if_pos rfl).trans (if_neg h0)) (Ev.bind (f := fun k t386 => (laws_FnNoRoom.j1 k nums room (n.map strOfNums) (decide (room ≥ t386)))) (size_ev n (by omega)) ?_)
          by_cases hr : room ≥ (sizeL n : Nat)
          · rw [decide_eq_true hr]
            exact noroom_true nums room (n.map strOfNums)
          · rw [decide_eq_false hr]
            exact noroom_j1 n nums room hB hl hv (by omega) (by omega)
theorem FnNoRoom (n : List (List Int)) (nums : List Int) (room : Int) (hB : ∀ l ∈ n, IsB l) (hl : (nums.length : Int) ≤ 140737488351232) : ∃ k, laws_FnNoRoom.f k n nums room = some true := by
  obtain ⟨b, h1, h2⟩ := fits_ev n
  refine Ev.rounds (g := fun k => laws_FnNoRoom.f k n nums room) (Ev.bind (g := fun k => laws_zzFits9.f k n) (f := fun k t381 => (if t381 = true then (laws_FnNoRoom.j0 k n nums room (decide ((nums.length : Int) > 2147483647))) else (laws_FnNoRoom.j0 k n nums room true))) h1 ?_)
  cases b with
  | false => exact Ev.congr (fun k => if_neg Bool.false_ne_true) (noroom_j0_true n nums room)
  | true => exact Ev.congr (fun k => if_pos rfl) (noroom_j0 n nums room hB hl (h2 rfl).1 (h2 rfl).2 _)

end Go.Proofs.YtiilihafcdmccaaDoor.Pure
