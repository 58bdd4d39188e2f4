-- Written by a program of this session (wip/tools/pprint.py) out of the translation: it goes by the kit's print and by the contracts of YtiilihafcdmccaaDoorHand. Not trusted: Lean checks it.
import Derived.Test.YtiilihafcdmccaaDoorP0
import Derived.Test.YtiilihafcdmccaaDoorPF17
import Derived.Test.YtiilihafcdmccaaDoorPF18
import Derived.Test.YtiilihafcdmccaaDoorPF14
import Derived.Test.YtiilihafcdmccaaDoorPF15
import Derived.Test.YtiilihafcdmccaaDoorPF16
import Derived.Test.YtiilihafcdmccaaDoorGood
namespace Go.Proofs.YtiilihafcdmccaaDoor.P
open Go.RowKit Go.Proofs.YtiilihafcdmccaaDoorW.PrintWords Go.Proofs.YtiilihafcdmccaaDoorW.PrintLast Go.Proofs.YtiilihafcdmccaaDoorW.PrintMore
attribute [local go_sem] max2_int min2_int max_two min_two max_three min_three max_four min_four   -- for this text's walks alone
set_option linter.unusedVariables false
set_option linter.unusedSimpArgs false

/-! ### laws_FnUnpackName: function 3 -/
mutual
def laws_FnUnpackName.j0 : Nat → List Int → Int → Bool → Option (Bool)
  | 0, _, _, _ => none
  | k + 1, x0, x1, x35 => if x35 = true then (some true) else ((spec_ReadName.f k x0 x1).bind fun bt265 => ((impl_UnpackName.f k x0 x1).bind fun bt270 => (if bt265.2.2 = true then (laws_FnUnpackName.j1 k bt265.1 bt265.2.1 bt265.2.2 bt270.1 bt270.2.1 bt270.2.2 (!bt270.2.2)) else (laws_FnUnpackName.j1 k bt265.1 bt265.2.1 bt265.2.2 bt270.1 bt270.2.1 bt270.2.2 true))))
def laws_FnUnpackName.j1 : Nat → List ByteArray → Int → Bool → ByteArray → Int → Bool → Bool → Option (Bool)
  | 0, _, _, _, _, _, _, _ => none
  | k + 1, x5, x6, x7, x8, x9, x10, x55 => if x55 = true then (some (x7 == x10)) else ((spec_ParseName.f k x8).bind fun bt273 => (if bt273.2.2 = true then (if bt273.2.1 = true then ((spec_Name_Equal.f k bt273.1 x5).bind fun t278 => (if t278 = true then (some (x9 == x6)) else (some false))) else (some false)) else (some false)))
end
def laws_FnUnpackName.f (k : Nat) (l0 : List Int) (a1 : Int) : Option (Bool) := if (l0.length : Int) > 2147483647 then (some true) else (if (l0.length : Int) > 65536 then (laws_FnUnpackName.j0 k l0 a1 true) else (if a1 < 0 then (laws_FnUnpackName.j0 k l0 a1 true) else (if a1 > (l0.length : Int) then (laws_FnUnpackName.j0 k l0 a1 true) else ((laws_back.f k l0 a1).bind fun t264 => (laws_FnUnpackName.j0 k l0 a1 (!t264))))))
theorem laws_FnUnpackName.mono_l : ∀ k, (∀ y0 y1 y2, LeO (laws_FnUnpackName.j0 k y0 y1 y2) (laws_FnUnpackName.j0 (k + 1) y0 y1 y2)) ∧ (∀ y0 y1 y2 y3 y4 y5 y6, LeO (laws_FnUnpackName.j1 k y0 y1 y2 y3 y4 y5 y6) (laws_FnUnpackName.j1 (k + 1) y0 y1 y2 y3 y4 y5 y6))
  | 0 => ⟨fun _ _ _ r h => by simp [laws_FnUnpackName.j0] at h, fun _ _ _ _ _ _ _ r h => by simp [laws_FnUnpackName.j1] at h⟩
  | k + 1 => by
    obtain ⟨ih0, ih1⟩ := laws_FnUnpackName.mono_l k
    refine ⟨?_, ?_⟩
    · intro y0 y1 y2
      unfold laws_FnUnpackName.j0
      repeat' first
      | (with_reducible exact ih0 _ _ _)
      | (with_reducible exact ih1 _ _ _ _ _ _ _)
      | (with_reducible exact impl_UnpackName.mono _ _ _)
      | (with_reducible exact laws_back.mono _ _ _)
      | (with_reducible exact spec_Name_Equal.mono _ _ _)
      | (with_reducible exact spec_ParseName.mono _ _)
      | (with_reducible exact spec_ReadName.mono _ _ _)
      | (with_reducible exact LeO.refl _)
      | (with_reducible exact LeO.none _)
      | (with_reducible refine LeO.ite ?_ ?_)
      | (with_reducible refine LeO.bind ?_ (fun _ => ?_))
      | exact ih0 _ _ _
      | exact ih1 _ _ _ _ _ _ _
      | exact impl_UnpackName.mono _ _ _
      | exact laws_back.mono _ _ _
      | exact spec_Name_Equal.mono _ _ _
      | exact spec_ParseName.mono _ _
      | exact spec_ReadName.mono _ _ _
      | exact LeO.none _
      | refine LeO.ite ?_ ?_
      | refine LeO.bind ?_ (fun _ => ?_)
    · intro y0 y1 y2 y3 y4 y5 y6
      unfold laws_FnUnpackName.j1
      repeat' first
      | (with_reducible exact ih0 _ _ _)
      | (with_reducible exact ih1 _ _ _ _ _ _ _)
      | (with_reducible exact impl_UnpackName.mono _ _ _)
      | (with_reducible exact laws_back.mono _ _ _)
      | (with_reducible exact spec_Name_Equal.mono _ _ _)
      | (with_reducible exact spec_ParseName.mono _ _)
      | (with_reducible exact spec_ReadName.mono _ _ _)
      | (with_reducible exact LeO.refl _)
      | (with_reducible exact LeO.none _)
      | (with_reducible refine LeO.ite ?_ ?_)
      | (with_reducible refine LeO.bind ?_ (fun _ => ?_))
      | exact ih0 _ _ _
      | exact ih1 _ _ _ _ _ _ _
      | exact impl_UnpackName.mono _ _ _
      | exact laws_back.mono _ _ _
      | exact spec_Name_Equal.mono _ _ _
      | exact spec_ParseName.mono _ _
      | exact spec_ReadName.mono _ _ _
      | exact LeO.none _
      | refine LeO.ite ?_ ?_
      | refine LeO.bind ?_ (fun _ => ?_)
theorem laws_FnUnpackName.mono : ∀ a0 a1 k, LeO (laws_FnUnpackName.f k a0 a1) (laws_FnUnpackName.f (k + 1) a0 a1) := by
  intro a0 a1 k
  obtain ⟨ih0, ih1⟩ := laws_FnUnpackName.mono_l k
  unfold laws_FnUnpackName.f
  repeat' first
      | (with_reducible exact ih0 _ _ _)
      | (with_reducible exact ih1 _ _ _ _ _ _ _)
      | (with_reducible exact impl_UnpackName.mono _ _ _)
      | (with_reducible exact laws_back.mono _ _ _)
      | (with_reducible exact spec_Name_Equal.mono _ _ _)
      | (with_reducible exact spec_ParseName.mono _ _)
      | (with_reducible exact spec_ReadName.mono _ _ _)
      | (with_reducible exact LeO.refl _)
      | (with_reducible exact LeO.none _)
      | (with_reducible refine LeO.ite ?_ ?_)
      | (with_reducible refine LeO.bind ?_ (fun _ => ?_))
      | exact ih0 _ _ _
      | exact ih1 _ _ _ _ _ _ _
      | exact impl_UnpackName.mono _ _ _
      | exact laws_back.mono _ _ _
      | exact spec_Name_Equal.mono _ _ _
      | exact spec_ParseName.mono _ _
      | exact spec_ReadName.mono _ _ _
      | exact LeO.none _
      | refine LeO.ite ?_ ?_
      | refine LeO.bind ?_ (fun _ => ?_)
set_option maxHeartbeats 8000000 in
set_option maxRecDepth 100000 in
theorem laws_FnUnpackName.calls (k : Nat) (A0 : Option Addr) (c0 : Nat) (l0 : List Int) (a1 : Int) (r : Bool) (w : World) (hr0 : Kd.C (Kd.int .u8) w A0 l0.length l0) (hc0 : l0.length ≤ c0) (hG : GoodU w) (h : laws_FnUnpackName.f k l0 a1 = some r) :
    Calls Tryd.prog 3 #[.slice A0 l0.length c0, .int .i64 a1] w fun e w' => e = .returned (.bool r) ∧ Below w.heap.size w w' := by
  have HG := Aside0.mk hG
  clear hG
  have HR0 := Aside0.mk hr0
  have HC0 := Aside0.mk hc0
  clear hr0 hc0
  have HB := Aside0.mk (Below.refl w.heap.size w)
  have H : (if (l0.length : Int) > 2147483647 then (some true) else (if (l0.length : Int) > 65536 then (laws_FnUnpackName.j0 k l0 a1 true) else (if a1 < 0 then (laws_FnUnpackName.j0 k l0 a1 true) else (if a1 > (l0.length : Int) then (laws_FnUnpackName.j0 k l0 a1 true) else ((laws_back.f k l0 a1).bind fun t264 => (laws_FnUnpackName.j0 k l0 a1 (!t264))))))) = some r := h
  clear h
  by_cases c3 : (l0.length : Int) > 2147483647
  · rw [if_pos c3] at H
    have c3b0 : decide (2147483647 < (l0.length : Int)) = true := decide_eq_true c3
    have c3b1 : decide (2147483647 < l0.length) = true := decide_eq_true (by omega)
    clear c3
    obtain rfl := Option.some.inj H
    go_enter Tryd.func3, Tryd.ntmps3
    go_wp2
    go_ret
    exact ⟨by first | rfl | (simp [errW_none, errW_some] <;> rfl) | (simp [*, errW_none, errW_some] <;> rfl), by repeat (first | (with_reducible first | exact HB.out | apply below_alloc | apply pw_below_drewN | apply below_drew1) | exact HB.out)⟩
  · rw [if_neg c3] at H
    have c3b0 : decide (2147483647 < (l0.length : Int)) = false := decide_eq_false c3
    have c3b1 : decide (2147483647 < l0.length) = false := decide_eq_false (by omega)
    clear c3
    have HC4 := Aside0.mk H
    clear H
    go_enter Tryd.func3, Tryd.ntmps3
    go_upto_region 3 with (fail)
    go_cut [35] (fun v35 wc => ∃ (kq : Nat) (x35_3 : Bool), v35 = .bool x35_3 ∧ Aside0 (laws_FnUnpackName.j0 kq l0 a1 x35_3 = some r) ∧ Aside0 (kq ≤ k) ∧ Aside0 (Below w.heap.size w wc))
    case first =>
      have H := HC4.out
      clear HC4
      by_cases c5 : (l0.length : Int) > 65536
      · rw [if_pos c5] at H
        have c5b0 : decide (65536 < (l0.length : Int)) = true := decide_eq_true c5
        have c5b1 : decide (65536 < l0.length) = true := decide_eq_true (by omega)
        clear c5
        (first | rw [c5b0] | (simp only [i64_w, i32_w]; rw [c5b0]) | skip)
        have H' := Aside0.mk H
        clear H
        go_wp2
        go_meet
        case rel => exact ⟨_, (true), (by first | rfl | (simp; done) | (simp [*]; done) | (simp [wrap64]; done)), H', ⟨by first | omega | exact Nat.le_refl _⟩, ⟨by repeat (first | (with_reducible first | exact HB.out | apply below_alloc | apply pw_below_drewN | apply below_drew1) | exact HB.out)⟩⟩
      · rw [if_neg c5] at H
        have c5b0 : decide (65536 < (l0.length : Int)) = false := decide_eq_false c5
        have c5b1 : decide (65536 < l0.length) = false := decide_eq_false (by omega)
        clear c5
        (first | rw [c5b0] | (simp only [i64_w, i32_w]; rw [c5b0]) | skip)
        by_cases c6 : a1 < 0
        · rw [if_pos c6] at H
          have c6b0 : decide (a1 < 0) = true := decide_eq_true c6
          clear c6
          have H' := Aside0.mk H
          clear H
          go_wp2
          go_meet
          case rel => exact ⟨_, (true), (by first | rfl | (simp; done) | (simp [*]; done) | (simp [wrap64]; done)), H', ⟨by first | omega | exact Nat.le_refl _⟩, ⟨by repeat (first | (with_reducible first | exact HB.out | apply below_alloc | apply pw_below_drewN | apply below_drew1) | exact HB.out)⟩⟩
        · rw [if_neg c6] at H
          have c6b0 : decide (a1 < 0) = false := decide_eq_false c6
          clear c6
          by_cases c7 : a1 > (l0.length : Int)
          · rw [if_pos c7] at H
            have c7b0 : decide ((l0.length : Int) < a1) = true := decide_eq_true c7
            clear c7
            have H' := Aside0.mk H
            clear H
            go_wp2
            go_meet
            case rel => exact ⟨_, (true), (by first | rfl | (simp; done) | (simp [*]; done) | (simp [wrap64]; done)), H', ⟨by first | omega | exact Nat.le_refl _⟩, ⟨by repeat (first | (with_reducible first | exact HB.out | apply below_alloc | apply pw_below_drewN | apply below_drew1) | exact HB.out)⟩⟩
          · rw [if_neg c7] at H
            have c7b0 : decide ((l0.length : Int) < a1) = false := decide_eq_false c7
            clear c7
            replace H := Option.bind_eq_some_iff.mp H
            obtain ⟨t264, A80, H⟩ := H
            replace H : (laws_FnUnpackName.j0 k l0 a1 (!t264)) = some r := H
            have A8 := Aside0.mk A80
            clear A80
            have H' := Aside0.mk H
            clear H
            go_wp2_with (first | (go_at_call 14; (with_reducible refine (laws_back.calls k _ _ l0 a1 t264 _ ?side1 ?side2 A8.out).mono ?_); (case side1 => repeat (first | exact (Kd.C_below HR0.out HB.out) | (with_reducible refine Kd.C_alloc ?_ _) | (with_reducible refine Kd.C_drewN ?_ _) | (with_reducible refine Kd.C_drew ?_))); (case side2 => exact HC0.out); rintro e w' ⟨rfl, ⟨nd, rfl⟩⟩))
            go_meet
            case rel => exact ⟨_, (!t264), (by first | rfl | (simp; done) | (simp [*]; done) | (simp [wrap64]; done)), H', ⟨by first | omega | exact Nat.le_refl _⟩, ⟨by repeat (first | (with_reducible first | exact HB.out | apply below_alloc | apply pw_below_drewN | apply below_drew1) | exact HB.out)⟩⟩
    case rest =>
      clear HC4
      try clear p2
      try clear c3
      try clear c3b0
      try clear c3b1
      try clear c5
      try clear c5b0
      try clear c5b1
      try clear c6
      try clear c6b0
      try clear p6
      try clear c7
      try clear c7b0
      obtain ⟨kq, x35_3, rfl, HA, HJ3, HB⟩ := hcut
      cases kq with
      | zero => exact absurd HA.out (by simp [laws_FnUnpackName.j0])
      | succ kj3 =>
        have H := HA.out
        clear HA
        simp only [laws_FnUnpackName.j0] at H
        by_cases c9 : x35_3 = true
        · subst c9
          have H1 : (some true) = some r := by rw [if_pos rfl] at H; exact H
          clear H
          have H := H1
          clear H1
          obtain rfl := Option.some.inj H
          go_wp2
          go_ret
          exact ⟨by first | rfl | (simp [errW_none, errW_some] <;> rfl) | (simp [*, errW_none, errW_some] <;> rfl), by repeat (first | (with_reducible first | exact HB.out | apply below_alloc | apply pw_below_drewN | apply below_drew1) | exact HB.out)⟩
        · replace c9 := Bool.eq_false_iff.mpr c9
          subst c9
          have H1 : ((spec_ReadName.f kj3 l0 a1).bind fun bt265 => ((impl_UnpackName.f kj3 l0 a1).bind fun bt270 => (if bt265.2.2 = true then (laws_FnUnpackName.j1 kj3 bt265.1 bt265.2.1 bt265.2.2 bt270.1 bt270.2.1 bt270.2.2 (!bt270.2.2)) else (laws_FnUnpackName.j1 kj3 bt265.1 bt265.2.1 bt265.2.2 bt270.1 bt270.2.1 bt270.2.2 true)))) = some r := by rw [if_neg (show ¬ (false = true) by decide)] at H; exact H
          clear H
          have H := H1
          clear H1
          replace H := Option.bind_eq_some_iff.mp H
          obtain ⟨⟨t265, t266, t267⟩, A100, H⟩ := H
          replace H : ((impl_UnpackName.f kj3 l0 a1).bind fun bt270 => (if t267 = true then (laws_FnUnpackName.j1 kj3 t265 t266 t267 bt270.1 bt270.2.1 bt270.2.2 (!bt270.2.2)) else (laws_FnUnpackName.j1 kj3 t265 t266 t267 bt270.1 bt270.2.1 bt270.2.2 true))) = some r := H
          have A10 := Aside0.mk A100
          clear A100
          replace H := Option.bind_eq_some_iff.mp H
          obtain ⟨⟨t270, t271, t272⟩, A110, H⟩ := H
          replace H : (if t267 = true then (laws_FnUnpackName.j1 kj3 t265 t266 t267 t270 t271 t272 (!t272)) else (laws_FnUnpackName.j1 kj3 t265 t266 t267 t270 t271 t272 true)) = some r := H
          have A11 := Aside0.mk A110
          clear A110
          have HC12 := Aside0.mk H
          clear H
          go_upto_region 7 with (first | ((with_reducible refine gate_callee (f := 15) rfl ?_); refine goesL_ (some 39) rfl rfl Tryd.func15 (by kernel_rfl) rfl #[.slice A0 l0.length c0, .int .i64 a1] rfl (by (try simp only [List.map_toArray, List.map_cons, List.map_nil]); first | done | rfl | (simp only [List.length_drop, List.length_take]; rfl)) ?_; (with_reducible refine (spec_ReadName.calls kj3 _ _ l0 a1 t265 t266 t267 _ ?side1 ?side2 A10.out).mono ?_); (case side1 => repeat (first | exact (Kd.C_below HR0.out HB.out) | (with_reducible refine Kd.C_alloc ?_ _) | (with_reducible refine Kd.C_drewN ?_ _) | (with_reducible refine Kd.C_drew ?_))); (case side2 => exact HC0.out); rintro e w13 ⟨v268, rfl, ho0, hb⟩; refine ⟨_, rfl, ?_⟩; have n0_ := Aside0.mk (Kd.R_lower ho0 (below_size (by repeat (first | (with_reducible first | exact HB.out | apply below_alloc | apply pw_below_drewN | apply below_drew1) | exact HB.out)))); have n1_ := Aside0.mk (below_step (by repeat (first | (with_reducible first | exact HB.out | apply below_alloc | apply pw_below_drewN | apply below_drew1) | exact HB.out)) hb); clear HB; have HO269 := n0_; have HB := n1_; clear n0_ n1_; (try clear hb); (try clear hb2); (try clear hk); (try clear hi); (try clear ho0)) | ((with_reducible refine gate_callee (f := 16) rfl ?_); refine goesL_ (some 46) rfl rfl Tryd.func16 (by kernel_rfl) rfl #[.slice A0 l0.length c0, .int .i64 a1] rfl (by (try simp only [List.map_toArray, List.map_cons, List.map_nil]); first | done | rfl | (simp only [List.length_drop, List.length_take]; rfl)) ?_; (with_reducible refine (impl_UnpackName.calls kj3 _ _ l0 a1 t270 t271 t272 _ ?side1 ?side2 (GoodU.below HG.out (by repeat (first | (with_reducible first | exact HB.out | apply below_alloc | apply pw_below_drewN | apply below_drew1) | exact HB.out))) A11.out).mono ?_); (case side1 => repeat (first | exact (Kd.C_below HR0.out HB.out) | (with_reducible refine Kd.C_alloc ?_ _) | (with_reducible refine Kd.C_drewN ?_ _) | (with_reducible refine Kd.C_drew ?_))); (case side2 => exact HC0.out); rintro e w14 ⟨rfl, hb⟩; refine ⟨_, rfl, ?_⟩; have n0_ := Aside0.mk (Kd.R_below (by (with_reducible repeat (first | apply Kd.R_alloc | apply Kd.R_drewN | apply Kd.R_drew)); exact HO269.out) hb); have n1_ := Aside0.mk (below_step (by repeat (first | (with_reducible first | exact HB.out | apply below_alloc | apply pw_below_drewN | apply below_drew1) | exact HB.out)) hb); clear HO269; clear HB; have HO269 := n0_; have HB := n1_; clear n0_ n1_; (try clear hb); (try clear hb2); (try clear hk); (try clear hi)))
          (try simp only [Act.put, List.setIfInBounds_toArray, List.set_cons_zero, List.set_cons_succ])
          go_cut [55] (fun v55 wc => ∃ (kq : Nat) (x55_11 : Bool), v55 = .bool x55_11 ∧ Aside0 (laws_FnUnpackName.j1 kq t265 t266 t267 t270 t271 t272 x55_11 = some r) ∧ Aside0 (kq ≤ kj3) ∧ Aside0 (Kd.R Kd.string 9 wc w.heap.size (fun _ => True) v268 t265) ∧ Aside0 (Below w.heap.size w wc))
          case first =>
            have H := HC12.out
            clear HC12
            by_cases c15 : t267 = true
            · subst c15
              have H1 : (laws_FnUnpackName.j1 kj3 t265 t266 true t270 t271 t272 (!t272)) = some r := by rw [if_pos rfl] at H; exact H
              clear H
              have H := H1
              clear H1
              have H' := Aside0.mk H
              clear H
              go_wp2
              go_meet
              case rel => exact ⟨_, (!t272), (by first | rfl | (simp; done) | (simp [*]; done) | (simp [wrap64]; done)), H', ⟨by have := HJ3.out; first | omega | exact Nat.le_refl _⟩, ⟨by (with_reducible repeat (first | apply Kd.R_alloc | apply Kd.R_drewN | apply Kd.R_drew)); exact HO269.out⟩, ⟨by repeat (first | (with_reducible first | exact HB.out | apply below_alloc | apply pw_below_drewN | apply below_drew1) | exact HB.out)⟩⟩
            · replace c15 := Bool.eq_false_iff.mpr c15
              subst c15
              have H1 : (laws_FnUnpackName.j1 kj3 t265 t266 false t270 t271 t272 true) = some r := by rw [if_neg (show ¬ (false = true) by decide)] at H; exact H
              clear H
              have H := H1
              clear H1
              have H' := Aside0.mk H
              clear H
              go_wp2
              go_meet
              case rel => exact ⟨_, (true), (by first | rfl | (simp; done) | (simp [*]; done) | (simp [wrap64]; done)), H', ⟨by have := HJ3.out; first | omega | exact Nat.le_refl _⟩, ⟨by (with_reducible repeat (first | apply Kd.R_alloc | apply Kd.R_drewN | apply Kd.R_drew)); exact HO269.out⟩, ⟨by repeat (first | (with_reducible first | exact HB.out | apply below_alloc | apply pw_below_drewN | apply below_drew1) | exact HB.out)⟩⟩
          case rest =>
            clear HC12
            try clear c1
            try clear p2
            try clear c3
            try clear c3b0
            try clear c3b1
            try clear c5
            try clear c5b0
            try clear c5b1
            try clear c6
            try clear c6b0
            try clear p6
            try clear c7
            try clear c7b0
            try clear c9
            try clear c15
            try clear p2
            try clear p6
            obtain ⟨kq, x55_11, rfl, HA, HJ11, HO_5, HB⟩ := hcut
            cases kq with
            | zero => exact absurd HA.out (by simp [laws_FnUnpackName.j1])
            | succ kj11 =>
              have H := HA.out
              clear HA
              simp only [laws_FnUnpackName.j1] at H
              by_cases c16 : x55_11 = true
              · subst c16
                have H1 : (some (t267 == t272)) = some r := by rw [if_pos rfl] at H; exact H
                clear H
                have H := H1
                clear H1
                obtain rfl := Option.some.inj H
                go_wp2
                go_ret
                exact ⟨by first | rfl | (simp [errW_none, errW_some] <;> rfl) | (simp [*, errW_none, errW_some] <;> rfl), by repeat (first | (with_reducible first | exact HB.out | apply below_alloc | apply pw_below_drewN | apply below_drew1) | exact HB.out)⟩
              · replace c16 := Bool.eq_false_iff.mpr c16
                subst c16
                have H1 : ((spec_ParseName.f kj11 t270).bind fun bt273 => (if bt273.2.2 = true then (if bt273.2.1 = true then ((spec_Name_Equal.f kj11 bt273.1 t265).bind fun t278 => (if t278 = true then (some (t271 == t266)) else (some false))) else (some false)) else (some false))) = some r := by rw [if_neg (show ¬ (false = true) by decide)] at H; exact H
                clear H
                have H := H1
                clear H1
                replace H := Option.bind_eq_some_iff.mp H
                obtain ⟨⟨t273, t274, t275⟩, A170, H⟩ := H
                replace H : (if t275 = true then (if t274 = true then ((spec_Name_Equal.f kj11 t273 t265).bind fun t278 => (if t278 = true then (some (t271 == t266)) else (some false))) else (some false)) else (some false)) = some r := H
                have A17 := Aside0.mk A170
                clear A170
                by_cases c18 : t275 = true
                · subst c18
                  have H1 : (if t274 = true then ((spec_Name_Equal.f kj11 t273 t265).bind fun t278 => (if t278 = true then (some (t271 == t266)) else (some false))) else (some false)) = some r := by rw [if_pos rfl] at H; exact H
                  clear H
                  have H := H1
                  clear H1
                  by_cases c19 : t274 = true
                  · subst c19
                    have H1 : ((spec_Name_Equal.f kj11 t273 t265).bind fun t278 => (if t278 = true then (some (t271 == t266)) else (some false))) = some r := by rw [if_pos rfl] at H; exact H
                    clear H
                    have H := H1
                    clear H1
                    replace H := Option.bind_eq_some_iff.mp H
                    obtain ⟨t278, A200, H⟩ := H
                    replace H : (if t278 = true then (some (t271 == t266)) else (some false)) = some r := H
                    have A20 := Aside0.mk A200
                    clear A200
                    by_cases c21 : t278 = true
                    · subst c21
                      have H1 : (some (t271 == t266)) = some r := by rw [if_pos rfl] at H; exact H
                      clear H
                      have H := H1
                      clear H1
                      obtain rfl := Option.some.inj H
                      go_wp2_with (first | ((with_reducible refine gate_callee (f := 17) rfl ?_); refine goesL_ (some 61) rfl rfl Tryd.func17 (by kernel_rfl) rfl #[.string t270] rfl (by (try simp only [List.map_toArray, List.map_cons, List.map_nil]); first | done | rfl | (simp only [List.length_drop, List.length_take]; rfl)) ?_; (with_reducible refine (spec_ParseName.calls kj11 t270 t273 true true _ A17.out).mono ?_); rintro e w22 ⟨v276, rfl, ho0, hb⟩; refine ⟨_, rfl, ?_⟩; have n0_ := Aside0.mk (Kd.R_elder' (by (with_reducible repeat (first | apply Kd.R_alloc | apply Kd.R_drewN | apply Kd.R_drew)); exact HO_5.out) (Kd.R_base ho0) hb); have n1_ := Aside0.mk (Kd.R_lower (Kd.R_new' ho0 (Kd.R_lt (by (with_reducible repeat (first | apply Kd.R_alloc | apply Kd.R_drewN | apply Kd.R_drew)); exact HO_5.out))) (below_size (by repeat (first | (with_reducible first | exact HB.out | apply below_alloc | apply pw_below_drewN | apply below_drew1) | exact HB.out)))); have n2_ := Aside0.mk (below_step (by repeat (first | (with_reducible first | exact HB.out | apply below_alloc | apply pw_below_drewN | apply below_drew1) | exact HB.out)) hb); clear HO_5; clear HB; have HO_5 := n0_; have HO277 := n1_; have HB := n2_; clear n0_ n1_ n2_; (try clear hb); (try clear hb2); (try clear hk); (try clear hi); (try clear ho0); obtain ⟨Ao23, co23, eo23⟩ := Kd.R_slice HO277.out; subst eo23; obtain ⟨Ao24, co24, eo24⟩ := Kd.R_slice HO_5.out; subst eo24) | (go_at_call 18; (with_reducible refine (spec_Name_Equal.calls kj11 _ _ t273 _ _ t265 true _ ?side1 ?side2 ?side3 ?side4 A20.out).mono ?_); (case side1 => repeat (first | exact (Kd.R_reads' HO277.out).2.2 | (with_reducible refine Kd.C_alloc ?_ _) | (with_reducible refine Kd.C_drewN ?_ _) | (with_reducible refine Kd.C_drew ?_))); (case side2 => exact (Kd.R_reads' HO277.out).2.1); (case side3 => repeat (first | exact (Kd.R_reads' HO_5.out).2.2 | (with_reducible refine Kd.C_alloc ?_ _) | (with_reducible refine Kd.C_drewN ?_ _) | (with_reducible refine Kd.C_drew ?_))); (case side4 => exact (Kd.R_reads' HO_5.out).2.1); rintro e w' ⟨rfl, ⟨nd, rfl⟩⟩))
                      go_ret
                      exact ⟨by first | rfl | (simp [errW_none, errW_some] <;> rfl) | (simp [*, errW_none, errW_some] <;> rfl), by repeat (first | (with_reducible first | exact HB.out | apply below_alloc | apply pw_below_drewN | apply below_drew1) | exact HB.out)⟩
                    · replace c21 := Bool.eq_false_iff.mpr c21
                      subst c21
                      have H1 : (some false) = some r := by rw [if_neg (show ¬ (false = true) by decide)] at H; exact H
                      clear H
                      have H := H1
                      clear H1
                      obtain rfl := Option.some.inj H
                      go_wp2_with (first | ((with_reducible refine gate_callee (f := 17) rfl ?_); refine goesL_ (some 61) rfl rfl Tryd.func17 (by kernel_rfl) rfl #[.string t270] rfl (by (try simp only [List.map_toArray, List.map_cons, List.map_nil]); first | done | rfl | (simp only [List.length_drop, List.length_take]; rfl)) ?_; (with_reducible refine (spec_ParseName.calls kj11 t270 t273 true true _ A17.out).mono ?_); rintro e w25 ⟨v276, rfl, ho0, hb⟩; refine ⟨_, rfl, ?_⟩; have n0_ := Aside0.mk (Kd.R_elder' (by (with_reducible repeat (first | apply Kd.R_alloc | apply Kd.R_drewN | apply Kd.R_drew)); exact HO_5.out) (Kd.R_base ho0) hb); have n1_ := Aside0.mk (Kd.R_lower (Kd.R_new' ho0 (Kd.R_lt (by (with_reducible repeat (first | apply Kd.R_alloc | apply Kd.R_drewN | apply Kd.R_drew)); exact HO_5.out))) (below_size (by repeat (first | (with_reducible first | exact HB.out | apply below_alloc | apply pw_below_drewN | apply below_drew1) | exact HB.out)))); have n2_ := Aside0.mk (below_step (by repeat (first | (with_reducible first | exact HB.out | apply below_alloc | apply pw_below_drewN | apply below_drew1) | exact HB.out)) hb); clear HO_5; clear HB; have HO_5 := n0_; have HO277 := n1_; have HB := n2_; clear n0_ n1_ n2_; (try clear hb); (try clear hb2); (try clear hk); (try clear hi); (try clear ho0); obtain ⟨Ao26, co26, eo26⟩ := Kd.R_slice HO277.out; subst eo26; obtain ⟨Ao27, co27, eo27⟩ := Kd.R_slice HO_5.out; subst eo27) | (go_at_call 18; (with_reducible refine (spec_Name_Equal.calls kj11 _ _ t273 _ _ t265 false _ ?side1 ?side2 ?side3 ?side4 A20.out).mono ?_); (case side1 => repeat (first | exact (Kd.R_reads' HO277.out).2.2 | (with_reducible refine Kd.C_alloc ?_ _) | (with_reducible refine Kd.C_drewN ?_ _) | (with_reducible refine Kd.C_drew ?_))); (case side2 => exact (Kd.R_reads' HO277.out).2.1); (case side3 => repeat (first | exact (Kd.R_reads' HO_5.out).2.2 | (with_reducible refine Kd.C_alloc ?_ _) | (with_reducible refine Kd.C_drewN ?_ _) | (with_reducible refine Kd.C_drew ?_))); (case side4 => exact (Kd.R_reads' HO_5.out).2.1); rintro e w' ⟨rfl, ⟨nd, rfl⟩⟩))
                      go_ret
                      exact ⟨by first | rfl | (simp [errW_none, errW_some] <;> rfl) | (simp [*, errW_none, errW_some] <;> rfl), by repeat (first | (with_reducible first | exact HB.out | apply below_alloc | apply pw_below_drewN | apply below_drew1) | exact HB.out)⟩
                  · replace c19 := Bool.eq_false_iff.mpr c19
                    subst c19
                    have H1 : (some false) = some r := by rw [if_neg (show ¬ (false = true) by decide)] at H; exact H
                    clear H
                    have H := H1
                    clear H1
                    obtain rfl := Option.some.inj H
                    go_wp2_with (first | ((with_reducible refine gate_callee (f := 17) rfl ?_); refine goesL_ (some 61) rfl rfl Tryd.func17 (by kernel_rfl) rfl #[.string t270] rfl (by (try simp only [List.map_toArray, List.map_cons, List.map_nil]); first | done | rfl | (simp only [List.length_drop, List.length_take]; rfl)) ?_; (with_reducible refine (spec_ParseName.calls kj11 t270 t273 false true _ A17.out).mono ?_); rintro e w28 ⟨v276, rfl, ho0, hb⟩; refine ⟨_, rfl, ?_⟩; have n0_ := Aside0.mk (Kd.R_elder' (by (with_reducible repeat (first | apply Kd.R_alloc | apply Kd.R_drewN | apply Kd.R_drew)); exact HO_5.out) (Kd.R_base ho0) hb); have n1_ := Aside0.mk (Kd.R_lower (Kd.R_new' ho0 (Kd.R_lt (by (with_reducible repeat (first | apply Kd.R_alloc | apply Kd.R_drewN | apply Kd.R_drew)); exact HO_5.out))) (below_size (by repeat (first | (with_reducible first | exact HB.out | apply below_alloc | apply pw_below_drewN | apply below_drew1) | exact HB.out)))); have n2_ := Aside0.mk (below_step (by repeat (first | (with_reducible first | exact HB.out | apply below_alloc | apply pw_below_drewN | apply below_drew1) | exact HB.out)) hb); clear HO_5; clear HB; have HO_5 := n0_; have HO277 := n1_; have HB := n2_; clear n0_ n1_ n2_; (try clear hb); (try clear hb2); (try clear hk); (try clear hi); (try clear ho0)))
                    go_ret
                    exact ⟨by first | rfl | (simp [errW_none, errW_some] <;> rfl) | (simp [*, errW_none, errW_some] <;> rfl), by repeat (first | (with_reducible first | exact HB.out | apply below_alloc | apply pw_below_drewN | apply below_drew1) | exact HB.out)⟩
                · replace c18 := Bool.eq_false_iff.mpr c18
                  subst c18
                  have H1 : (some false) = some r := by rw [if_neg (show ¬ (false = true) by decide)] at H; exact H
                  clear H
                  have H := H1
                  clear H1
                  obtain rfl := Option.some.inj H
                  go_wp2_with (first | ((with_reducible refine gate_callee (f := 17) rfl ?_); refine goesL_ (some 61) rfl rfl Tryd.func17 (by kernel_rfl) rfl #[.string t270] rfl (by (try simp only [List.map_toArray, List.map_cons, List.map_nil]); first | done | rfl | (simp only [List.length_drop, List.length_take]; rfl)) ?_; (with_reducible refine (spec_ParseName.calls kj11 t270 t273 t274 false _ A17.out).mono ?_); rintro e w29 ⟨v276, rfl, ho0, hb⟩; refine ⟨_, rfl, ?_⟩; have n0_ := Aside0.mk (Kd.R_elder' (by (with_reducible repeat (first | apply Kd.R_alloc | apply Kd.R_drewN | apply Kd.R_drew)); exact HO_5.out) (Kd.R_base ho0) hb); have n1_ := Aside0.mk (Kd.R_lower (Kd.R_new' ho0 (Kd.R_lt (by (with_reducible repeat (first | apply Kd.R_alloc | apply Kd.R_drewN | apply Kd.R_drew)); exact HO_5.out))) (below_size (by repeat (first | (with_reducible first | exact HB.out | apply below_alloc | apply pw_below_drewN | apply below_drew1) | exact HB.out)))); have n2_ := Aside0.mk (below_step (by repeat (first | (with_reducible first | exact HB.out | apply below_alloc | apply pw_below_drewN | apply below_drew1) | exact HB.out)) hb); clear HO_5; clear HB; have HO_5 := n0_; have HO277 := n1_; have HB := n2_; clear n0_ n1_ n2_; (try clear hb); (try clear hb2); (try clear hk); (try clear hi); (try clear ho0)))
                  go_ret
                  exact ⟨by first | rfl | (simp [errW_none, errW_some] <;> rfl) | (simp [*, errW_none, errW_some] <;> rfl), by repeat (first | (with_reducible first | exact HB.out | apply below_alloc | apply pw_below_drewN | apply below_drew1) | exact HB.out)⟩

/-- THE ONE PURE STATEMENT of laws_FnUnpackName: yours. -/
def laws_FnUnpackName.Pure : Prop := ∀ (l0 : List Int) (a1 : Int), l0.length ≤ maxLen → l0.length * 1 ≤ 140737488351232 → (∀ x ∈ l0, (Lit.int .u8 x).wf = true) → (Lit.int .i64 a1).wf = true → ∃ k, laws_FnUnpackName.f k l0 a1 = some true
theorem laws_FnUnpackName.walk (P : laws_FnUnpackName.Pure) (a0 : Option Addr) (len0 cap0 : Nat) (z0 : List Int) (a1 : Int) (w : World) (w0 : (a0 = none ∧ len0 = 0 ∧ cap0 = 0 ∧ z0 = []) ∨ ∃ x, a0 = some x ∧ len0 ≤ cap0 ∧ cap0 ≤ maxLen ∧ z0.length = cap0 ∧ (∀ i, i < z0.length → w.cell? (x.add i) = some (.int .u8 (z0.getD i 0))) ∧ ∀ n ∈ z0, (Lit.int .u8 n).wf = true) (y0 : len0 * 1 ≤ 140737488351232) (w1 : (Lit.int .i64 a1).wf = true) (hG : GoodU w) :
    Calls Tryd.prog 3 #[.slice a0 len0 cap0, .int .i64 a1] w fun e w' => e = .returned (.bool true) ∧ Below w.heap.size w w' := by
  obtain ⟨l0, rfl, hr0, hm0, hw0, hc0⟩ := ReadsInt.ofRowC w0
  obtain ⟨k, h⟩ := P l0 a1 hm0 y0 hw0 w1
  refine (laws_FnUnpackName.calls k _ _ l0 a1 true w (Kd.C_of_reads (d := (0 : Int)) (h1 := fun _ => rfl) hr0) hc0 hG h).mono ?_
  rintro e w' ⟨rfl, hd⟩
  exact ⟨rfl, hd⟩

end Go.Proofs.YtiilihafcdmccaaDoor.P
