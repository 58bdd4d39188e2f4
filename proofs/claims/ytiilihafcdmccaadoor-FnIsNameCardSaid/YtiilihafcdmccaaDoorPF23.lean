-- Written by a program of this session (wip/tools/pprint.py) out of the translation: it goes by the kit's print and by the contracts of YtiilihafcdmccaaDoorHand. Not trusted: Lean checks it.
import Derived.Test.YtiilihafcdmccaaDoorP0
import Derived.Test.YtiilihafcdmccaaDoorPF52
namespace Go.Proofs.YtiilihafcdmccaaDoor.P
open Go.RowKit Go.Proofs.YtiilihafcdmccaaDoorW.PrintWords Go.Proofs.YtiilihafcdmccaaDoorW.PrintLast Go.Proofs.YtiilihafcdmccaaDoorW.PrintMore
attribute [local go_sem] max2_int min2_int max_two min_two max_three min_three max_four min_four   -- for this text's walks alone
set_option linter.unusedVariables false
set_option linter.unusedSimpArgs false

/-! ### laws_escapes: function 23 -/
mutual
def laws_escapes.l0 : Nat → ByteArray → Int → Option (Bool)
  | 0, _, _ => none
  | k + 1, x0, x3 => if x3 < (x0.size : Int) then (if 0 ≤ x3 then (if (bt x0 x3) = 92 then (if (wrap64 (x3 + 1)) ≥ (x0.size : Int) then (some false) else (if 0 ≤ (wrap64 (x3 + 1)) then (if (wrap64 (x3 + 1)) < (x0.size : Int) then (if (bt x0 (wrap64 (x3 + 1))) < 48 then (laws_escapes.j1 k x0 x3 true) else (laws_escapes.j1 k x0 x3 (decide ((bt x0 (wrap64 (x3 + 1))) > 57)))) else (none)) else (none))) else (laws_escapes.l0 k x0 (wrap64 (x3 + 1)))) else (none)) else (some true)
def laws_escapes.j1 : Nat → ByteArray → Int → Bool → Option (Bool)
  | 0, _, _, _ => none
  | k + 1, x0, x3, x31 => if x31 = true then (laws_escapes.l0 k x0 (wrap64 ((wrap64 (x3 + 1)) + 1))) else (if (wrap64 (x3 + 3)) ≥ (x0.size : Int) then (some false) else (if 0 ≤ (wrap64 (x3 + 1)) then (if (wrap64 (x3 + 1)) ≤ (wrap64 (x3 + 4)) then (if (wrap64 (x3 + 4)) ≤ (x0.size : Int) then ((spec_Decimal.f k (x0.extract ((wrap64 (x3 + 1)) : Int).toNat ((wrap64 (x3 + 4)) : Int).toNat) 255).bind fun bt145 => (if bt145.2 = true then (if bt145.1 > 255 then (some false) else (laws_escapes.l0 k x0 (wrap64 ((wrap64 (x3 + 3)) + 1)))) else (some false))) else (none)) else (none)) else (none)))
end
def laws_escapes.f (k : Nat) (a0 : ByteArray) : Option (Bool) := laws_escapes.l0 k a0 0
theorem laws_escapes.mono_l : ∀ k, (∀ y0 y1, LeO (laws_escapes.l0 k y0 y1) (laws_escapes.l0 (k + 1) y0 y1)) ∧ (∀ y0 y1 y2, LeO (laws_escapes.j1 k y0 y1 y2) (laws_escapes.j1 (k + 1) y0 y1 y2))
  | 0 => ⟨fun _ _ r h => by simp [laws_escapes.l0] at h, fun _ _ _ r h => by simp [laws_escapes.j1] at h⟩
  | k + 1 => by
    obtain ⟨ih0, ih1⟩ := laws_escapes.mono_l k
    refine ⟨?_, ?_⟩
    · intro y0 y1
      unfold laws_escapes.l0
      repeat' first
      | (with_reducible exact ih0 _ _)
      | (with_reducible exact ih1 _ _ _)
      | (with_reducible exact spec_Decimal.mono _ _ _)
      | (with_reducible exact LeO.refl _)
      | (with_reducible exact LeO.none _)
      | (with_reducible refine LeO.ite ?_ ?_)
      | (with_reducible refine LeO.bind ?_ (fun _ => ?_))
      | exact ih0 _ _
      | exact ih1 _ _ _
      | exact spec_Decimal.mono _ _ _
      | exact LeO.none _
      | refine LeO.ite ?_ ?_
      | refine LeO.bind ?_ (fun _ => ?_)
    · intro y0 y1 y2
      unfold laws_escapes.j1
      repeat' first
      | (with_reducible exact ih0 _ _)
      | (with_reducible exact ih1 _ _ _)
      | (with_reducible exact spec_Decimal.mono _ _ _)
      | (with_reducible exact LeO.refl _)
      | (with_reducible exact LeO.none _)
      | (with_reducible refine LeO.ite ?_ ?_)
      | (with_reducible refine LeO.bind ?_ (fun _ => ?_))
      | exact ih0 _ _
      | exact ih1 _ _ _
      | exact spec_Decimal.mono _ _ _
      | exact LeO.none _
      | refine LeO.ite ?_ ?_
      | refine LeO.bind ?_ (fun _ => ?_)
theorem laws_escapes.mono : ∀ a0 k, LeO (laws_escapes.f k a0) (laws_escapes.f (k + 1) a0) := by
  intro a0 k
  obtain ⟨ih0, ih1⟩ := laws_escapes.mono_l k
  unfold laws_escapes.f
  repeat' first
      | (with_reducible exact ih0 _ _)
      | (with_reducible exact ih1 _ _ _)
      | (with_reducible exact spec_Decimal.mono _ _ _)
      | (with_reducible exact LeO.refl _)
      | (with_reducible exact LeO.none _)
      | (with_reducible refine LeO.ite ?_ ?_)
      | (with_reducible refine LeO.bind ?_ (fun _ => ?_))
      | exact ih0 _ _
      | exact ih1 _ _ _
      | exact spec_Decimal.mono _ _ _
      | exact LeO.none _
      | refine LeO.ite ?_ ?_
      | refine LeO.bind ?_ (fun _ => ?_)
set_option maxHeartbeats 8000000 in
set_option maxRecDepth 100000 in
theorem laws_escapes.calls (k : Nat) (a0 : ByteArray) (r : Bool) (w : World) (h : laws_escapes.f k a0 = some r) :
    Calls Tryd.prog 23 #[.string a0] w fun e w' => e = .returned (.bool r) ∧ Drawn0 w w' := by
  have H : (laws_escapes.l0 k a0 0) = some r := h
  clear h
  have H' := Aside0.mk H
  clear H
  go_enter Tryd.func23, Tryd.ntmps23
  go_wp2
  go_loopg [3] k (fun kq v3 w' => ∃ (x3_1 : Int), v3 = .int .i64 x3_1 ∧ Aside0 (laws_escapes.l0 kq a0 x3_1 = some r) ∧ Aside0 (kq ≤ k) ∧ Drawn0 w w')
  case atStart => exact ⟨(0), (by first | rfl | (simp; done) | (simp [*]; done) | (simp [wrap64]; done)), H', ⟨Nat.le_refl _⟩, by repeat (first | exact Drawn0.refl _ | apply Drawn0.step)⟩
  case round =>
    clear H'
    obtain ⟨x3_1, rfl, HA, HK1, ⟨m1, rfl⟩⟩ := hrel
    cases gk with
    | zero => exact absurd HA.out (by simp [laws_escapes.l0])
    | succ k1 =>
      have H := HA.out
      clear HA
      simp only [laws_escapes.l0] at H
      by_cases c2 : x3_1 < (a0.size : Int)
      · rw [if_pos c2] at H
        have c2b0 : decide (x3_1 < (a0.size : Int)) = true := decide_eq_true c2
        clear c2
        by_cases c3 : 0 ≤ x3_1
        · rw [if_pos c3] at H
          have c3b0 : decide (0 ≤ x3_1) = true := decide_eq_true c3
          clear c3
          by_cases c5 : (bt a0 x3_1) = 92
          · rw [if_pos c5] at H
            have c5b0 : ((bt a0 x3_1) == 92) = true := beq_iff_eq.mpr c5
            have c5b1 : ((bt a0 x3_1) != 92) = false := bne_eq_false_iff_eq.mpr c5
            clear c5
            by_cases c6 : (wrap64 (x3_1 + 1)) ≥ (a0.size : Int)
            · rw [if_pos c6] at H
              have c6b0 : decide ((a0.size : Int) ≤ (wrap64 (x3_1 + 1))) = true := decide_eq_true c6
              clear c6
              obtain rfl := Option.some.inj H
              have p4 : 0 ≤ (x3_1 : Int) := of_decide_eq_true (by first | (with_reducible assumption) | assumption)
              have q4 : x3_1 < (a0.size : Int) := of_decide_eq_true (by first | (with_reducible assumption) | assumption)
              have hx4 := bt_at a0 x3_1
              replace p4 := eq_true p4
              replace q4 := eq_true q4
              go_wp2
              go_ret
              exact ⟨by first | rfl | (simp; done) | (simp [*]; done) | (simp [wrap64]; done), by repeat (first | exact Drawn0.refl _ | apply Drawn0.step)⟩
            · rw [if_neg c6] at H
              have c6b0 : decide ((a0.size : Int) ≤ (wrap64 (x3_1 + 1))) = false := decide_eq_false c6
              clear c6
              obtain ⟨ji7, hji7⟩ : ∃ j_ : Int, (wrap64 (x3_1 + 1)) = j_ := ⟨_, rfl⟩
              replace H : (if 0 ≤ (ji7) then (if (ji7) < (a0.size : Int) then (if (bt a0 (ji7)) < 48 then (laws_escapes.j1 k1 a0 x3_1 true) else (laws_escapes.j1 k1 a0 x3_1 (decide ((bt a0 (ji7)) > 57)))) else (none)) else (none)) = some r := by first | (rw [hji7] at H; exact H) | (simp only [hji7] at H ⊢; exact H)
              (try rw [hji7] at c6b0)
              have hji7w : (IntKind.i64.wrap (x3_1 + 1)) = ji7 := (i64_w _).trans hji7
              by_cases c8 : 0 ≤ (ji7)
              · rw [if_pos c8] at H
                have c8b0 : decide (0 ≤ (ji7)) = true := decide_eq_true c8
                clear c8
                by_cases c9 : (ji7) < (a0.size : Int)
                · rw [if_pos c9] at H
                  have c9b0 : decide ((ji7) < (a0.size : Int)) = true := decide_eq_true c9
                  clear c9
                  have HC11 := Aside0.mk H
                  clear H
                  have p4 : 0 ≤ (x3_1 : Int) := of_decide_eq_true (by first | (with_reducible assumption) | assumption)
                  have q4 : x3_1 < (a0.size : Int) := of_decide_eq_true (by first | (with_reducible assumption) | assumption)
                  have hx4 := bt_at a0 x3_1
                  replace p4 := eq_true p4
                  replace q4 := eq_true q4
                  have p10 : 0 ≤ ((ji7) : Int) := of_decide_eq_true (by first | (with_reducible assumption) | assumption)
                  have q10 : (ji7) < (a0.size : Int) := of_decide_eq_true (by first | (with_reducible assumption) | assumption)
                  have hx10 := bt_at a0 (ji7)
                  replace p10 := eq_true p10
                  replace q10 := eq_true q10
                  go_upto_region 8 with (fail)
                  go_cut [31] (fun v31 wc => ∃ (kq : Nat) (x31_10 : Bool), v31 = .bool x31_10 ∧ Aside0 (laws_escapes.j1 kq a0 x3_1 x31_10 = some r) ∧ Aside0 (kq ≤ k1) ∧ Drawn0 w wc)
                  case first =>
                    have H := HC11.out
                    clear HC11
                    by_cases c12 : (bt a0 (ji7)) < 48
                    · rw [if_pos c12] at H
                      have c12b0 : decide ((bt a0 (ji7)) < 48) = true := decide_eq_true c12
                      clear c12
                      (first | rw [c12b0] | (simp only [i64_w, i32_w]; rw [c12b0]) | skip)
                      have H' := Aside0.mk H
                      clear H
                      go_wp2
                      go_meet
                      case rel => exact ⟨_, (true), (by first | rfl | (simp; done) | (simp [*]; done) | (simp [wrap64]; done)), H', ⟨by have := HK1.out; first | omega | exact Nat.le_refl _⟩, by repeat (first | exact Drawn0.refl _ | apply Drawn0.step)⟩
                    · rw [if_neg c12] at H
                      have c12b0 : decide ((bt a0 (ji7)) < 48) = false := decide_eq_false c12
                      clear c12
                      (first | rw [c12b0] | (simp only [i64_w, i32_w]; rw [c12b0]) | skip)
                      have H' := Aside0.mk H
                      clear H
                      go_wp2
                      go_meet
                      case rel => exact ⟨_, (decide ((bt a0 (ji7)) > 57)), (by first | rfl | (simp; done) | (simp only [← hji7] <;> (first | rfl | simp)) | (simp [*]; done)), H', ⟨by have := HK1.out; first | omega | exact Nat.le_refl _⟩, by repeat (first | exact Drawn0.refl _ | apply Drawn0.step)⟩
                  case rest =>
                    clear HC11
                    try clear c1
                    try clear p1
                    try clear q1
                    try clear hx1
                    try clear c2
                    try clear c2b0
                    try clear p2
                    try clear c3
                    try clear c3b0
                    try clear p4
                    try clear q4
                    try clear hx4
                    try clear c5
                    try clear c5b0
                    try clear c5b1
                    try clear c6
                    try clear c6b0
                    try clear p6
                    try clear c8
                    try clear c8b0
                    try clear c9
                    try clear c9b0
                    try clear p10
                    try clear q10
                    try clear hx10
                    try clear c12
                    try clear c12b0
                    try clear p10
                    try clear p4
                    try clear q10
                    try clear q4
                    obtain ⟨kq, x31_10, rfl, HA, HJ10, ⟨mc10, rfl⟩⟩ := hcut
                    cases kq with
                    | zero => exact absurd HA.out (by simp [laws_escapes.j1])
                    | succ kj10 =>
                      have H := HA.out
                      clear HA
                      simp only [laws_escapes.j1] at H
                      by_cases c13 : x31_10 = true
                      · subst c13
                        have H1 : (laws_escapes.l0 kj10 a0 (wrap64 ((wrap64 (x3_1 + 1)) + 1))) = some r := by rw [if_pos rfl] at H; exact H
                        clear H
                        have H := H1
                        clear H1
                        have H' := Aside0.mk H
                        clear H
                        go_wp2
                        go_roundg kj10
                        case measure => have := HK1.out; have := HJ10.out; omega
                        case rel => exact ⟨(wrap64 ((wrap64 (x3_1 + 1)) + 1)), (by first | rfl | (simp; done) | (simp [*]; done) | (simp [wrap64]; done)), H', ⟨by have := HK1.out; have := HJ10.out; omega⟩, by repeat (first | exact Drawn0.refl _ | apply Drawn0.step)⟩
                      · replace c13 := Bool.eq_false_iff.mpr c13
                        subst c13
                        have H1 : (if (wrap64 (x3_1 + 3)) ≥ (a0.size : Int) then (some false) else (if 0 ≤ (wrap64 (x3_1 + 1)) then (if (wrap64 (x3_1 + 1)) ≤ (wrap64 (x3_1 + 4)) then (if (wrap64 (x3_1 + 4)) ≤ (a0.size : Int) then ((spec_Decimal.f kj10 (a0.extract ((wrap64 (x3_1 + 1)) : Int).toNat ((wrap64 (x3_1 + 4)) : Int).toNat) 255).bind fun bt145 => (if bt145.2 = true then (if bt145.1 > 255 then (some false) else (laws_escapes.l0 kj10 a0 (wrap64 ((wrap64 (x3_1 + 3)) + 1)))) else (some false))) else (none)) else (none)) else (none))) = some r := by rw [if_neg (show ¬ (false = true) by decide)] at H; exact H
                        clear H
                        have H := H1
                        clear H1
                        by_cases c14 : (wrap64 (x3_1 + 3)) ≥ (a0.size : Int)
                        · rw [if_pos c14] at H
                          have c14b0 : decide ((a0.size : Int) ≤ (wrap64 (x3_1 + 3))) = true := decide_eq_true c14
                          clear c14
                          obtain rfl := Option.some.inj H
                          go_wp2
                          go_ret
                          exact ⟨by first | rfl | (simp; done) | (simp only [← hji7] <;> (first | rfl | simp)) | (simp [*]; done), by repeat (first | exact Drawn0.refl _ | apply Drawn0.step)⟩
                        · rw [if_neg c14] at H
                          have c14b0 : decide ((a0.size : Int) ≤ (wrap64 (x3_1 + 3))) = false := decide_eq_false c14
                          clear c14
                          replace H : (if 0 ≤ (ji7) then (if (ji7) ≤ (wrap64 (x3_1 + 4)) then (if (wrap64 (x3_1 + 4)) ≤ (a0.size : Int) then ((spec_Decimal.f kj10 (a0.extract ((ji7) : Int).toNat ((wrap64 (x3_1 + 4)) : Int).toNat) 255).bind fun bt145 => (if bt145.2 = true then (if bt145.1 > 255 then (some false) else (laws_escapes.l0 kj10 a0 (wrap64 ((wrap64 (x3_1 + 3)) + 1)))) else (some false))) else (none)) else (none)) else (none)) = some r := by first | (rw [hji7] at H; exact H) | (simp only [hji7] at H ⊢; exact H)
                          by_cases c15 : 0 ≤ (ji7)
                          · rw [if_pos c15] at H
                            have c15b0 := eq_true c15
                            have c15b1 : decide (0 ≤ (ji7)) = true := decide_eq_true c15
                            clear c15
                            by_cases c16 : (ji7) ≤ (wrap64 (x3_1 + 4))
                            · rw [if_pos c16] at H
                              have c16b0 := eq_true c16
                              have c16b1 : decide ((ji7) ≤ (wrap64 (x3_1 + 4))) = true := decide_eq_true c16
                              by_cases c17 : (wrap64 (x3_1 + 4)) ≤ (a0.size : Int)
                              · rw [if_pos c17] at H
                                have c17b0 := eq_true c17
                                have c17b1 : decide ((wrap64 (x3_1 + 4)) ≤ (a0.size : Int)) = true := decide_eq_true c17
                                replace H := Option.bind_eq_some_iff.mp H
                                obtain ⟨⟨t145, t146⟩, A180, H⟩ := H
                                replace H : (if t146 = true then (if t145 > 255 then (some false) else (laws_escapes.l0 kj10 a0 (wrap64 ((wrap64 (x3_1 + 3)) + 1)))) else (some false)) = some r := H
                                have A18 := Aside0.mk A180
                                clear A180
                                by_cases c19 : t146 = true
                                · subst c19
                                  have H1 : (if t145 > 255 then (some false) else (laws_escapes.l0 kj10 a0 (wrap64 ((wrap64 (x3_1 + 3)) + 1)))) = some r := by rw [if_pos rfl] at H; exact H
                                  clear H
                                  have H := H1
                                  clear H1
                                  by_cases c20 : t145 > 255
                                  · rw [if_pos c20] at H
                                    have c20b0 : decide (255 < t145) = true := decide_eq_true c20
                                    clear c20
                                    obtain rfl := Option.some.inj H
                                    go_wp2_with (first | ((with_reducible refine gate_callee (f := 52) rfl ?_); refine goesL_ (some 46) rfl rfl Tryd.func52 (by kernel_rfl) rfl #[.string (a0.extract ((ji7) : Int).toNat ((wrap64 (x3_1 + 4)) : Int).toNat), .int .i64 255] rfl (by (try simp only [List.map_toArray, List.map_cons, List.map_nil]); first | done | (simp only [hji7]; rfl) | rfl | (simp only [List.length_drop, List.length_take]; rfl)) ?_; (with_reducible refine (spec_Decimal.calls kj10 (a0.extract ((ji7) : Int).toNat ((wrap64 (x3_1 + 4)) : Int).toNat) 255 t145 true _ A18.out).mono ?_); rintro e w' ⟨rfl, ⟨nd, rfl⟩⟩; refine ⟨_, rfl, ?_⟩))
                                    go_ret
                                    exact ⟨by first | rfl | (simp; done) | (simp only [← hji7] <;> (first | rfl | simp)) | (simp [*]; done), by repeat (first | exact Drawn0.refl _ | apply Drawn0.step)⟩
                                  · rw [if_neg c20] at H
                                    have c20b0 : decide (255 < t145) = false := decide_eq_false c20
                                    clear c20
                                    have H' := Aside0.mk H
                                    clear H
                                    go_wp2_with (first | ((with_reducible refine gate_callee (f := 52) rfl ?_); refine goesL_ (some 46) rfl rfl Tryd.func52 (by kernel_rfl) rfl #[.string (a0.extract ((ji7) : Int).toNat ((wrap64 (x3_1 + 4)) : Int).toNat), .int .i64 255] rfl (by (try simp only [List.map_toArray, List.map_cons, List.map_nil]); first | done | (simp only [hji7]; rfl) | rfl | (simp only [List.length_drop, List.length_take]; rfl)) ?_; (with_reducible refine (spec_Decimal.calls kj10 (a0.extract ((ji7) : Int).toNat ((wrap64 (x3_1 + 4)) : Int).toNat) 255 t145 true _ A18.out).mono ?_); rintro e w' ⟨rfl, ⟨nd, rfl⟩⟩; refine ⟨_, rfl, ?_⟩))
                                    go_roundg kj10
                                    case measure => have := HK1.out; have := HJ10.out; omega
                                    case rel => exact ⟨(wrap64 ((wrap64 (x3_1 + 3)) + 1)), (by first | rfl | (simp; done) | (simp [*]; done) | (simp [wrap64]; done)), H', ⟨by have := HK1.out; have := HJ10.out; omega⟩, by repeat (first | exact Drawn0.refl _ | apply Drawn0.step)⟩
                                · replace c19 := Bool.eq_false_iff.mpr c19
                                  subst c19
                                  have H1 : (some false) = some r := by rw [if_neg (show ¬ (false = true) by decide)] at H; exact H
                                  clear H
                                  have H := H1
                                  clear H1
                                  obtain rfl := Option.some.inj H
                                  go_wp2_with (first | ((with_reducible refine gate_callee (f := 52) rfl ?_); refine goesL_ (some 46) rfl rfl Tryd.func52 (by kernel_rfl) rfl #[.string (a0.extract ((ji7) : Int).toNat ((wrap64 (x3_1 + 4)) : Int).toNat), .int .i64 255] rfl (by (try simp only [List.map_toArray, List.map_cons, List.map_nil]); first | done | (simp only [hji7]; rfl) | rfl | (simp only [List.length_drop, List.length_take]; rfl)) ?_; (with_reducible refine (spec_Decimal.calls kj10 (a0.extract ((ji7) : Int).toNat ((wrap64 (x3_1 + 4)) : Int).toNat) 255 t145 false _ A18.out).mono ?_); rintro e w' ⟨rfl, ⟨nd, rfl⟩⟩; refine ⟨_, rfl, ?_⟩))
                                  go_ret
                                  exact ⟨by first | rfl | (simp; done) | (simp only [← hji7] <;> (first | rfl | simp)) | (simp [*]; done), by repeat (first | exact Drawn0.refl _ | apply Drawn0.step)⟩
                              · rw [if_neg c17] at H
                                exact absurd H (by simp)
                            · rw [if_neg c16] at H
                              exact absurd H (by simp)
                          · rw [if_neg c15] at H
                            exact absurd H (by simp)
                · rw [if_neg c9] at H
                  exact absurd H (by simp)
              · rw [if_neg c8] at H
                exact absurd H (by simp)
          · rw [if_neg c5] at H
            have c5b0 : ((bt a0 x3_1) == 92) = false := beq_eq_false_iff_ne.mpr c5
            have c5b1 : ((bt a0 x3_1) != 92) = true := bne_iff_ne.mpr c5
            have H' := Aside0.mk H
            clear H
            have p4 : 0 ≤ (x3_1 : Int) := of_decide_eq_true (by first | (with_reducible assumption) | assumption)
            have q4 : x3_1 < (a0.size : Int) := of_decide_eq_true (by first | (with_reducible assumption) | assumption)
            have hx4 := bt_at a0 x3_1
            replace p4 := eq_true p4
            replace q4 := eq_true q4
            go_wp2
            go_roundg k1
            case measure => have := HK1.out; omega
            case rel => exact ⟨(wrap64 (x3_1 + 1)), (by first | rfl | (simp; done) | (simp [*]; done) | (simp [wrap64]; done)), H', ⟨by have := HK1.out; omega⟩, by repeat (first | exact Drawn0.refl _ | apply Drawn0.step)⟩
        · rw [if_neg c3] at H
          exact absurd H (by simp)
      · rw [if_neg c2] at H
        have c2b0 : decide (x3_1 < (a0.size : Int)) = false := decide_eq_false c2
        clear c2
        obtain rfl := Option.some.inj H
        go_wp2
        go_ret
        exact ⟨by first | rfl | (simp; done) | (simp [*]; done) | (simp [wrap64]; done), by repeat (first | exact Drawn0.refl _ | apply Drawn0.step)⟩

end Go.Proofs.YtiilihafcdmccaaDoor.P
