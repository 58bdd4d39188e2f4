/- Texts of this session merged by program (wip/tools/merge.py): PF14, PF15, PF74, Esc, Good, PF48, PF16, PF3, EvalU, GoodPU. -/
import Derived.Test.YtiilihafcdmccaaDoorXA1
import Derived.WalkMore
import Derived.Test.YtiilihafcdmccaaDoorXA2
-- Written by a program of this session (wip/tools/pprint.py) out of the translation: it goes by the kit's print and by the contracts of YtiilihafcdmccaaDoorHand. Not trusted: Lean checks it.
namespace Go.Proofs.YtiilihafcdmccaaDoor.P
open Go.RowKit Go.Proofs.YtiilihafcdmccaaDoorW.PrintWords Go.Proofs.YtiilihafcdmccaaDoorW.PrintLast Go.Proofs.YtiilihafcdmccaaDoorW.PrintMore
attribute [local go_sem] max2_int min2_int max_two min_two max_three min_three max_four min_four   -- for this text's walks alone
set_option linter.unusedVariables false
set_option linter.unusedSimpArgs false

/-! ### laws_back: function 14 -/
def laws_back.l0 : Nat → List Int → Int → Int → Int → Option (Bool)
  | 0, _, _, _, _ => none
  | k + 1, x0, x1, x5, x6 => if x1 < (x0.length : Int) then (if 0 ≤ x1 then (if (Go.bits .and .i64 (wrap64 (rd x0 x1)) 192) = 192 then (if (wrap64 (x1 + 1)) ≥ (x0.length : Int) then (some true) else (if 0 ≤ (wrap64 (x1 + 1)) then (if (wrap64 (x1 + 1)) < (x0.length : Int) then (if (Go.bits .or .i64 (wrap64 ((Go.bits .and .i64 (wrap64 (rd x0 x1)) 63) * 256)) (wrap64 (rd x0 (wrap64 (x1 + 1))))) ≥ x5 then (some false) else (if (wrap64 (x6 + 1)) > 126 then (some false) else (laws_back.l0 k x0 (Go.bits .or .i64 (wrap64 ((Go.bits .and .i64 (wrap64 (rd x0 x1)) 63) * 256)) (wrap64 (rd x0 (wrap64 (x1 + 1))))) (Go.bits .or .i64 (wrap64 ((Go.bits .and .i64 (wrap64 (rd x0 x1)) 63) * 256)) (wrap64 (rd x0 (wrap64 (x1 + 1))))) (wrap64 (x6 + 1))))) else (none)) else (none))) else (if (wrap64 (rd x0 x1)) = 0 then (some true) else (if (wrap64 (rd x0 x1)) > 63 then (some true) else (laws_back.l0 k x0 (wrap64 (x1 + (wrap64 (1 + (wrap64 (rd x0 x1)))))) x5 x6)))) else (none)) else (some true)
def laws_back.f (k : Nat) (l0 : List Int) (a1 : Int) : Option (Bool) := laws_back.l0 k l0 a1 a1 0
theorem laws_back.mono_l : ∀ k, (∀ y0 y1 y2 y3, LeO (laws_back.l0 k y0 y1 y2 y3) (laws_back.l0 (k + 1) y0 y1 y2 y3))
  | 0 => fun _ _ _ _ r h => by simp [laws_back.l0] at h
  | k + 1 => by
    have ih0 := laws_back.mono_l k
    · intro y0 y1 y2 y3
      unfold laws_back.l0
      repeat' first
      | (with_reducible exact ih0 _ _ _ _)
      | (with_reducible exact LeO.refl _)
      | (with_reducible exact LeO.none _)
      | (with_reducible refine LeO.ite ?_ ?_)
      | (with_reducible refine LeO.bind ?_ (fun _ => ?_))
      | exact ih0 _ _ _ _
      | exact LeO.none _
      | refine LeO.ite ?_ ?_
      | refine LeO.bind ?_ (fun _ => ?_)
theorem laws_back.mono : ∀ a0 a1 k, LeO (laws_back.f k a0 a1) (laws_back.f (k + 1) a0 a1) := by
  intro a0 a1 k
  have ih0 := laws_back.mono_l k
  unfold laws_back.f
  repeat' first
      | (with_reducible exact ih0 _ _ _ _)
      | (with_reducible exact LeO.refl _)
      | (with_reducible exact LeO.none _)
      | (with_reducible refine LeO.ite ?_ ?_)
      | (with_reducible refine LeO.bind ?_ (fun _ => ?_))
      | exact ih0 _ _ _ _
      | exact LeO.none _
      | refine LeO.ite ?_ ?_
      | refine LeO.bind ?_ (fun _ => ?_)
set_option maxHeartbeats 8000000 in
set_option maxRecDepth 100000 in
theorem laws_back.calls (k : Nat) (A0 : Option Addr) (c0 : Nat) (l0 : List Int) (a1 : Int) (r : Bool) (w : World) (hr0 : Kd.C (Kd.int .u8) w A0 l0.length l0) (hc0 : l0.length ≤ c0) (h : laws_back.f k l0 a1 = some r) :
    Calls Tryd.prog 14 #[.slice A0 l0.length c0, .int .i64 a1] w fun e w' => e = .returned (.bool r) ∧ Drawn0 w w' := by
  have HR0 := Aside0.mk hr0
  have HC0 := Aside0.mk hc0
  clear hr0 hc0
  have H : (laws_back.l0 k l0 a1 a1 0) = some r := h
  clear h
  have H' := Aside0.mk H
  clear H
  go_enter Tryd.func14, Tryd.ntmps14
  go_wp2
  go_loopg [1, 5, 6] k (fun kq v1 v5 v6 w' => ∃ (x1_1 : Int) (x5_1 : Int) (x6_1 : Int), v1 = .int .i64 x1_1 ∧ v5 = .int .i64 x5_1 ∧ v6 = .int .i64 x6_1 ∧ Aside0 (laws_back.l0 kq l0 x1_1 x5_1 x6_1 = some r) ∧ Aside0 (kq ≤ k) ∧ Drawn0 w w')
  case atStart => exact ⟨(a1), (a1), (0), (by first | rfl | (simp; done) | (simp [*]; done) | (simp [wrap64]; done)), (by first | rfl | (simp; done) | (simp [*]; done) | (simp [wrap64]; done)), (by first | rfl | (simp; done) | (simp [*]; done) | (simp [wrap64]; done)), H', ⟨Nat.le_refl _⟩, by repeat (first | exact Drawn0.refl _ | apply Drawn0.step)⟩
  case round =>
    clear H'
    try clear c1
    try clear p2
    obtain ⟨x1_1, x5_1, x6_1, rfl, rfl, rfl, HA, HK1, ⟨m1, rfl⟩⟩ := hrel
    cases gk with
    | zero => exact absurd HA.out (by simp [laws_back.l0])
    | succ k1 =>
      have H := HA.out
      clear HA
      simp only [laws_back.l0] at H
      by_cases c3 : x1_1 < (l0.length : Int)
      · rw [if_pos c3] at H
        have c3b0 : decide (x1_1 < (l0.length : Int)) = true := decide_eq_true c3
        clear c3
        by_cases c4 : 0 ≤ x1_1
        · rw [if_pos c4] at H
          have c4b0 : decide (0 ≤ x1_1) = true := decide_eq_true c4
          clear c4
          by_cases c5 : (Go.bits .and .i64 (wrap64 (rd l0 x1_1)) 192) = 192
          · rw [if_pos c5] at H
            have c5b0 : ((Go.bits .and .i64 (wrap64 (rd l0 x1_1)) 192) == 192) = true := beq_iff_eq.mpr c5
            have c5b1 : ((Go.bits .and .i64 (wrap64 (rd l0 x1_1)) 192) != 192) = false := bne_eq_false_iff_eq.mpr c5
            clear c5
            by_cases c6 : (wrap64 (x1_1 + 1)) ≥ (l0.length : Int)
            · rw [if_pos c6] at H
              have c6b0 : decide ((l0.length : Int) ≤ (wrap64 (x1_1 + 1))) = true := decide_eq_true c6
              clear c6
              obtain rfl := Option.some.inj H
              have p220 : 0 ≤ (x1_1 : Int) := of_decide_eq_true (by first | (with_reducible assumption) | assumption)
              have q220 : x1_1 < (l0.length : Int) := of_decide_eq_true (by first | (with_reducible assumption) | assumption)
              obtain ⟨ad220, e220, hx220_0⟩ := Kd.at_int HR0.out x1_1 p220 q220
              cases e220
              replace p220 := eq_true p220
              replace q220 := eq_true q220
              go_wp2
              go_ret
              exact ⟨by first | rfl | (simp; done) | (simp [*]; done) | (simp [wrap64]; done), by repeat (first | exact Drawn0.refl _ | apply Drawn0.step)⟩
            · rw [if_neg c6] at H
              have c6b0 : decide ((l0.length : Int) ≤ (wrap64 (x1_1 + 1))) = false := decide_eq_false c6
              clear c6
              obtain ⟨ji7, hji7⟩ : ∃ j_ : Int, (wrap64 (x1_1 + 1)) = j_ := ⟨_, rfl⟩
              replace H : (if 0 ≤ (ji7) then (if (ji7) < (l0.length : Int) then (if (Go.bits .or .i64 (wrap64 ((Go.bits .and .i64 (wrap64 (rd l0 x1_1)) 63) * 256)) (wrap64 (rd l0 (ji7)))) ≥ x5_1 then (some false) else (if (wrap64 (x6_1 + 1)) > 126 then (some false) else (laws_back.l0 k1 l0 (Go.bits .or .i64 (wrap64 ((Go.bits .and .i64 (wrap64 (rd l0 x1_1)) 63) * 256)) (wrap64 (rd l0 (ji7)))) (Go.bits .or .i64 (wrap64 ((Go.bits .and .i64 (wrap64 (rd l0 x1_1)) 63) * 256)) (wrap64 (rd l0 (ji7)))) (wrap64 (x6_1 + 1))))) else (none)) else (none)) = some r := by first | (rw [hji7] at H; exact H) | (simp only [hji7] at H ⊢; exact H)
              (try rw [hji7] at c6b0)
              have hji7w : (IntKind.i64.wrap (x1_1 + 1)) = ji7 := (i64_w _).trans hji7
              by_cases c8 : 0 ≤ (ji7)
              · rw [if_pos c8] at H
                have c8b0 : decide (0 ≤ (ji7)) = true := decide_eq_true c8
                clear c8
                by_cases c9 : (ji7) < (l0.length : Int)
                · rw [if_pos c9] at H
                  have c9b0 : decide ((ji7) < (l0.length : Int)) = true := decide_eq_true c9
                  clear c9
                  by_cases c10 : (Go.bits .or .i64 (wrap64 ((Go.bits .and .i64 (wrap64 (rd l0 x1_1)) 63) * 256)) (wrap64 (rd l0 (ji7)))) ≥ x5_1
                  · rw [if_pos c10] at H
                    have c10b0 : decide (x5_1 ≤ (Go.bits .or .i64 (wrap64 ((Go.bits .and .i64 (wrap64 (rd l0 x1_1)) 63) * 256)) (wrap64 (rd l0 (ji7))))) = true := decide_eq_true c10
                    clear c10
                    obtain rfl := Option.some.inj H
                    have p220 : 0 ≤ (x1_1 : Int) := of_decide_eq_true (by first | (with_reducible assumption) | assumption)
                    have q220 : x1_1 < (l0.length : Int) := of_decide_eq_true (by first | (with_reducible assumption) | assumption)
                    obtain ⟨ad220, e220, hx220_0⟩ := Kd.at_int HR0.out x1_1 p220 q220
                    cases e220
                    replace p220 := eq_true p220
                    replace q220 := eq_true q220
                    have p221 : 0 ≤ ((ji7) : Int) := of_decide_eq_true (by first | (with_reducible assumption) | assumption)
                    have q221 : (ji7) < (l0.length : Int) := of_decide_eq_true (by first | (with_reducible assumption) | assumption)
                    obtain ⟨ad221, e221, hx221_0⟩ := Kd.at_int HR0.out (ji7) p221 q221
                    obtain rfl : ad220 = ad221 := (by injection e221)
                    replace p221 := eq_true p221
                    replace q221 := eq_true q221
                    go_wp2
                    go_ret
                    exact ⟨by first | rfl | (simp; done) | (simp only [← hji7] <;> (first | rfl | simp)) | (simp [*]; done), by repeat (first | exact Drawn0.refl _ | apply Drawn0.step)⟩
                  · rw [if_neg c10] at H
                    have c10b0 : decide (x5_1 ≤ (Go.bits .or .i64 (wrap64 ((Go.bits .and .i64 (wrap64 (rd l0 x1_1)) 63) * 256)) (wrap64 (rd l0 (ji7))))) = false := decide_eq_false c10
                    clear c10
                    by_cases c11 : (wrap64 (x6_1 + 1)) > 126
                    · rw [if_pos c11] at H
                      have c11b0 : decide (126 < (wrap64 (x6_1 + 1))) = true := decide_eq_true c11
                      clear c11
                      obtain rfl := Option.some.inj H
                      have p220 : 0 ≤ (x1_1 : Int) := of_decide_eq_true (by first | (with_reducible assumption) | assumption)
                      have q220 : x1_1 < (l0.length : Int) := of_decide_eq_true (by first | (with_reducible assumption) | assumption)
                      obtain ⟨ad220, e220, hx220_0⟩ := Kd.at_int HR0.out x1_1 p220 q220
                      cases e220
                      replace p220 := eq_true p220
                      replace q220 := eq_true q220
                      have p221 : 0 ≤ ((ji7) : Int) := of_decide_eq_true (by first | (with_reducible assumption) | assumption)
                      have q221 : (ji7) < (l0.length : Int) := of_decide_eq_true (by first | (with_reducible assumption) | assumption)
                      obtain ⟨ad221, e221, hx221_0⟩ := Kd.at_int HR0.out (ji7) p221 q221
                      obtain rfl : ad220 = ad221 := (by injection e221)
                      replace p221 := eq_true p221
                      replace q221 := eq_true q221
                      go_wp2
                      go_ret
                      exact ⟨by first | rfl | (simp; done) | (simp only [← hji7] <;> (first | rfl | simp)) | (simp [*]; done), by repeat (first | exact Drawn0.refl _ | apply Drawn0.step)⟩
                    · rw [if_neg c11] at H
                      have c11b0 : decide (126 < (wrap64 (x6_1 + 1))) = false := decide_eq_false c11
                      clear c11
                      have H' := Aside0.mk H
                      clear H
                      have p220 : 0 ≤ (x1_1 : Int) := of_decide_eq_true (by first | (with_reducible assumption) | assumption)
                      have q220 : x1_1 < (l0.length : Int) := of_decide_eq_true (by first | (with_reducible assumption) | assumption)
                      obtain ⟨ad220, e220, hx220_0⟩ := Kd.at_int HR0.out x1_1 p220 q220
                      cases e220
                      replace p220 := eq_true p220
                      replace q220 := eq_true q220
                      have p221 : 0 ≤ ((ji7) : Int) := of_decide_eq_true (by first | (with_reducible assumption) | assumption)
                      have q221 : (ji7) < (l0.length : Int) := of_decide_eq_true (by first | (with_reducible assumption) | assumption)
                      obtain ⟨ad221, e221, hx221_0⟩ := Kd.at_int HR0.out (ji7) p221 q221
                      obtain rfl : ad220 = ad221 := (by injection e221)
                      replace p221 := eq_true p221
                      replace q221 := eq_true q221
                      go_wp2
                      go_roundg k1
                      case measure => have := HK1.out; omega
                      case rel => exact ⟨(Go.bits .or .i64 (wrap64 ((Go.bits .and .i64 (wrap64 (rd l0 x1_1)) 63) * 256)) (wrap64 (rd l0 (ji7)))), (Go.bits .or .i64 (wrap64 ((Go.bits .and .i64 (wrap64 (rd l0 x1_1)) 63) * 256)) (wrap64 (rd l0 (ji7)))), (wrap64 (x6_1 + 1)), (by first | rfl | (simp; done) | (simp only [← hji7] <;> (first | rfl | simp)) | (simp [*]; done)), (by first | rfl | (simp; done) | (simp only [← hji7] <;> (first | rfl | simp)) | (simp [*]; done)), (by first | rfl | (simp; done) | (simp [*]; done) | (simp [wrap64]; done)), H', ⟨by have := HK1.out; omega⟩, by repeat (first | exact Drawn0.refl _ | apply Drawn0.step)⟩
                · rw [if_neg c9] at H
                  exact absurd H (by simp)
              · rw [if_neg c8] at H
                exact absurd H (by simp)
          · rw [if_neg c5] at H
            have c5b0 : ((Go.bits .and .i64 (wrap64 (rd l0 x1_1)) 192) == 192) = false := beq_eq_false_iff_ne.mpr c5
            have c5b1 : ((Go.bits .and .i64 (wrap64 (rd l0 x1_1)) 192) != 192) = true := bne_iff_ne.mpr c5
            by_cases c12 : (wrap64 (rd l0 x1_1)) = 0
            · rw [if_pos c12] at H
              have c12b0 : ((wrap64 (rd l0 x1_1)) == 0) = true := beq_iff_eq.mpr c12
              have c12b1 : ((wrap64 (rd l0 x1_1)) != 0) = false := bne_eq_false_iff_eq.mpr c12
              clear c12
              obtain rfl := Option.some.inj H
              have p220 : 0 ≤ (x1_1 : Int) := of_decide_eq_true (by first | (with_reducible assumption) | assumption)
              have q220 : x1_1 < (l0.length : Int) := of_decide_eq_true (by first | (with_reducible assumption) | assumption)
              obtain ⟨ad220, e220, hx220_0⟩ := Kd.at_int HR0.out x1_1 p220 q220
              cases e220
              replace p220 := eq_true p220
              replace q220 := eq_true q220
              go_wp2
              go_ret
              exact ⟨by first | rfl | (simp; done) | (simp [*]; done) | (simp [wrap64]; done), by repeat (first | exact Drawn0.refl _ | apply Drawn0.step)⟩
            · rw [if_neg c12] at H
              have c12b0 : ((wrap64 (rd l0 x1_1)) == 0) = false := beq_eq_false_iff_ne.mpr c12
              have c12b1 : ((wrap64 (rd l0 x1_1)) != 0) = true := bne_iff_ne.mpr c12
              by_cases c13 : (wrap64 (rd l0 x1_1)) > 63
              · rw [if_pos c13] at H
                have c13b0 : decide (63 < (wrap64 (rd l0 x1_1))) = true := decide_eq_true c13
                clear c13
                obtain rfl := Option.some.inj H
                have p220 : 0 ≤ (x1_1 : Int) := of_decide_eq_true (by first | (with_reducible assumption) | assumption)
                have q220 : x1_1 < (l0.length : Int) := of_decide_eq_true (by first | (with_reducible assumption) | assumption)
                obtain ⟨ad220, e220, hx220_0⟩ := Kd.at_int HR0.out x1_1 p220 q220
                cases e220
                replace p220 := eq_true p220
                replace q220 := eq_true q220
                go_wp2
                go_ret
                exact ⟨by first | rfl | (simp; done) | (simp [*]; done) | (simp [wrap64]; done), by repeat (first | exact Drawn0.refl _ | apply Drawn0.step)⟩
              · rw [if_neg c13] at H
                have c13b0 : decide (63 < (wrap64 (rd l0 x1_1))) = false := decide_eq_false c13
                clear c13
                have H' := Aside0.mk H
                clear H
                have p220 : 0 ≤ (x1_1 : Int) := of_decide_eq_true (by first | (with_reducible assumption) | assumption)
                have q220 : x1_1 < (l0.length : Int) := of_decide_eq_true (by first | (with_reducible assumption) | assumption)
                obtain ⟨ad220, e220, hx220_0⟩ := Kd.at_int HR0.out x1_1 p220 q220
                cases e220
                replace p220 := eq_true p220
                replace q220 := eq_true q220
                go_wp2
                go_roundg k1
                case measure => have := HK1.out; omega
                case rel => exact ⟨(wrap64 (x1_1 + (wrap64 (1 + (wrap64 (rd l0 x1_1)))))), (x5_1), (x6_1), (by first | rfl | (simp; done) | (simp [*]; done) | (simp [wrap64]; done)), (by first | rfl | (simp; done) | (simp [*]; done) | (simp [wrap64]; done)), (by first | rfl | (simp; done) | (simp [*]; done) | (simp [wrap64]; done)), H', ⟨by have := HK1.out; omega⟩, by repeat (first | exact Drawn0.refl _ | apply Drawn0.step)⟩
        · rw [if_neg c4] at H
          exact absurd H (by simp)
      · rw [if_neg c3] at H
        have c3b0 : decide (x1_1 < (l0.length : Int)) = false := decide_eq_false c3
        clear c3
        obtain rfl := Option.some.inj H
        go_wp2
        go_ret
        exact ⟨by first | rfl | (simp; done) | (simp [*]; done) | (simp [wrap64]; done), by repeat (first | exact Drawn0.refl _ | apply Drawn0.step)⟩

end Go.Proofs.YtiilihafcdmccaaDoor.P
-- Written by a program of this session (wip/tools/pprint.py) out of the translation: it goes by the kit's print and by the contracts of YtiilihafcdmccaaDoorHand. Not trusted: Lean checks it.
namespace Go.Proofs.YtiilihafcdmccaaDoor.P
open Go.RowKit Go.Proofs.YtiilihafcdmccaaDoorW.PrintWords Go.Proofs.YtiilihafcdmccaaDoorW.PrintLast Go.Proofs.YtiilihafcdmccaaDoorW.PrintMore
attribute [local go_sem] max2_int min2_int max_two min_two max_three min_three max_four min_four   -- for this text's walks alone
set_option linter.unusedVariables false
set_option linter.unusedSimpArgs false

/-! ### spec_ReadName: function 15 -/
mutual
def spec_ReadName.l0 : Nat → List Int → Int → List ByteArray → Int → Int → Int → Option (List ByteArray × Int × Bool)
  | 0, _, _, _, _, _, _ => none
  | k + 1, x0, x1, x4, x5, x7, x8 => if x1 < 0 then (spec_ReadName.j1 k x0 x1 x4 x5 x7 x8 true) else (spec_ReadName.j1 k x0 x1 x4 x5 x7 x8 (decide (x1 ≥ (x0.length : Int))))
def spec_ReadName.j1 : Nat → List Int → Int → List ByteArray → Int → Int → Int → Bool → Option (List ByteArray × Int × Bool)
  | 0, _, _, _, _, _, _, _ => none
  | k + 1, x0, x1, x4, x5, x7, x8, x19 => if x19 = true then (some (([] : List ByteArray), 0, false)) else (if 0 ≤ x1 then (if x1 < (x0.length : Int) then (if ((wrap64 (rd x0 x1)) / 64) = 0 then (if (wrap64 (rd x0 x1)) = 0 then (if x5 < 0 then ((spec_Name_Valid.f k x4).bind fun t223 => (some (x4, wrap64 (x1 + 1), t223))) else ((spec_Name_Valid.f k x4).bind fun t224 => (some (x4, x5, t224)))) else (if (wrap64 ((wrap64 (x1 + 1)) + (wrap64 (rd x0 x1)))) > (x0.length : Int) then (some (([] : List ByteArray), 0, false)) else (if 0 ≤ (wrap64 (x1 + 1)) then (if (wrap64 (x1 + 1)) ≤ (wrap64 ((wrap64 (x1 + 1)) + (wrap64 (rd x0 x1)))) then (if (wrap64 ((wrap64 (x1 + 1)) + (wrap64 (rd x0 x1)))) ≤ (x0.length : Int) then (if x4.length < 8796093022208 then ((some (x4 ++ [strOfNums ((x0.take ((wrap64 ((wrap64 (x1 + 1)) + (wrap64 (rd x0 x1)))) : Int).toNat).drop ((wrap64 (x1 + 1)) : Int).toNat)] : List ByteArray)).bind fun y226 => ((spec_Name_Size.f k y226).bind fun t229 => (if t229 > 255 then (some (([] : List ByteArray), 0, false)) else (spec_ReadName.l0 k x0 (wrap64 (x1 + (wrap64 (1 + (wrap64 (rd x0 x1)))))) y226 x5 x7 x8)))) else (none)) else (none)) else (none)) else (none)))) else (if ((wrap64 (rd x0 x1)) / 64) = 3 then (if (wrap64 (x1 + 1)) ≥ (x0.length : Int) then (some (([] : List ByteArray), 0, false)) else (if x5 < 0 then (if 0 ≤ (wrap64 (x1 + 1)) then (if (wrap64 (x1 + 1)) < (x0.length : Int) then (if (Go.bits .or .i64 (wrap64 ((Go.bits .and .i64 (wrap64 (rd x0 x1)) 63) * 256)) (wrap64 (rd x0 (wrap64 (x1 + 1))))) ≥ x7 then (some (([] : List ByteArray), 0, false)) else (if (wrap64 (x8 + 1)) > 126 then (some (([] : List ByteArray), 0, false)) else (spec_ReadName.l0 k x0 (Go.bits .or .i64 (wrap64 ((Go.bits .and .i64 (wrap64 (rd x0 x1)) 63) * 256)) (wrap64 (rd x0 (wrap64 (x1 + 1))))) x4 (wrap64 (x1 + 2)) (Go.bits .or .i64 (wrap64 ((Go.bits .and .i64 (wrap64 (rd x0 x1)) 63) * 256)) (wrap64 (rd x0 (wrap64 (x1 + 1))))) (wrap64 (x8 + 1))))) else (none)) else (none)) else (if 0 ≤ (wrap64 (x1 + 1)) then (if (wrap64 (x1 + 1)) < (x0.length : Int) then (if (Go.bits .or .i64 (wrap64 ((Go.bits .and .i64 (wrap64 (rd x0 x1)) 63) * 256)) (wrap64 (rd x0 (wrap64 (x1 + 1))))) ≥ x7 then (some (([] : List ByteArray), 0, false)) else (if (wrap64 (x8 + 1)) > 126 then (some (([] : List ByteArray), 0, false)) else (spec_ReadName.l0 k x0 (Go.bits .or .i64 (wrap64 ((Go.bits .and .i64 (wrap64 (rd x0 x1)) 63) * 256)) (wrap64 (rd x0 (wrap64 (x1 + 1))))) x4 x5 (Go.bits .or .i64 (wrap64 ((Go.bits .and .i64 (wrap64 (rd x0 x1)) 63) * 256)) (wrap64 (rd x0 (wrap64 (x1 + 1))))) (wrap64 (x8 + 1))))) else (none)) else (none)))) else (some (([] : List ByteArray), 0, false)))) else (none)) else (none))
end
def spec_ReadName.f (k : Nat) (l0 : List Int) (a1 : Int) : Option (List ByteArray × Int × Bool) := spec_ReadName.l0 k l0 a1 ([] : List ByteArray) (-1) a1 0
theorem spec_ReadName.mono_l : ∀ k, (∀ y0 y1 y2 y3 y4 y5, LeO (spec_ReadName.l0 k y0 y1 y2 y3 y4 y5) (spec_ReadName.l0 (k + 1) y0 y1 y2 y3 y4 y5)) ∧ (∀ y0 y1 y2 y3 y4 y5 y6, LeO (spec_ReadName.j1 k y0 y1 y2 y3 y4 y5 y6) (spec_ReadName.j1 (k + 1) y0 y1 y2 y3 y4 y5 y6))
  | 0 => ⟨fun _ _ _ _ _ _ r h => by simp [spec_ReadName.l0] at h, fun _ _ _ _ _ _ _ r h => by simp [spec_ReadName.j1] at h⟩
  | k + 1 => by
    obtain ⟨ih0, ih1⟩ := spec_ReadName.mono_l k
    refine ⟨?_, ?_⟩
    · intro y0 y1 y2 y3 y4 y5
      unfold spec_ReadName.l0
      repeat' first
      | (with_reducible exact ih0 _ _ _ _ _ _)
      | (with_reducible exact ih1 _ _ _ _ _ _ _)
      | (with_reducible exact spec_Name_Size.mono _ _)
      | (with_reducible exact spec_Name_Valid.mono _ _)
      | (with_reducible exact LeO.refl _)
      | (with_reducible exact LeO.none _)
      | (with_reducible refine LeO.ite ?_ ?_)
      | (with_reducible refine LeO.bind ?_ (fun _ => ?_))
      | exact ih0 _ _ _ _ _ _
      | exact ih1 _ _ _ _ _ _ _
      | exact spec_Name_Size.mono _ _
      | exact spec_Name_Valid.mono _ _
      | exact LeO.none _
      | refine LeO.ite ?_ ?_
      | refine LeO.bind ?_ (fun _ => ?_)
    · intro y0 y1 y2 y3 y4 y5 y6
      unfold spec_ReadName.j1
      repeat' first
      | (with_reducible exact ih0 _ _ _ _ _ _)
      | (with_reducible exact ih1 _ _ _ _ _ _ _)
      | (with_reducible exact spec_Name_Size.mono _ _)
      | (with_reducible exact spec_Name_Valid.mono _ _)
      | (with_reducible exact LeO.refl _)
      | (with_reducible exact LeO.none _)
      | (with_reducible refine LeO.ite ?_ ?_)
      | (with_reducible refine LeO.bind ?_ (fun _ => ?_))
      | exact ih0 _ _ _ _ _ _
      | exact ih1 _ _ _ _ _ _ _
      | exact spec_Name_Size.mono _ _
      | exact spec_Name_Valid.mono _ _
      | exact LeO.none _
      | refine LeO.ite ?_ ?_
      | refine LeO.bind ?_ (fun _ => ?_)
theorem spec_ReadName.mono : ∀ a0 a1 k, LeO (spec_ReadName.f k a0 a1) (spec_ReadName.f (k + 1) a0 a1) := by
  intro a0 a1 k
  obtain ⟨ih0, ih1⟩ := spec_ReadName.mono_l k
  unfold spec_ReadName.f
  repeat' first
      | (with_reducible exact ih0 _ _ _ _ _ _)
      | (with_reducible exact ih1 _ _ _ _ _ _ _)
      | (with_reducible exact spec_Name_Size.mono _ _)
      | (with_reducible exact spec_Name_Valid.mono _ _)
      | (with_reducible exact LeO.refl _)
      | (with_reducible exact LeO.none _)
      | (with_reducible refine LeO.ite ?_ ?_)
      | (with_reducible refine LeO.bind ?_ (fun _ => ?_))
      | exact ih0 _ _ _ _ _ _
      | exact ih1 _ _ _ _ _ _ _
      | exact spec_Name_Size.mono _ _
      | exact spec_Name_Valid.mono _ _
      | exact LeO.none _
      | refine LeO.ite ?_ ?_
      | refine LeO.bind ?_ (fun _ => ?_)
set_option maxHeartbeats 8000000 in
set_option maxRecDepth 100000 in
theorem spec_ReadName.calls (k : Nat) (A0 : Option Addr) (c0 : Nat) (l0 : List Int) (a1 : Int) (r1 : List ByteArray) (r2 : Int) (r3 : Bool) (w : World) (hr0 : Kd.C (Kd.int .u8) w A0 l0.length l0) (hc0 : l0.length ≤ c0) (h : spec_ReadName.f k l0 a1 = some (r1, r2, r3)) :
    Calls Tryd.prog 15 #[.slice A0 l0.length c0, .int .i64 a1] w fun e w' => ∃ v0_ : Value, e = .returned (.tuple #[v0_, .int .i64 r2, .bool r3]) ∧ Kd.R Kd.string 9 w' w.heap.size (fun _ => True) v0_ r1 ∧ Below w.heap.size w w' := by
  have HR0 := Aside0.mk hr0
  have HC0 := Aside0.mk hc0
  clear hr0 hc0
  have HB := Aside0.mk (Below.refl w.heap.size w)
  have H : (spec_ReadName.l0 k l0 a1 ([] : List ByteArray) (-1) a1 0) = some (r1, r2, r3) := h
  clear h
  have H' := Aside0.mk H
  clear H
  go_enter Tryd.func15, Tryd.ntmps15
  go_wp2
  go_loopg [1, 4, 5, 7, 8] k (fun kq v1 v4 v5 v7 v8 w' => ∃ (x1_1 : Int) (x4_1 : List ByteArray) (x5_1 : Int) (x7_1 : Int) (x8_1 : Int), v1 = .int .i64 x1_1 ∧ v5 = .int .i64 x5_1 ∧ v7 = .int .i64 x7_1 ∧ v8 = .int .i64 x8_1 ∧ Aside0 (spec_ReadName.l0 kq l0 x1_1 x4_1 x5_1 x7_1 x8_1 = some (r1, r2, r3)) ∧ Aside0 (kq ≤ k) ∧ Aside0 (Kd.R Kd.string 9 w' w.heap.size (fun _ => True) v4 x4_1) ∧ Aside0 (Below w.heap.size w w'))
  case atStart => exact ⟨(a1), (([] : List ByteArray)), ((-1)), (a1), (0), (by first | rfl | (simp; done) | (simp [*]; done) | (simp [wrap64]; done)), (by first | rfl | (simp; done) | (simp [*]; done) | (simp [wrap64]; done)), (by first | rfl | (simp; done) | (simp [*]; done) | (simp [wrap64]; done)), (by first | rfl | (simp; done) | (simp [*]; done) | (simp [wrap64]; done)), H', ⟨Nat.le_refl _⟩, ⟨by first | exact Kd.R_nil _ _ _ _ _ | exact Kd.N_nil _ _ _ _ _ | exact Kd.V_nil _ _ _ _ _ | exact Kd.Q_nil _ _ _ _ _ | exact Kd.S_nil _ _ _ _ _⟩, ⟨by repeat (first | (with_reducible first | exact HB.out | apply below_alloc | apply pw_below_drewN | apply below_drew1) | exact HB.out)⟩⟩
  case round =>
    clear H'
    try clear c1
    try clear p2
    obtain ⟨x1_1, x4_1, x5_1, x7_1, x8_1, rfl, rfl, rfl, rfl, HA, HK1, HO_4, HB⟩ := hrel
    cases gk with
    | zero => exact absurd HA.out (by simp [spec_ReadName.l0])
    | succ k1 =>
      have H := HA.out
      clear HA
      simp only [spec_ReadName.l0] at H
      have HC3 := Aside0.mk H
      clear H
      go_upto_region 3 with (fail)
      go_cut [19] (fun v19 wc => ∃ (kq : Nat) (x19_2 : Bool), v19 = .bool x19_2 ∧ Aside0 (spec_ReadName.j1 kq l0 x1_1 x4_1 x5_1 x7_1 x8_1 x19_2 = some (r1, r2, r3)) ∧ Aside0 (kq ≤ k1) ∧ Aside0 (Kd.R Kd.string 9 wc w.heap.size (fun _ => True) u4 x4_1) ∧ Aside0 (Below w.heap.size w wc))
      case first =>
        have H := HC3.out
        clear HC3
        by_cases c4 : x1_1 < 0
        · rw [if_pos c4] at H
          have c4b0 : decide (x1_1 < 0) = true := decide_eq_true c4
          clear c4
          (first | rw [c4b0] | (simp only [i64_w, i32_w]; rw [c4b0]) | skip)
          have H' := Aside0.mk H
          clear H
          go_wp2
          go_meet
          case rel => exact ⟨_, (true), (by first | rfl | (simp; done) | (simp [*]; done) | (simp [wrap64]; done)), H', ⟨by have := HK1.out; first | omega | exact Nat.le_refl _⟩, ⟨by (with_reducible repeat (first | apply Kd.R_alloc | apply Kd.R_drewN | apply Kd.R_drew)); exact HO_4.out⟩, ⟨by repeat (first | (with_reducible first | exact HB.out | apply below_alloc | apply pw_below_drewN | apply below_drew1) | exact HB.out)⟩⟩
        · rw [if_neg c4] at H
          have c4b0 : decide (x1_1 < 0) = false := decide_eq_false c4
          clear c4
          (first | rw [c4b0] | (simp only [i64_w, i32_w]; rw [c4b0]) | skip)
          have H' := Aside0.mk H
          clear H
          go_wp2
          go_meet
          case rel => exact ⟨_, (decide (x1_1 ≥ (l0.length : Int))), (by first | rfl | (simp; done) | (simp [*]; done) | (simp [wrap64]; done)), H', ⟨by have := HK1.out; first | omega | exact Nat.le_refl _⟩, ⟨by (with_reducible repeat (first | apply Kd.R_alloc | apply Kd.R_drewN | apply Kd.R_drew)); exact HO_4.out⟩, ⟨by repeat (first | (with_reducible first | exact HB.out | apply below_alloc | apply pw_below_drewN | apply below_drew1) | exact HB.out)⟩⟩
      case rest =>
        clear HC3
        try clear c1
        try clear p2
        try clear c4
        try clear c4b0
        try clear p2
        obtain ⟨kq, x19_2, rfl, HA, HJ2, HO_4, HB⟩ := hcut
        cases kq with
        | zero => exact absurd HA.out (by simp [spec_ReadName.j1])
        | succ kj2 =>
          have H := HA.out
          clear HA
          simp only [spec_ReadName.j1] at H
          by_cases c5 : x19_2 = true
          · subst c5
            have H1 : (some (([] : List ByteArray), 0, false)) = some (r1, r2, r3) := by rw [if_pos rfl] at H; exact H
            clear H
            have H := H1
            clear H1
            simp only [Option.some.injEq, Prod.mk.injEq] at H
            obtain ⟨rfl, rfl, rfl⟩ := H
            go_wp2
            go_ret3
            exact ⟨_, by first | rfl | (simp [errW_none, errW_some] <;> rfl) | (simp [*, errW_none, errW_some] <;> rfl), by first | exact Kd.R_nil _ _ _ _ _ | exact Kd.N_nil _ _ _ _ _ | exact Kd.V_nil _ _ _ _ _ | exact Kd.Q_nil _ _ _ _ _ | exact Kd.S_nil _ _ _ _ _, by repeat (first | (with_reducible first | exact HB.out | apply below_alloc | apply pw_below_drewN | apply below_drew1) | exact HB.out)⟩
          · replace c5 := Bool.eq_false_iff.mpr c5
            subst c5
            have H1 : (if 0 ≤ x1_1 then (if x1_1 < (l0.length : Int) then (if ((wrap64 (rd l0 x1_1)) / 64) = 0 then (if (wrap64 (rd l0 x1_1)) = 0 then (if x5_1 < 0 then ((spec_Name_Valid.f kj2 x4_1).bind fun t223 => (some (x4_1, wrap64 (x1_1 + 1), t223))) else ((spec_Name_Valid.f kj2 x4_1).bind fun t224 => (some (x4_1, x5_1, t224)))) else (if (wrap64 ((wrap64 (x1_1 + 1)) + (wrap64 (rd l0 x1_1)))) > (l0.length : Int) then (some (([] : List ByteArray), 0, false)) else (if 0 ≤ (wrap64 (x1_1 + 1)) then (if (wrap64 (x1_1 + 1)) ≤ (wrap64 ((wrap64 (x1_1 + 1)) + (wrap64 (rd l0 x1_1)))) then (if (wrap64 ((wrap64 (x1_1 + 1)) + (wrap64 (rd l0 x1_1)))) ≤ (l0.length : Int) then (if x4_1.length < 8796093022208 then ((some (x4_1 ++ [strOfNums ((l0.take ((wrap64 ((wrap64 (x1_1 + 1)) + (wrap64 (rd l0 x1_1)))) : Int).toNat).drop ((wrap64 (x1_1 + 1)) : Int).toNat)] : List ByteArray)).bind fun y226 => ((spec_Name_Size.f kj2 y226).bind fun t229 => (if t229 > 255 then (some (([] : List ByteArray), 0, false)) else (spec_ReadName.l0 kj2 l0 (wrap64 (x1_1 + (wrap64 (1 + (wrap64 (rd l0 x1_1)))))) y226 x5_1 x7_1 x8_1)))) else (none)) else (none)) else (none)) else (none)))) else (if ((wrap64 (rd l0 x1_1)) / 64) = 3 then (if (wrap64 (x1_1 + 1)) ≥ (l0.length : Int) then (some (([] : List ByteArray), 0, false)) else (if x5_1 < 0 then (if 0 ≤ (wrap64 (x1_1 + 1)) then (if (wrap64 (x1_1 + 1)) < (l0.length : Int) then (if (Go.bits .or .i64 (wrap64 ((Go.bits .and .i64 (wrap64 (rd l0 x1_1)) 63) * 256)) (wrap64 (rd l0 (wrap64 (x1_1 + 1))))) ≥ x7_1 then (some (([] : List ByteArray), 0, false)) else (if (wrap64 (x8_1 + 1)) > 126 then (some (([] : List ByteArray), 0, false)) else (spec_ReadName.l0 kj2 l0 (Go.bits .or .i64 (wrap64 ((Go.bits .and .i64 (wrap64 (rd l0 x1_1)) 63) * 256)) (wrap64 (rd l0 (wrap64 (x1_1 + 1))))) x4_1 (wrap64 (x1_1 + 2)) (Go.bits .or .i64 (wrap64 ((Go.bits .and .i64 (wrap64 (rd l0 x1_1)) 63) * 256)) (wrap64 (rd l0 (wrap64 (x1_1 + 1))))) (wrap64 (x8_1 + 1))))) else (none)) else (none)) else (if 0 ≤ (wrap64 (x1_1 + 1)) then (if (wrap64 (x1_1 + 1)) < (l0.length : Int) then (if (Go.bits .or .i64 (wrap64 ((Go.bits .and .i64 (wrap64 (rd l0 x1_1)) 63) * 256)) (wrap64 (rd l0 (wrap64 (x1_1 + 1))))) ≥ x7_1 then (some (([] : List ByteArray), 0, false)) else (if (wrap64 (x8_1 + 1)) > 126 then (some (([] : List ByteArray), 0, false)) else (spec_ReadName.l0 kj2 l0 (Go.bits .or .i64 (wrap64 ((Go.bits .and .i64 (wrap64 (rd l0 x1_1)) 63) * 256)) (wrap64 (rd l0 (wrap64 (x1_1 + 1))))) x4_1 x5_1 (Go.bits .or .i64 (wrap64 ((Go.bits .and .i64 (wrap64 (rd l0 x1_1)) 63) * 256)) (wrap64 (rd l0 (wrap64 (x1_1 + 1))))) (wrap64 (x8_1 + 1))))) else (none)) else (none)))) else (some (([] : List ByteArray), 0, false)))) else (none)) else (none)) = some (r1, r2, r3) := by rw [if_neg (show ¬ (false = true) by decide)] at H; exact H
            clear H
            have H := H1
            clear H1
            by_cases c6 : 0 ≤ x1_1
            · rw [if_pos c6] at H
              have c6b0 : decide (0 ≤ x1_1) = true := decide_eq_true c6
              clear c6
              by_cases c7 : x1_1 < (l0.length : Int)
              · rw [if_pos c7] at H
                have c7b0 : decide (x1_1 < (l0.length : Int)) = true := decide_eq_true c7
                clear c7
                by_cases c8 : ((wrap64 (rd l0 x1_1)) / 64) = 0
                · rw [if_pos c8] at H
                  have c8b0 : (((wrap64 (rd l0 x1_1)) / 64) == 0) = true := beq_iff_eq.mpr c8
                  have c8b1 : (((wrap64 (rd l0 x1_1)) / 64) != 0) = false := bne_eq_false_iff_eq.mpr c8
                  clear c8
                  by_cases c9 : (wrap64 (rd l0 x1_1)) = 0
                  · rw [if_pos c9] at H
                    have c9b0 : ((wrap64 (rd l0 x1_1)) == 0) = true := beq_iff_eq.mpr c9
                    have c9b1 : ((wrap64 (rd l0 x1_1)) != 0) = false := bne_eq_false_iff_eq.mpr c9
                    clear c9
                    by_cases c10 : x5_1 < 0
                    · rw [if_pos c10] at H
                      have c10b0 : decide (x5_1 < 0) = true := decide_eq_true c10
                      clear c10
                      replace H := Option.bind_eq_some_iff.mp H
                      obtain ⟨t223, A110, H⟩ := H
                      replace H : (some (x4_1, wrap64 (x1_1 + 1), t223)) = some (r1, r2, r3) := H
                      have A11 := Aside0.mk A110
                      clear A110
                      simp only [Option.some.injEq, Prod.mk.injEq] at H
                      obtain ⟨rfl, rfl, rfl⟩ := H
                      have p222 : 0 ≤ (x1_1 : Int) := of_decide_eq_true (by first | (with_reducible assumption) | assumption)
                      have q222 : x1_1 < (l0.length : Int) := of_decide_eq_true (by first | (with_reducible assumption) | assumption)
                      obtain ⟨ad222, e222, hx222_0⟩ := Kd.at_int HR0.out x1_1 p222 q222
                      cases e222
                      replace hx222_0 := (HB.out.cell (World.block_lt_of_cell? w _ hx222_0)).trans hx222_0
                      replace p222 := eq_true p222
                      replace q222 := eq_true q222
                      obtain ⟨Ao12, co12, eo12⟩ := Kd.R_slice HO_4.out
                      subst eo12
                      go_wp2_with (first | ((with_reducible refine gate_callee (f := 47) rfl ?_); refine goesL_ (some 38) rfl rfl Tryd.func47 (by kernel_rfl) rfl #[.slice Ao12 x4_1.length co12] rfl (by (try simp only [List.map_toArray, List.map_cons, List.map_nil]); first | done | rfl | (simp only [List.length_drop, List.length_take]; rfl)) ?_; (with_reducible refine (spec_Name_Valid.calls kj2 _ _ x4_1 t223 _ ?side1 ?side2 A11.out).mono ?_); (case side1 => repeat (first | exact (Kd.R_reads' HO_4.out).2.2 | (with_reducible refine Kd.C_alloc ?_ _) | (with_reducible refine Kd.C_drewN ?_ _) | (with_reducible refine Kd.C_drew ?_))); (case side2 => exact (Kd.R_reads' HO_4.out).2.1); rintro e w' ⟨rfl, ⟨nd, rfl⟩⟩; refine ⟨_, rfl, ?_⟩))
                      go_ret3
                      exact ⟨_, by first | rfl | (simp [errW_none, errW_some] <;> rfl) | (simp [*, errW_none, errW_some] <;> rfl), by (with_reducible repeat (first | apply Kd.R_alloc | apply Kd.R_drewN | apply Kd.R_drew)); exact HO_4.out, by repeat (first | (with_reducible first | exact HB.out | apply below_alloc | apply pw_below_drewN | apply below_drew1) | exact HB.out)⟩
                    · rw [if_neg c10] at H
                      have c10b0 : decide (x5_1 < 0) = false := decide_eq_false c10
                      clear c10
                      replace H := Option.bind_eq_some_iff.mp H
                      obtain ⟨t224, A130, H⟩ := H
                      replace H : (some (x4_1, x5_1, t224)) = some (r1, r2, r3) := H
                      have A13 := Aside0.mk A130
                      clear A130
                      simp only [Option.some.injEq, Prod.mk.injEq] at H
                      obtain ⟨rfl, rfl, rfl⟩ := H
                      have p222 : 0 ≤ (x1_1 : Int) := of_decide_eq_true (by first | (with_reducible assumption) | assumption)
                      have q222 : x1_1 < (l0.length : Int) := of_decide_eq_true (by first | (with_reducible assumption) | assumption)
                      obtain ⟨ad222, e222, hx222_0⟩ := Kd.at_int HR0.out x1_1 p222 q222
                      cases e222
                      replace hx222_0 := (HB.out.cell (World.block_lt_of_cell? w _ hx222_0)).trans hx222_0
                      replace p222 := eq_true p222
                      replace q222 := eq_true q222
                      obtain ⟨Ao14, co14, eo14⟩ := Kd.R_slice HO_4.out
                      subst eo14
                      go_wp2_with (first | ((with_reducible refine gate_callee (f := 47) rfl ?_); refine goesL_ (some 38) rfl rfl Tryd.func47 (by kernel_rfl) rfl #[.slice Ao14 x4_1.length co14] rfl (by (try simp only [List.map_toArray, List.map_cons, List.map_nil]); first | done | rfl | (simp only [List.length_drop, List.length_take]; rfl)) ?_; (with_reducible refine (spec_Name_Valid.calls kj2 _ _ x4_1 t224 _ ?side1 ?side2 A13.out).mono ?_); (case side1 => repeat (first | exact (Kd.R_reads' HO_4.out).2.2 | (with_reducible refine Kd.C_alloc ?_ _) | (with_reducible refine Kd.C_drewN ?_ _) | (with_reducible refine Kd.C_drew ?_))); (case side2 => exact (Kd.R_reads' HO_4.out).2.1); rintro e w' ⟨rfl, ⟨nd, rfl⟩⟩; refine ⟨_, rfl, ?_⟩))
                      go_ret3
                      exact ⟨_, by first | rfl | (simp [errW_none, errW_some] <;> rfl) | (simp [*, errW_none, errW_some] <;> rfl), by (with_reducible repeat (first | apply Kd.R_alloc | apply Kd.R_drewN | apply Kd.R_drew)); exact HO_4.out, by repeat (first | (with_reducible first | exact HB.out | apply below_alloc | apply pw_below_drewN | apply below_drew1) | exact HB.out)⟩
                  · rw [if_neg c9] at H
                    have c9b0 : ((wrap64 (rd l0 x1_1)) == 0) = false := beq_eq_false_iff_ne.mpr c9
                    have c9b1 : ((wrap64 (rd l0 x1_1)) != 0) = true := bne_iff_ne.mpr c9
                    by_cases c15 : (wrap64 ((wrap64 (x1_1 + 1)) + (wrap64 (rd l0 x1_1)))) > (l0.length : Int)
                    · rw [if_pos c15] at H
                      have c15b0 : decide ((l0.length : Int) < (wrap64 ((wrap64 (x1_1 + 1)) + (wrap64 (rd l0 x1_1))))) = true := decide_eq_true c15
                      clear c15
                      simp only [Option.some.injEq, Prod.mk.injEq] at H
                      obtain ⟨rfl, rfl, rfl⟩ := H
                      have p222 : 0 ≤ (x1_1 : Int) := of_decide_eq_true (by first | (with_reducible assumption) | assumption)
                      have q222 : x1_1 < (l0.length : Int) := of_decide_eq_true (by first | (with_reducible assumption) | assumption)
                      obtain ⟨ad222, e222, hx222_0⟩ := Kd.at_int HR0.out x1_1 p222 q222
                      cases e222
                      replace hx222_0 := (HB.out.cell (World.block_lt_of_cell? w _ hx222_0)).trans hx222_0
                      replace p222 := eq_true p222
                      replace q222 := eq_true q222
                      go_wp2
                      go_ret3
                      exact ⟨_, by first | rfl | (simp [errW_none, errW_some] <;> rfl) | (simp [*, errW_none, errW_some] <;> rfl), by first | exact Kd.R_nil _ _ _ _ _ | exact Kd.N_nil _ _ _ _ _ | exact Kd.V_nil _ _ _ _ _ | exact Kd.Q_nil _ _ _ _ _ | exact Kd.S_nil _ _ _ _ _, by repeat (first | (with_reducible first | exact HB.out | apply below_alloc | apply pw_below_drewN | apply below_drew1) | exact HB.out)⟩
                    · rw [if_neg c15] at H
                      have c15b0 : decide ((l0.length : Int) < (wrap64 ((wrap64 (x1_1 + 1)) + (wrap64 (rd l0 x1_1))))) = false := decide_eq_false c15
                      clear c15
                      obtain ⟨ji16, hji16⟩ : ∃ j_ : Int, (wrap64 (x1_1 + 1)) = j_ := ⟨_, rfl⟩
                      replace H : (if 0 ≤ (ji16) then (if (ji16) ≤ (wrap64 ((ji16) + (wrap64 (rd l0 x1_1)))) then (if (wrap64 ((ji16) + (wrap64 (rd l0 x1_1)))) ≤ (l0.length : Int) then (if x4_1.length < 8796093022208 then ((some (x4_1 ++ [strOfNums ((l0.take ((wrap64 ((ji16) + (wrap64 (rd l0 x1_1)))) : Int).toNat).drop ((ji16) : Int).toNat)] : List ByteArray)).bind fun y226 => ((spec_Name_Size.f kj2 y226).bind fun t229 => (if t229 > 255 then (some (([] : List ByteArray), 0, false)) else (spec_ReadName.l0 kj2 l0 (wrap64 (x1_1 + (wrap64 (1 + (wrap64 (rd l0 x1_1)))))) y226 x5_1 x7_1 x8_1)))) else (none)) else (none)) else (none)) else (none)) = some (r1, r2, r3) := by first | (rw [hji16] at H; exact H) | (simp only [hji16] at H ⊢; exact H)
                      (try rw [hji16] at c15b0)
                      have hji16w : (IntKind.i64.wrap (x1_1 + 1)) = ji16 := (i64_w _).trans hji16
                      by_cases c17 : 0 ≤ (ji16)
                      · rw [if_pos c17] at H
                        have c17b0 := eq_true c17
                        have c17b1 : decide (0 ≤ (ji16)) = true := decide_eq_true c17
                        clear c17
                        by_cases c18 : (ji16) ≤ (wrap64 ((ji16) + (wrap64 (rd l0 x1_1))))
                        · rw [if_pos c18] at H
                          have c18b0 := eq_true c18
                          have c18b1 : decide ((ji16) ≤ (wrap64 ((ji16) + (wrap64 (rd l0 x1_1))))) = true := decide_eq_true c18
                          by_cases c19 : (wrap64 ((ji16) + (wrap64 (rd l0 x1_1)))) ≤ (l0.length : Int)
                          · rw [if_pos c19] at H
                            have c19b0 := eq_true c19
                            have c19b1 : decide ((wrap64 ((ji16) + (wrap64 (rd l0 x1_1)))) ≤ (l0.length : Int)) = true := decide_eq_true c19
                            by_cases c20 : x4_1.length < 8796093022208
                            · rw [if_pos c20] at H
                              have LMc20 := Aside0.mk c20
                              clear c20
                              obtain ⟨y226, hy226⟩ : ∃ y_ : List ByteArray, y_ = (x4_1 ++ [strOfNums ((l0.take ((wrap64 ((ji16) + (wrap64 (rd l0 x1_1)))) : Int).toNat).drop ((ji16) : Int).toNat)]) := ⟨_, rfl⟩
                              replace H : ((spec_Name_Size.f kj2 y226).bind fun t229 => (if t229 > 255 then (some (([] : List ByteArray), 0, false)) else (spec_ReadName.l0 kj2 l0 (wrap64 (x1_1 + (wrap64 (1 + (wrap64 (rd l0 x1_1)))))) y226 x5_1 x7_1 x8_1))) = some (r1, r2, r3) := by first | (rw [hy226]; with_reducible exact H) | (have H2_ := (Option.bind_some _ _).symm.trans H; rw [hy226]; with_reducible exact H2_) | (have H2_ := (Option.bind_some _ _).symm.trans H; with_reducible exact H2_) | with_reducible exact H | (rw [hy226]; exact H) | exact H
                              have Ny226 := Aside0.mk hy226
                              clear hy226
                              replace H := Option.bind_eq_some_iff.mp H
                              obtain ⟨t229, A210, H⟩ := H
                              replace H : (if t229 > 255 then (some (([] : List ByteArray), 0, false)) else (spec_ReadName.l0 kj2 l0 (wrap64 (x1_1 + (wrap64 (1 + (wrap64 (rd l0 x1_1)))))) y226 x5_1 x7_1 x8_1)) = some (r1, r2, r3) := H
                              have A21 := Aside0.mk A210
                              clear A210
                              by_cases c22 : t229 > 255
                              · rw [if_pos c22] at H
                                have c22b0 : decide (255 < t229) = true := decide_eq_true c22
                                clear c22
                                simp only [Option.some.injEq, Prod.mk.injEq] at H
                                obtain ⟨rfl, rfl, rfl⟩ := H
                                have p222 : 0 ≤ (x1_1 : Int) := of_decide_eq_true (by first | (with_reducible assumption) | assumption)
                                have q222 : x1_1 < (l0.length : Int) := of_decide_eq_true (by first | (with_reducible assumption) | assumption)
                                obtain ⟨ad222, e222, hx222_0⟩ := Kd.at_int HR0.out x1_1 p222 q222
                                cases e222
                                replace hx222_0 := (HB.out.cell (World.block_lt_of_cell? w _ hx222_0)).trans hx222_0
                                replace p222 := eq_true p222
                                replace q222 := eq_true q222
                                obtain ⟨i023, hi023, _, hsz23, _⟩ := info_parts info5
                                obtain ⟨A23, hcut23, hA23, hC23⟩ := print_mid_of (P := Tryd.prog) (Value.int .u8) 0 22 5 .i64 .i64 Tryd.underlying22 hi023 hsz23 (some ad222) c0 l0 (ji16) (wrap64 ((ji16) + (wrap64 (rd l0 x1_1)))) (of_decide_eq_true (by first | (with_reducible assumption) | assumption)) (by first | omega | exact of_decide_eq_true (by first | (with_reducible assumption) | assumption)) (of_decide_eq_true (by first | (with_reducible assumption) | assumption)) HC0.out
                                have HR225 := Aside0.mk (Kd.C_of_reads (h1 := fun _ => rfl) (hA23 _ (Kd.reads_of_C HR0.out)))
                                have HC225 := Aside0.mk hC23
                                clear hA23 hC23 hi023 hsz23
                                have hcv24 := Kd.C_string (P := Tryd.prog) (A := A23) (c := (c0 - (ji16).toNat)) Tryd.underlying22 Tryd.underlying5 Tryd.underlying9 (Kd.C_below HR225.out HB.out)
                                have hcv24b := hcv24
                                rw [show ((l0.take ((wrap64 ((ji16) + (wrap64 (rd l0 x1_1)))) : Int).toNat).drop ((ji16) : Int).toNat).length = ((wrap64 ((ji16) + (wrap64 (rd l0 x1_1)))) : Int).toNat - ((ji16) : Int).toNat from by rw [List.length_drop, List.length_take, Nat.min_eq_left (by have h_ := of_eq_true c19b0; omega)]] at hcv24b
                                go_wp2_with (first | ((with_reducible refine gate_builtin (b := .append) (xs := #[.tmp 46, .tmp 56]) rfl ?_); (try (refine gate_guard (by rfl) ?_; dsimp only)); at_builtin; refine Kd.R_append Kd.string (w0 := w) w.heap.size rfl (.tmp 46) (.tmp 56) 25 9 (.string ⟨#[]⟩) 16 rfl Tryd.underlying25 info9 rfl (by decide) (by omega) u4 x4_1 (strOfNums ((l0.take ((wrap64 ((ji16) + (wrap64 (rd l0 x1_1)))) : Int).toNat).drop ((ji16) : Int).toNat)) [.string (strOfNums ((l0.take ((wrap64 ((ji16) + (wrap64 (rd l0 x1_1)))) : Int).toNat).drop ((ji16) : Int).toNat))] (fun _ => True) (fun _ => False) rfl rfl ?aP (fun _ hk => hk.elim) ?aF ?aO ?aB ?aS ?aL ?_; (case aP => exact rfl); (case aB => exact (by repeat (first | (with_reducible first | exact HB.out | apply below_alloc | apply pw_below_drewN | apply below_drew1) | exact HB.out))); (case aF => exact (fun _ _ => trivial)); (case aO => exact (by (with_reducible repeat (first | apply Kd.R_alloc | apply Kd.R_drewN | apply Kd.R_drew)); exact HO_4.out)); (case aS => exact (below_size (by repeat (first | (with_reducible first | exact HB.out | apply below_alloc | apply pw_below_drewN | apply below_drew1) | exact HB.out)))); (case aL => have := LMc20.out; omega); intro v227 w25 ho hb hg hat; rw [← Ny226.out] at ho; have n0_ := Aside0.mk (hb); have n1_ := Aside0.mk (ho); clear HB; clear HO_4; have HB := n0_; have HO228 := n1_; clear n0_ n1_; clear ho hb hg hat; obtain ⟨Ao26, co26, eo26⟩ := Kd.R_slice HO228.out; subst eo26) | ((with_reducible refine gate_callee (f := 24) rfl ?_); refine goesL_ (some 63) rfl rfl Tryd.func24 (by kernel_rfl) rfl #[.slice Ao26 y226.length co26] rfl (by (try simp only [List.map_toArray, List.map_cons, List.map_nil]); first | done | rfl | (simp only [List.length_drop, List.length_take]; rfl)) ?_; (with_reducible refine (spec_Name_Size.calls kj2 _ _ y226 t229 _ ?side1 ?side2 A21.out).mono ?_); (case side1 => repeat (first | exact (Kd.R_reads' HO228.out).2.2 | (with_reducible refine Kd.C_alloc ?_ _) | (with_reducible refine Kd.C_drewN ?_ _) | (with_reducible refine Kd.C_drew ?_))); (case side2 => exact (Kd.R_reads' HO228.out).2.1); rintro e w' ⟨rfl, ⟨nd, rfl⟩⟩; refine ⟨_, rfl, ?_⟩))
                                go_ret3
                                exact ⟨_, by first | rfl | (simp [errW_none, errW_some] <;> rfl) | (simp only [← hji16]; first | rfl | (simp [errW_none, errW_some] <;> rfl)) | (simp [*, errW_none, errW_some] <;> rfl), by first | exact Kd.R_nil _ _ _ _ _ | exact Kd.N_nil _ _ _ _ _ | exact Kd.V_nil _ _ _ _ _ | exact Kd.Q_nil _ _ _ _ _ | exact Kd.S_nil _ _ _ _ _, by repeat (first | (with_reducible first | exact HB.out | apply below_alloc | apply pw_below_drewN | apply below_drew1) | exact HB.out)⟩
                              · rw [if_neg c22] at H
                                have c22b0 : decide (255 < t229) = false := decide_eq_false c22
                                clear c22
                                have H' := Aside0.mk H
                                clear H
                                have p222 : 0 ≤ (x1_1 : Int) := of_decide_eq_true (by first | (with_reducible assumption) | assumption)
                                have q222 : x1_1 < (l0.length : Int) := of_decide_eq_true (by first | (with_reducible assumption) | assumption)
                                obtain ⟨ad222, e222, hx222_0⟩ := Kd.at_int HR0.out x1_1 p222 q222
                                cases e222
                                replace hx222_0 := (HB.out.cell (World.block_lt_of_cell? w _ hx222_0)).trans hx222_0
                                replace p222 := eq_true p222
                                replace q222 := eq_true q222
                                obtain ⟨i027, hi027, _, hsz27, _⟩ := info_parts info5
                                obtain ⟨A27, hcut27, hA27, hC27⟩ := print_mid_of (P := Tryd.prog) (Value.int .u8) 0 22 5 .i64 .i64 Tryd.underlying22 hi027 hsz27 (some ad222) c0 l0 (ji16) (wrap64 ((ji16) + (wrap64 (rd l0 x1_1)))) (of_decide_eq_true (by first | (with_reducible assumption) | assumption)) (by first | omega | exact of_decide_eq_true (by first | (with_reducible assumption) | assumption)) (of_decide_eq_true (by first | (with_reducible assumption) | assumption)) HC0.out
                                have HR225 := Aside0.mk (Kd.C_of_reads (h1 := fun _ => rfl) (hA27 _ (Kd.reads_of_C HR0.out)))
                                have HC225 := Aside0.mk hC27
                                clear hA27 hC27 hi027 hsz27
                                have hcv28 := Kd.C_string (P := Tryd.prog) (A := A27) (c := (c0 - (ji16).toNat)) Tryd.underlying22 Tryd.underlying5 Tryd.underlying9 (Kd.C_below HR225.out HB.out)
                                have hcv28b := hcv28
                                rw [show ((l0.take ((wrap64 ((ji16) + (wrap64 (rd l0 x1_1)))) : Int).toNat).drop ((ji16) : Int).toNat).length = ((wrap64 ((ji16) + (wrap64 (rd l0 x1_1)))) : Int).toNat - ((ji16) : Int).toNat from by rw [List.length_drop, List.length_take, Nat.min_eq_left (by have h_ := of_eq_true c19b0; omega)]] at hcv28b
                                go_wp2_with (first | ((with_reducible refine gate_builtin (b := .append) (xs := #[.tmp 46, .tmp 56]) rfl ?_); (try (refine gate_guard (by rfl) ?_; dsimp only)); at_builtin; refine Kd.R_append Kd.string (w0 := w) w.heap.size rfl (.tmp 46) (.tmp 56) 25 9 (.string ⟨#[]⟩) 16 rfl Tryd.underlying25 info9 rfl (by decide) (by omega) u4 x4_1 (strOfNums ((l0.take ((wrap64 ((ji16) + (wrap64 (rd l0 x1_1)))) : Int).toNat).drop ((ji16) : Int).toNat)) [.string (strOfNums ((l0.take ((wrap64 ((ji16) + (wrap64 (rd l0 x1_1)))) : Int).toNat).drop ((ji16) : Int).toNat))] (fun _ => True) (fun _ => False) rfl rfl ?aP (fun _ hk => hk.elim) ?aF ?aO ?aB ?aS ?aL ?_; (case aP => exact rfl); (case aB => exact (by repeat (first | (with_reducible first | exact HB.out | apply below_alloc | apply pw_below_drewN | apply below_drew1) | exact HB.out))); (case aF => exact (fun _ _ => trivial)); (case aO => exact (by (with_reducible repeat (first | apply Kd.R_alloc | apply Kd.R_drewN | apply Kd.R_drew)); exact HO_4.out)); (case aS => exact (below_size (by repeat (first | (with_reducible first | exact HB.out | apply below_alloc | apply pw_below_drewN | apply below_drew1) | exact HB.out)))); (case aL => have := LMc20.out; omega); intro v227 w29 ho hb hg hat; rw [← Ny226.out] at ho; have n0_ := Aside0.mk (hb); have n1_ := Aside0.mk (ho); clear HB; clear HO_4; have HB := n0_; have HO228 := n1_; clear n0_ n1_; clear ho hb hg hat; obtain ⟨Ao30, co30, eo30⟩ := Kd.R_slice HO228.out; subst eo30) | ((with_reducible refine gate_callee (f := 24) rfl ?_); refine goesL_ (some 63) rfl rfl Tryd.func24 (by kernel_rfl) rfl #[.slice Ao30 y226.length co30] rfl (by (try simp only [List.map_toArray, List.map_cons, List.map_nil]); first | done | rfl | (simp only [List.length_drop, List.length_take]; rfl)) ?_; (with_reducible refine (spec_Name_Size.calls kj2 _ _ y226 t229 _ ?side1 ?side2 A21.out).mono ?_); (case side1 => repeat (first | exact (Kd.R_reads' HO228.out).2.2 | (with_reducible refine Kd.C_alloc ?_ _) | (with_reducible refine Kd.C_drewN ?_ _) | (with_reducible refine Kd.C_drew ?_))); (case side2 => exact (Kd.R_reads' HO228.out).2.1); rintro e w' ⟨rfl, ⟨nd, rfl⟩⟩; refine ⟨_, rfl, ?_⟩))
                                go_roundg kj2
                                case measure => have := HK1.out; have := HJ2.out; omega
                                case rel => exact ⟨(wrap64 (x1_1 + (wrap64 (1 + (wrap64 (rd l0 x1_1)))))), (y226), (x5_1), (x7_1), (x8_1), (by first | rfl | (simp; done) | (simp [*]; done) | (simp [wrap64]; done)), (by first | rfl | (simp; done) | (simp [*]; done) | (simp [wrap64]; done)), (by first | rfl | (simp; done) | (simp [*]; done) | (simp [wrap64]; done)), (by first | rfl | (simp; done) | (simp [*]; done) | (simp [wrap64]; done)), H', ⟨by have := HK1.out; have := HJ2.out; omega⟩, ⟨by (with_reducible repeat (first | apply Kd.R_alloc | apply Kd.R_drewN | apply Kd.R_drew)); exact HO228.out⟩, ⟨by repeat (first | (with_reducible first | exact HB.out | apply below_alloc | apply pw_below_drewN | apply below_drew1) | exact HB.out)⟩⟩
                            · rw [if_neg c20] at H
                              exact absurd H (by simp)
                          · rw [if_neg c19] at H
                            exact absurd H (by simp)
                        · rw [if_neg c18] at H
                          exact absurd H (by simp)
                      · rw [if_neg c17] at H
                        exact absurd H (by simp)
                · rw [if_neg c8] at H
                  have c8b0 : (((wrap64 (rd l0 x1_1)) / 64) == 0) = false := beq_eq_false_iff_ne.mpr c8
                  have c8b1 : (((wrap64 (rd l0 x1_1)) / 64) != 0) = true := bne_iff_ne.mpr c8
                  by_cases c31 : ((wrap64 (rd l0 x1_1)) / 64) = 3
                  · rw [if_pos c31] at H
                    have c31b0 : (((wrap64 (rd l0 x1_1)) / 64) == 3) = true := beq_iff_eq.mpr c31
                    have c31b1 : (((wrap64 (rd l0 x1_1)) / 64) != 3) = false := bne_eq_false_iff_eq.mpr c31
                    clear c31
                    by_cases c32 : (wrap64 (x1_1 + 1)) ≥ (l0.length : Int)
                    · rw [if_pos c32] at H
                      have c32b0 : decide ((l0.length : Int) ≤ (wrap64 (x1_1 + 1))) = true := decide_eq_true c32
                      clear c32
                      simp only [Option.some.injEq, Prod.mk.injEq] at H
                      obtain ⟨rfl, rfl, rfl⟩ := H
                      have p222 : 0 ≤ (x1_1 : Int) := of_decide_eq_true (by first | (with_reducible assumption) | assumption)
                      have q222 : x1_1 < (l0.length : Int) := of_decide_eq_true (by first | (with_reducible assumption) | assumption)
                      obtain ⟨ad222, e222, hx222_0⟩ := Kd.at_int HR0.out x1_1 p222 q222
                      cases e222
                      replace hx222_0 := (HB.out.cell (World.block_lt_of_cell? w _ hx222_0)).trans hx222_0
                      replace p222 := eq_true p222
                      replace q222 := eq_true q222
                      go_wp2
                      go_ret3
                      exact ⟨_, by first | rfl | (simp [errW_none, errW_some] <;> rfl) | (simp [*, errW_none, errW_some] <;> rfl), by first | exact Kd.R_nil _ _ _ _ _ | exact Kd.N_nil _ _ _ _ _ | exact Kd.V_nil _ _ _ _ _ | exact Kd.Q_nil _ _ _ _ _ | exact Kd.S_nil _ _ _ _ _, by repeat (first | (with_reducible first | exact HB.out | apply below_alloc | apply pw_below_drewN | apply below_drew1) | exact HB.out)⟩
                    · rw [if_neg c32] at H
                      have c32b0 : decide ((l0.length : Int) ≤ (wrap64 (x1_1 + 1))) = false := decide_eq_false c32
                      clear c32
                      by_cases c33 : x5_1 < 0
                      · rw [if_pos c33] at H
                        have c33b0 : decide (x5_1 < 0) = true := decide_eq_true c33
                        clear c33
                        obtain ⟨ji34, hji34⟩ : ∃ j_ : Int, (wrap64 (x1_1 + 1)) = j_ := ⟨_, rfl⟩
                        replace H : (if 0 ≤ (ji34) then (if (ji34) < (l0.length : Int) then (if (Go.bits .or .i64 (wrap64 ((Go.bits .and .i64 (wrap64 (rd l0 x1_1)) 63) * 256)) (wrap64 (rd l0 (ji34)))) ≥ x7_1 then (some (([] : List ByteArray), 0, false)) else (if (wrap64 (x8_1 + 1)) > 126 then (some (([] : List ByteArray), 0, false)) else (spec_ReadName.l0 kj2 l0 (Go.bits .or .i64 (wrap64 ((Go.bits .and .i64 (wrap64 (rd l0 x1_1)) 63) * 256)) (wrap64 (rd l0 (ji34)))) x4_1 (wrap64 (x1_1 + 2)) (Go.bits .or .i64 (wrap64 ((Go.bits .and .i64 (wrap64 (rd l0 x1_1)) 63) * 256)) (wrap64 (rd l0 (ji34)))) (wrap64 (x8_1 + 1))))) else (none)) else (none)) = some (r1, r2, r3) := by first | (rw [hji34] at H; exact H) | (simp only [hji34] at H ⊢; exact H)
                        (try rw [hji34] at c32b0)
                        have hji34w : (IntKind.i64.wrap (x1_1 + 1)) = ji34 := (i64_w _).trans hji34
                        by_cases c35 : 0 ≤ (ji34)
                        · rw [if_pos c35] at H
                          have c35b0 : decide (0 ≤ (ji34)) = true := decide_eq_true c35
                          clear c35
                          by_cases c36 : (ji34) < (l0.length : Int)
                          · rw [if_pos c36] at H
                            have c36b0 : decide ((ji34) < (l0.length : Int)) = true := decide_eq_true c36
                            clear c36
                            by_cases c37 : (Go.bits .or .i64 (wrap64 ((Go.bits .and .i64 (wrap64 (rd l0 x1_1)) 63) * 256)) (wrap64 (rd l0 (ji34)))) ≥ x7_1
                            · rw [if_pos c37] at H
                              have c37b0 : decide (x7_1 ≤ (Go.bits .or .i64 (wrap64 ((Go.bits .and .i64 (wrap64 (rd l0 x1_1)) 63) * 256)) (wrap64 (rd l0 (ji34))))) = true := decide_eq_true c37
                              clear c37
                              simp only [Option.some.injEq, Prod.mk.injEq] at H
                              obtain ⟨rfl, rfl, rfl⟩ := H
                              have p222 : 0 ≤ (x1_1 : Int) := of_decide_eq_true (by first | (with_reducible assumption) | assumption)
                              have q222 : x1_1 < (l0.length : Int) := of_decide_eq_true (by first | (with_reducible assumption) | assumption)
                              obtain ⟨ad222, e222, hx222_0⟩ := Kd.at_int HR0.out x1_1 p222 q222
                              cases e222
                              replace hx222_0 := (HB.out.cell (World.block_lt_of_cell? w _ hx222_0)).trans hx222_0
                              replace p222 := eq_true p222
                              replace q222 := eq_true q222
                              have p230 : 0 ≤ ((ji34) : Int) := of_decide_eq_true (by first | (with_reducible assumption) | assumption)
                              have q230 : (ji34) < (l0.length : Int) := of_decide_eq_true (by first | (with_reducible assumption) | assumption)
                              obtain ⟨ad230, e230, hx230_0⟩ := Kd.at_int HR0.out (ji34) p230 q230
                              obtain rfl : ad222 = ad230 := (by injection e230)
                              replace hx230_0 := (HB.out.cell (World.block_lt_of_cell? w _ hx230_0)).trans hx230_0
                              replace p230 := eq_true p230
                              replace q230 := eq_true q230
                              go_wp2
                              go_ret3
                              exact ⟨_, by first | rfl | (simp [errW_none, errW_some] <;> rfl) | (simp only [← hji34]; first | rfl | (simp [errW_none, errW_some] <;> rfl)) | (simp [*, errW_none, errW_some] <;> rfl), by first | exact Kd.R_nil _ _ _ _ _ | exact Kd.N_nil _ _ _ _ _ | exact Kd.V_nil _ _ _ _ _ | exact Kd.Q_nil _ _ _ _ _ | exact Kd.S_nil _ _ _ _ _, by repeat (first | (with_reducible first | exact HB.out | apply below_alloc | apply pw_below_drewN | apply below_drew1) | exact HB.out)⟩
                            · rw [if_neg c37] at H
                              have c37b0 : decide (x7_1 ≤ (Go.bits .or .i64 (wrap64 ((Go.bits .and .i64 (wrap64 (rd l0 x1_1)) 63) * 256)) (wrap64 (rd l0 (ji34))))) = false := decide_eq_false c37
                              clear c37
                              by_cases c38 : (wrap64 (x8_1 + 1)) > 126
                              · rw [if_pos c38] at H
                                have c38b0 : decide (126 < (wrap64 (x8_1 + 1))) = true := decide_eq_true c38
                                clear c38
                                simp only [Option.some.injEq, Prod.mk.injEq] at H
                                obtain ⟨rfl, rfl, rfl⟩ := H
                                have p222 : 0 ≤ (x1_1 : Int) := of_decide_eq_true (by first | (with_reducible assumption) | assumption)
                                have q222 : x1_1 < (l0.length : Int) := of_decide_eq_true (by first | (with_reducible assumption) | assumption)
                                obtain ⟨ad222, e222, hx222_0⟩ := Kd.at_int HR0.out x1_1 p222 q222
                                cases e222
                                replace hx222_0 := (HB.out.cell (World.block_lt_of_cell? w _ hx222_0)).trans hx222_0
                                replace p222 := eq_true p222
                                replace q222 := eq_true q222
                                have p230 : 0 ≤ ((ji34) : Int) := of_decide_eq_true (by first | (with_reducible assumption) | assumption)
                                have q230 : (ji34) < (l0.length : Int) := of_decide_eq_true (by first | (with_reducible assumption) | assumption)
                                obtain ⟨ad230, e230, hx230_0⟩ := Kd.at_int HR0.out (ji34) p230 q230
                                obtain rfl : ad222 = ad230 := (by injection e230)
                                replace hx230_0 := (HB.out.cell (World.block_lt_of_cell? w _ hx230_0)).trans hx230_0
                                replace p230 := eq_true p230
                                replace q230 := eq_true q230
                                go_wp2
                                go_ret3
                                exact ⟨_, by first | rfl | (simp [errW_none, errW_some] <;> rfl) | (simp only [← hji34]; first | rfl | (simp [errW_none, errW_some] <;> rfl)) | (simp [*, errW_none, errW_some] <;> rfl), by first | exact Kd.R_nil _ _ _ _ _ | exact Kd.N_nil _ _ _ _ _ | exact Kd.V_nil _ _ _ _ _ | exact Kd.Q_nil _ _ _ _ _ | exact Kd.S_nil _ _ _ _ _, by repeat (first | (with_reducible first | exact HB.out | apply below_alloc | apply pw_below_drewN | apply below_drew1) | exact HB.out)⟩
                              · rw [if_neg c38] at H
                                have c38b0 : decide (126 < (wrap64 (x8_1 + 1))) = false := decide_eq_false c38
                                clear c38
                                have H' := Aside0.mk H
                                clear H
                                have p222 : 0 ≤ (x1_1 : Int) := of_decide_eq_true (by first | (with_reducible assumption) | assumption)
                                have q222 : x1_1 < (l0.length : Int) := of_decide_eq_true (by first | (with_reducible assumption) | assumption)
                                obtain ⟨ad222, e222, hx222_0⟩ := Kd.at_int HR0.out x1_1 p222 q222
                                cases e222
                                replace hx222_0 := (HB.out.cell (World.block_lt_of_cell? w _ hx222_0)).trans hx222_0
                                replace p222 := eq_true p222
                                replace q222 := eq_true q222
                                have p230 : 0 ≤ ((ji34) : Int) := of_decide_eq_true (by first | (with_reducible assumption) | assumption)
                                have q230 : (ji34) < (l0.length : Int) := of_decide_eq_true (by first | (with_reducible assumption) | assumption)
                                obtain ⟨ad230, e230, hx230_0⟩ := Kd.at_int HR0.out (ji34) p230 q230
                                obtain rfl : ad222 = ad230 := (by injection e230)
                                replace hx230_0 := (HB.out.cell (World.block_lt_of_cell? w _ hx230_0)).trans hx230_0
                                replace p230 := eq_true p230
                                replace q230 := eq_true q230
                                go_wp2
                                go_roundg kj2
                                case measure => have := HK1.out; have := HJ2.out; omega
                                case rel => exact ⟨(Go.bits .or .i64 (wrap64 ((Go.bits .and .i64 (wrap64 (rd l0 x1_1)) 63) * 256)) (wrap64 (rd l0 (ji34)))), (x4_1), (wrap64 (x1_1 + 2)), (Go.bits .or .i64 (wrap64 ((Go.bits .and .i64 (wrap64 (rd l0 x1_1)) 63) * 256)) (wrap64 (rd l0 (ji34)))), (wrap64 (x8_1 + 1)), (by first | rfl | (simp; done) | (simp only [← hji34] <;> (first | rfl | simp)) | (simp [*]; done)), (by first | rfl | (simp; done) | (simp [*]; done) | (simp [wrap64]; done)), (by first | rfl | (simp; done) | (simp only [← hji34] <;> (first | rfl | simp)) | (simp [*]; done)), (by first | rfl | (simp; done) | (simp [*]; done) | (simp [wrap64]; done)), H', ⟨by have := HK1.out; have := HJ2.out; omega⟩, ⟨by (with_reducible repeat (first | apply Kd.R_alloc | apply Kd.R_drewN | apply Kd.R_drew)); exact HO_4.out⟩, ⟨by repeat (first | (with_reducible first | exact HB.out | apply below_alloc | apply pw_below_drewN | apply below_drew1) | exact HB.out)⟩⟩
                          · rw [if_neg c36] at H
                            exact absurd H (by simp)
                        · rw [if_neg c35] at H
                          exact absurd H (by simp)
                      · rw [if_neg c33] at H
                        have c33b0 : decide (x5_1 < 0) = false := decide_eq_false c33
                        clear c33
                        obtain ⟨ji39, hji39⟩ : ∃ j_ : Int, (wrap64 (x1_1 + 1)) = j_ := ⟨_, rfl⟩
                        replace H : (if 0 ≤ (ji39) then (if (ji39) < (l0.length : Int) then (if (Go.bits .or .i64 (wrap64 ((Go.bits .and .i64 (wrap64 (rd l0 x1_1)) 63) * 256)) (wrap64 (rd l0 (ji39)))) ≥ x7_1 then (some (([] : List ByteArray), 0, false)) else (if (wrap64 (x8_1 + 1)) > 126 then (some (([] : List ByteArray), 0, false)) else (spec_ReadName.l0 kj2 l0 (Go.bits .or .i64 (wrap64 ((Go.bits .and .i64 (wrap64 (rd l0 x1_1)) 63) * 256)) (wrap64 (rd l0 (ji39)))) x4_1 x5_1 (Go.bits .or .i64 (wrap64 ((Go.bits .and .i64 (wrap64 (rd l0 x1_1)) 63) * 256)) (wrap64 (rd l0 (ji39)))) (wrap64 (x8_1 + 1))))) else (none)) else (none)) = some (r1, r2, r3) := by first | (rw [hji39] at H; exact H) | (simp only [hji39] at H ⊢; exact H)
                        (try rw [hji39] at c32b0)
                        have hji39w : (IntKind.i64.wrap (x1_1 + 1)) = ji39 := (i64_w _).trans hji39
                        by_cases c40 : 0 ≤ (ji39)
                        · rw [if_pos c40] at H
                          have c40b0 : decide (0 ≤ (ji39)) = true := decide_eq_true c40
                          clear c40
                          by_cases c41 : (ji39) < (l0.length : Int)
                          · rw [if_pos c41] at H
                            have c41b0 : decide ((ji39) < (l0.length : Int)) = true := decide_eq_true c41
                            clear c41
                            by_cases c42 : (Go.bits .or .i64 (wrap64 ((Go.bits .and .i64 (wrap64 (rd l0 x1_1)) 63) * 256)) (wrap64 (rd l0 (ji39)))) ≥ x7_1
                            · rw [if_pos c42] at H
                              have c42b0 : decide (x7_1 ≤ (Go.bits .or .i64 (wrap64 ((Go.bits .and .i64 (wrap64 (rd l0 x1_1)) 63) * 256)) (wrap64 (rd l0 (ji39))))) = true := decide_eq_true c42
                              clear c42
                              simp only [Option.some.injEq, Prod.mk.injEq] at H
                              obtain ⟨rfl, rfl, rfl⟩ := H
                              have p222 : 0 ≤ (x1_1 : Int) := of_decide_eq_true (by first | (with_reducible assumption) | assumption)
                              have q222 : x1_1 < (l0.length : Int) := of_decide_eq_true (by first | (with_reducible assumption) | assumption)
                              obtain ⟨ad222, e222, hx222_0⟩ := Kd.at_int HR0.out x1_1 p222 q222
                              cases e222
                              replace hx222_0 := (HB.out.cell (World.block_lt_of_cell? w _ hx222_0)).trans hx222_0
                              replace p222 := eq_true p222
                              replace q222 := eq_true q222
                              have p231 : 0 ≤ ((ji39) : Int) := of_decide_eq_true (by first | (with_reducible assumption) | assumption)
                              have q231 : (ji39) < (l0.length : Int) := of_decide_eq_true (by first | (with_reducible assumption) | assumption)
                              obtain ⟨ad231, e231, hx231_0⟩ := Kd.at_int HR0.out (ji39) p231 q231
                              obtain rfl : ad222 = ad231 := (by injection e231)
                              replace hx231_0 := (HB.out.cell (World.block_lt_of_cell? w _ hx231_0)).trans hx231_0
                              replace p231 := eq_true p231
                              replace q231 := eq_true q231
                              go_wp2
                              go_ret3
                              exact ⟨_, by first | rfl | (simp [errW_none, errW_some] <;> rfl) | (simp only [← hji39]; first | rfl | (simp [errW_none, errW_some] <;> rfl)) | (simp [*, errW_none, errW_some] <;> rfl), by first | exact Kd.R_nil _ _ _ _ _ | exact Kd.N_nil _ _ _ _ _ | exact Kd.V_nil _ _ _ _ _ | exact Kd.Q_nil _ _ _ _ _ | exact Kd.S_nil _ _ _ _ _, by repeat (first | (with_reducible first | exact HB.out | apply below_alloc | apply pw_below_drewN | apply below_drew1) | exact HB.out)⟩
                            · rw [if_neg c42] at H
                              have c42b0 : decide (x7_1 ≤ (Go.bits .or .i64 (wrap64 ((Go.bits .and .i64 (wrap64 (rd l0 x1_1)) 63) * 256)) (wrap64 (rd l0 (ji39))))) = false := decide_eq_false c42
                              clear c42
                              by_cases c43 : (wrap64 (x8_1 + 1)) > 126
                              · rw [if_pos c43] at H
                                have c43b0 : decide (126 < (wrap64 (x8_1 + 1))) = true := decide_eq_true c43
                                clear c43
                                simp only [Option.some.injEq, Prod.mk.injEq] at H
                                obtain ⟨rfl, rfl, rfl⟩ := H
                                have p222 : 0 ≤ (x1_1 : Int) := of_decide_eq_true (by first | (with_reducible assumption) | assumption)
                                have q222 : x1_1 < (l0.length : Int) := of_decide_eq_true (by first | (with_reducible assumption) | assumption)
                                obtain ⟨ad222, e222, hx222_0⟩ := Kd.at_int HR0.out x1_1 p222 q222
                                cases e222
                                replace hx222_0 := (HB.out.cell (World.block_lt_of_cell? w _ hx222_0)).trans hx222_0
                                replace p222 := eq_true p222
                                replace q222 := eq_true q222
                                have p231 : 0 ≤ ((ji39) : Int) := of_decide_eq_true (by first | (with_reducible assumption) | assumption)
                                have q231 : (ji39) < (l0.length : Int) := of_decide_eq_true (by first | (with_reducible assumption) | assumption)
                                obtain ⟨ad231, e231, hx231_0⟩ := Kd.at_int HR0.out (ji39) p231 q231
                                obtain rfl : ad222 = ad231 := (by injection e231)
                                replace hx231_0 := (HB.out.cell (World.block_lt_of_cell? w _ hx231_0)).trans hx231_0
                                replace p231 := eq_true p231
                                replace q231 := eq_true q231
                                go_wp2
                                go_ret3
                                exact ⟨_, by first | rfl | (simp [errW_none, errW_some] <;> rfl) | (simp only [← hji39]; first | rfl | (simp [errW_none, errW_some] <;> rfl)) | (simp [*, errW_none, errW_some] <;> rfl), by first | exact Kd.R_nil _ _ _ _ _ | exact Kd.N_nil _ _ _ _ _ | exact Kd.V_nil _ _ _ _ _ | exact Kd.Q_nil _ _ _ _ _ | exact Kd.S_nil _ _ _ _ _, by repeat (first | (with_reducible first | exact HB.out | apply below_alloc | apply pw_below_drewN | apply below_drew1) | exact HB.out)⟩
                              · rw [if_neg c43] at H
                                have c43b0 : decide (126 < (wrap64 (x8_1 + 1))) = false := decide_eq_false c43
                                clear c43
                                have H' := Aside0.mk H
                                clear H
                                have p222 : 0 ≤ (x1_1 : Int) := of_decide_eq_true (by first | (with_reducible assumption) | assumption)
                                have q222 : x1_1 < (l0.length : Int) := of_decide_eq_true (by first | (with_reducible assumption) | assumption)
                                obtain ⟨ad222, e222, hx222_0⟩ := Kd.at_int HR0.out x1_1 p222 q222
                                cases e222
                                replace hx222_0 := (HB.out.cell (World.block_lt_of_cell? w _ hx222_0)).trans hx222_0
                                replace p222 := eq_true p222
                                replace q222 := eq_true q222
                                have p231 : 0 ≤ ((ji39) : Int) := of_decide_eq_true (by first | (with_reducible assumption) | assumption)
                                have q231 : (ji39) < (l0.length : Int) := of_decide_eq_true (by first | (with_reducible assumption) | assumption)
                                obtain ⟨ad231, e231, hx231_0⟩ := Kd.at_int HR0.out (ji39) p231 q231
                                obtain rfl : ad222 = ad231 := (by injection e231)
                                replace hx231_0 := (HB.out.cell (World.block_lt_of_cell? w _ hx231_0)).trans hx231_0
                                replace p231 := eq_true p231
                                replace q231 := eq_true q231
                                go_wp2
                                go_roundg kj2
                                case measure => have := HK1.out; have := HJ2.out; omega
                                case rel => exact ⟨(Go.bits .or .i64 (wrap64 ((Go.bits .and .i64 (wrap64 (rd l0 x1_1)) 63) * 256)) (wrap64 (rd l0 (ji39)))), (x4_1), (x5_1), (Go.bits .or .i64 (wrap64 ((Go.bits .and .i64 (wrap64 (rd l0 x1_1)) 63) * 256)) (wrap64 (rd l0 (ji39)))), (wrap64 (x8_1 + 1)), (by first | rfl | (simp; done) | (simp only [← hji39] <;> (first | rfl | simp)) | (simp [*]; done)), (by first | rfl | (simp; done) | (simp [*]; done) | (simp [wrap64]; done)), (by first | rfl | (simp; done) | (simp only [← hji39] <;> (first | rfl | simp)) | (simp [*]; done)), (by first | rfl | (simp; done) | (simp [*]; done) | (simp [wrap64]; done)), H', ⟨by have := HK1.out; have := HJ2.out; omega⟩, ⟨by (with_reducible repeat (first | apply Kd.R_alloc | apply Kd.R_drewN | apply Kd.R_drew)); exact HO_4.out⟩, ⟨by repeat (first | (with_reducible first | exact HB.out | apply below_alloc | apply pw_below_drewN | apply below_drew1) | exact HB.out)⟩⟩
                          · rw [if_neg c41] at H
                            exact absurd H (by simp)
                        · rw [if_neg c40] at H
                          exact absurd H (by simp)
                  · rw [if_neg c31] at H
                    have c31b0 : (((wrap64 (rd l0 x1_1)) / 64) == 3) = false := beq_eq_false_iff_ne.mpr c31
                    have c31b1 : (((wrap64 (rd l0 x1_1)) / 64) != 3) = true := bne_iff_ne.mpr c31
                    simp only [Option.some.injEq, Prod.mk.injEq] at H
                    obtain ⟨rfl, rfl, rfl⟩ := H
                    have p222 : 0 ≤ (x1_1 : Int) := of_decide_eq_true (by first | (with_reducible assumption) | assumption)
                    have q222 : x1_1 < (l0.length : Int) := of_decide_eq_true (by first | (with_reducible assumption) | assumption)
                    obtain ⟨ad222, e222, hx222_0⟩ := Kd.at_int HR0.out x1_1 p222 q222
                    cases e222
                    replace hx222_0 := (HB.out.cell (World.block_lt_of_cell? w _ hx222_0)).trans hx222_0
                    replace p222 := eq_true p222
                    replace q222 := eq_true q222
                    go_wp2
                    go_ret3
                    exact ⟨_, by first | rfl | (simp [errW_none, errW_some] <;> rfl) | (simp [*, errW_none, errW_some] <;> rfl), by first | exact Kd.R_nil _ _ _ _ _ | exact Kd.N_nil _ _ _ _ _ | exact Kd.V_nil _ _ _ _ _ | exact Kd.Q_nil _ _ _ _ _ | exact Kd.S_nil _ _ _ _ _, by repeat (first | (with_reducible first | exact HB.out | apply below_alloc | apply pw_below_drewN | apply below_drew1) | exact HB.out)⟩
              · rw [if_neg c7] at H
                exact absurd H (by simp)
            · rw [if_neg c6] at H
              exact absurd H (by simp)

end Go.Proofs.YtiilihafcdmccaaDoor.P
-- Written by a program of this session (wip/tools/pprint.py) out of the translation: it goes by the kit's print and by the contracts of YtiilihafcdmccaaDoorHand. Not trusted: Lean checks it.
namespace Go.Proofs.YtiilihafcdmccaaDoor.P
open Go.RowKit Go.Proofs.YtiilihafcdmccaaDoorW.PrintWords Go.Proofs.YtiilihafcdmccaaDoorW.PrintLast Go.Proofs.YtiilihafcdmccaaDoorW.PrintMore
attribute [local go_sem] max2_int min2_int max_two min_two max_three min_three max_four min_four   -- for this text's walks alone
set_option linter.unusedVariables false
set_option linter.unusedSimpArgs false

/-! ### dns_isDomainNameLabelSpecial: function 74 -/
def dns_isDomainNameLabelSpecial.f (a0 : Int) : Option (Bool) := if a0 = 46 then (some true) else (if a0 = 32 then (some true) else (if a0 = 39 then (some true) else (if a0 = 64 then (some true) else (if a0 = 59 then (some true) else (if a0 = 40 then (some true) else (if a0 = 41 then (some true) else (if a0 = 34 then (some true) else (if a0 = 92 then (some true) else (some false)))))))))
set_option maxHeartbeats 8000000 in
set_option maxRecDepth 100000 in
theorem dns_isDomainNameLabelSpecial.calls (a0 : Int) (r : Bool) (w : World) (h : dns_isDomainNameLabelSpecial.f a0 = some r) :
    Calls Tryd.prog 74 #[.int .u8 a0] w fun e w' => e = .returned (.bool r) ∧ Drawn0 w w' := by
  have H : (if a0 = 46 then (some true) else (if a0 = 32 then (some true) else (if a0 = 39 then (some true) else (if a0 = 64 then (some true) else (if a0 = 59 then (some true) else (if a0 = 40 then (some true) else (if a0 = 41 then (some true) else (if a0 = 34 then (some true) else (if a0 = 92 then (some true) else (some false)))))))))) = some r := h
  clear h
  by_cases c2 : a0 = 46
  · rw [if_pos c2] at H
    have c2b0 : (a0 == 46) = true := beq_iff_eq.mpr c2
    have c2b1 : (a0 != 46) = false := bne_eq_false_iff_eq.mpr c2
    clear c2
    obtain rfl := Option.some.inj H
    go_enter Tryd.func74, Tryd.ntmps74
    go_wp2
    go_ret
    exact ⟨by first | rfl | (simp; done) | (simp [*]; done) | (simp [wrap64]; done), by repeat (first | exact Drawn0.refl _ | apply Drawn0.step)⟩
  · rw [if_neg c2] at H
    have c2b0 : (a0 == 46) = false := beq_eq_false_iff_ne.mpr c2
    have c2b1 : (a0 != 46) = true := bne_iff_ne.mpr c2
    by_cases c3 : a0 = 32
    · rw [if_pos c3] at H
      have c3b0 : (a0 == 32) = true := beq_iff_eq.mpr c3
      have c3b1 : (a0 != 32) = false := bne_eq_false_iff_eq.mpr c3
      clear c3
      obtain rfl := Option.some.inj H
      go_enter Tryd.func74, Tryd.ntmps74
      go_wp2
      go_ret
      exact ⟨by first | rfl | (simp; done) | (simp [*]; done) | (simp [wrap64]; done), by repeat (first | exact Drawn0.refl _ | apply Drawn0.step)⟩
    · rw [if_neg c3] at H
      have c3b0 : (a0 == 32) = false := beq_eq_false_iff_ne.mpr c3
      have c3b1 : (a0 != 32) = true := bne_iff_ne.mpr c3
      by_cases c4 : a0 = 39
      · rw [if_pos c4] at H
        have c4b0 : (a0 == 39) = true := beq_iff_eq.mpr c4
        have c4b1 : (a0 != 39) = false := bne_eq_false_iff_eq.mpr c4
        clear c4
        obtain rfl := Option.some.inj H
        go_enter Tryd.func74, Tryd.ntmps74
        go_wp2
        go_ret
        exact ⟨by first | rfl | (simp; done) | (simp [*]; done) | (simp [wrap64]; done), by repeat (first | exact Drawn0.refl _ | apply Drawn0.step)⟩
      · rw [if_neg c4] at H
        have c4b0 : (a0 == 39) = false := beq_eq_false_iff_ne.mpr c4
        have c4b1 : (a0 != 39) = true := bne_iff_ne.mpr c4
        by_cases c5 : a0 = 64
        · rw [if_pos c5] at H
          have c5b0 : (a0 == 64) = true := beq_iff_eq.mpr c5
          have c5b1 : (a0 != 64) = false := bne_eq_false_iff_eq.mpr c5
          clear c5
          obtain rfl := Option.some.inj H
          go_enter Tryd.func74, Tryd.ntmps74
          go_wp2
          go_ret
          exact ⟨by first | rfl | (simp; done) | (simp [*]; done) | (simp [wrap64]; done), by repeat (first | exact Drawn0.refl _ | apply Drawn0.step)⟩
        · rw [if_neg c5] at H
          have c5b0 : (a0 == 64) = false := beq_eq_false_iff_ne.mpr c5
          have c5b1 : (a0 != 64) = true := bne_iff_ne.mpr c5
          by_cases c6 : a0 = 59
          · rw [if_pos c6] at H
            have c6b0 : (a0 == 59) = true := beq_iff_eq.mpr c6
            have c6b1 : (a0 != 59) = false := bne_eq_false_iff_eq.mpr c6
            clear c6
            obtain rfl := Option.some.inj H
            go_enter Tryd.func74, Tryd.ntmps74
            go_wp2
            go_ret
            exact ⟨by first | rfl | (simp; done) | (simp [*]; done) | (simp [wrap64]; done), by repeat (first | exact Drawn0.refl _ | apply Drawn0.step)⟩
          · rw [if_neg c6] at H
            have c6b0 : (a0 == 59) = false := beq_eq_false_iff_ne.mpr c6
            have c6b1 : (a0 != 59) = true := bne_iff_ne.mpr c6
            by_cases c7 : a0 = 40
            · rw [if_pos c7] at H
              have c7b0 : (a0 == 40) = true := beq_iff_eq.mpr c7
              have c7b1 : (a0 != 40) = false := bne_eq_false_iff_eq.mpr c7
              clear c7
              obtain rfl := Option.some.inj H
              go_enter Tryd.func74, Tryd.ntmps74
              go_wp2
              go_ret
              exact ⟨by first | rfl | (simp; done) | (simp [*]; done) | (simp [wrap64]; done), by repeat (first | exact Drawn0.refl _ | apply Drawn0.step)⟩
            · rw [if_neg c7] at H
              have c7b0 : (a0 == 40) = false := beq_eq_false_iff_ne.mpr c7
              have c7b1 : (a0 != 40) = true := bne_iff_ne.mpr c7
              by_cases c8 : a0 = 41
              · rw [if_pos c8] at H
                have c8b0 : (a0 == 41) = true := beq_iff_eq.mpr c8
                have c8b1 : (a0 != 41) = false := bne_eq_false_iff_eq.mpr c8
                clear c8
                obtain rfl := Option.some.inj H
                go_enter Tryd.func74, Tryd.ntmps74
                go_wp2
                go_ret
                exact ⟨by first | rfl | (simp; done) | (simp [*]; done) | (simp [wrap64]; done), by repeat (first | exact Drawn0.refl _ | apply Drawn0.step)⟩
              · rw [if_neg c8] at H
                have c8b0 : (a0 == 41) = false := beq_eq_false_iff_ne.mpr c8
                have c8b1 : (a0 != 41) = true := bne_iff_ne.mpr c8
                by_cases c9 : a0 = 34
                · rw [if_pos c9] at H
                  have c9b0 : (a0 == 34) = true := beq_iff_eq.mpr c9
                  have c9b1 : (a0 != 34) = false := bne_eq_false_iff_eq.mpr c9
                  clear c9
                  obtain rfl := Option.some.inj H
                  go_enter Tryd.func74, Tryd.ntmps74
                  go_wp2
                  go_ret
                  exact ⟨by first | rfl | (simp; done) | (simp [*]; done) | (simp [wrap64]; done), by repeat (first | exact Drawn0.refl _ | apply Drawn0.step)⟩
                · rw [if_neg c9] at H
                  have c9b0 : (a0 == 34) = false := beq_eq_false_iff_ne.mpr c9
                  have c9b1 : (a0 != 34) = true := bne_iff_ne.mpr c9
                  by_cases c10 : a0 = 92
                  · rw [if_pos c10] at H
                    have c10b0 : (a0 == 92) = true := beq_iff_eq.mpr c10
                    have c10b1 : (a0 != 92) = false := bne_eq_false_iff_eq.mpr c10
                    clear c10
                    obtain rfl := Option.some.inj H
                    go_enter Tryd.func74, Tryd.ntmps74
                    go_wp2
                    go_ret
                    exact ⟨by first | rfl | (simp; done) | (simp [*]; done) | (simp [wrap64]; done), by repeat (first | exact Drawn0.refl _ | apply Drawn0.step)⟩
                  · rw [if_neg c10] at H
                    have c10b0 : (a0 == 92) = false := beq_eq_false_iff_ne.mpr c10
                    have c10b1 : (a0 != 92) = true := bne_iff_ne.mpr c10
                    obtain rfl := Option.some.inj H
                    go_enter Tryd.func74, Tryd.ntmps74
                    go_wp2
                    go_ret
                    exact ⟨by first | rfl | (simp; done) | (simp [*]; done) | (simp [wrap64]; done), by repeat (first | exact Drawn0.refl _ | apply Drawn0.step)⟩

end Go.Proofs.YtiilihafcdmccaaDoor.P
/- 'dns.escapeByte': the three digits of a byte behind a backslash. -/
namespace Go.Proofs.YtiilihafcdmccaaDoor.P
open Go.RowKit Go.Proofs.YtiilihafcdmccaaDoorW.PrintWords Go.Proofs.YtiilihafcdmccaaDoorW.PrintLast Go.Proofs.YtiilihafcdmccaaDoorW.PrintMore
set_option linter.unusedVariables false
set_option linter.unusedSimpArgs false

def ddd3 (b : Int) : List Int := [92, 48 + b / 100, 48 + b / 10 % 10, 48 + b % 10]
def dns_escapeByte.f (b : Int) : Option ByteArray := if (0 ≤ b ∧ b < 32) ∨ (126 < b ∧ b < 256) then some (strOfNums (ddd3 b)) else none
set_option maxRecDepth 100000
set_option maxHeartbeats 1000000
theorem escb_low (b : Int) (w : World) (h0 : 0 ≤ b) (h : b < 32) :
    Calls Tryd.prog 75 #[.int .u8 b] w fun e w' => e = .returned (.string (strOfNums (ddd3 b))) ∧ Drawn0 w w' := by
  have c0 : decide (b < 32) = true := decide_eq_true h
  have hb4 : b * 4 % 256 = b * 4 := by omega
  have hb44 : (b * 4 + 4) % 256 = b * 4 + 4 := by omega
  have hr : ∀ W : World, (Instr.slice 9 (.string (⟨#[92, 48, 48, 48, 92, 48, 48, 49, 92, 48, 48, 50, 92, 48, 48, 51, 92, 48, 48, 52, 92, 48, 48, 53, 92, 48, 48, 54, 92, 48, 48, 55, 92, 48, 48, 56, 92, 48, 48, 57, 92, 48, 49, 48, 92, 48, 49, 49, 92, 48, 49, 50, 92, 48, 49, 51, 92, 48, 49, 52, 92, 48, 49, 53, 92, 48, 49, 54, 92, 48, 49, 55, 92, 48, 49, 56, 92, 48, 49, 57, 92, 48, 50, 48, 92, 48, 50, 49, 92, 48, 50, 50, 92, 48, 50, 51, 92, 48, 50, 52, 92, 48, 50, 53, 92, 48, 50, 54, 92, 48, 50, 55, 92, 48, 50, 56, 92, 48, 50, 57, 92, 48, 51, 48, 92, 48, 51, 49]⟩ : ByteArray)) (some (.int .u8 (b * 4))) (some (.int .u8 (b * 4 + 4))) none).run Tryd.prog W = .ok (.string (strOfNums (ddd3 b))) W := by
    intro W
    rw [run_slice_string W 9 _ .u8 .u8 (b * 4) (b * 4 + 4) Tryd.underlying9 (by omega) (by omega) (by rw [show ByteArray.size (⟨#[92, 48, 48, 48, 92, 48, 48, 49, 92, 48, 48, 50, 92, 48, 48, 51, 92, 48, 48, 52, 92, 48, 48, 53, 92, 48, 48, 54, 92, 48, 48, 55, 92, 48, 48, 56, 92, 48, 48, 57, 92, 48, 49, 48, 92, 48, 49, 49, 92, 48, 49, 50, 92, 48, 49, 51, 92, 48, 49, 52, 92, 48, 49, 53, 92, 48, 49, 54, 92, 48, 49, 55, 92, 48, 49, 56, 92, 48, 49, 57, 92, 48, 50, 48, 92, 48, 50, 49, 92, 48, 50, 50, 92, 48, 50, 51, 92, 48, 50, 52, 92, 48, 50, 53, 92, 48, 50, 54, 92, 48, 50, 55, 92, 48, 50, 56, 92, 48, 50, 57, 92, 48, 51, 48, 92, 48, 51, 49]⟩ : ByteArray) = 128 from by kernel_rfl]; omega)]
    refine congrArg (fun x => Result.ok (Value.string x) W) ?_
    clear c0 hb4 hb44
    obtain ⟨n, rfl⟩ := Int.eq_ofNat_of_zero_le h0
    have hn : n < 32 := by omega
    clear h h0
    revert n
    decide +kernel
  go_enter Tryd.func75, Tryd.ntmps75
  go_wp2
  go_ret
  exact ⟨rfl, by repeat (first | exact Drawn0.refl _ | apply Drawn0.step)⟩
theorem escb_high (b : Int) (w : World) (h0 : 126 < b) (h : b < 256) :
    Calls Tryd.prog 75 #[.int .u8 b] w fun e w' => e = .returned (.string (strOfNums (ddd3 b))) ∧ Drawn0 w w' := by
  have c0 : decide (b < 32) = false := decide_eq_false (by omega)
  have hb4 : (b - 127) % 256 = b - 127 := by omega
  have hw4 : wrap64 (b - 127) = b - 127 := by unfold wrap64; omega
  have hw5 : wrap64 ((b - 127) * 4) = (b - 127) * 4 := by unfold wrap64; omega
  have hb44 : wrap64 ((b - 127) * 4 + 4) = (b - 127) * 4 + 4 := by unfold wrap64; omega
  have hr : ∀ W : World, (Instr.slice 9 (.string (⟨#[92, 49, 50, 55, 92, 49, 50, 56, 92, 49, 50, 57, 92, 49, 51, 48, 92, 49, 51, 49, 92, 49, 51, 50, 92, 49, 51, 51, 92, 49, 51, 52, 92, 49, 51, 53, 92, 49, 51, 54, 92, 49, 51, 55, 92, 49, 51, 56, 92, 49, 51, 57, 92, 49, 52, 48, 92, 49, 52, 49, 92, 49, 52, 50, 92, 49, 52, 51, 92, 49, 52, 52, 92, 49, 52, 53, 92, 49, 52, 54, 92, 49, 52, 55, 92, 49, 52, 56, 92, 49, 52, 57, 92, 49, 53, 48, 92, 49, 53, 49, 92, 49, 53, 50, 92, 49, 53, 51, 92, 49, 53, 52, 92, 49, 53, 53, 92, 49, 53, 54, 92, 49, 53, 55, 92, 49, 53, 56, 92, 49, 53, 57, 92, 49, 54, 48, 92, 49, 54, 49, 92, 49, 54, 50, 92, 49, 54, 51, 92, 49, 54, 52, 92, 49, 54, 53, 92, 49, 54, 54, 92, 49, 54, 55, 92, 49, 54, 56, 92, 49, 54, 57, 92, 49, 55, 48, 92, 49, 55, 49, 92, 49, 55, 50, 92, 49, 55, 51, 92, 49, 55, 52, 92, 49, 55, 53, 92, 49, 55, 54, 92, 49, 55, 55, 92, 49, 55, 56, 92, 49, 55, 57, 92, 49, 56, 48, 92, 49, 56, 49, 92, 49, 56, 50, 92, 49, 56, 51, 92, 49, 56, 52, 92, 49, 56, 53, 92, 49, 56, 54, 92, 49, 56, 55, 92, 49, 56, 56, 92, 49, 56, 57, 92, 49, 57, 48, 92, 49, 57, 49, 92, 49, 57, 50, 92, 49, 57, 51, 92, 49, 57, 52, 92, 49, 57, 53, 92, 49, 57, 54, 92, 49, 57, 55, 92, 49, 57, 56, 92, 49, 57, 57, 92, 50, 48, 48, 92, 50, 48, 49, 92, 50, 48, 50, 92, 50, 48, 51, 92, 50, 48, 52, 92, 50, 48, 53, 92, 50, 48, 54, 92, 50, 48, 55, 92, 50, 48, 56, 92, 50, 48, 57, 92, 50, 49, 48, 92, 50, 49, 49, 92, 50, 49, 50, 92, 50, 49, 51, 92, 50, 49, 52, 92, 50, 49, 53, 92, 50, 49, 54, 92, 50, 49, 55, 92, 50, 49, 56, 92, 50, 49, 57, 92, 50, 50, 48, 92, 50, 50, 49, 92, 50, 50, 50, 92, 50, 50, 51, 92, 50, 50, 52, 92, 50, 50, 53, 92, 50, 50, 54, 92, 50, 50, 55, 92, 50, 50, 56, 92, 50, 50, 57, 92, 50, 51, 48, 92, 50, 51, 49, 92, 50, 51, 50, 92, 50, 51, 51, 92, 50, 51, 52, 92, 50, 51, 53, 92, 50, 51, 54, 92, 50, 51, 55, 92, 50, 51, 56, 92, 50, 51, 57, 92, 50, 52, 48, 92, 50, 52, 49, 92, 50, 52, 50, 92, 50, 52, 51, 92, 50, 52, 52, 92, 50, 52, 53, 92, 50, 52, 54, 92, 50, 52, 55, 92, 50, 52, 56, 92, 50, 52, 57, 92, 50, 53, 48, 92, 50, 53, 49, 92, 50, 53, 50, 92, 50, 53, 51, 92, 50, 53, 52, 92, 50, 53, 53]⟩ : ByteArray)) (some (.int .i64 ((b - 127) * 4))) (some (.int .i64 ((b - 127) * 4 + 4))) none).run Tryd.prog W = .ok (.string (strOfNums (ddd3 b))) W := by
    intro W
    rw [run_slice_string W 9 _ .i64 .i64 ((b - 127) * 4) ((b - 127) * 4 + 4) Tryd.underlying9 (by omega) (by omega) (by rw [show ByteArray.size (⟨#[92, 49, 50, 55, 92, 49, 50, 56, 92, 49, 50, 57, 92, 49, 51, 48, 92, 49, 51, 49, 92, 49, 51, 50, 92, 49, 51, 51, 92, 49, 51, 52, 92, 49, 51, 53, 92, 49, 51, 54, 92, 49, 51, 55, 92, 49, 51, 56, 92, 49, 51, 57, 92, 49, 52, 48, 92, 49, 52, 49, 92, 49, 52, 50, 92, 49, 52, 51, 92, 49, 52, 52, 92, 49, 52, 53, 92, 49, 52, 54, 92, 49, 52, 55, 92, 49, 52, 56, 92, 49, 52, 57, 92, 49, 53, 48, 92, 49, 53, 49, 92, 49, 53, 50, 92, 49, 53, 51, 92, 49, 53, 52, 92, 49, 53, 53, 92, 49, 53, 54, 92, 49, 53, 55, 92, 49, 53, 56, 92, 49, 53, 57, 92, 49, 54, 48, 92, 49, 54, 49, 92, 49, 54, 50, 92, 49, 54, 51, 92, 49, 54, 52, 92, 49, 54, 53, 92, 49, 54, 54, 92, 49, 54, 55, 92, 49, 54, 56, 92, 49, 54, 57, 92, 49, 55, 48, 92, 49, 55, 49, 92, 49, 55, 50, 92, 49, 55, 51, 92, 49, 55, 52, 92, 49, 55, 53, 92, 49, 55, 54, 92, 49, 55, 55, 92, 49, 55, 56, 92, 49, 55, 57, 92, 49, 56, 48, 92, 49, 56, 49, 92, 49, 56, 50, 92, 49, 56, 51, 92, 49, 56, 52, 92, 49, 56, 53, 92, 49, 56, 54, 92, 49, 56, 55, 92, 49, 56, 56, 92, 49, 56, 57, 92, 49, 57, 48, 92, 49, 57, 49, 92, 49, 57, 50, 92, 49, 57, 51, 92, 49, 57, 52, 92, 49, 57, 53, 92, 49, 57, 54, 92, 49, 57, 55, 92, 49, 57, 56, 92, 49, 57, 57, 92, 50, 48, 48, 92, 50, 48, 49, 92, 50, 48, 50, 92, 50, 48, 51, 92, 50, 48, 52, 92, 50, 48, 53, 92, 50, 48, 54, 92, 50, 48, 55, 92, 50, 48, 56, 92, 50, 48, 57, 92, 50, 49, 48, 92, 50, 49, 49, 92, 50, 49, 50, 92, 50, 49, 51, 92, 50, 49, 52, 92, 50, 49, 53, 92, 50, 49, 54, 92, 50, 49, 55, 92, 50, 49, 56, 92, 50, 49, 57, 92, 50, 50, 48, 92, 50, 50, 49, 92, 50, 50, 50, 92, 50, 50, 51, 92, 50, 50, 52, 92, 50, 50, 53, 92, 50, 50, 54, 92, 50, 50, 55, 92, 50, 50, 56, 92, 50, 50, 57, 92, 50, 51, 48, 92, 50, 51, 49, 92, 50, 51, 50, 92, 50, 51, 51, 92, 50, 51, 52, 92, 50, 51, 53, 92, 50, 51, 54, 92, 50, 51, 55, 92, 50, 51, 56, 92, 50, 51, 57, 92, 50, 52, 48, 92, 50, 52, 49, 92, 50, 52, 50, 92, 50, 52, 51, 92, 50, 52, 52, 92, 50, 52, 53, 92, 50, 52, 54, 92, 50, 52, 55, 92, 50, 52, 56, 92, 50, 52, 57, 92, 50, 53, 48, 92, 50, 53, 49, 92, 50, 53, 50, 92, 50, 53, 51, 92, 50, 53, 52, 92, 50, 53, 53]⟩ : ByteArray) = 516 from by kernel_rfl]; omega)]
    refine congrArg (fun x => Result.ok (Value.string x) W) ?_
    clear c0 hb4 hb44 hw4 hw5
    obtain ⟨n, hn0⟩ := Int.eq_ofNat_of_zero_le (show 0 ≤ b - 127 by omega)
    obtain rfl : b = 127 + (n : Int) := by omega
    have hn : n < 129 := by omega
    clear hn0
    clear h h0 
    revert n
    decide +kernel
  go_enter Tryd.func75, Tryd.ntmps75
  go_wp2
  go_ret
  exact ⟨rfl, by repeat (first | exact Drawn0.refl _ | apply Drawn0.step)⟩
theorem dns_escapeByte.calls (a0 : Int) (r : ByteArray) (w : World) (h : dns_escapeByte.f a0 = some r) :
    Calls Tryd.prog 75 #[.int .u8 a0] w fun e w' => e = .returned (.string r) ∧ Drawn0 w w' := by
  unfold dns_escapeByte.f at h
  split at h
  · rename_i c
    obtain rfl := Option.some.inj h
    rcases c with c | c
    · exact escb_low a0 w c.1 c.2
    · exact escb_high a0 w c.1 c.2
  · cases h

end Go.Proofs.YtiilihafcdmccaaDoor.P
/- What the walks ask of the package's errors, and what keeps it. -/
namespace Go.Proofs.YtiilihafcdmccaaDoor.P
open Go.RowKit Go.Proofs.YtiilihafcdmccaaDoorW.PrintWords Go.Proofs.YtiilihafcdmccaaDoorW.PrintLast Go.Proofs.YtiilihafcdmccaaDoorW.PrintMore
set_option linter.unusedVariables false

/-- The package's errors are laid: the cells hold something that is not nil. -/
def GoodU (w : World) : Prop := ∃ t0 x0 t1 x1 t2 x2, w.cell? ⟨0, 0, none⟩ = some (.iface t0 x0) ∧ w.cell? ⟨1, 0, none⟩ = some (.iface t1 x1) ∧ w.cell? ⟨2, 0, none⟩ = some (.iface t2 x2)
theorem GoodU.below {w w' : World} (h : GoodU w) (hb : Below w.heap.size w w') : GoodU w' := by
  obtain ⟨t0, x0, t1, x1, t2, x2, h0, h1, h2⟩ := h
  exact ⟨t0, x0, t1, x1, t2, x2, (hb.cell (World.block_lt_of_cell? w _ h0)).trans h0, (hb.cell (World.block_lt_of_cell? w _ h1)).trans h1, (hb.cell (World.block_lt_of_cell? w _ h2)).trans h2⟩
/-- An error that is nil or not. -/
def ErrV : Option Int → Value → Prop
  | none, v => v = .nilIface
  | some _, v => ∃ t x, v = .iface t x

end Go.Proofs.YtiilihafcdmccaaDoor.P
-- Written by a program of this session (wip/tools/pprint.py) out of the translation: it goes by the kit's print and by the contracts of YtiilihafcdmccaaDoorHand. Not trusted: Lean checks it.
namespace Go.Proofs.YtiilihafcdmccaaDoor.P
open Go.RowKit Go.Proofs.YtiilihafcdmccaaDoorW.PrintWords Go.Proofs.YtiilihafcdmccaaDoorW.PrintLast Go.Proofs.YtiilihafcdmccaaDoorW.PrintMore
attribute [local go_sem] max2_int min2_int max_two min_two max_three min_three max_four min_four   -- for this text's walks alone
set_option linter.unusedVariables false
set_option linter.unusedSimpArgs false

/-! ### dns_UnpackDomainName: function 48 -/
mutual
def dns_UnpackDomainName.l0 : Nat → List Int → Int → List Int → Int → Int → Int → Int → Option (ByteArray × Int × Option Int)
  | 0, _, _, _, _, _, _, _ => none
  | k + 1, x0, x1, x7, x8, x9, x10, x11 => if x1 ≥ x9 then (some ((⟨#[]⟩ : ByteArray), x9, some 0)) else (if 0 ≤ x1 then (if x1 < (x0.length : Int) then (if (Go.bits .and .i64 (wrap64 (rd x0 x1)) 192) = 0 then (if (wrap64 (rd x0 x1)) = 0 then (if x11 = 0 then (if (x7.length : Int) = 0 then (some ((⟨#[46]⟩ : ByteArray), wrap64 (x1 + 1), none)) else (some (strOfNums x7, wrap64 (x1 + 1), none))) else (if (x7.length : Int) = 0 then (some ((⟨#[46]⟩ : ByteArray), x8, none)) else (some (strOfNums x7, x8, none)))) else (if (wrap64 ((wrap64 (x1 + 1)) + (wrap64 (rd x0 x1)))) > x9 then (some ((⟨#[]⟩ : ByteArray), x9, some 0)) else (if (wrap64 (x10 - (wrap64 ((wrap64 (rd x0 x1)) + 1)))) ≤ 0 then (some ((⟨#[]⟩ : ByteArray), x9, some 1)) else (if 0 ≤ (wrap64 (x1 + 1)) then (if (wrap64 (x1 + 1)) ≤ (wrap64 ((wrap64 (x1 + 1)) + (wrap64 (rd x0 x1)))) then (if (wrap64 ((wrap64 (x1 + 1)) + (wrap64 (rd x0 x1)))) ≤ (x0.length : Int) then (dns_UnpackDomainName.l1 k x0 (wrap64 (x1 + 1)) x7 x8 x9 (wrap64 (x10 - (wrap64 ((wrap64 (rd x0 x1)) + 1)))) x11 (wrap64 (rd x0 x1)) ((x0.take ((wrap64 ((wrap64 (x1 + 1)) + (wrap64 (rd x0 x1)))) : Int).toNat).drop ((wrap64 (x1 + 1)) : Int).toNat) (((x0.take ((wrap64 ((wrap64 (x1 + 1)) + (wrap64 (rd x0 x1)))) : Int).toNat).drop ((wrap64 (x1 + 1)) : Int).toNat).length : Int) 0) else (none)) else (none)) else (none))))) else (if (Go.bits .and .i64 (wrap64 (rd x0 x1)) 192) = 192 then (if (wrap64 (x1 + 1)) ≥ x9 then (some ((⟨#[]⟩ : ByteArray), x9, some 0)) else (if 0 ≤ (wrap64 (x1 + 1)) then (if (wrap64 (x1 + 1)) < (x0.length : Int) then (if x11 = 0 then (if (wrap64 (x11 + 1)) > 126 then (some ((⟨#[]⟩ : ByteArray), x9, some 100)) else (dns_UnpackDomainName.l0 k x0 (Go.bits .or .i64 (wrap64 ((Go.bits .xor .i64 (wrap64 (rd x0 x1)) 192) * 256)) (wrap64 (rd x0 (wrap64 (x1 + 1))))) x7 (wrap64 ((wrap64 (x1 + 1)) + 1)) x9 x10 (wrap64 (x11 + 1)))) else (if (wrap64 (x11 + 1)) > 126 then (some ((⟨#[]⟩ : ByteArray), x9, some 100)) else (dns_UnpackDomainName.l0 k x0 (Go.bits .or .i64 (wrap64 ((Go.bits .xor .i64 (wrap64 (rd x0 x1)) 192) * 256)) (wrap64 (rd x0 (wrap64 (x1 + 1))))) x7 x8 x9 x10 (wrap64 (x11 + 1))))) else (none)) else (none))) else (some ((⟨#[]⟩ : ByteArray), x9, some 2)))) else (none)) else (none))
def dns_UnpackDomainName.l1 : Nat → List Int → Int → List Int → Int → Int → Int → Int → Int → List Int → Int → Int → Option (ByteArray × Int × Option Int)
  | 0, _, _, _, _, _, _, _, _, _, _, _ => none
  | k + 1, x0, x1, x7, x8, x9, x10, x11, x12, x59, x60, x61 => if x61 < x60 then (if 0 ≤ x61 then (if x61 < (x59.length : Int) then ((dns_isDomainNameLabelSpecial.f (rd x59 x61)).bind fun t241 => (if t241 = true then ((some (([92, rd x59 x61] : List Int) : List Int)).bind fun y242 => (if x7.length + y242.length < 140737488355328 then (dns_UnpackDomainName.l1 k x0 x1 (x7 ++ y242) x8 x9 x10 x11 x12 x59 x60 (wrap64 (x61 + 1))) else (none))) else (if (rd x59 x61) < 32 then ((dns_escapeByte.f (rd x59 x61)).bind fun t248 => (if x7.length + t248.size < 140737488355328 then (dns_UnpackDomainName.l1 k x0 x1 (x7 ++ bytesOf t248) x8 x9 x10 x11 x12 x59 x60 (wrap64 (x61 + 1))) else (none))) else (if (rd x59 x61) > 126 then ((dns_escapeByte.f (rd x59 x61)).bind fun t252 => (if x7.length + t252.size < 140737488355328 then (dns_UnpackDomainName.l1 k x0 x1 (x7 ++ bytesOf t252) x8 x9 x10 x11 x12 x59 x60 (wrap64 (x61 + 1))) else (none))) else (if x7.length < 140737488355328 then (dns_UnpackDomainName.l1 k x0 x1 (x7 ++ [rd x59 x61]) x8 x9 x10 x11 x12 x59 x60 (wrap64 (x61 + 1))) else (none)))))) else (none)) else (none)) else (if x7.length < 140737488355328 then (dns_UnpackDomainName.l0 k x0 (wrap64 (x1 + x12)) (x7 ++ [46]) x8 x9 x10 x11) else (none))
end
def dns_UnpackDomainName.f (k : Nat) (l0 : List Int) (a1 : Int) : Option (ByteArray × Int × Option Int) := if 0 ≤ 281474976710656 then (dns_UnpackDomainName.l0 k l0 a1 (List.replicate 0 0) 0 (l0.length : Int) 255 0) else (none)
theorem dns_UnpackDomainName.mono_l : ∀ k, (∀ y0 y1 y2 y3 y4 y5 y6, LeO (dns_UnpackDomainName.l0 k y0 y1 y2 y3 y4 y5 y6) (dns_UnpackDomainName.l0 (k + 1) y0 y1 y2 y3 y4 y5 y6)) ∧ (∀ y0 y1 y2 y3 y4 y5 y6 y7 y8 y9 y10, LeO (dns_UnpackDomainName.l1 k y0 y1 y2 y3 y4 y5 y6 y7 y8 y9 y10) (dns_UnpackDomainName.l1 (k + 1) y0 y1 y2 y3 y4 y5 y6 y7 y8 y9 y10))
  | 0 => ⟨fun _ _ _ _ _ _ _ r h => by simp [dns_UnpackDomainName.l0] at h, fun _ _ _ _ _ _ _ _ _ _ _ r h => by simp [dns_UnpackDomainName.l1] at h⟩
  | k + 1 => by
    obtain ⟨ih0, ih1⟩ := dns_UnpackDomainName.mono_l k
    refine ⟨?_, ?_⟩
    · intro y0 y1 y2 y3 y4 y5 y6
      unfold dns_UnpackDomainName.l0
      repeat' first
      | (with_reducible exact ih0 _ _ _ _ _ _ _)
      | (with_reducible exact ih1 _ _ _ _ _ _ _ _ _ _ _)
      | (with_reducible exact LeO.refl _)
      | (with_reducible exact LeO.none _)
      | (with_reducible refine LeO.ite ?_ ?_)
      | (with_reducible refine LeO.bind ?_ (fun _ => ?_))
      | exact ih0 _ _ _ _ _ _ _
      | exact ih1 _ _ _ _ _ _ _ _ _ _ _
      | exact LeO.none _
      | refine LeO.ite ?_ ?_
      | refine LeO.bind ?_ (fun _ => ?_)
    · intro y0 y1 y2 y3 y4 y5 y6 y7 y8 y9 y10
      unfold dns_UnpackDomainName.l1
      repeat' first
      | (with_reducible exact ih0 _ _ _ _ _ _ _)
      | (with_reducible exact ih1 _ _ _ _ _ _ _ _ _ _ _)
      | (with_reducible exact LeO.refl _)
      | (with_reducible exact LeO.none _)
      | (with_reducible refine LeO.ite ?_ ?_)
      | (with_reducible refine LeO.bind ?_ (fun _ => ?_))
      | exact ih0 _ _ _ _ _ _ _
      | exact ih1 _ _ _ _ _ _ _ _ _ _ _
      | exact LeO.none _
      | refine LeO.ite ?_ ?_
      | refine LeO.bind ?_ (fun _ => ?_)
theorem dns_UnpackDomainName.mono : ∀ a0 a1 k, LeO (dns_UnpackDomainName.f k a0 a1) (dns_UnpackDomainName.f (k + 1) a0 a1) := by
  intro a0 a1 k
  obtain ⟨ih0, ih1⟩ := dns_UnpackDomainName.mono_l k
  unfold dns_UnpackDomainName.f
  repeat' first
      | (with_reducible exact ih0 _ _ _ _ _ _ _)
      | (with_reducible exact ih1 _ _ _ _ _ _ _ _ _ _ _)
      | (with_reducible exact LeO.refl _)
      | (with_reducible exact LeO.none _)
      | (with_reducible refine LeO.ite ?_ ?_)
      | (with_reducible refine LeO.bind ?_ (fun _ => ?_))
      | exact ih0 _ _ _ _ _ _ _
      | exact ih1 _ _ _ _ _ _ _ _ _ _ _
      | exact LeO.none _
      | refine LeO.ite ?_ ?_
      | refine LeO.bind ?_ (fun _ => ?_)
set_option maxHeartbeats 8000000 in
set_option maxRecDepth 100000 in
theorem dns_UnpackDomainName.calls (k : Nat) (A0 : Option Addr) (c0 : Nat) (l0 : List Int) (a1 : Int) (r1 : ByteArray) (r2 : Int) (r3 : Option Int) (w : World) (hr0 : Kd.C (Kd.int .u8) w A0 l0.length l0) (hc0 : l0.length ≤ c0) (hG : GoodU w) (h : dns_UnpackDomainName.f k l0 a1 = some (r1, r2, r3)) :
    Calls Tryd.prog 48 #[.slice A0 l0.length c0, .int .i64 a1] w fun e w' => ∃ v3_ : Value, e = .returned (.tuple #[.string r1, .int .i64 r2, v3_]) ∧ ErrV r3 v3_ ∧ Below w.heap.size w w' := by
  have HG := Aside0.mk hG
  clear hG
  have HR0 := Aside0.mk hr0
  have HC0 := Aside0.mk hc0
  clear hr0 hc0
  have HB := Aside0.mk (Below.refl w.heap.size w)
  have H : (if 0 ≤ 281474976710656 then (dns_UnpackDomainName.l0 k l0 a1 (List.replicate 0 0) 0 (l0.length : Int) 255 0) else (none)) = some (r1, r2, r3) := h
  clear h
  by_cases c3 : 0 ≤ 281474976710656
  · rw [if_pos c3] at H
    have c3b0 := eq_true c3
    have c3b1 : decide (0 ≤ 281474976710656) = true := decide_eq_true c3
    clear c3
    obtain ⟨y232, hy232⟩ : ∃ y_ : List Int, y_ = (List.replicate 0 0) := ⟨_, rfl⟩
    replace H : (dns_UnpackDomainName.l0 k l0 a1 y232 0 (l0.length : Int) 255 0) = some (r1, r2, r3) := by first | (rw [hy232]; with_reducible exact H) | (have H2_ := (Option.bind_some _ _).symm.trans H; rw [hy232]; with_reducible exact H2_) | (have H2_ := (Option.bind_some _ _).symm.trans H; with_reducible exact H2_) | with_reducible exact H | (rw [hy232]; exact H) | exact H
    have Ny232 := Aside0.mk hy232
    clear hy232
    have H' := Aside0.mk H
    clear H
    go_enter Tryd.func48, Tryd.ntmps48
    go_wp2
    apply wp_scope_straight
    go_wp2_with (first | ((with_reducible refine gate_dst (N := 16) rfl ?_); refine R_makec (Kd.int .u8) _ 5 rfl (N := 16) rfl 22 _ _ rfl 0 1004 rfl rfl (by omega) Tryd.underlying22 (.int .u8 0) 1 info5 rfl (by decide) (by omega) 0 (ok := fun _ => True) (okp := fun _ => True) rfl (fun _ hk => hk) trivial (by omega) (by omega) (Below.refl _ _) (Nat.le_refl _) ?_; intro v233 w4 ho5 hb hg_ hnew_; clear hg_ hnew_; (first | rw [← Ny232.out] at ho5 | (simp only [Int.reduceToNat] at ho5; rw [← Ny232.out] at ho5)); have n0_ := Aside0.mk (Kd.R_lower ho5 (below_size (by repeat (first | (with_reducible first | exact HB.out | apply below_alloc | apply pw_below_drewN | apply below_drew1) | exact HB.out)))); have n1_ := Aside0.mk (below_step (by repeat (first | (with_reducible first | exact HB.out | apply below_alloc | apply pw_below_drewN | apply below_drew1) | exact HB.out)) hb); clear HB; have HO234 := n0_; have HB := n1_; clear n0_ n1_; clear hb ho5))
    repeat (go_quiet (first | ((with_reducible refine gate_dst (N := 16) rfl ?_); refine R_makec (Kd.int .u8) _ 5 rfl (N := 16) rfl 22 _ _ rfl 0 1004 rfl rfl (by omega) Tryd.underlying22 (.int .u8 0) 1 info5 rfl (by decide) (by omega) 0 (ok := fun _ => True) (okp := fun _ => True) rfl (fun _ hk => hk) trivial (by omega) (by omega) (Below.refl _ _) (Nat.le_refl _) ?_; intro v233 w4 ho5 hb hg_ hnew_; clear hg_ hnew_; (first | rw [← Ny232.out] at ho5 | (simp only [Int.reduceToNat] at ho5; rw [← Ny232.out] at ho5)); have n0_ := Aside0.mk (Kd.R_lower ho5 (below_size (by repeat (first | (with_reducible first | exact HB.out | apply below_alloc | apply pw_below_drewN | apply below_drew1) | exact HB.out)))); have n1_ := Aside0.mk (below_step (by repeat (first | (with_reducible first | exact HB.out | apply below_alloc | apply pw_below_drewN | apply below_drew1) | exact HB.out)) hb); clear HB; have HO234 := n0_; have HB := n1_; clear n0_ n1_; clear hb ho5)); try go_wp2_with (first | ((with_reducible refine gate_dst (N := 16) rfl ?_); refine R_makec (Kd.int .u8) _ 5 rfl (N := 16) rfl 22 _ _ rfl 0 1004 rfl rfl (by omega) Tryd.underlying22 (.int .u8 0) 1 info5 rfl (by decide) (by omega) 0 (ok := fun _ => True) (okp := fun _ => True) rfl (fun _ hk => hk) trivial (by omega) (by omega) (Below.refl _ _) (Nat.le_refl _) ?_; intro v233 w4 ho5 hb hg_ hnew_; clear hg_ hnew_; (first | rw [← Ny232.out] at ho5 | (simp only [Int.reduceToNat] at ho5; rw [← Ny232.out] at ho5)); have n0_ := Aside0.mk (Kd.R_lower ho5 (below_size (by repeat (first | (with_reducible first | exact HB.out | apply below_alloc | apply pw_below_drewN | apply below_drew1) | exact HB.out)))); have n1_ := Aside0.mk (below_step (by repeat (first | (with_reducible first | exact HB.out | apply below_alloc | apply pw_below_drewN | apply below_drew1) | exact HB.out)) hb); clear HB; have HO234 := n0_; have HB := n1_; clear n0_ n1_; clear hb ho5)))
    go_step3
    go_wp2
    go_loopg [1, 7, 8, 10, 11] k (fun kq v1 v7 v8 v10 v11 w' => ∃ (x1_1 : Int) (x7_1 : List Int) (x8_1 : Int) (x10_1 : Int) (x11_1 : Int), v1 = .int .i64 x1_1 ∧ v8 = .int .i64 x8_1 ∧ v10 = .int .i64 x10_1 ∧ v11 = .int .i64 x11_1 ∧ Aside0 (dns_UnpackDomainName.l0 kq l0 x1_1 x7_1 x8_1 (l0.length : Int) x10_1 x11_1 = some (r1, r2, r3)) ∧ Aside0 (kq ≤ k) ∧ Aside0 (Kd.R (Kd.int .u8) 5 w' w.heap.size (fun _ => True) v7 x7_1) ∧ Aside0 (Below w.heap.size w w'))
    case atStart => exact ⟨(a1), (y232), (0), (255), (0), (by first | rfl | (simp; done) | (simp [*]; done) | (simp [wrap64]; done)), (by first | rfl | (simp; done) | (simp [*]; done) | (simp [wrap64]; done)), (by first | rfl | (simp; done) | (simp [*]; done) | (simp [wrap64]; done)), (by first | rfl | (simp; done) | (simp [*]; done) | (simp [wrap64]; done)), H', ⟨Nat.le_refl _⟩, ⟨by (with_reducible repeat (first | apply Kd.R_alloc | apply Kd.R_drewN | apply Kd.R_drew)); exact HO234.out⟩, ⟨by repeat (first | (with_reducible first | exact HB.out | apply below_alloc | apply pw_below_drewN | apply below_drew1) | exact HB.out)⟩⟩
    case round =>
      clear H'
      try clear p2
      try clear c3
      try clear c3b0
      try clear c3b1
      try clear c4
      obtain ⟨x1_1, x7_1, x8_1, x10_1, x11_1, rfl, rfl, rfl, rfl, HA, HK1, HO_7, HB⟩ := hrel
      cases gk with
      | zero => exact absurd HA.out (by simp [dns_UnpackDomainName.l0])
      | succ k1 =>
        have H := HA.out
        clear HA
        simp only [dns_UnpackDomainName.l0] at H
        by_cases c6 : x1_1 ≥ (l0.length : Int)
        · rw [if_pos c6] at H
          have c6b0 : decide ((l0.length : Int) ≤ x1_1) = true := decide_eq_true c6
          clear c6
          simp only [Option.some.injEq, Prod.mk.injEq] at H
          obtain ⟨rfl, rfl, rfl⟩ := H
          obtain ⟨tg0_, xg0_, tg1_, xg1_, tg2_, xg2_, hg0_, hg1_, hg2_⟩ := GoodU.below HG.out HB.out
          go_wp2
          repeat (go_quiet (fail); try go_wp2)
          try simp only [Exit.noGoto_ret]
          go_ret3
          exact ⟨_, by first | rfl | (simp [errW_none, errW_some] <;> rfl) | (simp [*, errW_none, errW_some] <;> rfl), by first | exact rfl | exact ⟨_, _, rfl⟩, by repeat (first | (with_reducible first | exact HB.out | apply below_alloc | apply pw_below_drewN | apply below_drew1) | exact HB.out)⟩
        · rw [if_neg c6] at H
          have c6b0 : decide ((l0.length : Int) ≤ x1_1) = false := decide_eq_false c6
          clear c6
          by_cases c7 : 0 ≤ x1_1
          · rw [if_pos c7] at H
            have c7b0 : decide (0 ≤ x1_1) = true := decide_eq_true c7
            clear c7
            by_cases c8 : x1_1 < (l0.length : Int)
            · rw [if_pos c8] at H
              have c8b0 : decide (x1_1 < (l0.length : Int)) = true := decide_eq_true c8
              clear c8
              by_cases c9 : (Go.bits .and .i64 (wrap64 (rd l0 x1_1)) 192) = 0
              · rw [if_pos c9] at H
                have c9b0 : ((Go.bits .and .i64 (wrap64 (rd l0 x1_1)) 192) == 0) = true := beq_iff_eq.mpr c9
                have c9b1 : ((Go.bits .and .i64 (wrap64 (rd l0 x1_1)) 192) != 0) = false := bne_eq_false_iff_eq.mpr c9
                clear c9
                by_cases c10 : (wrap64 (rd l0 x1_1)) = 0
                · rw [if_pos c10] at H
                  have c10b0 : ((wrap64 (rd l0 x1_1)) == 0) = true := beq_iff_eq.mpr c10
                  have c10b1 : ((wrap64 (rd l0 x1_1)) != 0) = false := bne_eq_false_iff_eq.mpr c10
                  clear c10
                  by_cases c11 : x11_1 = 0
                  · rw [if_pos c11] at H
                    have c11b0 : (x11_1 == 0) = true := beq_iff_eq.mpr c11
                    have c11b1 : (x11_1 != 0) = false := bne_eq_false_iff_eq.mpr c11
                    clear c11
                    by_cases c12 : (x7_1.length : Int) = 0
                    · rw [if_pos c12] at H
                      have c12b0 : ((x7_1.length : Int) == 0) = true := beq_iff_eq.mpr c12
                      have c12b1 : ((x7_1.length : Int) != 0) = false := bne_eq_false_iff_eq.mpr c12
                      clear c12
                      simp only [Option.some.injEq, Prod.mk.injEq] at H
                      obtain ⟨rfl, rfl, rfl⟩ := H
                      obtain ⟨tg0_, xg0_, tg1_, xg1_, tg2_, xg2_, hg0_, hg1_, hg2_⟩ := GoodU.below HG.out HB.out
                      have p235 : 0 ≤ (x1_1 : Int) := of_decide_eq_true (by first | (with_reducible assumption) | assumption)
                      have q235 : x1_1 < (l0.length : Int) := of_decide_eq_true (by first | (with_reducible assumption) | assumption)
                      obtain ⟨ad235, e235, hx235_0⟩ := Kd.at_int HR0.out x1_1 p235 q235
                      cases e235
                      replace hx235_0 := (HB.out.cell (World.block_lt_of_cell? w _ hx235_0)).trans hx235_0
                      replace p235 := eq_true p235
                      replace q235 := eq_true q235
                      obtain ⟨Ao13, co13, eo13⟩ := Kd.R_slice HO_7.out
                      subst eo13
                      go_wp2
                      repeat (go_quiet (fail); try go_wp2)
                      try simp only [Exit.noGoto_ret]
                      go_ret3
                      exact ⟨_, by first | rfl | (simp [errW_none, errW_some] <;> rfl) | (simp [*, errW_none, errW_some] <;> rfl), by first | exact rfl | exact ⟨_, _, rfl⟩, by repeat (first | (with_reducible first | exact HB.out | apply below_alloc | apply pw_below_drewN | apply below_drew1) | exact HB.out)⟩
                    · rw [if_neg c12] at H
                      have c12b0 : ((x7_1.length : Int) == 0) = false := beq_eq_false_iff_ne.mpr c12
                      have c12b1 : ((x7_1.length : Int) != 0) = true := bne_iff_ne.mpr c12
                      have c12b2 : ¬ (x7_1 = []) := fun h_ => c12 (by rw [h_]; rfl)
                      simp only [Option.some.injEq, Prod.mk.injEq] at H
                      obtain ⟨rfl, rfl, rfl⟩ := H
                      obtain ⟨tg0_, xg0_, tg1_, xg1_, tg2_, xg2_, hg0_, hg1_, hg2_⟩ := GoodU.below HG.out HB.out
                      have p235 : 0 ≤ (x1_1 : Int) := of_decide_eq_true (by first | (with_reducible assumption) | assumption)
                      have q235 : x1_1 < (l0.length : Int) := of_decide_eq_true (by first | (with_reducible assumption) | assumption)
                      obtain ⟨ad235, e235, hx235_0⟩ := Kd.at_int HR0.out x1_1 p235 q235
                      cases e235
                      replace hx235_0 := (HB.out.cell (World.block_lt_of_cell? w _ hx235_0)).trans hx235_0
                      replace p235 := eq_true p235
                      replace q235 := eq_true q235
                      obtain ⟨Ao14, co14, eo14⟩ := Kd.R_slice HO_7.out
                      subst eo14
                      have hcv15 := own_string (P := Tryd.prog) Tryd.underlying22 Tryd.underlying5 Tryd.underlying9 (Kd.own_of_R HO_7.out)
                      go_wp2
                      repeat (go_quiet (fail); try go_wp2)
                      try simp only [Exit.noGoto_ret]
                      go_ret3
                      exact ⟨_, by first | rfl | (simp [errW_none, errW_some] <;> rfl) | (simp [*, errW_none, errW_some] <;> rfl), by first | exact rfl | exact ⟨_, _, rfl⟩, by repeat (first | (with_reducible first | exact HB.out | apply below_alloc | apply pw_below_drewN | apply below_drew1) | exact HB.out)⟩
                  · rw [if_neg c11] at H
                    have c11b0 : (x11_1 == 0) = false := beq_eq_false_iff_ne.mpr c11
                    have c11b1 : (x11_1 != 0) = true := bne_iff_ne.mpr c11
                    by_cases c16 : (x7_1.length : Int) = 0
                    · rw [if_pos c16] at H
                      have c16b0 : ((x7_1.length : Int) == 0) = true := beq_iff_eq.mpr c16
                      have c16b1 : ((x7_1.length : Int) != 0) = false := bne_eq_false_iff_eq.mpr c16
                      clear c16
                      simp only [Option.some.injEq, Prod.mk.injEq] at H
                      obtain ⟨rfl, rfl, rfl⟩ := H
                      obtain ⟨tg0_, xg0_, tg1_, xg1_, tg2_, xg2_, hg0_, hg1_, hg2_⟩ := GoodU.below HG.out HB.out
                      have p235 : 0 ≤ (x1_1 : Int) := of_decide_eq_true (by first | (with_reducible assumption) | assumption)
                      have q235 : x1_1 < (l0.length : Int) := of_decide_eq_true (by first | (with_reducible assumption) | assumption)
                      obtain ⟨ad235, e235, hx235_0⟩ := Kd.at_int HR0.out x1_1 p235 q235
                      cases e235
                      replace hx235_0 := (HB.out.cell (World.block_lt_of_cell? w _ hx235_0)).trans hx235_0
                      replace p235 := eq_true p235
                      replace q235 := eq_true q235
                      obtain ⟨Ao17, co17, eo17⟩ := Kd.R_slice HO_7.out
                      subst eo17
                      go_wp2
                      repeat (go_quiet (fail); try go_wp2)
                      try simp only [Exit.noGoto_ret]
                      go_ret3
                      exact ⟨_, by first | rfl | (simp [errW_none, errW_some] <;> rfl) | (simp [*, errW_none, errW_some] <;> rfl), by first | exact rfl | exact ⟨_, _, rfl⟩, by repeat (first | (with_reducible first | exact HB.out | apply below_alloc | apply pw_below_drewN | apply below_drew1) | exact HB.out)⟩
                    · rw [if_neg c16] at H
                      have c16b0 : ((x7_1.length : Int) == 0) = false := beq_eq_false_iff_ne.mpr c16
                      have c16b1 : ((x7_1.length : Int) != 0) = true := bne_iff_ne.mpr c16
                      have c16b2 : ¬ (x7_1 = []) := fun h_ => c16 (by rw [h_]; rfl)
                      simp only [Option.some.injEq, Prod.mk.injEq] at H
                      obtain ⟨rfl, rfl, rfl⟩ := H
                      obtain ⟨tg0_, xg0_, tg1_, xg1_, tg2_, xg2_, hg0_, hg1_, hg2_⟩ := GoodU.below HG.out HB.out
                      have p235 : 0 ≤ (x1_1 : Int) := of_decide_eq_true (by first | (with_reducible assumption) | assumption)
                      have q235 : x1_1 < (l0.length : Int) := of_decide_eq_true (by first | (with_reducible assumption) | assumption)
                      obtain ⟨ad235, e235, hx235_0⟩ := Kd.at_int HR0.out x1_1 p235 q235
                      cases e235
                      replace hx235_0 := (HB.out.cell (World.block_lt_of_cell? w _ hx235_0)).trans hx235_0
                      replace p235 := eq_true p235
                      replace q235 := eq_true q235
                      obtain ⟨Ao18, co18, eo18⟩ := Kd.R_slice HO_7.out
                      subst eo18
                      have hcv19 := own_string (P := Tryd.prog) Tryd.underlying22 Tryd.underlying5 Tryd.underlying9 (Kd.own_of_R HO_7.out)
                      go_wp2
                      repeat (go_quiet (fail); try go_wp2)
                      try simp only [Exit.noGoto_ret]
                      go_ret3
                      exact ⟨_, by first | rfl | (simp [errW_none, errW_some] <;> rfl) | (simp [*, errW_none, errW_some] <;> rfl), by first | exact rfl | exact ⟨_, _, rfl⟩, by repeat (first | (with_reducible first | exact HB.out | apply below_alloc | apply pw_below_drewN | apply below_drew1) | exact HB.out)⟩
                · rw [if_neg c10] at H
                  have c10b0 : ((wrap64 (rd l0 x1_1)) == 0) = false := beq_eq_false_iff_ne.mpr c10
                  have c10b1 : ((wrap64 (rd l0 x1_1)) != 0) = true := bne_iff_ne.mpr c10
                  by_cases c20 : (wrap64 ((wrap64 (x1_1 + 1)) + (wrap64 (rd l0 x1_1)))) > (l0.length : Int)
                  · rw [if_pos c20] at H
                    have c20b0 : decide ((l0.length : Int) < (wrap64 ((wrap64 (x1_1 + 1)) + (wrap64 (rd l0 x1_1))))) = true := decide_eq_true c20
                    clear c20
                    simp only [Option.some.injEq, Prod.mk.injEq] at H
                    obtain ⟨rfl, rfl, rfl⟩ := H
                    obtain ⟨tg0_, xg0_, tg1_, xg1_, tg2_, xg2_, hg0_, hg1_, hg2_⟩ := GoodU.below HG.out HB.out
                    have p235 : 0 ≤ (x1_1 : Int) := of_decide_eq_true (by first | (with_reducible assumption) | assumption)
                    have q235 : x1_1 < (l0.length : Int) := of_decide_eq_true (by first | (with_reducible assumption) | assumption)
                    obtain ⟨ad235, e235, hx235_0⟩ := Kd.at_int HR0.out x1_1 p235 q235
                    cases e235
                    replace hx235_0 := (HB.out.cell (World.block_lt_of_cell? w _ hx235_0)).trans hx235_0
                    replace p235 := eq_true p235
                    replace q235 := eq_true q235
                    go_wp2
                    repeat (go_quiet (fail); try go_wp2)
                    try simp only [Exit.noGoto_ret]
                    go_ret3
                    exact ⟨_, by first | rfl | (simp [errW_none, errW_some] <;> rfl) | (simp [*, errW_none, errW_some] <;> rfl), by first | exact rfl | exact ⟨_, _, rfl⟩, by repeat (first | (with_reducible first | exact HB.out | apply below_alloc | apply pw_below_drewN | apply below_drew1) | exact HB.out)⟩
                  · rw [if_neg c20] at H
                    have c20b0 : decide ((l0.length : Int) < (wrap64 ((wrap64 (x1_1 + 1)) + (wrap64 (rd l0 x1_1))))) = false := decide_eq_false c20
                    clear c20
                    by_cases c21 : (wrap64 (x10_1 - (wrap64 ((wrap64 (rd l0 x1_1)) + 1)))) ≤ 0
                    · rw [if_pos c21] at H
                      have c21b0 : decide ((wrap64 (x10_1 - (wrap64 ((wrap64 (rd l0 x1_1)) + 1)))) ≤ 0) = true := decide_eq_true c21
                      clear c21
                      simp only [Option.some.injEq, Prod.mk.injEq] at H
                      obtain ⟨rfl, rfl, rfl⟩ := H
                      obtain ⟨tg0_, xg0_, tg1_, xg1_, tg2_, xg2_, hg0_, hg1_, hg2_⟩ := GoodU.below HG.out HB.out
                      have p235 : 0 ≤ (x1_1 : Int) := of_decide_eq_true (by first | (with_reducible assumption) | assumption)
                      have q235 : x1_1 < (l0.length : Int) := of_decide_eq_true (by first | (with_reducible assumption) | assumption)
                      obtain ⟨ad235, e235, hx235_0⟩ := Kd.at_int HR0.out x1_1 p235 q235
                      cases e235
                      replace hx235_0 := (HB.out.cell (World.block_lt_of_cell? w _ hx235_0)).trans hx235_0
                      replace p235 := eq_true p235
                      replace q235 := eq_true q235
                      go_wp2
                      repeat (go_quiet (fail); try go_wp2)
                      try simp only [Exit.noGoto_ret]
                      go_ret3
                      exact ⟨_, by first | rfl | (simp [errW_none, errW_some] <;> rfl) | (simp [*, errW_none, errW_some] <;> rfl), by first | exact rfl | exact ⟨_, _, rfl⟩, by repeat (first | (with_reducible first | exact HB.out | apply below_alloc | apply pw_below_drewN | apply below_drew1) | exact HB.out)⟩
                    · rw [if_neg c21] at H
                      have c21b0 : decide ((wrap64 (x10_1 - (wrap64 ((wrap64 (rd l0 x1_1)) + 1)))) ≤ 0) = false := decide_eq_false c21
                      clear c21
                      obtain ⟨ji22, hji22⟩ : ∃ j_ : Int, (wrap64 (x1_1 + 1)) = j_ := ⟨_, rfl⟩
                      replace H : (if 0 ≤ (ji22) then (if (ji22) ≤ (wrap64 ((ji22) + (wrap64 (rd l0 x1_1)))) then (if (wrap64 ((ji22) + (wrap64 (rd l0 x1_1)))) ≤ (l0.length : Int) then (dns_UnpackDomainName.l1 k1 l0 ji22 x7_1 x8_1 (l0.length : Int) (wrap64 (x10_1 - (wrap64 ((wrap64 (rd l0 x1_1)) + 1)))) x11_1 (wrap64 (rd l0 x1_1)) ((l0.take ((wrap64 ((ji22) + (wrap64 (rd l0 x1_1)))) : Int).toNat).drop ((ji22) : Int).toNat) (((l0.take ((wrap64 ((ji22) + (wrap64 (rd l0 x1_1)))) : Int).toNat).drop ((ji22) : Int).toNat).length : Int) 0) else (none)) else (none)) else (none)) = some (r1, r2, r3) := by first | (rw [hji22] at H; exact H) | (simp only [hji22] at H ⊢; exact H)
                      (try rw [hji22] at c20b0)
                      have hji22w : (IntKind.i64.wrap (x1_1 + 1)) = ji22 := (i64_w _).trans hji22
                      by_cases c23 : 0 ≤ (ji22)
                      · rw [if_pos c23] at H
                        have c23b0 := eq_true c23
                        have c23b1 : decide (0 ≤ (ji22)) = true := decide_eq_true c23
                        clear c23
                        by_cases c24 : (ji22) ≤ (wrap64 ((ji22) + (wrap64 (rd l0 x1_1))))
                        · rw [if_pos c24] at H
                          have c24b0 := eq_true c24
                          have c24b1 : decide ((ji22) ≤ (wrap64 ((ji22) + (wrap64 (rd l0 x1_1))))) = true := decide_eq_true c24
                          by_cases c25 : (wrap64 ((ji22) + (wrap64 (rd l0 x1_1)))) ≤ (l0.length : Int)
                          · rw [if_pos c25] at H
                            have c25b0 := eq_true c25
                            have c25b1 : decide ((wrap64 ((ji22) + (wrap64 (rd l0 x1_1)))) ≤ (l0.length : Int)) = true := decide_eq_true c25
                            have H' := Aside0.mk H
                            clear H
                            have p235 : 0 ≤ (x1_1 : Int) := of_decide_eq_true (by first | (with_reducible assumption) | assumption)
                            have q235 : x1_1 < (l0.length : Int) := of_decide_eq_true (by first | (with_reducible assumption) | assumption)
                            obtain ⟨ad235, e235, hx235_0⟩ := Kd.at_int HR0.out x1_1 p235 q235
                            cases e235
                            replace hx235_0 := (HB.out.cell (World.block_lt_of_cell? w _ hx235_0)).trans hx235_0
                            replace p235 := eq_true p235
                            replace q235 := eq_true q235
                            obtain ⟨i026, hi026, _, hsz26, _⟩ := info_parts info5
                            obtain ⟨A26, hcut26, hA26, hC26⟩ := print_mid_of (P := Tryd.prog) (Value.int .u8) 0 22 5 .i64 .i64 Tryd.underlying22 hi026 hsz26 (some ad235) c0 l0 (ji22) (wrap64 ((ji22) + (wrap64 (rd l0 x1_1)))) (of_decide_eq_true (by first | (with_reducible assumption) | assumption)) (by first | omega | exact of_decide_eq_true (by first | (with_reducible assumption) | assumption)) (of_decide_eq_true (by first | (with_reducible assumption) | assumption)) HC0.out
                            have HR236 := Aside0.mk (Kd.C_of_reads (h1 := fun _ => rfl) (hA26 _ (Kd.reads_of_C HR0.out)))
                            have HC236 := Aside0.mk hC26
                            clear hA26 hC26 hi026 hsz26
                            obtain ⟨LL26, hLL26⟩ : ∃ l_ : List Int, ((l0.take ((wrap64 ((ji22) + (wrap64 (rd l0 x1_1)))) : Int).toNat).drop ((ji22) : Int).toNat) = l_ := ⟨_, rfl⟩
                            rw [hLL26] at hcut26 HR236 HC236 H'
                            clear hLL26
                            go_wp2
                            repeat (go_quiet (fail); try go_wp2)
                            go_loopg [7, 61] k1 (fun kq v7 v61 w' => ∃ (x7_2 : List Int) (x61_2 : Int), v61 = .int .i64 x61_2 ∧ Aside0 (dns_UnpackDomainName.l1 kq l0 ji22 x7_2 x8_1 (l0.length : Int) (wrap64 (x10_1 - (wrap64 ((wrap64 (rd l0 x1_1)) + 1)))) x11_1 (wrap64 (rd l0 x1_1)) LL26 (LL26.length : Int) x61_2 = some (r1, r2, r3)) ∧ Aside0 (kq ≤ k1) ∧ Aside0 (Kd.R (Kd.int .u8) 5 w' w.heap.size (fun _ => True) v7 x7_2) ∧ Aside0 (Below w.heap.size w w'))
                            case atStart => exact ⟨(x7_1), (0), (by first | rfl | (simp; done) | (simp [*]; done) | (simp [wrap64]; done)), H', ⟨Nat.le_refl _⟩, ⟨by (with_reducible repeat (first | apply Kd.R_alloc | apply Kd.R_drewN | apply Kd.R_drew)); exact HO_7.out⟩, ⟨by repeat (first | (with_reducible first | exact HB.out | apply below_alloc | apply pw_below_drewN | apply below_drew1) | exact HB.out)⟩⟩
                            case round =>
                              clear H'
                              try clear c1
                              try clear hcv1
                              try clear c2
                              try clear p2
                              try clear q2
                              try clear hx2
                              try clear c3
                              try clear c3b0
                              try clear c3b1
                              try clear c4
                              try clear c6
                              try clear c6b0
                              try clear p6
                              try clear c7
                              try clear c7b0
                              try clear c8
                              try clear c8b0
                              try clear c9
                              try clear c9b0
                              try clear c9b1
                              try clear c10
                              try clear c10b0
                              try clear c10b1
                              try clear c11
                              try clear c11b0
                              try clear c11b1
                              try clear c12
                              try clear c12b0
                              try clear c12b1
                              try clear c12b2
                              try clear hcv15
                              try clear c16
                              try clear c16b0
                              try clear c16b1
                              try clear c16b2
                              try clear hcv19
                              try clear c20
                              try clear c20b0
                              try clear c21
                              try clear c21b0
                              try clear c23
                              try clear c23b0
                              try clear c23b1
                              try clear p23
                              try clear q23
                              try clear hx23
                              try clear c24
                              try clear c24b0
                              try clear c24b1
                              try clear c25
                              try clear c25b0
                              try clear c25b1
                              try clear hx235_0
                              try clear p2
                              try clear p235
                              try clear q235
                              obtain ⟨x7_2, x61_2, rfl, HA, HK2, HO_7, HB⟩ := hrel
                              cases gk with
                              | zero => exact absurd HA.out (by simp [dns_UnpackDomainName.l1])
                              | succ k2 =>
                                have H := HA.out
                                clear HA
                                simp only [dns_UnpackDomainName.l1] at H
                                by_cases c27 : x61_2 < (LL26.length : Int)
                                · rw [if_pos c27] at H
                                  have c27b0 : decide (x61_2 < (LL26.length : Int)) = true := decide_eq_true c27
                                  clear c27
                                  by_cases c28 : 0 ≤ x61_2
                                  · rw [if_pos c28] at H
                                    have c28b0 : decide (0 ≤ x61_2) = true := decide_eq_true c28
                                    clear c28
                                    by_cases c29 : x61_2 < (LL26.length : Int)
                                    · rw [if_pos c29] at H
                                      have c29b0 : decide (x61_2 < (LL26.length : Int)) = true := decide_eq_true c29
                                      clear c29
                                      replace H := Option.bind_eq_some_iff.mp H
                                      obtain ⟨t241, A300, H⟩ := H
                                      replace H : (if t241 = true then ((some (([92, rd LL26 x61_2] : List Int) : List Int)).bind fun y242 => (if x7_2.length + y242.length < 140737488355328 then (dns_UnpackDomainName.l1 k2 l0 ji22 (x7_2 ++ y242) x8_1 (l0.length : Int) (wrap64 (x10_1 - (wrap64 ((wrap64 (rd l0 x1_1)) + 1)))) x11_1 (wrap64 (rd l0 x1_1)) LL26 (LL26.length : Int) (wrap64 (x61_2 + 1))) else (none))) else (if (rd LL26 x61_2) < 32 then ((dns_escapeByte.f (rd LL26 x61_2)).bind fun t248 => (if x7_2.length + t248.size < 140737488355328 then (dns_UnpackDomainName.l1 k2 l0 ji22 (x7_2 ++ bytesOf t248) x8_1 (l0.length : Int) (wrap64 (x10_1 - (wrap64 ((wrap64 (rd l0 x1_1)) + 1)))) x11_1 (wrap64 (rd l0 x1_1)) LL26 (LL26.length : Int) (wrap64 (x61_2 + 1))) else (none))) else (if (rd LL26 x61_2) > 126 then ((dns_escapeByte.f (rd LL26 x61_2)).bind fun t252 => (if x7_2.length + t252.size < 140737488355328 then (dns_UnpackDomainName.l1 k2 l0 ji22 (x7_2 ++ bytesOf t252) x8_1 (l0.length : Int) (wrap64 (x10_1 - (wrap64 ((wrap64 (rd l0 x1_1)) + 1)))) x11_1 (wrap64 (rd l0 x1_1)) LL26 (LL26.length : Int) (wrap64 (x61_2 + 1))) else (none))) else (if x7_2.length < 140737488355328 then (dns_UnpackDomainName.l1 k2 l0 ji22 (x7_2 ++ [rd LL26 x61_2]) x8_1 (l0.length : Int) (wrap64 (x10_1 - (wrap64 ((wrap64 (rd l0 x1_1)) + 1)))) x11_1 (wrap64 (rd l0 x1_1)) LL26 (LL26.length : Int) (wrap64 (x61_2 + 1))) else (none))))) = some (r1, r2, r3) := H
                                      have A30 := Aside0.mk A300
                                      clear A300
                                      by_cases c31 : t241 = true
                                      · subst c31
                                        have H1 : ((some (([92, rd LL26 x61_2] : List Int) : List Int)).bind fun y242 => (if x7_2.length + y242.length < 140737488355328 then (dns_UnpackDomainName.l1 k2 l0 ji22 (x7_2 ++ y242) x8_1 (l0.length : Int) (wrap64 (x10_1 - (wrap64 ((wrap64 (rd l0 x1_1)) + 1)))) x11_1 (wrap64 (rd l0 x1_1)) LL26 (LL26.length : Int) (wrap64 (x61_2 + 1))) else (none))) = some (r1, r2, r3) := by rw [if_pos rfl] at H; exact H
                                        clear H
                                        have H := H1
                                        clear H1
                                        obtain ⟨y242, hy242⟩ : ∃ y_ : List Int, y_ = (([92, rd LL26 x61_2] : List Int)) := ⟨_, rfl⟩
                                        replace H : (if x7_2.length + y242.length < 140737488355328 then (dns_UnpackDomainName.l1 k2 l0 ji22 (x7_2 ++ y242) x8_1 (l0.length : Int) (wrap64 (x10_1 - (wrap64 ((wrap64 (rd l0 x1_1)) + 1)))) x11_1 (wrap64 (rd l0 x1_1)) LL26 (LL26.length : Int) (wrap64 (x61_2 + 1))) else (none)) = some (r1, r2, r3) := by first | (rw [hy242]; with_reducible exact H) | (have H2_ := (Option.bind_some _ _).symm.trans H; rw [hy242]; with_reducible exact H2_) | (have H2_ := (Option.bind_some _ _).symm.trans H; with_reducible exact H2_) | with_reducible exact H | (rw [hy242]; exact H) | exact H
                                        have Ny242 := Aside0.mk hy242
                                        clear hy242
                                        by_cases c32 : x7_2.length + y242.length < 140737488355328
                                        · rw [if_pos c32] at H
                                          have LMc32 := Aside0.mk c32
                                          clear c32
                                          obtain ⟨y245, hy245⟩ : ∃ y_ : List Int, y_ = (x7_2 ++ y242) := ⟨_, rfl⟩
                                          replace H : (dns_UnpackDomainName.l1 k2 l0 ji22 y245 x8_1 (l0.length : Int) (wrap64 (x10_1 - (wrap64 ((wrap64 (rd l0 x1_1)) + 1)))) x11_1 (wrap64 (rd l0 x1_1)) LL26 (LL26.length : Int) (wrap64 (x61_2 + 1))) = some (r1, r2, r3) := by first | (rw [hy245]; with_reducible exact H) | (have H2_ := (Option.bind_some _ _).symm.trans H; rw [hy245]; with_reducible exact H2_) | (have H2_ := (Option.bind_some _ _).symm.trans H; with_reducible exact H2_) | with_reducible exact H | (rw [hy245]; exact H) | exact H
                                          have Ny245 := Aside0.mk hy245
                                          clear hy245
                                          have H' := Aside0.mk H
                                          clear H
                                          have p240 : 0 ≤ (x61_2 : Int) := of_decide_eq_true (by first | (with_reducible assumption) | assumption)
                                          have q240 : x61_2 < (LL26.length : Int) := of_decide_eq_true (by first | (with_reducible assumption) | assumption)
                                          obtain ⟨ad240, e240, hx240_0⟩ := Kd.at_int HR236.out x61_2 p240 q240
                                          cases e240
                                          replace hx240_0 := (HB.out.cell (World.block_lt_of_cell? w _ hx240_0)).trans hx240_0
                                          replace p240 := eq_true p240
                                          replace q240 := eq_true q240
                                          go_wp2_with (first | (go_at_call 74; (with_reducible refine (dns_isDomainNameLabelSpecial.calls (rd LL26 x61_2) true _ A30.out).mono ?_); rintro e w' ⟨rfl, ⟨nd, rfl⟩⟩; (try first | exact ⟨rfl, _, World.drewN_drewN _ _ _⟩ | exact ⟨rfl, _, Eq.trans (World.drewN_drewN _ _ _) (congrArg (World.drewN _) (Nat.add_assoc _ _ _))⟩)) | ((with_reducible refine gate_dst (N := 69) rfl ?_); refine Kd.R_lit (Kd.int .u8) _ 5 ?hg (N := 69) ?hd (xs := ([92, rd LL26 x61_2] : List Int)) (inner := [.int .u8 92, .int .u8 (rd LL26 x61_2)]) (ok := fun _ => True) (okp := fun _ => True) ?hr ?hp (fun _ hk => hk) trivial (Below.refl _ _) (Nat.le_refl _) (by simp) ?_; (case hd => rfl); (case hg => rfl); (case hr => first | (go_simp; done) | (go_simp; rfl)); (case hp => exact (Reps.one (show Kd.M (Kd.int .u8) _ _ _ 92 [.int .u8 92] from rfl) (Reps.one (show Kd.M (Kd.int .u8) _ _ _ (rd LL26 x61_2) [.int .u8 (rd LL26 x61_2)] from rfl) (Reps.none _ _)))); intro v243 w33 ho34 hb hg_ hnew_; clear hg_ hnew_; (first | rw [← Ny242.out] at ho34 | (simp only [Int.reduceToNat] at ho34; rw [← Ny242.out] at ho34)); have n0_ := Aside0.mk (Kd.R_elder' (by (with_reducible repeat (first | apply Kd.R_alloc | apply Kd.R_drewN | apply Kd.R_drew)); exact HO_7.out) (Kd.R_base ho34) hb); have n1_ := Aside0.mk (Kd.R_lower (Kd.R_new' ho34 (Kd.R_lt (by (with_reducible repeat (first | apply Kd.R_alloc | apply Kd.R_drewN | apply Kd.R_drew)); exact HO_7.out))) (below_size (by repeat (first | (with_reducible first | exact HB.out | apply below_alloc | apply pw_below_drewN | apply below_drew1) | exact HB.out)))); have n2_ := Aside0.mk (below_step (by repeat (first | (with_reducible first | exact HB.out | apply below_alloc | apply pw_below_drewN | apply below_drew1) | exact HB.out)) hb); clear HO_7; clear HB; have HO_7 := n0_; have HO244 := n1_; have HB := n2_; clear n0_ n1_ n2_; clear hb ho34; obtain ⟨Ao36, co36, eo36⟩ := Kd.R_slice HO244.out; subst eo36) | ((with_reducible refine gate_builtin (b := .append) (xs := #[.tmp 67, .tmp 69]) rfl ?_); at_builtin; refine Kd.R_append_rows (Kd.int .u8) (w0 := w) w.heap.size rfl (.tmp 67) (.tmp 69) 22 5 (.int .u8 0) 1 rfl Tryd.underlying22 info5 rfl (by decide) (by omega) u7 x7_2 y242 _ _ _ (fun k_ => some k_ ≠ (.slice Ao36 y242.length co36 : Value).ownBlock) (fun _ => False) rfl rfl ?aO ?aR (fun _ _ h => h) (fun _ h => h.elim) ?aF ?aB ?aS ?aL ?_; (case aR => repeat (first | exact (Kd.R_reads' HO244.out).2.2 | (with_reducible refine Kd.C_alloc ?_ _) | (with_reducible refine Kd.C_drewN ?_ _) | (with_reducible refine Kd.C_drew ?_))); (case aB => exact (by repeat (first | (with_reducible first | exact HB.out | apply below_alloc | apply pw_below_drewN | apply below_drew1) | exact HB.out))); (case aF => exact (fun k_ hk => Kd.fresh' (Kd.R_lt (by (with_reducible repeat (first | apply Kd.R_alloc | apply Kd.R_drewN | apply Kd.R_drew)); exact HO244.out)) k_ hk)); (case aO => exact (by (with_reducible repeat (first | apply Kd.R_alloc | apply Kd.R_drewN | apply Kd.R_drew)); exact Kd.R_mono HO_7.out (fun _ hk => hk.2))); (case aS => exact (below_size (by repeat (first | (with_reducible first | exact HB.out | apply below_alloc | apply pw_below_drewN | apply below_drew1) | exact HB.out)))); (case aL => have := LMc32.out; omega); intro v246 w35 ho hb hg hat; rw [← Ny245.out] at ho; have n0_ := Aside0.mk (Kd.R_after (ok := (fun _ => True)) (by (with_reducible repeat (first | apply Kd.R_alloc | apply Kd.R_drewN | apply Kd.R_drew)); exact HO244.out) hg hat); have n1_ := Aside0.mk (hb); have n2_ := Aside0.mk (ho); clear HO244; clear HB; clear HO_7; have HO244 := n0_; have HB := n1_; have HO247 := n2_; clear n0_ n1_ n2_; clear ho hb hg hat))
                                          repeat (go_quiet (first | (go_at_call 74; (with_reducible refine (dns_isDomainNameLabelSpecial.calls (rd LL26 x61_2) true _ A30.out).mono ?_); rintro e w' ⟨rfl, ⟨nd, rfl⟩⟩; (try first | exact ⟨rfl, _, World.drewN_drewN _ _ _⟩ | exact ⟨rfl, _, Eq.trans (World.drewN_drewN _ _ _) (congrArg (World.drewN _) (Nat.add_assoc _ _ _))⟩)) | ((with_reducible refine gate_dst (N := 69) rfl ?_); refine Kd.R_lit (Kd.int .u8) _ 5 ?hg (N := 69) ?hd (xs := ([92, rd LL26 x61_2] : List Int)) (inner := [.int .u8 92, .int .u8 (rd LL26 x61_2)]) (ok := fun _ => True) (okp := fun _ => True) ?hr ?hp (fun _ hk => hk) trivial (Below.refl _ _) (Nat.le_refl _) (by simp) ?_; (case hd => rfl); (case hg => rfl); (case hr => first | (go_simp; done) | (go_simp; rfl)); (case hp => exact (Reps.one (show Kd.M (Kd.int .u8) _ _ _ 92 [.int .u8 92] from rfl) (Reps.one (show Kd.M (Kd.int .u8) _ _ _ (rd LL26 x61_2) [.int .u8 (rd LL26 x61_2)] from rfl) (Reps.none _ _)))); intro v243 w33 ho34 hb hg_ hnew_; clear hg_ hnew_; (first | rw [← Ny242.out] at ho34 | (simp only [Int.reduceToNat] at ho34; rw [← Ny242.out] at ho34)); have n0_ := Aside0.mk (Kd.R_elder' (by (with_reducible repeat (first | apply Kd.R_alloc | apply Kd.R_drewN | apply Kd.R_drew)); exact HO_7.out) (Kd.R_base ho34) hb); have n1_ := Aside0.mk (Kd.R_lower (Kd.R_new' ho34 (Kd.R_lt (by (with_reducible repeat (first | apply Kd.R_alloc | apply Kd.R_drewN | apply Kd.R_drew)); exact HO_7.out))) (below_size (by repeat (first | (with_reducible first | exact HB.out | apply below_alloc | apply pw_below_drewN | apply below_drew1) | exact HB.out)))); have n2_ := Aside0.mk (below_step (by repeat (first | (with_reducible first | exact HB.out | apply below_alloc | apply pw_below_drewN | apply below_drew1) | exact HB.out)) hb); clear HO_7; clear HB; have HO_7 := n0_; have HO244 := n1_; have HB := n2_; clear n0_ n1_ n2_; clear hb ho34; obtain ⟨Ao36, co36, eo36⟩ := Kd.R_slice HO244.out; subst eo36) | ((with_reducible refine gate_builtin (b := .append) (xs := #[.tmp 67, .tmp 69]) rfl ?_); at_builtin; refine Kd.R_append_rows (Kd.int .u8) (w0 := w) w.heap.size rfl (.tmp 67) (.tmp 69) 22 5 (.int .u8 0) 1 rfl Tryd.underlying22 info5 rfl (by decide) (by omega) u7 x7_2 y242 _ _ _ (fun k_ => some k_ ≠ (.slice Ao36 y242.length co36 : Value).ownBlock) (fun _ => False) rfl rfl ?aO ?aR (fun _ _ h => h) (fun _ h => h.elim) ?aF ?aB ?aS ?aL ?_; (case aR => repeat (first | exact (Kd.R_reads' HO244.out).2.2 | (with_reducible refine Kd.C_alloc ?_ _) | (with_reducible refine Kd.C_drewN ?_ _) | (with_reducible refine Kd.C_drew ?_))); (case aB => exact (by repeat (first | (with_reducible first | exact HB.out | apply below_alloc | apply pw_below_drewN | apply below_drew1) | exact HB.out))); (case aF => exact (fun k_ hk => Kd.fresh' (Kd.R_lt (by (with_reducible repeat (first | apply Kd.R_alloc | apply Kd.R_drewN | apply Kd.R_drew)); exact HO244.out)) k_ hk)); (case aO => exact (by (with_reducible repeat (first | apply Kd.R_alloc | apply Kd.R_drewN | apply Kd.R_drew)); exact Kd.R_mono HO_7.out (fun _ hk => hk.2))); (case aS => exact (below_size (by repeat (first | (with_reducible first | exact HB.out | apply below_alloc | apply pw_below_drewN | apply below_drew1) | exact HB.out)))); (case aL => have := LMc32.out; omega); intro v246 w35 ho hb hg hat; rw [← Ny245.out] at ho; have n0_ := Aside0.mk (Kd.R_after (ok := (fun _ => True)) (by (with_reducible repeat (first | apply Kd.R_alloc | apply Kd.R_drewN | apply Kd.R_drew)); exact HO244.out) hg hat); have n1_ := Aside0.mk (hb); have n2_ := Aside0.mk (ho); clear HO244; clear HB; clear HO_7; have HO244 := n0_; have HB := n1_; have HO247 := n2_; clear n0_ n1_ n2_; clear ho hb hg hat)); try go_wp2_with (first | (go_at_call 74; (with_reducible refine (dns_isDomainNameLabelSpecial.calls (rd LL26 x61_2) true _ A30.out).mono ?_); rintro e w' ⟨rfl, ⟨nd, rfl⟩⟩; (try first | exact ⟨rfl, _, World.drewN_drewN _ _ _⟩ | exact ⟨rfl, _, Eq.trans (World.drewN_drewN _ _ _) (congrArg (World.drewN _) (Nat.add_assoc _ _ _))⟩)) | ((with_reducible refine gate_dst (N := 69) rfl ?_); refine Kd.R_lit (Kd.int .u8) _ 5 ?hg (N := 69) ?hd (xs := ([92, rd LL26 x61_2] : List Int)) (inner := [.int .u8 92, .int .u8 (rd LL26 x61_2)]) (ok := fun _ => True) (okp := fun _ => True) ?hr ?hp (fun _ hk => hk) trivial (Below.refl _ _) (Nat.le_refl _) (by simp) ?_; (case hd => rfl); (case hg => rfl); (case hr => first | (go_simp; done) | (go_simp; rfl)); (case hp => exact (Reps.one (show Kd.M (Kd.int .u8) _ _ _ 92 [.int .u8 92] from rfl) (Reps.one (show Kd.M (Kd.int .u8) _ _ _ (rd LL26 x61_2) [.int .u8 (rd LL26 x61_2)] from rfl) (Reps.none _ _)))); intro v243 w33 ho34 hb hg_ hnew_; clear hg_ hnew_; (first | rw [← Ny242.out] at ho34 | (simp only [Int.reduceToNat] at ho34; rw [← Ny242.out] at ho34)); have n0_ := Aside0.mk (Kd.R_elder' (by (with_reducible repeat (first | apply Kd.R_alloc | apply Kd.R_drewN | apply Kd.R_drew)); exact HO_7.out) (Kd.R_base ho34) hb); have n1_ := Aside0.mk (Kd.R_lower (Kd.R_new' ho34 (Kd.R_lt (by (with_reducible repeat (first | apply Kd.R_alloc | apply Kd.R_drewN | apply Kd.R_drew)); exact HO_7.out))) (below_size (by repeat (first | (with_reducible first | exact HB.out | apply below_alloc | apply pw_below_drewN | apply below_drew1) | exact HB.out)))); have n2_ := Aside0.mk (below_step (by repeat (first | (with_reducible first | exact HB.out | apply below_alloc | apply pw_below_drewN | apply below_drew1) | exact HB.out)) hb); clear HO_7; clear HB; have HO_7 := n0_; have HO244 := n1_; have HB := n2_; clear n0_ n1_ n2_; clear hb ho34; obtain ⟨Ao36, co36, eo36⟩ := Kd.R_slice HO244.out; subst eo36) | ((with_reducible refine gate_builtin (b := .append) (xs := #[.tmp 67, .tmp 69]) rfl ?_); at_builtin; refine Kd.R_append_rows (Kd.int .u8) (w0 := w) w.heap.size rfl (.tmp 67) (.tmp 69) 22 5 (.int .u8 0) 1 rfl Tryd.underlying22 info5 rfl (by decide) (by omega) u7 x7_2 y242 _ _ _ (fun k_ => some k_ ≠ (.slice Ao36 y242.length co36 : Value).ownBlock) (fun _ => False) rfl rfl ?aO ?aR (fun _ _ h => h) (fun _ h => h.elim) ?aF ?aB ?aS ?aL ?_; (case aR => repeat (first | exact (Kd.R_reads' HO244.out).2.2 | (with_reducible refine Kd.C_alloc ?_ _) | (with_reducible refine Kd.C_drewN ?_ _) | (with_reducible refine Kd.C_drew ?_))); (case aB => exact (by repeat (first | (with_reducible first | exact HB.out | apply below_alloc | apply pw_below_drewN | apply below_drew1) | exact HB.out))); (case aF => exact (fun k_ hk => Kd.fresh' (Kd.R_lt (by (with_reducible repeat (first | apply Kd.R_alloc | apply Kd.R_drewN | apply Kd.R_drew)); exact HO244.out)) k_ hk)); (case aO => exact (by (with_reducible repeat (first | apply Kd.R_alloc | apply Kd.R_drewN | apply Kd.R_drew)); exact Kd.R_mono HO_7.out (fun _ hk => hk.2))); (case aS => exact (below_size (by repeat (first | (with_reducible first | exact HB.out | apply below_alloc | apply pw_below_drewN | apply below_drew1) | exact HB.out)))); (case aL => have := LMc32.out; omega); intro v246 w35 ho hb hg hat; rw [← Ny245.out] at ho; have n0_ := Aside0.mk (Kd.R_after (ok := (fun _ => True)) (by (with_reducible repeat (first | apply Kd.R_alloc | apply Kd.R_drewN | apply Kd.R_drew)); exact HO244.out) hg hat); have n1_ := Aside0.mk (hb); have n2_ := Aside0.mk (ho); clear HO244; clear HB; clear HO_7; have HO244 := n0_; have HB := n1_; have HO247 := n2_; clear n0_ n1_ n2_; clear ho hb hg hat)))
                                          go_roundg k2
                                          case measure => have := HK1.out; have := HK2.out; omega
                                          case rel => exact ⟨(y245), (wrap64 (x61_2 + 1)), (by first | rfl | (simp; done) | (simp [*]; done) | (simp [wrap64]; done)), H', ⟨by have := HK1.out; have := HK2.out; omega⟩, ⟨by (with_reducible repeat (first | apply Kd.R_alloc | apply Kd.R_drewN | apply Kd.R_drew)); exact Kd.R_mono HO247.out (fun _ hk => trivial)⟩, ⟨by repeat (first | (with_reducible first | exact HB.out | apply below_alloc | apply pw_below_drewN | apply below_drew1) | exact HB.out)⟩⟩
                                        · rw [if_neg c32] at H
                                          exact absurd H (by simp)
                                      · replace c31 := Bool.eq_false_iff.mpr c31
                                        subst c31
                                        have H1 : (if (rd LL26 x61_2) < 32 then ((dns_escapeByte.f (rd LL26 x61_2)).bind fun t248 => (if x7_2.length + t248.size < 140737488355328 then (dns_UnpackDomainName.l1 k2 l0 ji22 (x7_2 ++ bytesOf t248) x8_1 (l0.length : Int) (wrap64 (x10_1 - (wrap64 ((wrap64 (rd l0 x1_1)) + 1)))) x11_1 (wrap64 (rd l0 x1_1)) LL26 (LL26.length : Int) (wrap64 (x61_2 + 1))) else (none))) else (if (rd LL26 x61_2) > 126 then ((dns_escapeByte.f (rd LL26 x61_2)).bind fun t252 => (if x7_2.length + t252.size < 140737488355328 then (dns_UnpackDomainName.l1 k2 l0 ji22 (x7_2 ++ bytesOf t252) x8_1 (l0.length : Int) (wrap64 (x10_1 - (wrap64 ((wrap64 (rd l0 x1_1)) + 1)))) x11_1 (wrap64 (rd l0 x1_1)) LL26 (LL26.length : Int) (wrap64 (x61_2 + 1))) else (none))) else (if x7_2.length < 140737488355328 then (dns_UnpackDomainName.l1 k2 l0 ji22 (x7_2 ++ [rd LL26 x61_2]) x8_1 (l0.length : Int) (wrap64 (x10_1 - (wrap64 ((wrap64 (rd l0 x1_1)) + 1)))) x11_1 (wrap64 (rd l0 x1_1)) LL26 (LL26.length : Int) (wrap64 (x61_2 + 1))) else (none)))) = some (r1, r2, r3) := by rw [if_neg (show ¬ (false = true) by decide)] at H; exact H
                                        clear H
                                        have H := H1
                                        clear H1
                                        by_cases c37 : (rd LL26 x61_2) < 32
                                        · rw [if_pos c37] at H
                                          have c37b0 : decide ((rd LL26 x61_2) < 32) = true := decide_eq_true c37
                                          clear c37
                                          replace H := Option.bind_eq_some_iff.mp H
                                          obtain ⟨t248, A380, H⟩ := H
                                          replace H : (if x7_2.length + t248.size < 140737488355328 then (dns_UnpackDomainName.l1 k2 l0 ji22 (x7_2 ++ bytesOf t248) x8_1 (l0.length : Int) (wrap64 (x10_1 - (wrap64 ((wrap64 (rd l0 x1_1)) + 1)))) x11_1 (wrap64 (rd l0 x1_1)) LL26 (LL26.length : Int) (wrap64 (x61_2 + 1))) else (none)) = some (r1, r2, r3) := H
                                          have A38 := Aside0.mk A380
                                          clear A380
                                          by_cases c39 : x7_2.length + t248.size < 140737488355328
                                          · rw [if_pos c39] at H
                                            have LMc39 := Aside0.mk c39
                                            clear c39
                                            obtain ⟨y249, hy249⟩ : ∃ y_ : List Int, y_ = (x7_2 ++ bytesOf t248) := ⟨_, rfl⟩
                                            replace H : (dns_UnpackDomainName.l1 k2 l0 ji22 y249 x8_1 (l0.length : Int) (wrap64 (x10_1 - (wrap64 ((wrap64 (rd l0 x1_1)) + 1)))) x11_1 (wrap64 (rd l0 x1_1)) LL26 (LL26.length : Int) (wrap64 (x61_2 + 1))) = some (r1, r2, r3) := by first | (rw [hy249]; with_reducible exact H) | (have H2_ := (Option.bind_some _ _).symm.trans H; rw [hy249]; with_reducible exact H2_) | (have H2_ := (Option.bind_some _ _).symm.trans H; with_reducible exact H2_) | with_reducible exact H | (rw [hy249]; exact H) | exact H
                                            have Ny249 := Aside0.mk hy249
                                            clear hy249
                                            have H' := Aside0.mk H
                                            clear H
                                            have p240 : 0 ≤ (x61_2 : Int) := of_decide_eq_true (by first | (with_reducible assumption) | assumption)
                                            have q240 : x61_2 < (LL26.length : Int) := of_decide_eq_true (by first | (with_reducible assumption) | assumption)
                                            obtain ⟨ad240, e240, hx240_0⟩ := Kd.at_int HR236.out x61_2 p240 q240
                                            cases e240
                                            replace hx240_0 := (HB.out.cell (World.block_lt_of_cell? w _ hx240_0)).trans hx240_0
                                            replace p240 := eq_true p240
                                            replace q240 := eq_true q240
                                            go_wp2_with (first | (go_at_call 74; (with_reducible refine (dns_isDomainNameLabelSpecial.calls (rd LL26 x61_2) false _ A30.out).mono ?_); rintro e w' ⟨rfl, ⟨nd, rfl⟩⟩; (try first | exact ⟨rfl, _, World.drewN_drewN _ _ _⟩ | exact ⟨rfl, _, Eq.trans (World.drewN_drewN _ _ _) (congrArg (World.drewN _) (Nat.add_assoc _ _ _))⟩)) | (go_at_call 75; (with_reducible refine (dns_escapeByte.calls (rd LL26 x61_2) t248 _ A38.out).mono ?_); rintro e w' ⟨rfl, ⟨nd, rfl⟩⟩; (try first | exact ⟨rfl, _, World.drewN_drewN _ _ _⟩ | exact ⟨rfl, _, Eq.trans (World.drewN_drewN _ _ _) (congrArg (World.drewN _) (Nat.add_assoc _ _ _))⟩)) | (at_builtin; refine print_append_str (w0 := w) w.heap.size rfl (.tmp 77) _ 22 9 5 rfl Tryd.underlying22 Tryd.underlying9 info5 u7 x7_2 t248 rfl rfl ?aO ?aB ?aS ?aL ?_; (case aB => exact (by repeat (first | (with_reducible first | exact HB.out | apply below_alloc | apply pw_below_drewN | apply below_drew1) | exact HB.out))); (case aO => exact (Kd.own_of_R (by (with_reducible repeat (first | apply Kd.R_alloc | apply Kd.R_drewN | apply Kd.R_drew)); exact HO_7.out))); (case aS => exact (below_size (by repeat (first | (with_reducible first | exact HB.out | apply below_alloc | apply pw_below_drewN | apply below_drew1) | exact HB.out)))); (case aL => have := LMc39.out; omega); intro v250 w40 ho0 hb hg; have ho := Kd.R_of_own (h1 := fun _ => rfl) (ok := fun _ => True) ho0 (fun _ _ => trivial); clear ho0; have hat := True.intro; rw [← Ny249.out] at ho; change Kd.R (Kd.int .u8) 5 w40 w.heap.size (fun _ => True) v250 y249 at ho; have n0_ := Aside0.mk (hb); have n1_ := Aside0.mk (ho); clear HB; clear HO_7; have HB := n0_; have HO251 := n1_; clear n0_ n1_; clear ho hb hg hat))
                                            repeat (go_quiet (first | (go_at_call 74; (with_reducible refine (dns_isDomainNameLabelSpecial.calls (rd LL26 x61_2) false _ A30.out).mono ?_); rintro e w' ⟨rfl, ⟨nd, rfl⟩⟩; (try first | exact ⟨rfl, _, World.drewN_drewN _ _ _⟩ | exact ⟨rfl, _, Eq.trans (World.drewN_drewN _ _ _) (congrArg (World.drewN _) (Nat.add_assoc _ _ _))⟩)) | (go_at_call 75; (with_reducible refine (dns_escapeByte.calls (rd LL26 x61_2) t248 _ A38.out).mono ?_); rintro e w' ⟨rfl, ⟨nd, rfl⟩⟩; (try first | exact ⟨rfl, _, World.drewN_drewN _ _ _⟩ | exact ⟨rfl, _, Eq.trans (World.drewN_drewN _ _ _) (congrArg (World.drewN _) (Nat.add_assoc _ _ _))⟩)) | (at_builtin; refine print_append_str (w0 := w) w.heap.size rfl (.tmp 77) _ 22 9 5 rfl Tryd.underlying22 Tryd.underlying9 info5 u7 x7_2 t248 rfl rfl ?aO ?aB ?aS ?aL ?_; (case aB => exact (by repeat (first | (with_reducible first | exact HB.out | apply below_alloc | apply pw_below_drewN | apply below_drew1) | exact HB.out))); (case aO => exact (Kd.own_of_R (by (with_reducible repeat (first | apply Kd.R_alloc | apply Kd.R_drewN | apply Kd.R_drew)); exact HO_7.out))); (case aS => exact (below_size (by repeat (first | (with_reducible first | exact HB.out | apply below_alloc | apply pw_below_drewN | apply below_drew1) | exact HB.out)))); (case aL => have := LMc39.out; omega); intro v250 w40 ho0 hb hg; have ho := Kd.R_of_own (h1 := fun _ => rfl) (ok := fun _ => True) ho0 (fun _ _ => trivial); clear ho0; have hat := True.intro; rw [← Ny249.out] at ho; change Kd.R (Kd.int .u8) 5 w40 w.heap.size (fun _ => True) v250 y249 at ho; have n0_ := Aside0.mk (hb); have n1_ := Aside0.mk (ho); clear HB; clear HO_7; have HB := n0_; have HO251 := n1_; clear n0_ n1_; clear ho hb hg hat)); try go_wp2_with (first | (go_at_call 74; (with_reducible refine (dns_isDomainNameLabelSpecial.calls (rd LL26 x61_2) false _ A30.out).mono ?_); rintro e w' ⟨rfl, ⟨nd, rfl⟩⟩; (try first | exact ⟨rfl, _, World.drewN_drewN _ _ _⟩ | exact ⟨rfl, _, Eq.trans (World.drewN_drewN _ _ _) (congrArg (World.drewN _) (Nat.add_assoc _ _ _))⟩)) | (go_at_call 75; (with_reducible refine (dns_escapeByte.calls (rd LL26 x61_2) t248 _ A38.out).mono ?_); rintro e w' ⟨rfl, ⟨nd, rfl⟩⟩; (try first | exact ⟨rfl, _, World.drewN_drewN _ _ _⟩ | exact ⟨rfl, _, Eq.trans (World.drewN_drewN _ _ _) (congrArg (World.drewN _) (Nat.add_assoc _ _ _))⟩)) | (at_builtin; refine print_append_str (w0 := w) w.heap.size rfl (.tmp 77) _ 22 9 5 rfl Tryd.underlying22 Tryd.underlying9 info5 u7 x7_2 t248 rfl rfl ?aO ?aB ?aS ?aL ?_; (case aB => exact (by repeat (first | (with_reducible first | exact HB.out | apply below_alloc | apply pw_below_drewN | apply below_drew1) | exact HB.out))); (case aO => exact (Kd.own_of_R (by (with_reducible repeat (first | apply Kd.R_alloc | apply Kd.R_drewN | apply Kd.R_drew)); exact HO_7.out))); (case aS => exact (below_size (by repeat (first | (with_reducible first | exact HB.out | apply below_alloc | apply pw_below_drewN | apply below_drew1) | exact HB.out)))); (case aL => have := LMc39.out; omega); intro v250 w40 ho0 hb hg; have ho := Kd.R_of_own (h1 := fun _ => rfl) (ok := fun _ => True) ho0 (fun _ _ => trivial); clear ho0; have hat := True.intro; rw [← Ny249.out] at ho; change Kd.R (Kd.int .u8) 5 w40 w.heap.size (fun _ => True) v250 y249 at ho; have n0_ := Aside0.mk (hb); have n1_ := Aside0.mk (ho); clear HB; clear HO_7; have HB := n0_; have HO251 := n1_; clear n0_ n1_; clear ho hb hg hat)))
                                            go_roundg k2
                                            case measure => have := HK1.out; have := HK2.out; omega
                                            case rel => exact ⟨(y249), (wrap64 (x61_2 + 1)), (by first | rfl | (simp; done) | (simp [*]; done) | (simp [wrap64]; done)), H', ⟨by have := HK1.out; have := HK2.out; omega⟩, ⟨by (with_reducible repeat (first | apply Kd.R_alloc | apply Kd.R_drewN | apply Kd.R_drew)); exact HO251.out⟩, ⟨by repeat (first | (with_reducible first | exact HB.out | apply below_alloc | apply pw_below_drewN | apply below_drew1) | exact HB.out)⟩⟩
                                          · rw [if_neg c39] at H
                                            exact absurd H (by simp)
                                        · rw [if_neg c37] at H
                                          have c37b0 : decide ((rd LL26 x61_2) < 32) = false := decide_eq_false c37
                                          clear c37
                                          by_cases c41 : (rd LL26 x61_2) > 126
                                          · rw [if_pos c41] at H
                                            have c41b0 : decide (126 < (rd LL26 x61_2)) = true := decide_eq_true c41
                                            clear c41
                                            replace H := Option.bind_eq_some_iff.mp H
                                            obtain ⟨t252, A420, H⟩ := H
                                            replace H : (if x7_2.length + t252.size < 140737488355328 then (dns_UnpackDomainName.l1 k2 l0 ji22 (x7_2 ++ bytesOf t252) x8_1 (l0.length : Int) (wrap64 (x10_1 - (wrap64 ((wrap64 (rd l0 x1_1)) + 1)))) x11_1 (wrap64 (rd l0 x1_1)) LL26 (LL26.length : Int) (wrap64 (x61_2 + 1))) else (none)) = some (r1, r2, r3) := H
                                            have A42 := Aside0.mk A420
                                            clear A420
                                            by_cases c43 : x7_2.length + t252.size < 140737488355328
                                            · rw [if_pos c43] at H
                                              have LMc43 := Aside0.mk c43
                                              clear c43
                                              obtain ⟨y253, hy253⟩ : ∃ y_ : List Int, y_ = (x7_2 ++ bytesOf t252) := ⟨_, rfl⟩
                                              replace H : (dns_UnpackDomainName.l1 k2 l0 ji22 y253 x8_1 (l0.length : Int) (wrap64 (x10_1 - (wrap64 ((wrap64 (rd l0 x1_1)) + 1)))) x11_1 (wrap64 (rd l0 x1_1)) LL26 (LL26.length : Int) (wrap64 (x61_2 + 1))) = some (r1, r2, r3) := by first | (rw [hy253]; with_reducible exact H) | (have H2_ := (Option.bind_some _ _).symm.trans H; rw [hy253]; with_reducible exact H2_) | (have H2_ := (Option.bind_some _ _).symm.trans H; with_reducible exact H2_) | with_reducible exact H | (rw [hy253]; exact H) | exact H
                                              have Ny253 := Aside0.mk hy253
                                              clear hy253
                                              have H' := Aside0.mk H
                                              clear H
                                              have p240 : 0 ≤ (x61_2 : Int) := of_decide_eq_true (by first | (with_reducible assumption) | assumption)
                                              have q240 : x61_2 < (LL26.length : Int) := of_decide_eq_true (by first | (with_reducible assumption) | assumption)
                                              obtain ⟨ad240, e240, hx240_0⟩ := Kd.at_int HR236.out x61_2 p240 q240
                                              cases e240
                                              replace hx240_0 := (HB.out.cell (World.block_lt_of_cell? w _ hx240_0)).trans hx240_0
                                              replace p240 := eq_true p240
                                              replace q240 := eq_true q240
                                              go_wp2_with (first | (go_at_call 74; (with_reducible refine (dns_isDomainNameLabelSpecial.calls (rd LL26 x61_2) false _ A30.out).mono ?_); rintro e w' ⟨rfl, ⟨nd, rfl⟩⟩; (try first | exact ⟨rfl, _, World.drewN_drewN _ _ _⟩ | exact ⟨rfl, _, Eq.trans (World.drewN_drewN _ _ _) (congrArg (World.drewN _) (Nat.add_assoc _ _ _))⟩)) | (go_at_call 75; (with_reducible refine (dns_escapeByte.calls (rd LL26 x61_2) t252 _ A42.out).mono ?_); rintro e w' ⟨rfl, ⟨nd, rfl⟩⟩; (try first | exact ⟨rfl, _, World.drewN_drewN _ _ _⟩ | exact ⟨rfl, _, Eq.trans (World.drewN_drewN _ _ _) (congrArg (World.drewN _) (Nat.add_assoc _ _ _))⟩)) | (at_builtin; refine print_append_str (w0 := w) w.heap.size rfl (.tmp 77) _ 22 9 5 rfl Tryd.underlying22 Tryd.underlying9 info5 u7 x7_2 t252 rfl rfl ?aO ?aB ?aS ?aL ?_; (case aB => exact (by repeat (first | (with_reducible first | exact HB.out | apply below_alloc | apply pw_below_drewN | apply below_drew1) | exact HB.out))); (case aO => exact (Kd.own_of_R (by (with_reducible repeat (first | apply Kd.R_alloc | apply Kd.R_drewN | apply Kd.R_drew)); exact HO_7.out))); (case aS => exact (below_size (by repeat (first | (with_reducible first | exact HB.out | apply below_alloc | apply pw_below_drewN | apply below_drew1) | exact HB.out)))); (case aL => have := LMc43.out; omega); intro v254 w44 ho0 hb hg; have ho := Kd.R_of_own (h1 := fun _ => rfl) (ok := fun _ => True) ho0 (fun _ _ => trivial); clear ho0; have hat := True.intro; rw [← Ny253.out] at ho; change Kd.R (Kd.int .u8) 5 w44 w.heap.size (fun _ => True) v254 y253 at ho; have n0_ := Aside0.mk (hb); have n1_ := Aside0.mk (ho); clear HB; clear HO_7; have HB := n0_; have HO255 := n1_; clear n0_ n1_; clear ho hb hg hat))
                                              repeat (go_quiet (first | (go_at_call 74; (with_reducible refine (dns_isDomainNameLabelSpecial.calls (rd LL26 x61_2) false _ A30.out).mono ?_); rintro e w' ⟨rfl, ⟨nd, rfl⟩⟩; (try first | exact ⟨rfl, _, World.drewN_drewN _ _ _⟩ | exact ⟨rfl, _, Eq.trans (World.drewN_drewN _ _ _) (congrArg (World.drewN _) (Nat.add_assoc _ _ _))⟩)) | (go_at_call 75; (with_reducible refine (dns_escapeByte.calls (rd LL26 x61_2) t252 _ A42.out).mono ?_); rintro e w' ⟨rfl, ⟨nd, rfl⟩⟩; (try first | exact ⟨rfl, _, World.drewN_drewN _ _ _⟩ | exact ⟨rfl, _, Eq.trans (World.drewN_drewN _ _ _) (congrArg (World.drewN _) (Nat.add_assoc _ _ _))⟩)) | (at_builtin; refine print_append_str (w0 := w) w.heap.size rfl (.tmp 77) _ 22 9 5 rfl Tryd.underlying22 Tryd.underlying9 info5 u7 x7_2 t252 rfl rfl ?aO ?aB ?aS ?aL ?_; (case aB => exact (by repeat (first | (with_reducible first | exact HB.out | apply below_alloc | apply pw_below_drewN | apply below_drew1) | exact HB.out))); (case aO => exact (Kd.own_of_R (by (with_reducible repeat (first | apply Kd.R_alloc | apply Kd.R_drewN | apply Kd.R_drew)); exact HO_7.out))); (case aS => exact (below_size (by repeat (first | (with_reducible first | exact HB.out | apply below_alloc | apply pw_below_drewN | apply below_drew1) | exact HB.out)))); (case aL => have := LMc43.out; omega); intro v254 w44 ho0 hb hg; have ho := Kd.R_of_own (h1 := fun _ => rfl) (ok := fun _ => True) ho0 (fun _ _ => trivial); clear ho0; have hat := True.intro; rw [← Ny253.out] at ho; change Kd.R (Kd.int .u8) 5 w44 w.heap.size (fun _ => True) v254 y253 at ho; have n0_ := Aside0.mk (hb); have n1_ := Aside0.mk (ho); clear HB; clear HO_7; have HB := n0_; have HO255 := n1_; clear n0_ n1_; clear ho hb hg hat)); try go_wp2_with (first | (go_at_call 74; (with_reducible refine (dns_isDomainNameLabelSpecial.calls (rd LL26 x61_2) false _ A30.out).mono ?_); rintro e w' ⟨rfl, ⟨nd, rfl⟩⟩; (try first | exact ⟨rfl, _, World.drewN_drewN _ _ _⟩ | exact ⟨rfl, _, Eq.trans (World.drewN_drewN _ _ _) (congrArg (World.drewN _) (Nat.add_assoc _ _ _))⟩)) | (go_at_call 75; (with_reducible refine (dns_escapeByte.calls (rd LL26 x61_2) t252 _ A42.out).mono ?_); rintro e w' ⟨rfl, ⟨nd, rfl⟩⟩; (try first | exact ⟨rfl, _, World.drewN_drewN _ _ _⟩ | exact ⟨rfl, _, Eq.trans (World.drewN_drewN _ _ _) (congrArg (World.drewN _) (Nat.add_assoc _ _ _))⟩)) | (at_builtin; refine print_append_str (w0 := w) w.heap.size rfl (.tmp 77) _ 22 9 5 rfl Tryd.underlying22 Tryd.underlying9 info5 u7 x7_2 t252 rfl rfl ?aO ?aB ?aS ?aL ?_; (case aB => exact (by repeat (first | (with_reducible first | exact HB.out | apply below_alloc | apply pw_below_drewN | apply below_drew1) | exact HB.out))); (case aO => exact (Kd.own_of_R (by (with_reducible repeat (first | apply Kd.R_alloc | apply Kd.R_drewN | apply Kd.R_drew)); exact HO_7.out))); (case aS => exact (below_size (by repeat (first | (with_reducible first | exact HB.out | apply below_alloc | apply pw_below_drewN | apply below_drew1) | exact HB.out)))); (case aL => have := LMc43.out; omega); intro v254 w44 ho0 hb hg; have ho := Kd.R_of_own (h1 := fun _ => rfl) (ok := fun _ => True) ho0 (fun _ _ => trivial); clear ho0; have hat := True.intro; rw [← Ny253.out] at ho; change Kd.R (Kd.int .u8) 5 w44 w.heap.size (fun _ => True) v254 y253 at ho; have n0_ := Aside0.mk (hb); have n1_ := Aside0.mk (ho); clear HB; clear HO_7; have HB := n0_; have HO255 := n1_; clear n0_ n1_; clear ho hb hg hat)))
                                              go_roundg k2
                                              case measure => have := HK1.out; have := HK2.out; omega
                                              case rel => exact ⟨(y253), (wrap64 (x61_2 + 1)), (by first | rfl | (simp; done) | (simp [*]; done) | (simp [wrap64]; done)), H', ⟨by have := HK1.out; have := HK2.out; omega⟩, ⟨by (with_reducible repeat (first | apply Kd.R_alloc | apply Kd.R_drewN | apply Kd.R_drew)); exact HO255.out⟩, ⟨by repeat (first | (with_reducible first | exact HB.out | apply below_alloc | apply pw_below_drewN | apply below_drew1) | exact HB.out)⟩⟩
                                            · rw [if_neg c43] at H
                                              exact absurd H (by simp)
                                          · rw [if_neg c41] at H
                                            have c41b0 : decide (126 < (rd LL26 x61_2)) = false := decide_eq_false c41
                                            clear c41
                                            by_cases c45 : x7_2.length < 140737488355328
                                            · rw [if_pos c45] at H
                                              have LMc45 := Aside0.mk c45
                                              clear c45
                                              obtain ⟨y256, hy256⟩ : ∃ y_ : List Int, y_ = (x7_2 ++ [rd LL26 x61_2]) := ⟨_, rfl⟩
                                              replace H : (dns_UnpackDomainName.l1 k2 l0 ji22 y256 x8_1 (l0.length : Int) (wrap64 (x10_1 - (wrap64 ((wrap64 (rd l0 x1_1)) + 1)))) x11_1 (wrap64 (rd l0 x1_1)) LL26 (LL26.length : Int) (wrap64 (x61_2 + 1))) = some (r1, r2, r3) := by first | (rw [hy256]; with_reducible exact H) | (have H2_ := (Option.bind_some _ _).symm.trans H; rw [hy256]; with_reducible exact H2_) | (have H2_ := (Option.bind_some _ _).symm.trans H; with_reducible exact H2_) | with_reducible exact H | (rw [hy256]; exact H) | exact H
                                              have Ny256 := Aside0.mk hy256
                                              clear hy256
                                              have H' := Aside0.mk H
                                              clear H
                                              have p240 : 0 ≤ (x61_2 : Int) := of_decide_eq_true (by first | (with_reducible assumption) | assumption)
                                              have q240 : x61_2 < (LL26.length : Int) := of_decide_eq_true (by first | (with_reducible assumption) | assumption)
                                              obtain ⟨ad240, e240, hx240_0⟩ := Kd.at_int HR236.out x61_2 p240 q240
                                              cases e240
                                              replace hx240_0 := (HB.out.cell (World.block_lt_of_cell? w _ hx240_0)).trans hx240_0
                                              replace p240 := eq_true p240
                                              replace q240 := eq_true q240
                                              go_wp2_with (first | (go_at_call 74; (with_reducible refine (dns_isDomainNameLabelSpecial.calls (rd LL26 x61_2) false _ A30.out).mono ?_); rintro e w' ⟨rfl, ⟨nd, rfl⟩⟩; (try first | exact ⟨rfl, _, World.drewN_drewN _ _ _⟩ | exact ⟨rfl, _, Eq.trans (World.drewN_drewN _ _ _) (congrArg (World.drewN _) (Nat.add_assoc _ _ _))⟩)) | ((with_reducible refine gate_builtin (b := .append) (xs := #[.tmp 81, .tmp 83]) rfl ?_); at_builtin; refine Kd.R_append (Kd.int .u8) (w0 := w) w.heap.size rfl (.tmp 81) (.tmp 83) 22 5 (.int .u8 0) 1 rfl Tryd.underlying22 info5 rfl (by decide) (by omega) u7 x7_2 (rd LL26 x61_2) [.int .u8 (rd LL26 x61_2)] (fun _ => True) (fun _ => False) rfl rfl ?aP (fun _ hk => hk.elim) ?aF ?aO ?aB ?aS ?aL ?_; (case aP => exact rfl); (case aB => exact (by repeat (first | (with_reducible first | exact HB.out | apply below_alloc | apply pw_below_drewN | apply below_drew1) | exact HB.out))); (case aF => exact (fun _ _ => trivial)); (case aO => exact (by (with_reducible repeat (first | apply Kd.R_alloc | apply Kd.R_drewN | apply Kd.R_drew)); exact HO_7.out)); (case aS => exact (below_size (by repeat (first | (with_reducible first | exact HB.out | apply below_alloc | apply pw_below_drewN | apply below_drew1) | exact HB.out)))); (case aL => have := LMc45.out; omega); intro v257 w46 ho hb hg hat; rw [← Ny256.out] at ho; have n0_ := Aside0.mk (hb); have n1_ := Aside0.mk (ho); clear HB; clear HO_7; have HB := n0_; have HO258 := n1_; clear n0_ n1_; clear ho hb hg hat))
                                              repeat (go_quiet (first | (go_at_call 74; (with_reducible refine (dns_isDomainNameLabelSpecial.calls (rd LL26 x61_2) false _ A30.out).mono ?_); rintro e w' ⟨rfl, ⟨nd, rfl⟩⟩; (try first | exact ⟨rfl, _, World.drewN_drewN _ _ _⟩ | exact ⟨rfl, _, Eq.trans (World.drewN_drewN _ _ _) (congrArg (World.drewN _) (Nat.add_assoc _ _ _))⟩)) | ((with_reducible refine gate_builtin (b := .append) (xs := #[.tmp 81, .tmp 83]) rfl ?_); at_builtin; refine Kd.R_append (Kd.int .u8) (w0 := w) w.heap.size rfl (.tmp 81) (.tmp 83) 22 5 (.int .u8 0) 1 rfl Tryd.underlying22 info5 rfl (by decide) (by omega) u7 x7_2 (rd LL26 x61_2) [.int .u8 (rd LL26 x61_2)] (fun _ => True) (fun _ => False) rfl rfl ?aP (fun _ hk => hk.elim) ?aF ?aO ?aB ?aS ?aL ?_; (case aP => exact rfl); (case aB => exact (by repeat (first | (with_reducible first | exact HB.out | apply below_alloc | apply pw_below_drewN | apply below_drew1) | exact HB.out))); (case aF => exact (fun _ _ => trivial)); (case aO => exact (by (with_reducible repeat (first | apply Kd.R_alloc | apply Kd.R_drewN | apply Kd.R_drew)); exact HO_7.out)); (case aS => exact (below_size (by repeat (first | (with_reducible first | exact HB.out | apply below_alloc | apply pw_below_drewN | apply below_drew1) | exact HB.out)))); (case aL => have := LMc45.out; omega); intro v257 w46 ho hb hg hat; rw [← Ny256.out] at ho; have n0_ := Aside0.mk (hb); have n1_ := Aside0.mk (ho); clear HB; clear HO_7; have HB := n0_; have HO258 := n1_; clear n0_ n1_; clear ho hb hg hat)); try go_wp2_with (first | (go_at_call 74; (with_reducible refine (dns_isDomainNameLabelSpecial.calls (rd LL26 x61_2) false _ A30.out).mono ?_); rintro e w' ⟨rfl, ⟨nd, rfl⟩⟩; (try first | exact ⟨rfl, _, World.drewN_drewN _ _ _⟩ | exact ⟨rfl, _, Eq.trans (World.drewN_drewN _ _ _) (congrArg (World.drewN _) (Nat.add_assoc _ _ _))⟩)) | ((with_reducible refine gate_builtin (b := .append) (xs := #[.tmp 81, .tmp 83]) rfl ?_); at_builtin; refine Kd.R_append (Kd.int .u8) (w0 := w) w.heap.size rfl (.tmp 81) (.tmp 83) 22 5 (.int .u8 0) 1 rfl Tryd.underlying22 info5 rfl (by decide) (by omega) u7 x7_2 (rd LL26 x61_2) [.int .u8 (rd LL26 x61_2)] (fun _ => True) (fun _ => False) rfl rfl ?aP (fun _ hk => hk.elim) ?aF ?aO ?aB ?aS ?aL ?_; (case aP => exact rfl); (case aB => exact (by repeat (first | (with_reducible first | exact HB.out | apply below_alloc | apply pw_below_drewN | apply below_drew1) | exact HB.out))); (case aF => exact (fun _ _ => trivial)); (case aO => exact (by (with_reducible repeat (first | apply Kd.R_alloc | apply Kd.R_drewN | apply Kd.R_drew)); exact HO_7.out)); (case aS => exact (below_size (by repeat (first | (with_reducible first | exact HB.out | apply below_alloc | apply pw_below_drewN | apply below_drew1) | exact HB.out)))); (case aL => have := LMc45.out; omega); intro v257 w46 ho hb hg hat; rw [← Ny256.out] at ho; have n0_ := Aside0.mk (hb); have n1_ := Aside0.mk (ho); clear HB; clear HO_7; have HB := n0_; have HO258 := n1_; clear n0_ n1_; clear ho hb hg hat)))
                                              go_roundg k2
                                              case measure => have := HK1.out; have := HK2.out; omega
                                              case rel => exact ⟨(y256), (wrap64 (x61_2 + 1)), (by first | rfl | (simp; done) | (simp [*]; done) | (simp [wrap64]; done)), H', ⟨by have := HK1.out; have := HK2.out; omega⟩, ⟨by (with_reducible repeat (first | apply Kd.R_alloc | apply Kd.R_drewN | apply Kd.R_drew)); exact HO258.out⟩, ⟨by repeat (first | (with_reducible first | exact HB.out | apply below_alloc | apply pw_below_drewN | apply below_drew1) | exact HB.out)⟩⟩
                                            · rw [if_neg c45] at H
                                              exact absurd H (by simp)
                                    · rw [if_neg c29] at H
                                      exact absurd H (by simp)
                                  · rw [if_neg c28] at H
                                    exact absurd H (by simp)
                                · rw [if_neg c27] at H
                                  have c27b0 : decide (x61_2 < (LL26.length : Int)) = false := decide_eq_false c27
                                  clear c27
                                  by_cases c47 : x7_2.length < 140737488355328
                                  · rw [if_pos c47] at H
                                    have LMc47 := Aside0.mk c47
                                    clear c47
                                    obtain ⟨y237, hy237⟩ : ∃ y_ : List Int, y_ = (x7_2 ++ [46]) := ⟨_, rfl⟩
                                    replace H : (dns_UnpackDomainName.l0 k2 l0 (wrap64 (ji22 + (wrap64 (rd l0 x1_1)))) y237 x8_1 (l0.length : Int) (wrap64 (x10_1 - (wrap64 ((wrap64 (rd l0 x1_1)) + 1)))) x11_1) = some (r1, r2, r3) := by first | (rw [hy237]; with_reducible exact H) | (have H2_ := (Option.bind_some _ _).symm.trans H; rw [hy237]; with_reducible exact H2_) | (have H2_ := (Option.bind_some _ _).symm.trans H; with_reducible exact H2_) | with_reducible exact H | (rw [hy237]; exact H) | exact H
                                    have Ny237 := Aside0.mk hy237
                                    clear hy237
                                    have H' := Aside0.mk H
                                    clear H
                                    go_wp2_with (first | ((with_reducible refine gate_builtin (b := .append) (xs := #[.tmp 86, .tmp 87]) rfl ?_); at_builtin; refine Kd.R_append (Kd.int .u8) (w0 := w) w.heap.size rfl (.tmp 86) (.tmp 87) 22 5 (.int .u8 0) 1 rfl Tryd.underlying22 info5 rfl (by decide) (by omega) u7 x7_2 46 [.int .u8 46] (fun _ => True) (fun _ => False) rfl rfl ?aP (fun _ hk => hk.elim) ?aF ?aO ?aB ?aS ?aL ?_; (case aP => exact rfl); (case aB => exact (by repeat (first | (with_reducible first | exact HB.out | apply below_alloc | apply pw_below_drewN | apply below_drew1) | exact HB.out))); (case aF => exact (fun _ _ => trivial)); (case aO => exact (by (with_reducible repeat (first | apply Kd.R_alloc | apply Kd.R_drewN | apply Kd.R_drew)); exact HO_7.out)); (case aS => exact (below_size (by repeat (first | (with_reducible first | exact HB.out | apply below_alloc | apply pw_below_drewN | apply below_drew1) | exact HB.out)))); (case aL => have := LMc47.out; omega); intro v238 w48 ho hb hg hat; rw [← Ny237.out] at ho; have n0_ := Aside0.mk (hb); have n1_ := Aside0.mk (ho); clear HB; clear HO_7; have HB := n0_; have HO239 := n1_; clear n0_ n1_; clear ho hb hg hat))
                                    repeat (go_quiet (first | ((with_reducible refine gate_builtin (b := .append) (xs := #[.tmp 86, .tmp 87]) rfl ?_); at_builtin; refine Kd.R_append (Kd.int .u8) (w0 := w) w.heap.size rfl (.tmp 86) (.tmp 87) 22 5 (.int .u8 0) 1 rfl Tryd.underlying22 info5 rfl (by decide) (by omega) u7 x7_2 46 [.int .u8 46] (fun _ => True) (fun _ => False) rfl rfl ?aP (fun _ hk => hk.elim) ?aF ?aO ?aB ?aS ?aL ?_; (case aP => exact rfl); (case aB => exact (by repeat (first | (with_reducible first | exact HB.out | apply below_alloc | apply pw_below_drewN | apply below_drew1) | exact HB.out))); (case aF => exact (fun _ _ => trivial)); (case aO => exact (by (with_reducible repeat (first | apply Kd.R_alloc | apply Kd.R_drewN | apply Kd.R_drew)); exact HO_7.out)); (case aS => exact (below_size (by repeat (first | (with_reducible first | exact HB.out | apply below_alloc | apply pw_below_drewN | apply below_drew1) | exact HB.out)))); (case aL => have := LMc47.out; omega); intro v238 w48 ho hb hg hat; rw [← Ny237.out] at ho; have n0_ := Aside0.mk (hb); have n1_ := Aside0.mk (ho); clear HB; clear HO_7; have HB := n0_; have HO239 := n1_; clear n0_ n1_; clear ho hb hg hat)); try go_wp2_with (first | ((with_reducible refine gate_builtin (b := .append) (xs := #[.tmp 86, .tmp 87]) rfl ?_); at_builtin; refine Kd.R_append (Kd.int .u8) (w0 := w) w.heap.size rfl (.tmp 86) (.tmp 87) 22 5 (.int .u8 0) 1 rfl Tryd.underlying22 info5 rfl (by decide) (by omega) u7 x7_2 46 [.int .u8 46] (fun _ => True) (fun _ => False) rfl rfl ?aP (fun _ hk => hk.elim) ?aF ?aO ?aB ?aS ?aL ?_; (case aP => exact rfl); (case aB => exact (by repeat (first | (with_reducible first | exact HB.out | apply below_alloc | apply pw_below_drewN | apply below_drew1) | exact HB.out))); (case aF => exact (fun _ _ => trivial)); (case aO => exact (by (with_reducible repeat (first | apply Kd.R_alloc | apply Kd.R_drewN | apply Kd.R_drew)); exact HO_7.out)); (case aS => exact (below_size (by repeat (first | (with_reducible first | exact HB.out | apply below_alloc | apply pw_below_drewN | apply below_drew1) | exact HB.out)))); (case aL => have := LMc47.out; omega); intro v238 w48 ho hb hg hat; rw [← Ny237.out] at ho; have n0_ := Aside0.mk (hb); have n1_ := Aside0.mk (ho); clear HB; clear HO_7; have HB := n0_; have HO239 := n1_; clear n0_ n1_; clear ho hb hg hat)))
                                    go_roundg k2
                                    case measure => have := HK1.out; have := HK2.out; omega
                                    case rel => exact ⟨(wrap64 (ji22 + (wrap64 (rd l0 x1_1)))), (y237), (x8_1), ((wrap64 (x10_1 - (wrap64 ((wrap64 (rd l0 x1_1)) + 1))))), (x11_1), (by first | rfl | (simp; done) | (simp only [← hji22] <;> (first | rfl | simp)) | (simp [*]; done)), (by first | rfl | (simp; done) | (simp [*]; done) | (simp [wrap64]; done)), (by first | rfl | (simp; done) | (simp [*]; done) | (simp [wrap64]; done)), (by first | rfl | (simp; done) | (simp [*]; done) | (simp [wrap64]; done)), H', ⟨by have := HK1.out; have := HK2.out; omega⟩, ⟨by (with_reducible repeat (first | apply Kd.R_alloc | apply Kd.R_drewN | apply Kd.R_drew)); exact HO239.out⟩, ⟨by repeat (first | (with_reducible first | exact HB.out | apply below_alloc | apply pw_below_drewN | apply below_drew1) | exact HB.out)⟩⟩
                                  · rw [if_neg c47] at H
                                    exact absurd H (by simp)
                          · rw [if_neg c25] at H
                            exact absurd H (by simp)
                        · rw [if_neg c24] at H
                          exact absurd H (by simp)
                      · rw [if_neg c23] at H
                        exact absurd H (by simp)
              · rw [if_neg c9] at H
                have c9b0 : ((Go.bits .and .i64 (wrap64 (rd l0 x1_1)) 192) == 0) = false := beq_eq_false_iff_ne.mpr c9
                have c9b1 : ((Go.bits .and .i64 (wrap64 (rd l0 x1_1)) 192) != 0) = true := bne_iff_ne.mpr c9
                by_cases c49 : (Go.bits .and .i64 (wrap64 (rd l0 x1_1)) 192) = 192
                · rw [if_pos c49] at H
                  have c49b0 : ((Go.bits .and .i64 (wrap64 (rd l0 x1_1)) 192) == 192) = true := beq_iff_eq.mpr c49
                  have c49b1 : ((Go.bits .and .i64 (wrap64 (rd l0 x1_1)) 192) != 192) = false := bne_eq_false_iff_eq.mpr c49
                  clear c49
                  by_cases c50 : (wrap64 (x1_1 + 1)) ≥ (l0.length : Int)
                  · rw [if_pos c50] at H
                    have c50b0 : decide ((l0.length : Int) ≤ (wrap64 (x1_1 + 1))) = true := decide_eq_true c50
                    clear c50
                    simp only [Option.some.injEq, Prod.mk.injEq] at H
                    obtain ⟨rfl, rfl, rfl⟩ := H
                    obtain ⟨tg0_, xg0_, tg1_, xg1_, tg2_, xg2_, hg0_, hg1_, hg2_⟩ := GoodU.below HG.out HB.out
                    have p235 : 0 ≤ (x1_1 : Int) := of_decide_eq_true (by first | (with_reducible assumption) | assumption)
                    have q235 : x1_1 < (l0.length : Int) := of_decide_eq_true (by first | (with_reducible assumption) | assumption)
                    obtain ⟨ad235, e235, hx235_0⟩ := Kd.at_int HR0.out x1_1 p235 q235
                    cases e235
                    replace hx235_0 := (HB.out.cell (World.block_lt_of_cell? w _ hx235_0)).trans hx235_0
                    replace p235 := eq_true p235
                    replace q235 := eq_true q235
                    go_wp2
                    repeat (go_quiet (fail); try go_wp2)
                    try simp only [Exit.noGoto_ret]
                    go_ret3
                    exact ⟨_, by first | rfl | (simp [errW_none, errW_some] <;> rfl) | (simp [*, errW_none, errW_some] <;> rfl), by first | exact rfl | exact ⟨_, _, rfl⟩, by repeat (first | (with_reducible first | exact HB.out | apply below_alloc | apply pw_below_drewN | apply below_drew1) | exact HB.out)⟩
                  · rw [if_neg c50] at H
                    have c50b0 : decide ((l0.length : Int) ≤ (wrap64 (x1_1 + 1))) = false := decide_eq_false c50
                    clear c50
                    obtain ⟨ji51, hji51⟩ : ∃ j_ : Int, (wrap64 (x1_1 + 1)) = j_ := ⟨_, rfl⟩
                    replace H : (if 0 ≤ (ji51) then (if (ji51) < (l0.length : Int) then (if x11_1 = 0 then (if (wrap64 (x11_1 + 1)) > 126 then (some ((⟨#[]⟩ : ByteArray), (l0.length : Int), some 100)) else (dns_UnpackDomainName.l0 k1 l0 (Go.bits .or .i64 (wrap64 ((Go.bits .xor .i64 (wrap64 (rd l0 x1_1)) 192) * 256)) (wrap64 (rd l0 (ji51)))) x7_1 (wrap64 ((ji51) + 1)) (l0.length : Int) x10_1 (wrap64 (x11_1 + 1)))) else (if (wrap64 (x11_1 + 1)) > 126 then (some ((⟨#[]⟩ : ByteArray), (l0.length : Int), some 100)) else (dns_UnpackDomainName.l0 k1 l0 (Go.bits .or .i64 (wrap64 ((Go.bits .xor .i64 (wrap64 (rd l0 x1_1)) 192) * 256)) (wrap64 (rd l0 (ji51)))) x7_1 x8_1 (l0.length : Int) x10_1 (wrap64 (x11_1 + 1))))) else (none)) else (none)) = some (r1, r2, r3) := by first | (rw [hji51] at H; exact H) | (simp only [hji51] at H ⊢; exact H)
                    (try rw [hji51] at c50b0)
                    have hji51w : (IntKind.i64.wrap (x1_1 + 1)) = ji51 := (i64_w _).trans hji51
                    by_cases c52 : 0 ≤ (ji51)
                    · rw [if_pos c52] at H
                      have c52b0 : decide (0 ≤ (ji51)) = true := decide_eq_true c52
                      clear c52
                      by_cases c53 : (ji51) < (l0.length : Int)
                      · rw [if_pos c53] at H
                        have c53b0 : decide ((ji51) < (l0.length : Int)) = true := decide_eq_true c53
                        clear c53
                        by_cases c54 : x11_1 = 0
                        · rw [if_pos c54] at H
                          have c54b0 : (x11_1 == 0) = true := beq_iff_eq.mpr c54
                          have c54b1 : (x11_1 != 0) = false := bne_eq_false_iff_eq.mpr c54
                          clear c54
                          by_cases c55 : (wrap64 (x11_1 + 1)) > 126
                          · rw [if_pos c55] at H
                            have c55b0 : decide (126 < (wrap64 (x11_1 + 1))) = true := decide_eq_true c55
                            clear c55
                            simp only [Option.some.injEq, Prod.mk.injEq] at H
                            obtain ⟨rfl, rfl, rfl⟩ := H
                            obtain ⟨tg0_, xg0_, tg1_, xg1_, tg2_, xg2_, hg0_, hg1_, hg2_⟩ := GoodU.below HG.out HB.out
                            have p235 : 0 ≤ (x1_1 : Int) := of_decide_eq_true (by first | (with_reducible assumption) | assumption)
                            have q235 : x1_1 < (l0.length : Int) := of_decide_eq_true (by first | (with_reducible assumption) | assumption)
                            obtain ⟨ad235, e235, hx235_0⟩ := Kd.at_int HR0.out x1_1 p235 q235
                            cases e235
                            replace hx235_0 := (HB.out.cell (World.block_lt_of_cell? w _ hx235_0)).trans hx235_0
                            replace p235 := eq_true p235
                            replace q235 := eq_true q235
                            have p259 : 0 ≤ ((ji51) : Int) := of_decide_eq_true (by first | (with_reducible assumption) | assumption)
                            have q259 : (ji51) < (l0.length : Int) := of_decide_eq_true (by first | (with_reducible assumption) | assumption)
                            obtain ⟨ad259, e259, hx259_0⟩ := Kd.at_int HR0.out (ji51) p259 q259
                            obtain rfl : ad235 = ad259 := (by injection e259)
                            replace hx259_0 := (HB.out.cell (World.block_lt_of_cell? w _ hx259_0)).trans hx259_0
                            replace p259 := eq_true p259
                            replace q259 := eq_true q259
                            go_wp2
                            repeat (go_quiet (fail); try go_wp2)
                            try simp only [Exit.noGoto_ret]
                            go_ret3
                            exact ⟨_, by first | rfl | (simp [errW_none, errW_some] <;> rfl) | (simp only [← hji51]; first | rfl | (simp [errW_none, errW_some] <;> rfl)) | (simp [*, errW_none, errW_some] <;> rfl), by first | exact rfl | exact ⟨_, _, rfl⟩, by repeat (first | (with_reducible first | exact HB.out | apply below_alloc | apply pw_below_drewN | apply below_drew1) | exact HB.out)⟩
                          · rw [if_neg c55] at H
                            have c55b0 : decide (126 < (wrap64 (x11_1 + 1))) = false := decide_eq_false c55
                            clear c55
                            have H' := Aside0.mk H
                            clear H
                            have p235 : 0 ≤ (x1_1 : Int) := of_decide_eq_true (by first | (with_reducible assumption) | assumption)
                            have q235 : x1_1 < (l0.length : Int) := of_decide_eq_true (by first | (with_reducible assumption) | assumption)
                            obtain ⟨ad235, e235, hx235_0⟩ := Kd.at_int HR0.out x1_1 p235 q235
                            cases e235
                            replace hx235_0 := (HB.out.cell (World.block_lt_of_cell? w _ hx235_0)).trans hx235_0
                            replace p235 := eq_true p235
                            replace q235 := eq_true q235
                            have p259 : 0 ≤ ((ji51) : Int) := of_decide_eq_true (by first | (with_reducible assumption) | assumption)
                            have q259 : (ji51) < (l0.length : Int) := of_decide_eq_true (by first | (with_reducible assumption) | assumption)
                            obtain ⟨ad259, e259, hx259_0⟩ := Kd.at_int HR0.out (ji51) p259 q259
                            obtain rfl : ad235 = ad259 := (by injection e259)
                            replace hx259_0 := (HB.out.cell (World.block_lt_of_cell? w _ hx259_0)).trans hx259_0
                            replace p259 := eq_true p259
                            replace q259 := eq_true q259
                            go_wp2
                            repeat (go_quiet (fail); try go_wp2)
                            go_roundg k1
                            case measure => have := HK1.out; omega
                            case rel => exact ⟨(Go.bits .or .i64 (wrap64 ((Go.bits .xor .i64 (wrap64 (rd l0 x1_1)) 192) * 256)) (wrap64 (rd l0 (ji51)))), (x7_1), (wrap64 ((ji51) + 1)), (x10_1), (wrap64 (x11_1 + 1)), (by first | rfl | (simp; done) | (simp only [← hji51] <;> (first | rfl | simp)) | (simp [*]; done)), (by first | rfl | (simp; done) | (simp only [← hji51] <;> (first | rfl | simp)) | (simp [*]; done)), (by first | rfl | (simp; done) | (simp [*]; done) | (simp [wrap64]; done)), (by first | rfl | (simp; done) | (simp [*]; done) | (simp [wrap64]; done)), H', ⟨by have := HK1.out; omega⟩, ⟨by (with_reducible repeat (first | apply Kd.R_alloc | apply Kd.R_drewN | apply Kd.R_drew)); exact HO_7.out⟩, ⟨by repeat (first | (with_reducible first | exact HB.out | apply below_alloc | apply pw_below_drewN | apply below_drew1) | exact HB.out)⟩⟩
                        · rw [if_neg c54] at H
                          have c54b0 : (x11_1 == 0) = false := beq_eq_false_iff_ne.mpr c54
                          have c54b1 : (x11_1 != 0) = true := bne_iff_ne.mpr c54
                          by_cases c56 : (wrap64 (x11_1 + 1)) > 126
                          · rw [if_pos c56] at H
                            have c56b0 : decide (126 < (wrap64 (x11_1 + 1))) = true := decide_eq_true c56
                            clear c56
                            simp only [Option.some.injEq, Prod.mk.injEq] at H
                            obtain ⟨rfl, rfl, rfl⟩ := H
                            obtain ⟨tg0_, xg0_, tg1_, xg1_, tg2_, xg2_, hg0_, hg1_, hg2_⟩ := GoodU.below HG.out HB.out
                            have p235 : 0 ≤ (x1_1 : Int) := of_decide_eq_true (by first | (with_reducible assumption) | assumption)
                            have q235 : x1_1 < (l0.length : Int) := of_decide_eq_true (by first | (with_reducible assumption) | assumption)
                            obtain ⟨ad235, e235, hx235_0⟩ := Kd.at_int HR0.out x1_1 p235 q235
                            cases e235
                            replace hx235_0 := (HB.out.cell (World.block_lt_of_cell? w _ hx235_0)).trans hx235_0
                            replace p235 := eq_true p235
                            replace q235 := eq_true q235
                            have p259 : 0 ≤ ((ji51) : Int) := of_decide_eq_true (by first | (with_reducible assumption) | assumption)
                            have q259 : (ji51) < (l0.length : Int) := of_decide_eq_true (by first | (with_reducible assumption) | assumption)
                            obtain ⟨ad259, e259, hx259_0⟩ := Kd.at_int HR0.out (ji51) p259 q259
                            obtain rfl : ad235 = ad259 := (by injection e259)
                            replace hx259_0 := (HB.out.cell (World.block_lt_of_cell? w _ hx259_0)).trans hx259_0
                            replace p259 := eq_true p259
                            replace q259 := eq_true q259
                            go_wp2
                            repeat (go_quiet (fail); try go_wp2)
                            try simp only [Exit.noGoto_ret]
                            go_ret3
                            exact ⟨_, by first | rfl | (simp [errW_none, errW_some] <;> rfl) | (simp only [← hji51]; first | rfl | (simp [errW_none, errW_some] <;> rfl)) | (simp [*, errW_none, errW_some] <;> rfl), by first | exact rfl | exact ⟨_, _, rfl⟩, by repeat (first | (with_reducible first | exact HB.out | apply below_alloc | apply pw_below_drewN | apply below_drew1) | exact HB.out)⟩
                          · rw [if_neg c56] at H
                            have c56b0 : decide (126 < (wrap64 (x11_1 + 1))) = false := decide_eq_false c56
                            clear c56
                            have H' := Aside0.mk H
                            clear H
                            have p235 : 0 ≤ (x1_1 : Int) := of_decide_eq_true (by first | (with_reducible assumption) | assumption)
                            have q235 : x1_1 < (l0.length : Int) := of_decide_eq_true (by first | (with_reducible assumption) | assumption)
                            obtain ⟨ad235, e235, hx235_0⟩ := Kd.at_int HR0.out x1_1 p235 q235
                            cases e235
                            replace hx235_0 := (HB.out.cell (World.block_lt_of_cell? w _ hx235_0)).trans hx235_0
                            replace p235 := eq_true p235
                            replace q235 := eq_true q235
                            have p259 : 0 ≤ ((ji51) : Int) := of_decide_eq_true (by first | (with_reducible assumption) | assumption)
                            have q259 : (ji51) < (l0.length : Int) := of_decide_eq_true (by first | (with_reducible assumption) | assumption)
                            obtain ⟨ad259, e259, hx259_0⟩ := Kd.at_int HR0.out (ji51) p259 q259
                            obtain rfl : ad235 = ad259 := (by injection e259)
                            replace hx259_0 := (HB.out.cell (World.block_lt_of_cell? w _ hx259_0)).trans hx259_0
                            replace p259 := eq_true p259
                            replace q259 := eq_true q259
                            go_wp2
                            repeat (go_quiet (fail); try go_wp2)
                            go_roundg k1
                            case measure => have := HK1.out; omega
                            case rel => exact ⟨(Go.bits .or .i64 (wrap64 ((Go.bits .xor .i64 (wrap64 (rd l0 x1_1)) 192) * 256)) (wrap64 (rd l0 (ji51)))), (x7_1), (x8_1), (x10_1), (wrap64 (x11_1 + 1)), (by first | rfl | (simp; done) | (simp only [← hji51] <;> (first | rfl | simp)) | (simp [*]; done)), (by first | rfl | (simp; done) | (simp [*]; done) | (simp [wrap64]; done)), (by first | rfl | (simp; done) | (simp [*]; done) | (simp [wrap64]; done)), (by first | rfl | (simp; done) | (simp [*]; done) | (simp [wrap64]; done)), H', ⟨by have := HK1.out; omega⟩, ⟨by (with_reducible repeat (first | apply Kd.R_alloc | apply Kd.R_drewN | apply Kd.R_drew)); exact HO_7.out⟩, ⟨by repeat (first | (with_reducible first | exact HB.out | apply below_alloc | apply pw_below_drewN | apply below_drew1) | exact HB.out)⟩⟩
                      · rw [if_neg c53] at H
                        exact absurd H (by simp)
                    · rw [if_neg c52] at H
                      exact absurd H (by simp)
                · rw [if_neg c49] at H
                  have c49b0 : ((Go.bits .and .i64 (wrap64 (rd l0 x1_1)) 192) == 192) = false := beq_eq_false_iff_ne.mpr c49
                  have c49b1 : ((Go.bits .and .i64 (wrap64 (rd l0 x1_1)) 192) != 192) = true := bne_iff_ne.mpr c49
                  simp only [Option.some.injEq, Prod.mk.injEq] at H
                  obtain ⟨rfl, rfl, rfl⟩ := H
                  obtain ⟨tg0_, xg0_, tg1_, xg1_, tg2_, xg2_, hg0_, hg1_, hg2_⟩ := GoodU.below HG.out HB.out
                  have p235 : 0 ≤ (x1_1 : Int) := of_decide_eq_true (by first | (with_reducible assumption) | assumption)
                  have q235 : x1_1 < (l0.length : Int) := of_decide_eq_true (by first | (with_reducible assumption) | assumption)
                  obtain ⟨ad235, e235, hx235_0⟩ := Kd.at_int HR0.out x1_1 p235 q235
                  cases e235
                  replace hx235_0 := (HB.out.cell (World.block_lt_of_cell? w _ hx235_0)).trans hx235_0
                  replace p235 := eq_true p235
                  replace q235 := eq_true q235
                  go_wp2
                  repeat (go_quiet (fail); try go_wp2)
                  try simp only [Exit.noGoto_ret]
                  go_ret3
                  exact ⟨_, by first | rfl | (simp [errW_none, errW_some] <;> rfl) | (simp [*, errW_none, errW_some] <;> rfl), by first | exact rfl | exact ⟨_, _, rfl⟩, by repeat (first | (with_reducible first | exact HB.out | apply below_alloc | apply pw_below_drewN | apply below_drew1) | exact HB.out)⟩
            · rw [if_neg c8] at H
              exact absurd H (by simp)
          · rw [if_neg c7] at H
            exact absurd H (by simp)
  · rw [if_neg c3] at H
    exact absurd H (by simp)

end Go.Proofs.YtiilihafcdmccaaDoor.P
-- Written by a program of this session (wip/tools/pprint.py) out of the translation: it goes by the kit's print and by the contracts of YtiilihafcdmccaaDoorHand. Not trusted: Lean checks it.
namespace Go.Proofs.YtiilihafcdmccaaDoor.P
open Go.RowKit Go.Proofs.YtiilihafcdmccaaDoorW.PrintWords Go.Proofs.YtiilihafcdmccaaDoorW.PrintLast Go.Proofs.YtiilihafcdmccaaDoorW.PrintMore
attribute [local go_sem] max2_int min2_int max_two min_two max_three min_three max_four min_four   -- for this text's walks alone
set_option linter.unusedVariables false
set_option linter.unusedSimpArgs false

/-! ### impl_UnpackName: function 16 -/
def impl_UnpackName.f (k : Nat) (l0 : List Int) (a1 : Int) : Option (ByteArray × Int × Bool) := (dns_UnpackDomainName.f k l0 a1).bind fun bt260 => (if bt260.2.2.isNone = true then (some (bt260.1, bt260.2.1, true)) else (some ((⟨#[]⟩ : ByteArray), 0, false)))
theorem impl_UnpackName.mono : ∀ a0 a1 k, LeO (impl_UnpackName.f k a0 a1) (impl_UnpackName.f (k + 1) a0 a1) := by
  intro a0 a1 k
  unfold impl_UnpackName.f
  repeat' first
      | (with_reducible exact dns_UnpackDomainName.mono _ _ _)
      | (with_reducible exact LeO.refl _)
      | (with_reducible exact LeO.none _)
      | (with_reducible refine LeO.ite ?_ ?_)
      | (with_reducible refine LeO.bind ?_ (fun _ => ?_))
      | exact dns_UnpackDomainName.mono _ _ _
      | exact LeO.none _
      | refine LeO.ite ?_ ?_
      | refine LeO.bind ?_ (fun _ => ?_)
set_option maxHeartbeats 8000000 in
set_option maxRecDepth 100000 in
theorem impl_UnpackName.calls (k : Nat) (A0 : Option Addr) (c0 : Nat) (l0 : List Int) (a1 : Int) (r1 : ByteArray) (r2 : Int) (r3 : Bool) (w : World) (hr0 : Kd.C (Kd.int .u8) w A0 l0.length l0) (hc0 : l0.length ≤ c0) (hG : GoodU w) (h : impl_UnpackName.f k l0 a1 = some (r1, r2, r3)) :
    Calls Tryd.prog 16 #[.slice A0 l0.length c0, .int .i64 a1] w fun e w' => e = .returned (.tuple #[.string r1, .int .i64 r2, .bool r3]) ∧ Below w.heap.size w w' := by
  have HG := Aside0.mk hG
  clear hG
  have hu72 := Tryd.underlying72
  have HR0 := Aside0.mk hr0
  have HC0 := Aside0.mk hc0
  clear hr0 hc0
  have HB := Aside0.mk (Below.refl w.heap.size w)
  have H : ((dns_UnpackDomainName.f k l0 a1).bind fun bt260 => (if bt260.2.2.isNone = true then (some (bt260.1, bt260.2.1, true)) else (some ((⟨#[]⟩ : ByteArray), 0, false)))) = some (r1, r2, r3) := h
  clear h
  replace H := Option.bind_eq_some_iff.mp H
  obtain ⟨⟨t260, t261, t262⟩, A30, H⟩ := H
  replace H : (if t262.isNone = true then (some (t260, t261, true)) else (some ((⟨#[]⟩ : ByteArray), 0, false))) = some (r1, r2, r3) := H
  have A3 := Aside0.mk A30
  clear A30
  rcases t262 with _ | q263
  · have H1 : (some (t260, t261, true)) = some (r1, r2, r3) := by rw [if_pos (show (none : Option Int).isNone = true by rfl)] at H; exact H
    clear H
    have H := H1
    clear H1
    try simp only [errW_none, errW_some]
    simp only [Option.some.injEq, Prod.mk.injEq] at H
    obtain ⟨rfl, rfl, rfl⟩ := H
    go_enter Tryd.func16, Tryd.ntmps16
    go_wp2_with (first | ((with_reducible refine gate_callee (f := 48) rfl ?_); refine goesL_ (some 11) rfl rfl Tryd.func48 (by kernel_rfl) rfl #[.slice A0 l0.length c0, .int .i64 a1] rfl (by (try simp only [List.map_toArray, List.map_cons, List.map_nil]); first | done | rfl | (simp only [List.length_drop, List.length_take]; rfl)) ?_; (with_reducible refine (dns_UnpackDomainName.calls k _ _ l0 a1 t260 t261 none _ ?side1 ?side2 (GoodU.below (HG.out) (by repeat (first | (with_reducible first | exact HB.out | apply below_alloc | apply pw_below_drewN | apply below_drew1) | exact HB.out))) A3.out).mono ?_); (case side1 => repeat (first | exact HR0.out | (with_reducible refine Kd.C_alloc ?_ _) | (with_reducible refine Kd.C_drewN ?_ _) | (with_reducible refine Kd.C_drew ?_))); (case side2 => exact HC0.out); rintro e w4 ⟨v3_, rfl, he_, hb⟩; (first | (obtain rfl : v3_ = .nilIface := he_) | (obtain ⟨te_, xe_, rfl⟩ := he_)); refine ⟨_, rfl, ?_⟩; have n0_ := Aside0.mk (below_step (by repeat (first | (with_reducible first | exact HB.out | apply below_alloc | apply pw_below_drewN | apply below_drew1) | exact HB.out)) hb); clear HB; have HB := n0_; clear n0_; (try clear hb); (try clear hb2); (try clear hk); (try clear hi); (try simp only [errW_none, errW_some])))
    go_ret3
    exact ⟨by first | rfl | (simp [errW_none, errW_some] <;> rfl) | (simp [*, errW_none, errW_some] <;> rfl), by repeat (first | (with_reducible first | exact HB.out | apply below_alloc | apply pw_below_drewN | apply below_drew1) | exact HB.out)⟩
  · have H1 : (some ((⟨#[]⟩ : ByteArray), 0, false)) = some (r1, r2, r3) := by rw [if_neg (show ¬ (some q263).isNone = true by simp)] at H; exact H
    clear H
    have H := H1
    clear H1
    try simp only [errW_none, errW_some]
    simp only [Option.some.injEq, Prod.mk.injEq] at H
    obtain ⟨rfl, rfl, rfl⟩ := H
    go_enter Tryd.func16, Tryd.ntmps16
    go_wp2_with (first | ((with_reducible refine gate_callee (f := 48) rfl ?_); refine goesL_ (some 11) rfl rfl Tryd.func48 (by kernel_rfl) rfl #[.slice A0 l0.length c0, .int .i64 a1] rfl (by (try simp only [List.map_toArray, List.map_cons, List.map_nil]); first | done | rfl | (simp only [List.length_drop, List.length_take]; rfl)) ?_; (with_reducible refine (dns_UnpackDomainName.calls k _ _ l0 a1 t260 t261 (some q263) _ ?side1 ?side2 (GoodU.below (HG.out) (by repeat (first | (with_reducible first | exact HB.out | apply below_alloc | apply pw_below_drewN | apply below_drew1) | exact HB.out))) A3.out).mono ?_); (case side1 => repeat (first | exact HR0.out | (with_reducible refine Kd.C_alloc ?_ _) | (with_reducible refine Kd.C_drewN ?_ _) | (with_reducible refine Kd.C_drew ?_))); (case side2 => exact HC0.out); rintro e w5 ⟨v3_, rfl, he_, hb⟩; (first | (obtain rfl : v3_ = .nilIface := he_) | (obtain ⟨te_, xe_, rfl⟩ := he_)); refine ⟨_, rfl, ?_⟩; have n0_ := Aside0.mk (below_step (by repeat (first | (with_reducible first | exact HB.out | apply below_alloc | apply pw_below_drewN | apply below_drew1) | exact HB.out)) hb); clear HB; have HB := n0_; clear n0_; (try clear hb); (try clear hb2); (try clear hk); (try clear hi); (try simp only [errW_none, errW_some])))
    go_ret3
    exact ⟨by first | rfl | (simp [errW_none, errW_some] <;> rfl) | (simp [*, errW_none, errW_some] <;> rfl), by repeat (first | (with_reducible first | exact HB.out | apply below_alloc | apply pw_below_drewN | apply below_drew1) | exact HB.out)⟩

end Go.Proofs.YtiilihafcdmccaaDoor.P
-- Written by a program of this session (wip/tools/pprint.py) out of the translation: it goes by the kit's print and by the contracts of YtiilihafcdmccaaDoorHand. Not trusted: Lean checks it.
namespace Go.Proofs.YtiilihafcdmccaaDoor.P
open Go.RowKit Go.Proofs.YtiilihafcdmccaaDoorW.PrintWords Go.Proofs.YtiilihafcdmccaaDoorW.PrintLast Go.Proofs.YtiilihafcdmccaaDoorW.PrintMore
attribute [local go_sem] max2_int min2_int max_two min_two max_three min_three max_four min_four   -- for this text's walks alone
set_option linter.unusedVariables false
set_option linter.unusedSimpArgs false

/-! ### laws_FnUnpackName: function 3 -/
mutual
def laws_FnUnpackName.j0 : Nat → List Int → Int → Bool → Option (Bool)
  | 0, _, _, _ => none
  | k + 1, x0, x1, x35 => if x35 = true then (some true) else ((spec_ReadName.f k x0 x1).bind fun bt265 => ((impl_UnpackName.f k x0 x1).bind fun bt270 => (if bt265.2.2 = true then (laws_FnUnpackName.j1 k bt265.1 bt265.2.1 bt265.2.2 bt270.1 bt270.2.1 bt270.2.2 (!bt270.2.2)) else (laws_FnUnpackName.j1 k bt265.1 bt265.2.1 bt265.2.2 bt270.1 bt270.2.1 bt270.2.2 true))))
def laws_FnUnpackName.j1 : Nat → List ByteArray → Int → Bool → ByteArray → Int → Bool → Bool → Option (Bool)
  | 0, _, _, _, _, _, _, _ => none
  | k + 1, x5, x6, x7, x8, x9, x10, x55 => if x55 = true then (some (x7 == x10)) else ((spec_ParseName.f k x8).bind fun bt273 => (if bt273.2.2 = true then (if bt273.2.1 = true then ((spec_Name_Equal.f k bt273.1 x5).bind fun t278 => (if t278 = true then (some (x9 == x6)) else (some false))) else (some false)) else (some false)))
end
def laws_FnUnpackName.f (k : Nat) (l0 : List Int) (a1 : Int) : Option (Bool) := if (l0.length : Int) > 2147483647 then (some true) else (if (l0.length : Int) > 65536 then (laws_FnUnpackName.j0 k l0 a1 true) else (if a1 < 0 then (laws_FnUnpackName.j0 k l0 a1 true) else (if a1 > (l0.length : Int) then (laws_FnUnpackName.j0 k l0 a1 true) else ((laws_back.f k l0 a1).bind fun t264 => (laws_FnUnpackName.j0 k l0 a1 (!t264))))))
theorem laws_FnUnpackName.mono_l : ∀ k, (∀ y0 y1 y2, LeO (laws_FnUnpackName.j0 k y0 y1 y2) (laws_FnUnpackName.j0 (k + 1) y0 y1 y2)) ∧ (∀ y0 y1 y2 y3 y4 y5 y6, LeO (laws_FnUnpackName.j1 k y0 y1 y2 y3 y4 y5 y6) (laws_FnUnpackName.j1 (k + 1) y0 y1 y2 y3 y4 y5 y6))
  | 0 => ⟨fun _ _ _ r h => by simp [laws_FnUnpackName.j0] at h, fun _ _ _ _ _ _ _ r h => by simp [laws_FnUnpackName.j1] at h⟩
  | k + 1 => by
    obtain ⟨ih0, ih1⟩ := laws_FnUnpackName.mono_l k
    refine ⟨?_, ?_⟩
    · intro y0 y1 y2
      unfold laws_FnUnpackName.j0
      repeat' first
      | (with_reducible exact ih0 _ _ _)
      | (with_reducible exact ih1 _ _ _ _ _ _ _)
      | (with_reducible exact impl_UnpackName.mono _ _ _)
      | (with_reducible exact laws_back.mono _ _ _)
      | (with_reducible exact spec_Name_Equal.mono _ _ _)
      | (with_reducible exact spec_ParseName.mono _ _)
      | (with_reducible exact spec_ReadName.mono _ _ _)
      | (with_reducible exact LeO.refl _)
      | (with_reducible exact LeO.none _)
      | (with_reducible refine LeO.ite ?_ ?_)
      | (with_reducible refine LeO.bind ?_ (fun _ => ?_))
      | exact ih0 _ _ _
      | exact ih1 _ _ _ _ _ _ _
      | exact impl_UnpackName.mono _ _ _
      | exact laws_back.mono _ _ _
      | exact spec_Name_Equal.mono _ _ _
      | exact spec_ParseName.mono _ _
      | exact spec_ReadName.mono _ _ _
      | exact LeO.none _
      | refine LeO.ite ?_ ?_
      | refine LeO.bind ?_ (fun _ => ?_)
    · intro y0 y1 y2 y3 y4 y5 y6
      unfold laws_FnUnpackName.j1
      repeat' first
      | (with_reducible exact ih0 _ _ _)
      | (with_reducible exact ih1 _ _ _ _ _ _ _)
      | (with_reducible exact impl_UnpackName.mono _ _ _)
      | (with_reducible exact laws_back.mono _ _ _)
      | (with_reducible exact spec_Name_Equal.mono _ _ _)
      | (with_reducible exact spec_ParseName.mono _ _)
      | (with_reducible exact spec_ReadName.mono _ _ _)
      | (with_reducible exact LeO.refl _)
      | (with_reducible exact LeO.none _)
      | (with_reducible refine LeO.ite ?_ ?_)
      | (with_reducible refine LeO.bind ?_ (fun _ => ?_))
      | exact ih0 _ _ _
      | exact ih1 _ _ _ _ _ _ _
      | exact impl_UnpackName.mono _ _ _
      | exact laws_back.mono _ _ _
      | exact spec_Name_Equal.mono _ _ _
      | exact spec_ParseName.mono _ _
      | exact spec_ReadName.mono _ _ _
      | exact LeO.none _
      | refine LeO.ite ?_ ?_
      | refine LeO.bind ?_ (fun _ => ?_)
theorem laws_FnUnpackName.mono : ∀ a0 a1 k, LeO (laws_FnUnpackName.f k a0 a1) (laws_FnUnpackName.f (k + 1) a0 a1) := by
  intro a0 a1 k
  obtain ⟨ih0, ih1⟩ := laws_FnUnpackName.mono_l k
  unfold laws_FnUnpackName.f
  repeat' first
      | (with_reducible exact ih0 _ _ _)
      | (with_reducible exact ih1 _ _ _ _ _ _ _)
      | (with_reducible exact impl_UnpackName.mono _ _ _)
      | (with_reducible exact laws_back.mono _ _ _)
      | (with_reducible exact spec_Name_Equal.mono _ _ _)
      | (with_reducible exact spec_ParseName.mono _ _)
      | (with_reducible exact spec_ReadName.mono _ _ _)
      | (with_reducible exact LeO.refl _)
      | (with_reducible exact LeO.none _)
      | (with_reducible refine LeO.ite ?_ ?_)
      | (with_reducible refine LeO.bind ?_ (fun _ => ?_))
      | exact ih0 _ _ _
      | exact ih1 _ _ _ _ _ _ _
      | exact impl_UnpackName.mono _ _ _
      | exact laws_back.mono _ _ _
      | exact spec_Name_Equal.mono _ _ _
      | exact spec_ParseName.mono _ _
      | exact spec_ReadName.mono _ _ _
      | exact LeO.none _
      | refine LeO.ite ?_ ?_
      | refine LeO.bind ?_ (fun _ => ?_)
set_option maxHeartbeats 8000000 in
set_option maxRecDepth 100000 in
theorem laws_FnUnpackName.calls (k : Nat) (A0 : Option Addr) (c0 : Nat) (l0 : List Int) (a1 : Int) (r : Bool) (w : World) (hr0 : Kd.C (Kd.int .u8) w A0 l0.length l0) (hc0 : l0.length ≤ c0) (hG : GoodU w) (h : laws_FnUnpackName.f k l0 a1 = some r) :
    Calls Tryd.prog 3 #[.slice A0 l0.length c0, .int .i64 a1] w fun e w' => e = .returned (.bool r) ∧ Below w.heap.size w w' := by
  have HG := Aside0.mk hG
  clear hG
  have HR0 := Aside0.mk hr0
  have HC0 := Aside0.mk hc0
  clear hr0 hc0
  have HB := Aside0.mk (Below.refl w.heap.size w)
  have H : (if (l0.length : Int) > 2147483647 then (some true) else (if (l0.length : Int) > 65536 then (laws_FnUnpackName.j0 k l0 a1 true) else (if a1 < 0 then (laws_FnUnpackName.j0 k l0 a1 true) else (if a1 > (l0.length : Int) then (laws_FnUnpackName.j0 k l0 a1 true) else ((laws_back.f k l0 a1).bind fun t264 => (laws_FnUnpackName.j0 k l0 a1 (!t264))))))) = some r := h
  clear h
  by_cases c3 : (l0.length : Int) > 2147483647
  · rw [if_pos c3] at H
    have c3b0 : decide (2147483647 < (l0.length : Int)) = true := decide_eq_true c3
    have c3b1 : decide (2147483647 < l0.length) = true := decide_eq_true (by omega)
    clear c3
    obtain rfl := Option.some.inj H
    go_enter Tryd.func3, Tryd.ntmps3
    go_wp2
    go_ret
    exact ⟨by first | rfl | (simp [errW_none, errW_some] <;> rfl) | (simp [*, errW_none, errW_some] <;> rfl), by repeat (first | (with_reducible first | exact HB.out | apply below_alloc | apply pw_below_drewN | apply below_drew1) | exact HB.out)⟩
  · rw [if_neg c3] at H
    have c3b0 : decide (2147483647 < (l0.length : Int)) = false := decide_eq_false c3
    have c3b1 : decide (2147483647 < l0.length) = false := decide_eq_false (by omega)
    clear c3
    have HC4 := Aside0.mk H
    clear H
    go_enter Tryd.func3, Tryd.ntmps3
    go_upto_region 3 with (fail)
    go_cut [35] (fun v35 wc => ∃ (kq : Nat) (x35_3 : Bool), v35 = .bool x35_3 ∧ Aside0 (laws_FnUnpackName.j0 kq l0 a1 x35_3 = some r) ∧ Aside0 (kq ≤ k) ∧ Aside0 (Below w.heap.size w wc))
    case first =>
      have H := HC4.out
      clear HC4
      by_cases c5 : (l0.length : Int) > 65536
      · rw [if_pos c5] at H
        have c5b0 : decide (65536 < (l0.length : Int)) = true := decide_eq_true c5
        have c5b1 : decide (65536 < l0.length) = true := decide_eq_true (by omega)
        clear c5
        (first | rw [c5b0] | (simp only [i64_w, i32_w]; rw [c5b0]) | skip)
        have H' := Aside0.mk H
        clear H
        go_wp2
        go_meet
        case rel => exact ⟨_, (true), (by first | rfl | (simp; done) | (simp [*]; done) | (simp [wrap64]; done)), H', ⟨by first | omega | exact Nat.le_refl _⟩, ⟨by repeat (first | (with_reducible first | exact HB.out | apply below_alloc | apply pw_below_drewN | apply below_drew1) | exact HB.out)⟩⟩
      · rw [if_neg c5] at H
        have c5b0 : decide (65536 < (l0.length : Int)) = false := decide_eq_false c5
        have c5b1 : decide (65536 < l0.length) = false := decide_eq_false (by omega)
        clear c5
        (first | rw [c5b0] | (simp only [i64_w, i32_w]; rw [c5b0]) | skip)
        by_cases c6 : a1 < 0
        · rw [if_pos c6] at H
          have c6b0 : decide (a1 < 0) = true := decide_eq_true c6
          clear c6
          have H' := Aside0.mk H
          clear H
          go_wp2
          go_meet
          case rel => exact ⟨_, (true), (by first | rfl | (simp; done) | (simp [*]; done) | (simp [wrap64]; done)), H', ⟨by first | omega | exact Nat.le_refl _⟩, ⟨by repeat (first | (with_reducible first | exact HB.out | apply below_alloc | apply pw_below_drewN | apply below_drew1) | exact HB.out)⟩⟩
        · rw [if_neg c6] at H
          have c6b0 : decide (a1 < 0) = false := decide_eq_false c6
          clear c6
          by_cases c7 : a1 > (l0.length : Int)
          · rw [if_pos c7] at H
            have c7b0 : decide ((l0.length : Int) < a1) = true := decide_eq_true c7
            clear c7
            have H' := Aside0.mk H
            clear H
            go_wp2
            go_meet
            case rel => exact ⟨_, (true), (by first | rfl | (simp; done) | (simp [*]; done) | (simp [wrap64]; done)), H', ⟨by first | omega | exact Nat.le_refl _⟩, ⟨by repeat (first | (with_reducible first | exact HB.out | apply below_alloc | apply pw_below_drewN | apply below_drew1) | exact HB.out)⟩⟩
          · rw [if_neg c7] at H
            have c7b0 : decide ((l0.length : Int) < a1) = false := decide_eq_false c7
            clear c7
            replace H := Option.bind_eq_some_iff.mp H
            obtain ⟨t264, A80, H⟩ := H
            replace H : (laws_FnUnpackName.j0 k l0 a1 (!t264)) = some r := H
            have A8 := Aside0.mk A80
            clear A80
            have H' := Aside0.mk H
            clear H
            go_wp2_with (first | (go_at_call 14; (with_reducible refine (laws_back.calls k _ _ l0 a1 t264 _ ?side1 ?side2 A8.out).mono ?_); (case side1 => repeat (first | exact (Kd.C_below HR0.out HB.out) | (with_reducible refine Kd.C_alloc ?_ _) | (with_reducible refine Kd.C_drewN ?_ _) | (with_reducible refine Kd.C_drew ?_))); (case side2 => exact HC0.out); rintro e w' ⟨rfl, ⟨nd, rfl⟩⟩))
            go_meet
            case rel => exact ⟨_, (!t264), (by first | rfl | (simp; done) | (simp [*]; done) | (simp [wrap64]; done)), H', ⟨by first | omega | exact Nat.le_refl _⟩, ⟨by repeat (first | (with_reducible first | exact HB.out | apply below_alloc | apply pw_below_drewN | apply below_drew1) | exact HB.out)⟩⟩
    case rest =>
      clear HC4
      try clear p2
      try clear c3
      try clear c3b0
      try clear c3b1
      try clear c5
      try clear c5b0
      try clear c5b1
      try clear c6
      try clear c6b0
      try clear p6
      try clear c7
      try clear c7b0
      obtain ⟨kq, x35_3, rfl, HA, HJ3, HB⟩ := hcut
      cases kq with
      | zero => exact absurd HA.out (by simp [laws_FnUnpackName.j0])
      | succ kj3 =>
        have H := HA.out
        clear HA
        simp only [laws_FnUnpackName.j0] at H
        by_cases c9 : x35_3 = true
        · subst c9
          have H1 : (some true) = some r := by rw [if_pos rfl] at H; exact H
          clear H
          have H := H1
          clear H1
          obtain rfl := Option.some.inj H
          go_wp2
          go_ret
          exact ⟨by first | rfl | (simp [errW_none, errW_some] <;> rfl) | (simp [*, errW_none, errW_some] <;> rfl), by repeat (first | (with_reducible first | exact HB.out | apply below_alloc | apply pw_below_drewN | apply below_drew1) | exact HB.out)⟩
        · replace c9 := Bool.eq_false_iff.mpr c9
          subst c9
          have H1 : ((spec_ReadName.f kj3 l0 a1).bind fun bt265 => ((impl_UnpackName.f kj3 l0 a1).bind fun bt270 => (if bt265.2.2 = true then (laws_FnUnpackName.j1 kj3 bt265.1 bt265.2.1 bt265.2.2 bt270.1 bt270.2.1 bt270.2.2 (!bt270.2.2)) else (laws_FnUnpackName.j1 kj3 bt265.1 bt265.2.1 bt265.2.2 bt270.1 bt270.2.1 bt270.2.2 true)))) = some r := by rw [if_neg (show ¬ (false = true) by decide)] at H; exact H
          clear H
          have H := H1
          clear H1
          replace H := Option.bind_eq_some_iff.mp H
          obtain ⟨⟨t265, t266, t267⟩, A100, H⟩ := H
          replace H : ((impl_UnpackName.f kj3 l0 a1).bind fun bt270 => (if t267 = true then (laws_FnUnpackName.j1 kj3 t265 t266 t267 bt270.1 bt270.2.1 bt270.2.2 (!bt270.2.2)) else (laws_FnUnpackName.j1 kj3 t265 t266 t267 bt270.1 bt270.2.1 bt270.2.2 true))) = some r := H
          have A10 := Aside0.mk A100
          clear A100
          replace H := Option.bind_eq_some_iff.mp H
          obtain ⟨⟨t270, t271, t272⟩, A110, H⟩ := H
          replace H : (if t267 = true then (laws_FnUnpackName.j1 kj3 t265 t266 t267 t270 t271 t272 (!t272)) else (laws_FnUnpackName.j1 kj3 t265 t266 t267 t270 t271 t272 true)) = some r := H
          have A11 := Aside0.mk A110
          clear A110
          have HC12 := Aside0.mk H
          clear H
          go_upto_region 7 with (first | ((with_reducible refine gate_callee (f := 15) rfl ?_); refine goesL_ (some 39) rfl rfl Tryd.func15 (by kernel_rfl) rfl #[.slice A0 l0.length c0, .int .i64 a1] rfl (by (try simp only [List.map_toArray, List.map_cons, List.map_nil]); first | done | rfl | (simp only [List.length_drop, List.length_take]; rfl)) ?_; (with_reducible refine (spec_ReadName.calls kj3 _ _ l0 a1 t265 t266 t267 _ ?side1 ?side2 A10.out).mono ?_); (case side1 => repeat (first | exact (Kd.C_below HR0.out HB.out) | (with_reducible refine Kd.C_alloc ?_ _) | (with_reducible refine Kd.C_drewN ?_ _) | (with_reducible refine Kd.C_drew ?_))); (case side2 => exact HC0.out); rintro e w13 ⟨v268, rfl, ho0, hb⟩; refine ⟨_, rfl, ?_⟩; have n0_ := Aside0.mk (Kd.R_lower ho0 (below_size (by repeat (first | (with_reducible first | exact HB.out | apply below_alloc | apply pw_below_drewN | apply below_drew1) | exact HB.out)))); have n1_ := Aside0.mk (below_step (by repeat (first | (with_reducible first | exact HB.out | apply below_alloc | apply pw_below_drewN | apply below_drew1) | exact HB.out)) hb); clear HB; have HO269 := n0_; have HB := n1_; clear n0_ n1_; (try clear hb); (try clear hb2); (try clear hk); (try clear hi); (try clear ho0)) | ((with_reducible refine gate_callee (f := 16) rfl ?_); refine goesL_ (some 46) rfl rfl Tryd.func16 (by kernel_rfl) rfl #[.slice A0 l0.length c0, .int .i64 a1] rfl (by (try simp only [List.map_toArray, List.map_cons, List.map_nil]); first | done | rfl | (simp only [List.length_drop, List.length_take]; rfl)) ?_; (with_reducible refine (impl_UnpackName.calls kj3 _ _ l0 a1 t270 t271 t272 _ ?side1 ?side2 (GoodU.below (HG.out) (by repeat (first | (with_reducible first | exact HB.out | apply below_alloc | apply pw_below_drewN | apply below_drew1) | exact HB.out))) A11.out).mono ?_); (case side1 => repeat (first | exact (Kd.C_below HR0.out HB.out) | (with_reducible refine Kd.C_alloc ?_ _) | (with_reducible refine Kd.C_drewN ?_ _) | (with_reducible refine Kd.C_drew ?_))); (case side2 => exact HC0.out); rintro e w14 ⟨rfl, hb⟩; refine ⟨_, rfl, ?_⟩; have n0_ := Aside0.mk (Kd.R_below (by (with_reducible repeat (first | apply Kd.R_alloc | apply Kd.R_drewN | apply Kd.R_drew)); exact HO269.out) hb); have n1_ := Aside0.mk (below_step (by repeat (first | (with_reducible first | exact HB.out | apply below_alloc | apply pw_below_drewN | apply below_drew1) | exact HB.out)) hb); clear HO269; clear HB; have HO269 := n0_; have HB := n1_; clear n0_ n1_; (try clear hb); (try clear hb2); (try clear hk); (try clear hi)))
          (try simp only [Act.put, List.setIfInBounds_toArray, List.set_cons_zero, List.set_cons_succ])
          go_cut [55] (fun v55 wc => ∃ (kq : Nat) (x55_11 : Bool), v55 = .bool x55_11 ∧ Aside0 (laws_FnUnpackName.j1 kq t265 t266 t267 t270 t271 t272 x55_11 = some r) ∧ Aside0 (kq ≤ kj3) ∧ Aside0 (Kd.R Kd.string 9 wc w.heap.size (fun _ => True) v268 t265) ∧ Aside0 (Below w.heap.size w wc))
          case first =>
            have H := HC12.out
            clear HC12
            by_cases c15 : t267 = true
            · subst c15
              have H1 : (laws_FnUnpackName.j1 kj3 t265 t266 true t270 t271 t272 (!t272)) = some r := by rw [if_pos rfl] at H; exact H
              clear H
              have H := H1
              clear H1
              have H' := Aside0.mk H
              clear H
              go_wp2
              go_meet
              case rel => exact ⟨_, (!t272), (by first | rfl | (simp; done) | (simp [*]; done) | (simp [wrap64]; done)), H', ⟨by have := HJ3.out; first | omega | exact Nat.le_refl _⟩, ⟨by (with_reducible repeat (first | apply Kd.R_alloc | apply Kd.R_drewN | apply Kd.R_drew)); exact HO269.out⟩, ⟨by repeat (first | (with_reducible first | exact HB.out | apply below_alloc | apply pw_below_drewN | apply below_drew1) | exact HB.out)⟩⟩
            · replace c15 := Bool.eq_false_iff.mpr c15
              subst c15
              have H1 : (laws_FnUnpackName.j1 kj3 t265 t266 false t270 t271 t272 true) = some r := by rw [if_neg (show ¬ (false = true) by decide)] at H; exact H
              clear H
              have H := H1
              clear H1
              have H' := Aside0.mk H
              clear H
              go_wp2
              go_meet
              case rel => exact ⟨_, (true), (by first | rfl | (simp; done) | (simp [*]; done) | (simp [wrap64]; done)), H', ⟨by have := HJ3.out; first | omega | exact Nat.le_refl _⟩, ⟨by (with_reducible repeat (first | apply Kd.R_alloc | apply Kd.R_drewN | apply Kd.R_drew)); exact HO269.out⟩, ⟨by repeat (first | (with_reducible first | exact HB.out | apply below_alloc | apply pw_below_drewN | apply below_drew1) | exact HB.out)⟩⟩
          case rest =>
            clear HC12
            try clear c1
            try clear p2
            try clear c3
            try clear c3b0
            try clear c3b1
            try clear c5
            try clear c5b0
            try clear c5b1
            try clear c6
            try clear c6b0
            try clear p6
            try clear c7
            try clear c7b0
            try clear c9
            try clear c15
            try clear p2
            try clear p6
            obtain ⟨kq, x55_11, rfl, HA, HJ11, HO_5, HB⟩ := hcut
            cases kq with
            | zero => exact absurd HA.out (by simp [laws_FnUnpackName.j1])
            | succ kj11 =>
              have H := HA.out
              clear HA
              simp only [laws_FnUnpackName.j1] at H
              by_cases c16 : x55_11 = true
              · subst c16
                have H1 : (some (t267 == t272)) = some r := by rw [if_pos rfl] at H; exact H
                clear H
                have H := H1
                clear H1
                obtain rfl := Option.some.inj H
                go_wp2
                go_ret
                exact ⟨by first | rfl | (simp [errW_none, errW_some] <;> rfl) | (simp [*, errW_none, errW_some] <;> rfl), by repeat (first | (with_reducible first | exact HB.out | apply below_alloc | apply pw_below_drewN | apply below_drew1) | exact HB.out)⟩
              · replace c16 := Bool.eq_false_iff.mpr c16
                subst c16
                have H1 : ((spec_ParseName.f kj11 t270).bind fun bt273 => (if bt273.2.2 = true then (if bt273.2.1 = true then ((spec_Name_Equal.f kj11 bt273.1 t265).bind fun t278 => (if t278 = true then (some (t271 == t266)) else (some false))) else (some false)) else (some false))) = some r := by rw [if_neg (show ¬ (false = true) by decide)] at H; exact H
                clear H
                have H := H1
                clear H1
                replace H := Option.bind_eq_some_iff.mp H
                obtain ⟨⟨t273, t274, t275⟩, A170, H⟩ := H
                replace H : (if t275 = true then (if t274 = true then ((spec_Name_Equal.f kj11 t273 t265).bind fun t278 => (if t278 = true then (some (t271 == t266)) else (some false))) else (some false)) else (some false)) = some r := H
                have A17 := Aside0.mk A170
                clear A170
                by_cases c18 : t275 = true
                · subst c18
                  have H1 : (if t274 = true then ((spec_Name_Equal.f kj11 t273 t265).bind fun t278 => (if t278 = true then (some (t271 == t266)) else (some false))) else (some false)) = some r := by rw [if_pos rfl] at H; exact H
                  clear H
                  have H := H1
                  clear H1
                  by_cases c19 : t274 = true
                  · subst c19
                    have H1 : ((spec_Name_Equal.f kj11 t273 t265).bind fun t278 => (if t278 = true then (some (t271 == t266)) else (some false))) = some r := by rw [if_pos rfl] at H; exact H
                    clear H
                    have H := H1
                    clear H1
                    replace H := Option.bind_eq_some_iff.mp H
                    obtain ⟨t278, A200, H⟩ := H
                    replace H : (if t278 = true then (some (t271 == t266)) else (some false)) = some r := H
                    have A20 := Aside0.mk A200
                    clear A200
                    by_cases c21 : t278 = true
                    · subst c21
                      have H1 : (some (t271 == t266)) = some r := by rw [if_pos rfl] at H; exact H
                      clear H
                      have H := H1
                      clear H1
                      obtain rfl := Option.some.inj H
                      go_wp2_with (first | ((with_reducible refine gate_callee (f := 17) rfl ?_); refine goesL_ (some 61) rfl rfl Tryd.func17 (by kernel_rfl) rfl #[.string t270] rfl (by (try simp only [List.map_toArray, List.map_cons, List.map_nil]); first | done | rfl | (simp only [List.length_drop, List.length_take]; rfl)) ?_; (with_reducible refine (spec_ParseName.calls kj11 t270 t273 true true _ A17.out).mono ?_); rintro e w22 ⟨v276, rfl, ho0, hb⟩; refine ⟨_, rfl, ?_⟩; have n0_ := Aside0.mk (Kd.R_elder' (by (with_reducible repeat (first | apply Kd.R_alloc | apply Kd.R_drewN | apply Kd.R_drew)); exact HO_5.out) (Kd.R_base ho0) hb); have n1_ := Aside0.mk (Kd.R_lower (Kd.R_new' ho0 (Kd.R_lt (by (with_reducible repeat (first | apply Kd.R_alloc | apply Kd.R_drewN | apply Kd.R_drew)); exact HO_5.out))) (below_size (by repeat (first | (with_reducible first | exact HB.out | apply below_alloc | apply pw_below_drewN | apply below_drew1) | exact HB.out)))); have n2_ := Aside0.mk (below_step (by repeat (first | (with_reducible first | exact HB.out | apply below_alloc | apply pw_below_drewN | apply below_drew1) | exact HB.out)) hb); clear HO_5; clear HB; have HO_5 := n0_; have HO277 := n1_; have HB := n2_; clear n0_ n1_ n2_; (try clear hb); (try clear hb2); (try clear hk); (try clear hi); (try clear ho0); obtain ⟨Ao23, co23, eo23⟩ := Kd.R_slice HO277.out; subst eo23; obtain ⟨Ao24, co24, eo24⟩ := Kd.R_slice HO_5.out; subst eo24) | (go_at_call 18; (with_reducible refine (spec_Name_Equal.calls kj11 _ _ t273 _ _ t265 true _ ?side1 ?side2 ?side3 ?side4 A20.out).mono ?_); (case side1 => repeat (first | exact (Kd.R_reads' HO277.out).2.2 | (with_reducible refine Kd.C_alloc ?_ _) | (with_reducible refine Kd.C_drewN ?_ _) | (with_reducible refine Kd.C_drew ?_))); (case side2 => exact (Kd.R_reads' HO277.out).2.1); (case side3 => repeat (first | exact (Kd.R_reads' HO_5.out).2.2 | (with_reducible refine Kd.C_alloc ?_ _) | (with_reducible refine Kd.C_drewN ?_ _) | (with_reducible refine Kd.C_drew ?_))); (case side4 => exact (Kd.R_reads' HO_5.out).2.1); rintro e w' ⟨rfl, ⟨nd, rfl⟩⟩))
                      go_ret
                      exact ⟨by first | rfl | (simp [errW_none, errW_some] <;> rfl) | (simp [*, errW_none, errW_some] <;> rfl), by repeat (first | (with_reducible first | exact HB.out | apply below_alloc | apply pw_below_drewN | apply below_drew1) | exact HB.out)⟩
                    · replace c21 := Bool.eq_false_iff.mpr c21
                      subst c21
                      have H1 : (some false) = some r := by rw [if_neg (show ¬ (false = true) by decide)] at H; exact H
                      clear H
                      have H := H1
                      clear H1
                      obtain rfl := Option.some.inj H
                      go_wp2_with (first | ((with_reducible refine gate_callee (f := 17) rfl ?_); refine goesL_ (some 61) rfl rfl Tryd.func17 (by kernel_rfl) rfl #[.string t270] rfl (by (try simp only [List.map_toArray, List.map_cons, List.map_nil]); first | done | rfl | (simp only [List.length_drop, List.length_take]; rfl)) ?_; (with_reducible refine (spec_ParseName.calls kj11 t270 t273 true true _ A17.out).mono ?_); rintro e w25 ⟨v276, rfl, ho0, hb⟩; refine ⟨_, rfl, ?_⟩; have n0_ := Aside0.mk (Kd.R_elder' (by (with_reducible repeat (first | apply Kd.R_alloc | apply Kd.R_drewN | apply Kd.R_drew)); exact HO_5.out) (Kd.R_base ho0) hb); have n1_ := Aside0.mk (Kd.R_lower (Kd.R_new' ho0 (Kd.R_lt (by (with_reducible repeat (first | apply Kd.R_alloc | apply Kd.R_drewN | apply Kd.R_drew)); exact HO_5.out))) (below_size (by repeat (first | (with_reducible first | exact HB.out | apply below_alloc | apply pw_below_drewN | apply below_drew1) | exact HB.out)))); have n2_ := Aside0.mk (below_step (by repeat (first | (with_reducible first | exact HB.out | apply below_alloc | apply pw_below_drewN | apply below_drew1) | exact HB.out)) hb); clear HO_5; clear HB; have HO_5 := n0_; have HO277 := n1_; have HB := n2_; clear n0_ n1_ n2_; (try clear hb); (try clear hb2); (try clear hk); (try clear hi); (try clear ho0); obtain ⟨Ao26, co26, eo26⟩ := Kd.R_slice HO277.out; subst eo26; obtain ⟨Ao27, co27, eo27⟩ := Kd.R_slice HO_5.out; subst eo27) | (go_at_call 18; (with_reducible refine (spec_Name_Equal.calls kj11 _ _ t273 _ _ t265 false _ ?side1 ?side2 ?side3 ?side4 A20.out).mono ?_); (case side1 => repeat (first | exact (Kd.R_reads' HO277.out).2.2 | (with_reducible refine Kd.C_alloc ?_ _) | (with_reducible refine Kd.C_drewN ?_ _) | (with_reducible refine Kd.C_drew ?_))); (case side2 => exact (Kd.R_reads' HO277.out).2.1); (case side3 => repeat (first | exact (Kd.R_reads' HO_5.out).2.2 | (with_reducible refine Kd.C_alloc ?_ _) | (with_reducible refine Kd.C_drewN ?_ _) | (with_reducible refine Kd.C_drew ?_))); (case side4 => exact (Kd.R_reads' HO_5.out).2.1); rintro e w' ⟨rfl, ⟨nd, rfl⟩⟩))
                      go_ret
                      exact ⟨by first | rfl | (simp [errW_none, errW_some] <;> rfl) | (simp [*, errW_none, errW_some] <;> rfl), by repeat (first | (with_reducible first | exact HB.out | apply below_alloc | apply pw_below_drewN | apply below_drew1) | exact HB.out)⟩
                  · replace c19 := Bool.eq_false_iff.mpr c19
                    subst c19
                    have H1 : (some false) = some r := by rw [if_neg (show ¬ (false = true) by decide)] at H; exact H
                    clear H
                    have H := H1
                    clear H1
                    obtain rfl := Option.some.inj H
                    go_wp2_with (first | ((with_reducible refine gate_callee (f := 17) rfl ?_); refine goesL_ (some 61) rfl rfl Tryd.func17 (by kernel_rfl) rfl #[.string t270] rfl (by (try simp only [List.map_toArray, List.map_cons, List.map_nil]); first | done | rfl | (simp only [List.length_drop, List.length_take]; rfl)) ?_; (with_reducible refine (spec_ParseName.calls kj11 t270 t273 false true _ A17.out).mono ?_); rintro e w28 ⟨v276, rfl, ho0, hb⟩; refine ⟨_, rfl, ?_⟩; have n0_ := Aside0.mk (Kd.R_elder' (by (with_reducible repeat (first | apply Kd.R_alloc | apply Kd.R_drewN | apply Kd.R_drew)); exact HO_5.out) (Kd.R_base ho0) hb); have n1_ := Aside0.mk (Kd.R_lower (Kd.R_new' ho0 (Kd.R_lt (by (with_reducible repeat (first | apply Kd.R_alloc | apply Kd.R_drewN | apply Kd.R_drew)); exact HO_5.out))) (below_size (by repeat (first | (with_reducible first | exact HB.out | apply below_alloc | apply pw_below_drewN | apply below_drew1) | exact HB.out)))); have n2_ := Aside0.mk (below_step (by repeat (first | (with_reducible first | exact HB.out | apply below_alloc | apply pw_below_drewN | apply below_drew1) | exact HB.out)) hb); clear HO_5; clear HB; have HO_5 := n0_; have HO277 := n1_; have HB := n2_; clear n0_ n1_ n2_; (try clear hb); (try clear hb2); (try clear hk); (try clear hi); (try clear ho0)))
                    go_ret
                    exact ⟨by first | rfl | (simp [errW_none, errW_some] <;> rfl) | (simp [*, errW_none, errW_some] <;> rfl), by repeat (first | (with_reducible first | exact HB.out | apply below_alloc | apply pw_below_drewN | apply below_drew1) | exact HB.out)⟩
                · replace c18 := Bool.eq_false_iff.mpr c18
                  subst c18
                  have H1 : (some false) = some r := by rw [if_neg (show ¬ (false = true) by decide)] at H; exact H
                  clear H
                  have H := H1
                  clear H1
                  obtain rfl := Option.some.inj H
                  go_wp2_with (first | ((with_reducible refine gate_callee (f := 17) rfl ?_); refine goesL_ (some 61) rfl rfl Tryd.func17 (by kernel_rfl) rfl #[.string t270] rfl (by (try simp only [List.map_toArray, List.map_cons, List.map_nil]); first | done | rfl | (simp only [List.length_drop, List.length_take]; rfl)) ?_; (with_reducible refine (spec_ParseName.calls kj11 t270 t273 t274 false _ A17.out).mono ?_); rintro e w29 ⟨v276, rfl, ho0, hb⟩; refine ⟨_, rfl, ?_⟩; have n0_ := Aside0.mk (Kd.R_elder' (by (with_reducible repeat (first | apply Kd.R_alloc | apply Kd.R_drewN | apply Kd.R_drew)); exact HO_5.out) (Kd.R_base ho0) hb); have n1_ := Aside0.mk (Kd.R_lower (Kd.R_new' ho0 (Kd.R_lt (by (with_reducible repeat (first | apply Kd.R_alloc | apply Kd.R_drewN | apply Kd.R_drew)); exact HO_5.out))) (below_size (by repeat (first | (with_reducible first | exact HB.out | apply below_alloc | apply pw_below_drewN | apply below_drew1) | exact HB.out)))); have n2_ := Aside0.mk (below_step (by repeat (first | (with_reducible first | exact HB.out | apply below_alloc | apply pw_below_drewN | apply below_drew1) | exact HB.out)) hb); clear HO_5; clear HB; have HO_5 := n0_; have HO277 := n1_; have HB := n2_; clear n0_ n1_ n2_; (try clear hb); (try clear hb2); (try clear hk); (try clear hi); (try clear ho0)))
                  go_ret
                  exact ⟨by first | rfl | (simp [errW_none, errW_some] <;> rfl) | (simp [*, errW_none, errW_some] <;> rfl), by repeat (first | (with_reducible first | exact HB.out | apply below_alloc | apply pw_below_drewN | apply below_drew1) | exact HB.out)⟩

/-- THE ONE PURE STATEMENT of laws_FnUnpackName: yours. -/
def laws_FnUnpackName.Pure : Prop := ∀ (l0 : List Int) (a1 : Int), l0.length ≤ maxLen → l0.length * 1 ≤ 140737488351232 → (∀ x ∈ l0, (Lit.int .u8 x).wf = true) → (Lit.int .i64 a1).wf = true → ∃ k, laws_FnUnpackName.f k l0 a1 = some true
theorem laws_FnUnpackName.walk (P : laws_FnUnpackName.Pure) (a0 : Option Addr) (len0 cap0 : Nat) (z0 : List Int) (a1 : Int) (w : World) (w0 : (a0 = none ∧ len0 = 0 ∧ cap0 = 0 ∧ z0 = []) ∨ ∃ x, a0 = some x ∧ len0 ≤ cap0 ∧ cap0 ≤ maxLen ∧ z0.length = cap0 ∧ (∀ i, i < z0.length → w.cell? (x.add i) = some (.int .u8 (z0.getD i 0))) ∧ ∀ n ∈ z0, (Lit.int .u8 n).wf = true) (y0 : len0 * 1 ≤ 140737488351232) (w1 : (Lit.int .i64 a1).wf = true) (hG : GoodU w) :
    Calls Tryd.prog 3 #[.slice a0 len0 cap0, .int .i64 a1] w fun e w' => e = .returned (.bool true) ∧ Below w.heap.size w w' := by
  obtain ⟨l0, rfl, hr0, hm0, hw0, hc0⟩ := ReadsInt.ofRowC w0
  obtain ⟨k, h⟩ := P l0 a1 hm0 y0 hw0 w1
  refine (laws_FnUnpackName.calls k _ _ l0 a1 true w (Kd.C_of_reads (d := (0 : Int)) (h1 := fun _ => rfl) hr0) hc0 hG h).mono ?_
  rintro e w' ⟨rfl, hd⟩
  exact ⟨rfl, hd⟩

end Go.Proofs.YtiilihafcdmccaaDoor.P
/- What 'ReadName', 'UnpackDomainName' and 'back' answer, step by step, and that they go together. -/
namespace Go.Proofs.YtiilihafcdmccaaDoor.Pure
open Go.RowKit Go.Proofs.YtiilihafcdmccaaDoor.P Go.Proofs.YtiilihafcdmccaaDoorW.PrintWords Go.Proofs.YtiilihafcdmccaaDoorW.PrintLast
set_option linter.unusedVariables false
set_option linter.unusedSimpArgs false
set_option linter.unusedSectionVars false

theorem Ev.inv {α : Type} {g f : Nat → Option α} {r : α} (h : ∀ k, g (k + 1) = f k) (k : Ev g r) : Ev f r := by
  obtain ⟨K, k⟩ := k
  exact ⟨K, fun n hn => by rw [← h]; exact k (n + 1) (by omega)⟩
theorem Ev.inj {α : Type} {g : Nat → Option α} {a b : α} (h : Ev g a) (k : Ev g b) : a = b := by
  obtain ⟨K, h⟩ := h
  obtain ⟨L, k⟩ := k
  have h1 := h (max K L) (by omega)
  have h2 := k (max K L) (by omega)
  rw [h1] at h2
  exact Option.some.inj h2

theorem and192 {c : Int} (h0 : 0 ≤ c) (h : c < 256) : Go.bits .and .i64 c 192 = if c < 64 then 0 else if c < 128 then 64 else if c < 192 then 128 else 192 := by
  obtain ⟨n, rfl⟩ := Int.eq_ofNat_of_zero_le h0
  have hn : n < 256 := by omega
  clear h h0
  revert n
  decide +kernel
theorem and192_hi {c : Int} (h0 : 192 ≤ c) (h : c < 256) : Go.bits .and .i64 c 192 = 192 := by
  rw [and192 (by omega) h, if_neg (by omega), if_neg (by omega), if_neg (by omega)]
theorem xor192 {c : Int} (h0 : 192 ≤ c) (h : c < 256) : Go.bits .xor .i64 c 192 = c - 192 := by
  obtain ⟨n, hn0⟩ := Int.eq_ofNat_of_zero_le (show 0 ≤ c - 192 by omega)
  obtain rfl : c = 192 + (n : Int) := by omega
  have hn : n < 64 := by omega
  clear h h0 hn0
  revert n
  decide +kernel
theorem and63 {c : Int} (h0 : 192 ≤ c) (h : c < 256) : Go.bits .and .i64 c 63 = c - 192 := by
  obtain ⟨n, hn0⟩ := Int.eq_ofNat_of_zero_le (show 0 ≤ c - 192 by omega)
  obtain rfl : c = 192 + (n : Int) := by omega
  have hn : n < 64 := by omega
  clear h h0 hn0
  revert n
  decide +kernel
theorem ptr_or {c d : Int} (h0 : 192 ≤ c) (h : c < 256) (d0 : 0 ≤ d) (d1 : d < 256) : Go.bits .or .i64 (wrap64 ((c - 192) * 256)) d = (c - 192) * 256 + d := by
  rw [w64 (by omega) (by omega)]
  refine bits_join .i64 62 (by decide) (fun n h0 h1 => ?_) 8 _ _ (by omega) (by omega) (by omega) d0 (by omega) (by omega)
  rw [IntKind.wrap_i64]
  omega
theorem rd_range {x : List Int} (hB : IsB x) {i : Int} (h0 : 0 ≤ i) (h : i < x.length) : 0 ≤ rd x i ∧ rd x i < 256 := by
  unfold rd
  rw [List.getD_eq_getElem?_getD, List.getElem?_eq_getElem (show i.toNat < x.length by omega)]
  exact hB _ (List.getElem_mem _)

section back
variable {x : List Int} (hB : IsB x) (hx : x.length ≤ 65536) {off lim cnt : Int} (h0 : 0 ≤ off)
include hx h0
theorem back_end (h : (x.length : Int) ≤ off) : Ev (fun k => laws_back.l0 k x off lim cnt) true := by
  refine Ev.step (f := fun _ => some true) (fun k => ?_) (Ev.now _)
  simp only [laws_back.l0]
  rw [if_neg (by omega)]
include hB
theorem back_stop (h : off < x.length) (hc : rd x off = 0 ∨ (64 ≤ rd x off ∧ rd x off < 192)) : Ev (fun k => laws_back.l0 k x off lim cnt) true := by
  obtain ⟨r0, r1⟩ := rd_range hB h0 h
  refine Ev.step (f := fun _ => some true) (fun k => ?_) (Ev.now _)
  simp only [laws_back.l0]
  rw [if_pos (by omega), if_pos (by omega), w64 (x := rd x off) (by omega) (by omega), and192 r0 r1]
  rw [if_neg (by split <;> (try split) <;> (try split) <;> omega)]
  by_cases hz : rd x off = 0
  · rw [if_pos hz]
  · rw [if_neg hz, if_pos (by omega)]
theorem back_label (h : off < x.length) (hc : 0 < rd x off) (hc' : rd x off < 64) (k : Nat) : laws_back.l0 (k + 1) x off lim cnt = laws_back.l0 k x (off + 1 + rd x off) lim cnt := by
  obtain ⟨r0, r1⟩ := rd_range hB h0 h
  rw [laws_back.l0]
  rw [if_pos (by omega), if_pos (by omega), w64 (x := rd x off) (by omega) (by omega), and192 r0 r1, if_pos hc', if_neg (by decide), if_neg (by omega), if_neg (by omega)]
  rw [w64 (x := 1 + rd x off) (by omega) (by omega), w64 (x := off + (1 + rd x off)) (by omega) (by omega), ← Int.add_assoc]
theorem back_short (h : off < x.length) (hc : 192 ≤ rd x off) (hs : (x.length : Int) ≤ off + 1) : Ev (fun k => laws_back.l0 k x off lim cnt) true := by
  obtain ⟨r0, r1⟩ := rd_range hB h0 h
  refine Ev.step (f := fun _ => some true) (fun k => ?_) (Ev.now _)
  simp only [laws_back.l0]
  rw [if_pos (by omega), if_pos (by omega), w64 (x := rd x off) (by omega) (by omega), and192_hi hc r1, if_pos rfl]
  rw [w64 (x := off + 1) (by omega) (by omega), if_pos (by omega)]
theorem back_ptr (h : off < x.length) (hc : 192 ≤ rd x off) (hs : off + 1 < x.length) (c0 : 0 ≤ cnt) (c1 : cnt ≤ 126) (k : Nat) :
    laws_back.l0 (k + 1) x off lim cnt = if (rd x off - 192) * 256 + rd x (off + 1) ≥ lim then some false else if cnt + 1 > 126 then some false else
      laws_back.l0 k x ((rd x off - 192) * 256 + rd x (off + 1)) ((rd x off - 192) * 256 + rd x (off + 1)) (cnt + 1) := by
  obtain ⟨r0, r1⟩ := rd_range hB h0 h
  obtain ⟨s0, s1⟩ := rd_range hB (i := off + 1) (by omega) hs
  rw [laws_back.l0]
  rw [if_pos (by omega), if_pos (by omega), w64 (x := rd x off) (by omega) (by omega), and192_hi hc r1, if_pos rfl]
  rw [w64 (x := off + 1) (by omega) (by omega), if_neg (by omega), if_pos (by omega), if_pos (by omega), and63 hc r1, w64 (x := rd x (off + 1)) (by omega) (by omega), ptr_or hc r1 s0 s1,
    w64 (x := cnt + 1) (by omega) (by omega)]
end back

/-- 'back' always answers. -/
theorem back_total {x : List Int} (hB : IsB x) (hx : x.length ≤ 65536) : ∀ (m : Nat) (off lim cnt : Int), 0 ≤ off → 0 ≤ lim → 0 ≤ cnt → cnt ≤ 126 → lim.toNat * (x.length + 65) + (x.length + 64 - off).toNat ≤ m →
    ∃ b, Ev (fun k => laws_back.l0 k x off lim cnt) b := by
  intro m
  induction m with
  | zero =>
    intro off lim cnt h0 hl c0 c1 hm
    exact ⟨true, back_end hx h0 (by omega)⟩
  | succ m ih =>
    intro off lim cnt h0 hl c0 c1 hm
    by_cases h : off < x.length
    · obtain ⟨r0, r1⟩ := rd_range hB h0 h
      by_cases hp : 192 ≤ rd x off
      · by_cases hs : off + 1 < x.length
        · obtain ⟨s0, s1⟩ := rd_range hB (i := off + 1) (by omega) hs
          have hst := back_ptr (lim := lim) hB hx h0 h hp hs c0 c1
          have e3 : 0 ≤ (rd x off - 192) * 256 + rd x (off + 1) := by omega
          generalize (rd x off - 192) * 256 + rd x (off + 1) = tgt at hst e3
          by_cases e1 : tgt ≥ lim
          · exact ⟨false, Ev.step (f := fun _ => some false) (fun k => by rw [hst, if_pos e1]) (Ev.now _)⟩
          · by_cases e2 : cnt + 1 > 126
            · exact ⟨false, Ev.step (f := fun _ => some false) (fun k => by rw [hst, if_neg e1, if_pos e2]) (Ev.now _)⟩
            · · have hmul : (tgt.toNat + 1) * (x.length + 65) ≤ lim.toNat * (x.length + 65) := Nat.mul_le_mul_right _ (by omega)
                rw [Nat.succ_mul] at hmul
                obtain ⟨b, hb⟩ := ih tgt tgt (cnt + 1) e3 e3 (by omega) (by omega) (by omega)
                exact ⟨b, Ev.step (fun k => by rw [hst, if_neg e1, if_neg e2]) hb⟩
        · exact ⟨true, back_short hB hx h0 h hp (by omega)⟩
      · by_cases hc : 0 < rd x off ∧ rd x off < 64
        · obtain ⟨b, hb⟩ := ih (off + 1 + rd x off) lim cnt (by omega) hl c0 c1 (by omega)
          exact ⟨b, Ev.step (back_label hB hx h0 h hc.1 hc.2) hb⟩
        · exact ⟨true, back_stop hB hx h0 h (by omega)⟩
    · exact ⟨true, back_end hx h0 (by omega)⟩

/-! ### ReadName -/
abbrev RdR := List ByteArray × Int × Bool
section read
variable {x : List Int} (hB : IsB x) (hx : x.length ≤ 65536) {off lim cnt next : Int} (h0 : 0 ≤ off) {ns : List ByteArray}
include hx h0
theorem read_end (h : (x.length : Int) ≤ off) : Ev (fun k => spec_ReadName.l0 k x off ns next lim cnt) ([], 0, false) := by
  refine Ev.step (f := fun k => spec_ReadName.j1 k x off ns next lim cnt true) (fun k => ?_) (Ev.step (f := fun _ => some ([], 0, false)) (fun k => ?_) (Ev.now _))
  · rw [spec_ReadName.l0, if_neg (by omega)]
    congr 1
    exact decide_eq_true (by omega)
  · rw [spec_ReadName.j1, if_pos rfl]
theorem read_go {R : RdR} (h : off < x.length) (k : Ev (fun k => spec_ReadName.j1 k x off ns next lim cnt false) R) : Ev (fun k => spec_ReadName.l0 k x off ns next lim cnt) R := by
  refine Ev.step (fun k => ?_) k
  rw [spec_ReadName.l0, if_neg (by omega)]
  congr 1
  exact decide_eq_false (by omega)
include hB
theorem read_zero {b : Bool} (h : off < x.length) (hc : rd x off = 0) (hv : Ev (fun k => spec_Name_Valid.f k ns) b) : Ev (fun k => spec_ReadName.l0 k x off ns next lim cnt) (ns, (if next < 0 then off + 1 else next), b) := by
  refine read_go hx h0 h (Ev.step (f := fun k => (spec_Name_Valid.f k ns).bind fun t => some (ns, (if next < 0 then off + 1 else next), t)) (fun k => ?_) (Ev.bind (f := fun k t => some (ns, (if next < 0 then off + 1 else next), t)) hv (Ev.now _)))
  rw [spec_ReadName.j1, if_neg Bool.false_ne_true, if_pos h0, if_pos h, hc]
  rw [w64 (x := 0) (by omega) (by omega), if_pos (by decide), if_pos rfl]
  by_cases hn : next < 0
  · simp only [if_pos hn]; rw [w64 (by omega) (by omega)]
  · simp only [if_neg hn]
theorem read_stop (h : off < x.length) (hc : 64 ≤ rd x off) (hc' : rd x off < 192) : Ev (fun k => spec_ReadName.l0 k x off ns next lim cnt) ([], 0, false) := by
  refine read_go hx h0 h (Ev.step (f := fun _ => some ([], 0, false)) (fun k => ?_) (Ev.now _))
  rw [spec_ReadName.j1, if_neg Bool.false_ne_true, if_pos h0, if_pos h, w64 (x := rd x off) (by omega) (by omega), if_neg (by omega), if_neg (by omega)]
theorem read_cut (h : off < x.length) (hc : 0 < rd x off) (hc' : rd x off < 64) (hl : (x.length : Int) < off + 1 + rd x off) : Ev (fun k => spec_ReadName.l0 k x off ns next lim cnt) ([], 0, false) := by
  refine read_go hx h0 h (Ev.step (f := fun _ => some ([], 0, false)) (fun k => ?_) (Ev.now _))
  rw [spec_ReadName.j1, if_neg Bool.false_ne_true, if_pos h0, if_pos h, w64 (x := rd x off) (by omega) (by omega), if_pos (by omega), if_neg (by omega), w64 (x := off + 1) (by omega) (by omega),
    w64 (x := off + 1 + rd x off) (by omega) (by omega), if_pos (by omega)]
theorem read_label {R : RdR} {z : Int} (h : off < x.length) (hc : 0 < rd x off) (hc' : rd x off < 64) (hl : off + 1 + rd x off ≤ x.length) (hn : ns.length < 8796093022208)
    (hz : Ev (fun k => spec_Name_Size.f k (ns ++ [strOfNums ((x.take (off + 1 + rd x off).toNat).drop (off + 1).toNat)])) z)
    (k : Ev (fun k => if z > 255 then some ([], 0, false) else spec_ReadName.l0 k x (off + 1 + rd x off) (ns ++ [strOfNums ((x.take (off + 1 + rd x off).toNat).drop (off + 1).toNat)]) next lim cnt) R) :
    Ev (fun k => spec_ReadName.l0 k x off ns next lim cnt) R := by
  refine read_go hx h0 h (Ev.step (fun k => ?_) (Ev.bind (f := fun k t => if t > 255 then some ([], 0, false) else spec_ReadName.l0 k x (off + 1 + rd x off) (ns ++ [strOfNums ((x.take (off + 1 + rd x off).toNat).drop (off + 1).toNat)]) next lim cnt) hz k))
  rw [spec_ReadName.j1, if_neg Bool.false_ne_true, if_pos h0, if_pos h, w64 (x := rd x off) (by omega) (by omega), if_pos (by omega), if_neg (by omega), w64 (x := off + 1) (by omega) (by omega),
    w64 (x := off + 1 + rd x off) (by omega) (by omega), if_neg (by omega), if_pos (by omega), if_pos (by omega), if_pos (by omega), if_pos hn, Option.bind_some,
    w64 (x := 1 + rd x off) (by omega) (by omega), w64 (x := off + (1 + rd x off)) (by omega) (by omega), ← Int.add_assoc]
theorem read_short (h : off < x.length) (hc : 192 ≤ rd x off) (hs : (x.length : Int) ≤ off + 1) : Ev (fun k => spec_ReadName.l0 k x off ns next lim cnt) ([], 0, false) := by
  obtain ⟨r0, r1⟩ := rd_range hB h0 h
  refine read_go hx h0 h (Ev.step (f := fun _ => some ([], 0, false)) (fun k => ?_) (Ev.now _))
  rw [spec_ReadName.j1, if_neg Bool.false_ne_true, if_pos h0, if_pos h, w64 (x := rd x off) (by omega) (by omega), if_neg (by omega), if_pos (by omega), w64 (x := off + 1) (by omega) (by omega), if_pos (by omega)]
theorem read_ptr {R : RdR} (h : off < x.length) (hc : 192 ≤ rd x off) (hs : off + 1 < x.length) (c0 : 0 ≤ cnt) (c1 : cnt + 1 ≤ 126) (ht : (rd x off - 192) * 256 + rd x (off + 1) < lim)
    (k : Ev (fun k => spec_ReadName.l0 k x ((rd x off - 192) * 256 + rd x (off + 1)) ns (if next < 0 then off + 2 else next) ((rd x off - 192) * 256 + rd x (off + 1)) (cnt + 1)) R) :
    Ev (fun k => spec_ReadName.l0 k x off ns next lim cnt) R := by
  obtain ⟨r0, r1⟩ := rd_range hB h0 h
  obtain ⟨s0, s1⟩ := rd_range hB (i := off + 1) (by omega) hs
  refine read_go hx h0 h (Ev.step (fun k => ?_) k)
  rw [spec_ReadName.j1, if_neg Bool.false_ne_true, if_pos h0, if_pos h, w64 (x := rd x off) (by omega) (by omega), if_neg (by omega), if_pos (by omega), w64 (x := off + 1) (by omega) (by omega), if_neg (by omega)]
  rw [and63 hc r1, w64 (x := rd x (off + 1)) (by omega) (by omega), ptr_or hc r1 s0 s1, w64 (x := cnt + 1) (by omega) (by omega), w64 (x := off + 2) (by omega) (by omega)]
  by_cases hn : next < 0
  · simp only [if_pos hn]
    rw [if_pos (by omega), if_pos (by omega), if_neg (by omega), if_neg (by omega)]
  · simp only [if_neg hn]
    rw [if_pos (by omega), if_pos (by omega), if_neg (by omega), if_neg (by omega)]
end read

/-! ### the escaping of a label's bytes -/
def special (b : Int) : Prop := b = 46 ∨ b = 32 ∨ b = 39 ∨ b = 64 ∨ b = 59 ∨ b = 40 ∨ b = 41 ∨ b = 34 ∨ b = 92
instance (b : Int) : Decidable (special b) := by unfold special; infer_instance
theorem special_eq (b : Int) : dns_isDomainNameLabelSpecial.f b = some (decide (special b)) := by
  by_cases h : special b
  · rw [decide_eq_true h]
    unfold special at h
    unfold dns_isDomainNameLabelSpecial.f
    rcases h with rfl | rfl | rfl | rfl | rfl | rfl | rfl | rfl | rfl <;> rfl
  · rw [decide_eq_false h]
    unfold special at h
    unfold dns_isDomainNameLabelSpecial.f
    repeat (rw [if_neg (by omega)])
def escB (b : Int) : List Int := if special b then [92, b] else if b < 32 ∨ 126 < b then ddd3 b else [b]
def escs (l : List Int) : List Int := l.flatMap escB
theorem escs_cons (b : Int) (l : List Int) : escs (b :: l) = escB b ++ escs l := by simp [escs]
theorem escB_len (b : Int) : (escB b).length ≤ 4 := by
  unfold escB ddd3
  split
  · simp
  · split <;> simp
theorem escs_len (l : List Int) : (escs l).length ≤ 4 * l.length := by
  induction l with
  | nil => simp [escs]
  | cons b l ih =>
    rw [escs_cons, List.length_append, List.length_cons]
    have := escB_len b
    omega
theorem ddd3_isB {b : Int} (h0 : 0 ≤ b) (h : b < 256) : IsB (ddd3 b) := by
  unfold ddd3
  refine IsB.cons (by omega) (IsB.cons (by omega) (IsB.cons (by omega) (IsB.cons (by omega) IsB.nil)))
theorem escB_isB {b : Int} (h0 : 0 ≤ b) (h : b < 256) : IsB (escB b) := by
  unfold escB
  split
  · exact IsB.cons (by omega) (IsB.cons ⟨h0, h⟩ IsB.nil)
  · split
    · exact ddd3_isB h0 h
    · exact IsB.cons ⟨h0, h⟩ IsB.nil
theorem escs_isB {l : List Int} (h : IsB l) : IsB (escs l) := by
  induction l with
  | nil => exact IsB.nil
  | cons b l ih => rw [escs_cons]; exact (escB_isB h.head.1 h.head.2).append (ih h.tail)
theorem escB_lab {b : Int} (h0 : 0 ≤ b) (h : b < 256) : Lab (escB b) [b] := by
  unfold escB
  split
  · rename_i hs
    exact .one (.sign b (by unfold dig; unfold special at hs; omega)) (by rintro ⟨h, _⟩; cases h)
  · rename_i hs
    unfold special at hs
    split
    · have e : val3 (48 + b / 100) (48 + b / 10 % 10) (48 + b % 10) = b := by unfold val3; omega
      have ht := Tok.ddd (48 + b / 100) (48 + b / 10 % 10) (48 + b % 10) (by unfold dig; omega) (by unfold dig; omega) (by unfold dig; omega) (by rw [e]; exact h)
      rw [e] at ht
      exact .one ht (by rintro ⟨h, _⟩; cases h)
    · exact .one (.plain b (by omega)) (by rintro ⟨_, h⟩; omega)
theorem escs_lab {l : List Int} (h : IsB l) : Lab (escs l) l := by
  induction l with
  | nil => exact .nil
  | cons b l ih => rw [escs_cons]; exact (escB_lab h.head.1 h.head.2).append (ih h.tail)

/-! ### UnpackDomainName -/
abbrev UnR := ByteArray × Int × Option Int
section unpack
/-- One label's bytes are written down. -/
theorem unp_row {x row : List Int} (hB : IsB row) {o x8 len bud cnt c : Int} {R : UnR} : ∀ (suf pre s : List Int), row = pre ++ suf → row.length ≤ 100 → s.length + 4 * suf.length + 4 < 140737488355328 →
    Ev (fun k => dns_UnpackDomainName.l0 k x (wrap64 (o + c)) (s ++ escs suf ++ [46]) x8 len bud cnt) R → Ev (fun k => dns_UnpackDomainName.l1 k x o s x8 len bud cnt c row (row.length : Int) (pre.length : Int)) R := by
  intro suf
  induction suf with
  | nil =>
    intro pre s e hr hs2 k
    rw [List.append_nil] at e
    subst e
    refine Ev.step (fun k => ?_) k
    rw [dns_UnpackDomainName.l1, if_neg (by omega), if_pos (by omega)]
    simp [escs]
  | cons b suf ih =>
    intro pre s e hr hs2 k
    have hlen : row.length = pre.length + (suf.length + 1) := by rw [e]; simp
    have hb : 0 ≤ b ∧ b < 256 := hB b (by rw [e]; simp)
    have hrd : rd row (pre.length : Int) = b := by
      unfold rd
      rw [Int.toNat_natCast, e, List.getD_eq_getElem?_getD, List.getElem?_append_right (Nat.le_refl _)]
      simp
    rw [List.length_cons] at hs2
    have h4 := escB_len b
    have hnx : wrap64 ((pre.length : Int) + 1) = ((pre ++ [b]).length : Int) := by
      rw [w64 (by omega) (by omega)]
      simp
    have ih2 := ih (pre ++ [b]) (s ++ escB b) (by rw [e]; simp) hr (by rw [List.length_append]; omega)
      (by rw [escs_cons] at k; simpa using k)
    refine Ev.step (fun k => ?_) ih2
    rw [dns_UnpackDomainName.l1, if_pos (by omega), if_pos (by omega), if_pos (by omega), hrd, special_eq, Option.bind_some, hnx]
    unfold escB
    by_cases h1 : special b
    · rw [if_pos (decide_eq_true h1), if_pos h1, Option.bind_some, if_pos (by simp; omega)]
    · rw [if_neg (by simpa using h1), if_neg h1]
      by_cases h2 : b < 32
      · rw [if_pos h2, if_pos (Or.inl h2)]
        unfold dns_escapeByte.f
        rw [if_pos (Or.inl ⟨hb.1, h2⟩), Option.bind_some, bytesOf_strOfNums (ddd3_isB hb.1 hb.2), if_pos]
        rw [size_eq_len, bytesOf_strOfNums (ddd3_isB hb.1 hb.2)]
        unfold ddd3
        simp
        omega
      · rw [if_neg h2]
        by_cases h3 : b > 126
        · rw [if_pos h3, if_pos (Or.inr h3)]
          unfold dns_escapeByte.f
          rw [if_pos (Or.inr ⟨h3, hb.2⟩), Option.bind_some, bytesOf_strOfNums (ddd3_isB hb.1 hb.2), if_pos]
          rw [size_eq_len, bytesOf_strOfNums (ddd3_isB hb.1 hb.2)]
          unfold ddd3
          simp
          omega
        · rw [if_neg h3, if_neg (show ¬ (b < 32 ∨ 126 < b) by omega), if_pos (by omega)]
variable {x : List Int} (hB : IsB x) (hx : x.length ≤ 65536) {off off1 bud cnt : Int} (h0 : 0 ≤ off) {s : List Int}
include hx h0
theorem unp_end (h : (x.length : Int) ≤ off) : Ev (fun k => dns_UnpackDomainName.l0 k x off s off1 x.length bud cnt) (⟨#[]⟩, (x.length : Int), some 0) := by
  refine Ev.step (f := fun _ => some (⟨#[]⟩, (x.length : Int), some 0)) (fun k => ?_) (Ev.now _)
  rw [dns_UnpackDomainName.l0, if_pos (by omega)]
include hB
theorem unp_zero (h : off < x.length) (hc : rd x off = 0) : Ev (fun k => dns_UnpackDomainName.l0 k x off s off1 x.length bud cnt) ((if s = [] then ⟨#[46]⟩ else strOfNums s), (if cnt = 0 then off + 1 else off1), none) := by
  refine Ev.step (f := fun _ => some ((if s = [] then ⟨#[46]⟩ else strOfNums s), (if cnt = 0 then off + 1 else off1), none)) (fun k => ?_) (Ev.now _)
  rw [dns_UnpackDomainName.l0, if_neg (by omega), if_pos h0, if_pos h, hc, w64 (x := 0) (by omega) (by omega), w64 (x := off + 1) (by omega) (by omega), if_pos (by decide +kernel), if_pos rfl]
  by_cases hs : s = []
  · subst hs
    by_cases hn : cnt = 0
    · simp only [if_pos hn]; rfl
    · simp only [if_neg hn]; rfl
  · have hs' : ¬ ((s.length : Int) = 0) := by
      intro h
      exact hs (List.eq_nil_of_length_eq_zero (by omega))
    by_cases hn : cnt = 0
    · simp only [if_pos hn, if_neg hs, if_neg hs']
    · simp only [if_neg hn, if_neg hs, if_neg hs']
theorem unp_stop (h : off < x.length) (hc : 64 ≤ rd x off) (hc' : rd x off < 192) : Ev (fun k => dns_UnpackDomainName.l0 k x off s off1 x.length bud cnt) (⟨#[]⟩, (x.length : Int), some 2) := by
  obtain ⟨r0, r1⟩ := rd_range hB h0 h
  refine Ev.step (f := fun _ => some (⟨#[]⟩, (x.length : Int), some 2)) (fun k => ?_) (Ev.now _)
  have hne : ¬ Go.bits .and .i64 (rd x off) 192 = 0 ∧ ¬ Go.bits .and .i64 (rd x off) 192 = 192 := by
    rw [and192 r0 r1]
    constructor <;> (split <;> (try split) <;> (try split) <;> omega)
  rw [dns_UnpackDomainName.l0, if_neg (by omega), if_pos h0, if_pos h, w64 (x := rd x off) (by omega) (by omega), if_neg hne.1, if_neg hne.2]
theorem unp_cut (h : off < x.length) (hc : 0 < rd x off) (hc' : rd x off < 64) (hl : (x.length : Int) < off + 1 + rd x off) : Ev (fun k => dns_UnpackDomainName.l0 k x off s off1 x.length bud cnt) (⟨#[]⟩, (x.length : Int), some 0) := by
  obtain ⟨r0, r1⟩ := rd_range hB h0 h
  refine Ev.step (f := fun _ => some (⟨#[]⟩, (x.length : Int), some 0)) (fun k => ?_) (Ev.now _)
  rw [dns_UnpackDomainName.l0, if_neg (by omega), if_pos h0, if_pos h, w64 (x := rd x off) (by omega) (by omega), and192 r0 r1, if_pos hc', if_pos rfl, if_neg (by omega), w64 (x := off + 1) (by omega) (by omega),
    w64 (x := off + 1 + rd x off) (by omega) (by omega), if_pos (by omega)]
theorem unp_long (h : off < x.length) (hc : 0 < rd x off) (hc' : rd x off < 64) (hl : off + 1 + rd x off ≤ x.length) (b0 : 0 ≤ bud) (b1 : bud ≤ 255) (hb : bud - (rd x off + 1) ≤ 0) : Ev (fun k => dns_UnpackDomainName.l0 k x off s off1 x.length bud cnt) (⟨#[]⟩, (x.length : Int), some 1) := by
  obtain ⟨r0, r1⟩ := rd_range hB h0 h
  refine Ev.step (f := fun _ => some (⟨#[]⟩, (x.length : Int), some 1)) (fun k => ?_) (Ev.now _)
  rw [dns_UnpackDomainName.l0, if_neg (by omega), if_pos h0, if_pos h, w64 (x := rd x off) (by omega) (by omega), and192 r0 r1, if_pos hc', if_pos rfl, if_neg (by omega), w64 (x := off + 1) (by omega) (by omega),
    w64 (x := off + 1 + rd x off) (by omega) (by omega), if_neg (by omega), w64 (x := rd x off + 1) (by omega) (by omega), w64 (x := bud - (rd x off + 1)) (by omega) (by omega), if_pos hb]
theorem unp_label {R : UnR} (h : off < x.length) (hc : 0 < rd x off) (hc' : rd x off < 64) (hl : off + 1 + rd x off ≤ x.length) (b0 : 0 ≤ bud) (b1 : bud ≤ 255) (hb : 0 < bud - (rd x off + 1)) (hs : s.length ≤ 10000)
    (k : Ev (fun k => dns_UnpackDomainName.l0 k x (off + 1 + rd x off) (s ++ escs ((x.take (off + 1 + rd x off).toNat).drop (off + 1).toNat) ++ [46]) off1 x.length (bud - (rd x off + 1)) cnt) R) :
    Ev (fun k => dns_UnpackDomainName.l0 k x off s off1 x.length bud cnt) R := by
  obtain ⟨r0, r1⟩ := rd_range hB h0 h
  have hrl : ((x.take (off + 1 + rd x off).toNat).drop (off + 1).toNat).length ≤ 100 := by
    rw [List.length_drop, List.length_take]
    omega
  have hrB : IsB ((x.take (off + 1 + rd x off).toNat).drop (off + 1).toNat) := fun y hy => hB y (List.mem_of_mem_take (List.mem_of_mem_drop hy))
  have h1 := unp_row (x := x) hrB (o := off + 1) (x8 := off1) (len := x.length) (bud := bud - (rd x off + 1)) (cnt := cnt) (c := rd x off) (R := R) ((x.take (off + 1 + rd x off).toNat).drop (off + 1).toNat) [] s rfl hrl (by omega)
    (by rw [w64 (x := off + 1 + rd x off) (by omega) (by omega)]; exact k)
  refine Ev.step (fun k => ?_) h1
  rw [dns_UnpackDomainName.l0, if_neg (by omega), if_pos h0, if_pos h, w64 (x := rd x off) (by omega) (by omega), and192 r0 r1, if_pos hc', if_pos rfl, if_neg (by omega), w64 (x := off + 1) (by omega) (by omega),
    w64 (x := off + 1 + rd x off) (by omega) (by omega), if_neg (by omega), w64 (x := rd x off + 1) (by omega) (by omega), w64 (x := bud - (rd x off + 1)) (by omega) (by omega), if_neg (by omega), if_pos (by omega), if_pos (by omega), if_pos (by omega)]
  rfl
theorem unp_short (h : off < x.length) (hc : 192 ≤ rd x off) (hs : (x.length : Int) ≤ off + 1) : Ev (fun k => dns_UnpackDomainName.l0 k x off s off1 x.length bud cnt) (⟨#[]⟩, (x.length : Int), some 0) := by
  obtain ⟨r0, r1⟩ := rd_range hB h0 h
  refine Ev.step (f := fun _ => some (⟨#[]⟩, (x.length : Int), some 0)) (fun k => ?_) (Ev.now _)
  rw [dns_UnpackDomainName.l0, if_neg (by omega), if_pos h0, if_pos h, w64 (x := rd x off) (by omega) (by omega), and192_hi hc r1, if_neg (by omega), if_pos rfl, w64 (x := off + 1) (by omega) (by omega), if_pos (by omega)]
theorem unp_ptr {R : UnR} (h : off < x.length) (hc : 192 ≤ rd x off) (hs : off + 1 < x.length) (c0 : 0 ≤ cnt) (c1 : cnt + 1 ≤ 126)
    (k : Ev (fun k => dns_UnpackDomainName.l0 k x ((rd x off - 192) * 256 + rd x (off + 1)) s (if cnt = 0 then off + 2 else off1) x.length bud (cnt + 1)) R) :
    Ev (fun k => dns_UnpackDomainName.l0 k x off s off1 x.length bud cnt) R := by
  obtain ⟨r0, r1⟩ := rd_range hB h0 h
  obtain ⟨s0, s1⟩ := rd_range hB (i := off + 1) (by omega) hs
  refine Ev.step (fun k => ?_) k
  rw [dns_UnpackDomainName.l0, if_neg (by omega), if_pos h0, if_pos h, w64 (x := rd x off) (by omega) (by omega), and192_hi hc r1, if_neg (by omega), if_pos rfl, w64 (x := off + 1) (by omega) (by omega), if_neg (by omega), if_pos (by omega), if_pos (by omega)]
  rw [xor192 hc r1, w64 (x := rd x (off + 1)) (by omega) (by omega), ptr_or hc r1 s0 s1, w64 (x := cnt + 1) (by omega) (by omega), w64 (x := off + 1 + 1) (by omega) (by omega), show off + 1 + 1 = off + 2 by omega]
  by_cases hn : cnt = 0
  · simp only [if_pos hn]; rw [if_neg (by omega)]
  · simp only [if_neg hn]; rw [if_neg (by omega)]
end unpack

end Go.Proofs.YtiilihafcdmccaaDoor.Pure
/- What packing and unpacking ask of the package's errors, together. -/
namespace Go.Proofs.YtiilihafcdmccaaDoor.P
open Go.RowKit
def GoodPU (w : World) : Prop := GoodP w ∧ GoodU w
theorem GoodPU.p {w : World} (h : GoodPU w) : GoodP w := h.1
theorem GoodPU.u {w : World} (h : GoodPU w) : GoodU w := h.2
end Go.Proofs.YtiilihafcdmccaaDoor.P
