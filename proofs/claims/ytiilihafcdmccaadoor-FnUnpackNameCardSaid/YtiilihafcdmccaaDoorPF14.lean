-- Written by a program of this session (wip/tools/pprint.py) out of the translation: it goes by the kit's print and by the contracts of YtiilihafcdmccaaDoorHand. Not trusted: Lean checks it.
import Derived.Test.YtiilihafcdmccaaDoorP0
namespace Go.Proofs.YtiilihafcdmccaaDoor.P
open Go.RowKit Go.Proofs.YtiilihafcdmccaaDoorW.PrintWords Go.Proofs.YtiilihafcdmccaaDoorW.PrintLast Go.Proofs.YtiilihafcdmccaaDoorW.PrintMore
attribute [local go_sem] max2_int min2_int max_two min_two max_three min_three max_four min_four   -- for this text's walks alone
set_option linter.unusedVariables false
set_option linter.unusedSimpArgs false

/-! ### laws_back: function 14 -/
def laws_back.l0 : Nat → List Int → Int → Int → Int → Option (Bool)
  | 0, _, _, _, _ => none
  | k + 1, x0, x1, x5, x6 => if x1 < (x0.length : Int) then (if 0 ≤ x1 then (if (Go.bits .and .i64 (wrap64 (rd x0 x1)) 192) = 192 then (if (wrap64 (x1 + 1)) ≥ (x0.length : Int) then (some true) else (if 0 ≤ (wrap64 (x1 + 1)) then (if (wrap64 (x1 + 1)) < (x0.length : Int) then (if (Go.bits .or .i64 (wrap64 ((Go.bits .and .i64 (wrap64 (rd x0 x1)) 63) * 256)) (wrap64 (rd x0 (wrap64 (x1 + 1))))) ≥ x5 then (some false) else (if (wrap64 (x6 + 1)) > 126 then (some false) else (laws_back.l0 k x0 (Go.bits .or .i64 (wrap64 ((Go.bits .and .i64 (wrap64 (rd x0 x1)) 63) * 256)) (wrap64 (rd x0 (wrap64 (x1 + 1))))) (Go.bits .or .i64 (wrap64 ((Go.bits .and .i64 (wrap64 (rd x0 x1)) 63) * 256)) (wrap64 (rd x0 (wrap64 (x1 + 1))))) (wrap64 (x6 + 1))))) else (none)) else (none))) else (if (wrap64 (rd x0 x1)) = 0 then (some true) else (if (wrap64 (rd x0 x1)) > 63 then (some true) else (laws_back.l0 k x0 (wrap64 (x1 + (wrap64 (1 + (wrap64 (rd x0 x1)))))) x5 x6)))) else (none)) else (some true)
def laws_back.f (k : Nat) (l0 : List Int) (a1 : Int) : Option (Bool) := laws_back.l0 k l0 a1 a1 0
theorem laws_back.mono_l : ∀ k, (∀ y0 y1 y2 y3, LeO (laws_back.l0 k y0 y1 y2 y3) (laws_back.l0 (k + 1) y0 y1 y2 y3))
  | 0 => fun _ _ _ _ r h => by simp [laws_back.l0] at h
  | k + 1 => by
    have ih0 := laws_back.mono_l k
    · intro y0 y1 y2 y3
      unfold laws_back.l0
      repeat' first
      | (with_reducible exact ih0 _ _ _ _)
      | (with_reducible exact LeO.refl _)
      | (with_reducible exact LeO.none _)
      | (with_reducible refine LeO.ite ?_ ?_)
      | (with_reducible refine LeO.bind ?_ (fun _ => ?_))
      | exact ih0 _ _ _ _
      | exact LeO.none _
      | refine LeO.ite ?_ ?_
      | refine LeO.bind ?_ (fun _ => ?_)
theorem laws_back.mono : ∀ a0 a1 k, LeO (laws_back.f k a0 a1) (laws_back.f (k + 1) a0 a1) := by
  intro a0 a1 k
  have ih0 := laws_back.mono_l k
  unfold laws_back.f
  repeat' first
      | (with_reducible exact ih0 _ _ _ _)
      | (with_reducible exact LeO.refl _)
      | (with_reducible exact LeO.none _)
      | (with_reducible refine LeO.ite ?_ ?_)
      | (with_reducible refine LeO.bind ?_ (fun _ => ?_))
      | exact ih0 _ _ _ _
      | exact LeO.none _
      | refine LeO.ite ?_ ?_
      | refine LeO.bind ?_ (fun _ => ?_)
set_option maxHeartbeats 8000000 in
set_option maxRecDepth 100000 in
theorem laws_back.calls (k : Nat) (A0 : Option Addr) (c0 : Nat) (l0 : List Int) (a1 : Int) (r : Bool) (w : World) (hr0 : Kd.C (Kd.int .u8) w A0 l0.length l0) (hc0 : l0.length ≤ c0) (h : laws_back.f k l0 a1 = some r) :
    Calls Tryd.prog 14 #[.slice A0 l0.length c0, .int .i64 a1] w fun e w' => e = .returned (.bool r) ∧ Drawn0 w w' := by
  have HR0 := Aside0.mk hr0
  have HC0 := Aside0.mk hc0
  clear hr0 hc0
  have H : (laws_back.l0 k l0 a1 a1 0) = some r := h
  clear h
  have H' := Aside0.mk H
  clear H
  go_enter Tryd.func14, Tryd.ntmps14
  go_wp2
  go_loopg [1, 5, 6] k (fun kq v1 v5 v6 w' => ∃ (x1_1 : Int) (x5_1 : Int) (x6_1 : Int), v1 = .int .i64 x1_1 ∧ v5 = .int .i64 x5_1 ∧ v6 = .int .i64 x6_1 ∧ Aside0 (laws_back.l0 kq l0 x1_1 x5_1 x6_1 = some r) ∧ Aside0 (kq ≤ k) ∧ Drawn0 w w')
  case atStart => exact ⟨(a1), (a1), (0), (by first | rfl | (simp; done) | (simp [*]; done) | (simp [wrap64]; done)), (by first | rfl | (simp; done) | (simp [*]; done) | (simp [wrap64]; done)), (by first | rfl | (simp; done) | (simp [*]; done) | (simp [wrap64]; done)), H', ⟨Nat.le_refl _⟩, by repeat (first | exact Drawn0.refl _ | apply Drawn0.step)⟩
  case round =>
    clear H'
    try clear c1
    try clear p2
    obtain ⟨x1_1, x5_1, x6_1, rfl, rfl, rfl, HA, HK1, ⟨m1, rfl⟩⟩ := hrel
    cases gk with
    | zero => exact absurd HA.out (by simp [laws_back.l0])
    | succ k1 =>
      have H := HA.out
      clear HA
      simp only [laws_back.l0] at H
      by_cases c3 : x1_1 < (l0.length : Int)
      · rw [if_pos c3] at H
        have c3b0 : decide (x1_1 < (l0.length : Int)) = true := decide_eq_true c3
        clear c3
        by_cases c4 : 0 ≤ x1_1
        · rw [if_pos c4] at H
          have c4b0 : decide (0 ≤ x1_1) = true := decide_eq_true c4
          clear c4
          by_cases c5 : (Go.bits .and .i64 (wrap64 (rd l0 x1_1)) 192) = 192
          · rw [if_pos c5] at H
            have c5b0 : ((Go.bits .and .i64 (wrap64 (rd l0 x1_1)) 192) == 192) = true := beq_iff_eq.mpr c5
            have c5b1 : ((Go.bits .and .i64 (wrap64 (rd l0 x1_1)) 192) != 192) = false := bne_eq_false_iff_eq.mpr c5
            clear c5
            by_cases c6 : (wrap64 (x1_1 + 1)) ≥ (l0.length : Int)
            · rw [if_pos c6] at H
              have c6b0 : decide ((l0.length : Int) ≤ (wrap64 (x1_1 + 1))) = true := decide_eq_true c6
              clear c6
              obtain rfl := Option.some.inj H
              have p220 : 0 ≤ (x1_1 : Int) := of_decide_eq_true (by first | (with_reducible assumption) | assumption)
              have q220 : x1_1 < (l0.length : Int) := of_decide_eq_true (by first | (with_reducible assumption) | assumption)
              obtain ⟨ad220, e220, hx220_0⟩ := Kd.at_int HR0.out x1_1 p220 q220
              cases e220
              replace p220 := eq_true p220
              replace q220 := eq_true q220
              go_wp2
              go_ret
              exact ⟨by first | rfl | (simp; done) | (simp [*]; done) | (simp [wrap64]; done), by repeat (first | exact Drawn0.refl _ | apply Drawn0.step)⟩
            · rw [if_neg c6] at H
              have c6b0 : decide ((l0.length : Int) ≤ (wrap64 (x1_1 + 1))) = false := decide_eq_false c6
              clear c6
              obtain ⟨ji7, hji7⟩ : ∃ j_ : Int, (wrap64 (x1_1 + 1)) = j_ := ⟨_, rfl⟩
              replace H : (if 0 ≤ (ji7) then (if (ji7) < (l0.length : Int) then (if (Go.bits .or .i64 (wrap64 ((Go.bits .and .i64 (wrap64 (rd l0 x1_1)) 63) * 256)) (wrap64 (rd l0 (ji7)))) ≥ x5_1 then (some false) else (if (wrap64 (x6_1 + 1)) > 126 then (some false) else (laws_back.l0 k1 l0 (Go.bits .or .i64 (wrap64 ((Go.bits .and .i64 (wrap64 (rd l0 x1_1)) 63) * 256)) (wrap64 (rd l0 (ji7)))) (Go.bits .or .i64 (wrap64 ((Go.bits .and .i64 (wrap64 (rd l0 x1_1)) 63) * 256)) (wrap64 (rd l0 (ji7)))) (wrap64 (x6_1 + 1))))) else (none)) else (none)) = some r := by first | (rw [hji7] at H; exact H) | (simp only [hji7] at H ⊢; exact H)
              (try rw [hji7] at c6b0)
              have hji7w : (IntKind.i64.wrap (x1_1 + 1)) = ji7 := (i64_w _).trans hji7
              by_cases c8 : 0 ≤ (ji7)
              · rw [if_pos c8] at H
                have c8b0 : decide (0 ≤ (ji7)) = true := decide_eq_true c8
                clear c8
                by_cases c9 : (ji7) < (l0.length : Int)
                · rw [if_pos c9] at H
                  have c9b0 : decide ((ji7) < (l0.length : Int)) = true := decide_eq_true c9
                  clear c9
                  by_cases c10 : (Go.bits .or .i64 (wrap64 ((Go.bits .and .i64 (wrap64 (rd l0 x1_1)) 63) * 256)) (wrap64 (rd l0 (ji7)))) ≥ x5_1
                  · rw [if_pos c10] at H
                    have c10b0 : decide (x5_1 ≤ (Go.bits .or .i64 (wrap64 ((Go.bits .and .i64 (wrap64 (rd l0 x1_1)) 63) * 256)) (wrap64 (rd l0 (ji7))))) = true := decide_eq_true c10
                    clear c10
                    obtain rfl := Option.some.inj H
                    have p220 : 0 ≤ (x1_1 : Int) := of_decide_eq_true (by first | (with_reducible assumption) | assumption)
                    have q220 : x1_1 < (l0.length : Int) := of_decide_eq_true (by first | (with_reducible assumption) | assumption)
                    obtain ⟨ad220, e220, hx220_0⟩ := Kd.at_int HR0.out x1_1 p220 q220
                    cases e220
                    replace p220 := eq_true p220
                    replace q220 := eq_true q220
                    have p221 : 0 ≤ ((ji7) : Int) := of_decide_eq_true (by first | (with_reducible assumption) | assumption)
                    have q221 : (ji7) < (l0.length : Int) := of_decide_eq_true (by first | (with_reducible assumption) | assumption)
                    obtain ⟨ad221, e221, hx221_0⟩ := Kd.at_int HR0.out (ji7) p221 q221
                    obtain rfl : ad220 = ad221 := (by injection e221)
                    replace p221 := eq_true p221
                    replace q221 := eq_true q221
                    go_wp2
                    go_ret
                    exact ⟨by first | rfl | (simp; done) | (simp only [← hji7] <;> (first | rfl | simp)) | (simp [*]; done), by repeat (first | exact Drawn0.refl _ | apply Drawn0.step)⟩
                  · rw [if_neg c10] at H
                    have c10b0 : decide (x5_1 ≤ (Go.bits .or .i64 (wrap64 ((Go.bits .and .i64 (wrap64 (rd l0 x1_1)) 63) * 256)) (wrap64 (rd l0 (ji7))))) = false := decide_eq_false c10
                    clear c10
                    by_cases c11 : (wrap64 (x6_1 + 1)) > 126
                    · rw [if_pos c11] at H
                      have c11b0 : decide (126 < (wrap64 (x6_1 + 1))) = true := decide_eq_true c11
                      clear c11
                      obtain rfl := Option.some.inj H
                      have p220 : 0 ≤ (x1_1 : Int) := of_decide_eq_true (by first | (with_reducible assumption) | assumption)
                      have q220 : x1_1 < (l0.length : Int) := of_decide_eq_true (by first | (with_reducible assumption) | assumption)
                      obtain ⟨ad220, e220, hx220_0⟩ := Kd.at_int HR0.out x1_1 p220 q220
                      cases e220
                      replace p220 := eq_true p220
                      replace q220 := eq_true q220
                      have p221 : 0 ≤ ((ji7) : Int) := of_decide_eq_true (by first | (with_reducible assumption) | assumption)
                      have q221 : (ji7) < (l0.length : Int) := of_decide_eq_true (by first | (with_reducible assumption) | assumption)
                      obtain ⟨ad221, e221, hx221_0⟩ := Kd.at_int HR0.out (ji7) p221 q221
                      obtain rfl : ad220 = ad221 := (by injection e221)
                      replace p221 := eq_true p221
                      replace q221 := eq_true q221
                      go_wp2
                      go_ret
                      exact ⟨by first | rfl | (simp; done) | (simp only [← hji7] <;> (first | rfl | simp)) | (simp [*]; done), by repeat (first | exact Drawn0.refl _ | apply Drawn0.step)⟩
                    · rw [if_neg c11] at H
                      have c11b0 : decide (126 < (wrap64 (x6_1 + 1))) = false := decide_eq_false c11
                      clear c11
                      have H' := Aside0.mk H
                      clear H
                      have p220 : 0 ≤ (x1_1 : Int) := of_decide_eq_true (by first | (with_reducible assumption) | assumption)
                      have q220 : x1_1 < (l0.length : Int) := of_decide_eq_true (by first | (with_reducible assumption) | assumption)
                      obtain ⟨ad220, e220, hx220_0⟩ := Kd.at_int HR0.out x1_1 p220 q220
                      cases e220
                      replace p220 := eq_true p220
                      replace q220 := eq_true q220
                      have p221 : 0 ≤ ((ji7) : Int) := of_decide_eq_true (by first | (with_reducible assumption) | assumption)
                      have q221 : (ji7) < (l0.length : Int) := of_decide_eq_true (by first | (with_reducible assumption) | assumption)
                      obtain ⟨ad221, e221, hx221_0⟩ := Kd.at_int HR0.out (ji7) p221 q221
                      obtain rfl : ad220 = ad221 := (by injection e221)
                      replace p221 := eq_true p221
                      replace q221 := eq_true q221
                      go_wp2
                      go_roundg k1
                      case measure => have := HK1.out; omega
                      case rel => exact ⟨(Go.bits .or .i64 (wrap64 ((Go.bits .and .i64 (wrap64 (rd l0 x1_1)) 63) * 256)) (wrap64 (rd l0 (ji7)))), (Go.bits .or .i64 (wrap64 ((Go.bits .and .i64 (wrap64 (rd l0 x1_1)) 63) * 256)) (wrap64 (rd l0 (ji7)))), (wrap64 (x6_1 + 1)), (by first | rfl | (simp; done) | (simp only [← hji7] <;> (first | rfl | simp)) | (simp [*]; done)), (by first | rfl | (simp; done) | (simp only [← hji7] <;> (first | rfl | simp)) | (simp [*]; done)), (by first | rfl | (simp; done) | (simp [*]; done) | (simp [wrap64]; done)), H', ⟨by have := HK1.out; omega⟩, by repeat (first | exact Drawn0.refl _ | apply Drawn0.step)⟩
                · rw [if_neg c9] at H
                  exact absurd H (by simp)
              · rw [if_neg c8] at H
                exact absurd H (by simp)
          · rw [if_neg c5] at H
            have c5b0 : ((Go.bits .and .i64 (wrap64 (rd l0 x1_1)) 192) == 192) = false := beq_eq_false_iff_ne.mpr c5
            have c5b1 : ((Go.bits .and .i64 (wrap64 (rd l0 x1_1)) 192) != 192) = true := bne_iff_ne.mpr c5
            by_cases c12 : (wrap64 (rd l0 x1_1)) = 0
            · rw [if_pos c12] at H
              have c12b0 : ((wrap64 (rd l0 x1_1)) == 0) = true := beq_iff_eq.mpr c12
              have c12b1 : ((wrap64 (rd l0 x1_1)) != 0) = false := bne_eq_false_iff_eq.mpr c12
              clear c12
              obtain rfl := Option.some.inj H
              have p220 : 0 ≤ (x1_1 : Int) := of_decide_eq_true (by first | (with_reducible assumption) | assumption)
              have q220 : x1_1 < (l0.length : Int) := of_decide_eq_true (by first | (with_reducible assumption) | assumption)
              obtain ⟨ad220, e220, hx220_0⟩ := Kd.at_int HR0.out x1_1 p220 q220
              cases e220
              replace p220 := eq_true p220
              replace q220 := eq_true q220
              go_wp2
              go_ret
              exact ⟨by first | rfl | (simp; done) | (simp [*]; done) | (simp [wrap64]; done), by repeat (first | exact Drawn0.refl _ | apply Drawn0.step)⟩
            · rw [if_neg c12] at H
              have c12b0 : ((wrap64 (rd l0 x1_1)) == 0) = false := beq_eq_false_iff_ne.mpr c12
              have c12b1 : ((wrap64 (rd l0 x1_1)) != 0) = true := bne_iff_ne.mpr c12
              by_cases c13 : (wrap64 (rd l0 x1_1)) > 63
              · rw [if_pos c13] at H
                have c13b0 : decide (63 < (wrap64 (rd l0 x1_1))) = true := decide_eq_true c13
                clear c13
                obtain rfl := Option.some.inj H
                have p220 : 0 ≤ (x1_1 : Int) := of_decide_eq_true (by first | (with_reducible assumption) | assumption)
                have q220 : x1_1 < (l0.length : Int) := of_decide_eq_true (by first | (with_reducible assumption) | assumption)
                obtain ⟨ad220, e220, hx220_0⟩ := Kd.at_int HR0.out x1_1 p220 q220
                cases e220
                replace p220 := eq_true p220
                replace q220 := eq_true q220
                go_wp2
                go_ret
                exact ⟨by first | rfl | (simp; done) | (simp [*]; done) | (simp [wrap64]; done), by repeat (first | exact Drawn0.refl _ | apply Drawn0.step)⟩
              · rw [if_neg c13] at H
                have c13b0 : decide (63 < (wrap64 (rd l0 x1_1))) = false := decide_eq_false c13
                clear c13
                have H' := Aside0.mk H
                clear H
                have p220 : 0 ≤ (x1_1 : Int) := of_decide_eq_true (by first | (with_reducible assumption) | assumption)
                have q220 : x1_1 < (l0.length : Int) := of_decide_eq_true (by first | (with_reducible assumption) | assumption)
                obtain ⟨ad220, e220, hx220_0⟩ := Kd.at_int HR0.out x1_1 p220 q220
                cases e220
                replace p220 := eq_true p220
                replace q220 := eq_true q220
                go_wp2
                go_roundg k1
                case measure => have := HK1.out; omega
                case rel => exact ⟨(wrap64 (x1_1 + (wrap64 (1 + (wrap64 (rd l0 x1_1)))))), (x5_1), (x6_1), (by first | rfl | (simp; done) | (simp [*]; done) | (simp [wrap64]; done)), (by first | rfl | (simp; done) | (simp [*]; done) | (simp [wrap64]; done)), (by first | rfl | (simp; done) | (simp [*]; done) | (simp [wrap64]; done)), H', ⟨by have := HK1.out; omega⟩, by repeat (first | exact Drawn0.refl _ | apply Drawn0.step)⟩
        · rw [if_neg c4] at H
          exact absurd H (by simp)
      · rw [if_neg c3] at H
        have c3b0 : decide (x1_1 < (l0.length : Int)) = false := decide_eq_false c3
        clear c3
        obtain rfl := Option.some.inj H
        go_wp2
        go_ret
        exact ⟨by first | rfl | (simp; done) | (simp [*]; done) | (simp [wrap64]; done), by repeat (first | exact Drawn0.refl _ | apply Drawn0.step)⟩

end Go.Proofs.YtiilihafcdmccaaDoor.P
