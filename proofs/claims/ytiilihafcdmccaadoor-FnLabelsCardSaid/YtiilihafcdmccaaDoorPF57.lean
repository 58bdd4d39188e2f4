-- Written by a program of this session (wip/tools/pprint.py) out of the translation: it goes by the kit's print and by the contracts of YtiilihafcdmccaaDoorHand. Not trusted: Lean checks it.
import Derived.Test.YtiilihafcdmccaaDoorP0
namespace Go.Proofs.YtiilihafcdmccaaDoor.P
open Go.RowKit Go.Proofs.YtiilihafcdmccaaDoorW.PrintWords Go.Proofs.YtiilihafcdmccaaDoorW.PrintLast Go.Proofs.YtiilihafcdmccaaDoorW.PrintMore
attribute [local go_sem] max2_int min2_int max_two min_two max_three min_three max_four min_four   -- for this text's walks alone
set_option linter.unusedVariables false
set_option linter.unusedSimpArgs false

/-! ### dns_NextLabel: function 57 -/
mutual
def dns_NextLabel.l0 : Nat → ByteArray → Int → Option (Int × Bool)
  | 0, _, _ => none
  | k + 1, x0, x4 => if x4 < (wrap64 ((x0.size : Int) - 1)) then (if 0 ≤ x4 then (if x4 < (x0.size : Int) then (if (bt x0 x4) = 46 then (dns_NextLabel.l1 k x0 x4 (wrap64 (x4 - 1))) else (dns_NextLabel.l0 k x0 (wrap64 (x4 + 1)))) else (none)) else (none)) else (some (wrap64 (x4 + 1), true))
def dns_NextLabel.l1 : Nat → ByteArray → Int → Int → Option (Int × Bool)
  | 0, _, _, _ => none
  | k + 1, x0, x4, x6 => if x6 ≥ 0 then (if 0 ≤ x6 then (if x6 < (x0.size : Int) then (if (bt x0 x6) = 92 then (dns_NextLabel.l1 k x0 x4 (wrap64 (x6 - 1))) else (if (Int.tmod (wrap64 (x6 - x4)) 2) = 0 then (dns_NextLabel.l0 k x0 (wrap64 (x4 + 1))) else (some (wrap64 (x4 + 1), false)))) else (none)) else (none)) else (if (Int.tmod (wrap64 (x6 - x4)) 2) = 0 then (dns_NextLabel.l0 k x0 (wrap64 (x4 + 1))) else (some (wrap64 (x4 + 1), false)))
end
def dns_NextLabel.f (k : Nat) (a0 : ByteArray) (a1 : Int) : Option (Int × Bool) := if a0.toList = ([] : List UInt8) then (some (0, true)) else (dns_NextLabel.l0 k a0 a1)
theorem dns_NextLabel.mono_l : ∀ k, (∀ y0 y1, LeO (dns_NextLabel.l0 k y0 y1) (dns_NextLabel.l0 (k + 1) y0 y1)) ∧ (∀ y0 y1 y2, LeO (dns_NextLabel.l1 k y0 y1 y2) (dns_NextLabel.l1 (k + 1) y0 y1 y2))
  | 0 => ⟨fun _ _ r h => by simp [dns_NextLabel.l0] at h, fun _ _ _ r h => by simp [dns_NextLabel.l1] at h⟩
  | k + 1 => by
    obtain ⟨ih0, ih1⟩ := dns_NextLabel.mono_l k
    refine ⟨?_, ?_⟩
    · intro y0 y1
      unfold dns_NextLabel.l0
      repeat' first
      | (with_reducible exact ih0 _ _)
      | (with_reducible exact ih1 _ _ _)
      | (with_reducible exact LeO.refl _)
      | (with_reducible exact LeO.none _)
      | (with_reducible refine LeO.ite ?_ ?_)
      | (with_reducible refine LeO.bind ?_ (fun _ => ?_))
      | exact ih0 _ _
      | exact ih1 _ _ _
      | exact LeO.none _
      | refine LeO.ite ?_ ?_
      | refine LeO.bind ?_ (fun _ => ?_)
    · intro y0 y1 y2
      unfold dns_NextLabel.l1
      repeat' first
      | (with_reducible exact ih0 _ _)
      | (with_reducible exact ih1 _ _ _)
      | (with_reducible exact LeO.refl _)
      | (with_reducible exact LeO.none _)
      | (with_reducible refine LeO.ite ?_ ?_)
      | (with_reducible refine LeO.bind ?_ (fun _ => ?_))
      | exact ih0 _ _
      | exact ih1 _ _ _
      | exact LeO.none _
      | refine LeO.ite ?_ ?_
      | refine LeO.bind ?_ (fun _ => ?_)
theorem dns_NextLabel.mono : ∀ a0 a1 k, LeO (dns_NextLabel.f k a0 a1) (dns_NextLabel.f (k + 1) a0 a1) := by
  intro a0 a1 k
  obtain ⟨ih0, ih1⟩ := dns_NextLabel.mono_l k
  unfold dns_NextLabel.f
  repeat' first
      | (with_reducible exact ih0 _ _)
      | (with_reducible exact ih1 _ _ _)
      | (with_reducible exact LeO.refl _)
      | (with_reducible exact LeO.none _)
      | (with_reducible refine LeO.ite ?_ ?_)
      | (with_reducible refine LeO.bind ?_ (fun _ => ?_))
      | exact ih0 _ _
      | exact ih1 _ _ _
      | exact LeO.none _
      | refine LeO.ite ?_ ?_
      | refine LeO.bind ?_ (fun _ => ?_)
set_option maxHeartbeats 8000000 in
set_option maxRecDepth 100000 in
theorem dns_NextLabel.calls (k : Nat) (a0 : ByteArray) (a1 : Int) (r1 : Int) (r2 : Bool) (w : World) (h : dns_NextLabel.f k a0 a1 = some (r1, r2)) :
    Calls Tryd.prog 57 #[.string a0, .int .i64 a1] w fun e w' => e = .returned (.tuple #[.int .i64 r1, .bool r2]) ∧ Drawn0 w w' := by
  have H : (if a0.toList = ([] : List UInt8) then (some (0, true)) else (dns_NextLabel.l0 k a0 a1)) = some (r1, r2) := h
  clear h
  by_cases c3 : a0.toList = ([] : List UInt8)
  · rw [if_pos c3] at H
    have c3b0 : (a0.toList == ([] : List UInt8)) = true := beq_iff_eq.mpr c3
    have c3b1 : (a0.toList != ([] : List UInt8)) = false := bne_eq_false_iff_eq.mpr c3
    clear c3
    simp only [Option.some.injEq, Prod.mk.injEq] at H
    obtain ⟨rfl, rfl⟩ := H
    go_enter Tryd.func57, Tryd.ntmps57
    go_wp2
    go_ret2
    exact ⟨by first | rfl | (simp; done) | (simp [*]; done) | (simp [wrap64]; done), by repeat (first | exact Drawn0.refl _ | apply Drawn0.step)⟩
  · rw [if_neg c3] at H
    have c3b0 : (a0.toList == ([] : List UInt8)) = false := beq_eq_false_iff_ne.mpr c3
    have c3b1 : (a0.toList != ([] : List UInt8)) = true := bne_iff_ne.mpr c3
    have H' := Aside0.mk H
    clear H
    go_enter Tryd.func57, Tryd.ntmps57
    go_wp2
    go_loopg [4] k (fun kq v4 w' => ∃ (x4_1 : Int), v4 = .int .i64 x4_1 ∧ Aside0 (dns_NextLabel.l0 kq a0 x4_1 = some (r1, r2)) ∧ Aside0 (kq ≤ k) ∧ Drawn0 w w')
    case atStart => exact ⟨(a1), (by first | rfl | (simp; done) | (simp [*]; done) | (simp [wrap64]; done)), H', ⟨Nat.le_refl _⟩, by repeat (first | exact Drawn0.refl _ | apply Drawn0.step)⟩
    case round =>
      clear H'
      try clear p2
      try clear c3
      try clear c3b0
      try clear c3b1
      obtain ⟨x4_1, rfl, HA, HK1, ⟨m1, rfl⟩⟩ := hrel
      cases gk with
      | zero => exact absurd HA.out (by simp [dns_NextLabel.l0])
      | succ k1 =>
        have H := HA.out
        clear HA
        simp only [dns_NextLabel.l0] at H
        by_cases c4 : x4_1 < (wrap64 ((a0.size : Int) - 1))
        · rw [if_pos c4] at H
          have c4b0 : decide (x4_1 < (wrap64 ((a0.size : Int) - 1))) = true := decide_eq_true c4
          clear c4
          by_cases c5 : 0 ≤ x4_1
          · rw [if_pos c5] at H
            have c5b0 : decide (0 ≤ x4_1) = true := decide_eq_true c5
            clear c5
            by_cases c6 : x4_1 < (a0.size : Int)
            · rw [if_pos c6] at H
              have c6b0 : decide (x4_1 < (a0.size : Int)) = true := decide_eq_true c6
              clear c6
              by_cases c8 : (bt a0 x4_1) = 46
              · rw [if_pos c8] at H
                have c8b0 : ((bt a0 x4_1) == 46) = true := beq_iff_eq.mpr c8
                have c8b1 : ((bt a0 x4_1) != 46) = false := bne_eq_false_iff_eq.mpr c8
                clear c8
                have H' := Aside0.mk H
                clear H
                have p7 : 0 ≤ (x4_1 : Int) := of_decide_eq_true (by first | (with_reducible assumption) | assumption)
                have q7 : x4_1 < (a0.size : Int) := of_decide_eq_true (by first | (with_reducible assumption) | assumption)
                have hx7 := bt_at a0 x4_1
                replace p7 := eq_true p7
                replace q7 := eq_true q7
                go_wp2
                go_loopg [6] k1 (fun kq v6 w' => ∃ (x6_2 : Int), v6 = .int .i64 x6_2 ∧ Aside0 (dns_NextLabel.l1 kq a0 x4_1 x6_2 = some (r1, r2)) ∧ Aside0 (kq ≤ k1) ∧ Drawn0 w w')
                case atStart => exact ⟨(wrap64 (x4_1 - 1)), (by first | rfl | (simp; done) | (simp [*]; done) | (simp [wrap64]; done)), H', ⟨Nat.le_refl _⟩, by repeat (first | exact Drawn0.refl _ | apply Drawn0.step)⟩
                case round =>
                  clear H'
                  try clear p2
                  try clear c3
                  try clear c3b0
                  try clear c3b1
                  try clear c4
                  try clear c4b0
                  try clear c5
                  try clear c5b0
                  try clear c6
                  try clear c6b0
                  try clear p6
                  try clear p7
                  try clear q7
                  try clear hx7
                  try clear c8
                  try clear c8b0
                  try clear c8b1
                  try clear p2
                  try clear p7
                  try clear q7
                  obtain ⟨x6_2, rfl, HA, HK2, ⟨m2, rfl⟩⟩ := hrel
                  cases gk with
                  | zero => exact absurd HA.out (by simp [dns_NextLabel.l1])
                  | succ k2 =>
                    have H := HA.out
                    clear HA
                    simp only [dns_NextLabel.l1] at H
                    by_cases c9 : x6_2 ≥ 0
                    · rw [if_pos c9] at H
                      have c9b0 : decide (0 ≤ x6_2) = true := decide_eq_true c9
                      clear c9
                      by_cases c10 : 0 ≤ x6_2
                      · rw [if_pos c10] at H
                        have c10b0 : decide (0 ≤ x6_2) = true := decide_eq_true c10
                        clear c10
                        by_cases c11 : x6_2 < (a0.size : Int)
                        · rw [if_pos c11] at H
                          have c11b0 : decide (x6_2 < (a0.size : Int)) = true := decide_eq_true c11
                          clear c11
                          by_cases c13 : (bt a0 x6_2) = 92
                          · rw [if_pos c13] at H
                            have c13b0 : ((bt a0 x6_2) == 92) = true := beq_iff_eq.mpr c13
                            have c13b1 : ((bt a0 x6_2) != 92) = false := bne_eq_false_iff_eq.mpr c13
                            clear c13
                            have H' := Aside0.mk H
                            clear H
                            have p12 : 0 ≤ (x6_2 : Int) := of_decide_eq_true (by first | (with_reducible assumption) | assumption)
                            have q12 : x6_2 < (a0.size : Int) := of_decide_eq_true (by first | (with_reducible assumption) | assumption)
                            have hx12 := bt_at a0 x6_2
                            replace p12 := eq_true p12
                            replace q12 := eq_true q12
                            go_wp2
                            go_roundg k2
                            case measure => have := HK1.out; have := HK2.out; omega
                            case rel => exact ⟨(wrap64 (x6_2 - 1)), (by first | rfl | (simp; done) | (simp [*]; done) | (simp [wrap64]; done)), H', ⟨by have := HK1.out; have := HK2.out; omega⟩, by repeat (first | exact Drawn0.refl _ | apply Drawn0.step)⟩
                          · rw [if_neg c13] at H
                            have c13b0 : ((bt a0 x6_2) == 92) = false := beq_eq_false_iff_ne.mpr c13
                            have c13b1 : ((bt a0 x6_2) != 92) = true := bne_iff_ne.mpr c13
                            by_cases c14 : (Int.tmod (wrap64 (x6_2 - x4_1)) 2) = 0
                            · rw [if_pos c14] at H
                              have c14b0 : ((Int.tmod (wrap64 (x6_2 - x4_1)) 2) == 0) = true := beq_iff_eq.mpr c14
                              have c14b1 : ((Int.tmod (wrap64 (x6_2 - x4_1)) 2) != 0) = false := bne_eq_false_iff_eq.mpr c14
                              clear c14
                              have H' := Aside0.mk H
                              clear H
                              have p12 : 0 ≤ (x6_2 : Int) := of_decide_eq_true (by first | (with_reducible assumption) | assumption)
                              have q12 : x6_2 < (a0.size : Int) := of_decide_eq_true (by first | (with_reducible assumption) | assumption)
                              have hx12 := bt_at a0 x6_2
                              replace p12 := eq_true p12
                              replace q12 := eq_true q12
                              go_wp2
                              go_roundg k2
                              case measure => have := HK1.out; have := HK2.out; omega
                              case rel => exact ⟨(wrap64 (x4_1 + 1)), (by first | rfl | (simp; done) | (simp [*]; done) | (simp [wrap64]; done)), H', ⟨by have := HK1.out; have := HK2.out; omega⟩, by repeat (first | exact Drawn0.refl _ | apply Drawn0.step)⟩
                            · rw [if_neg c14] at H
                              have c14b0 : ((Int.tmod (wrap64 (x6_2 - x4_1)) 2) == 0) = false := beq_eq_false_iff_ne.mpr c14
                              have c14b1 : ((Int.tmod (wrap64 (x6_2 - x4_1)) 2) != 0) = true := bne_iff_ne.mpr c14
                              simp only [Option.some.injEq, Prod.mk.injEq] at H
                              obtain ⟨rfl, rfl⟩ := H
                              have p12 : 0 ≤ (x6_2 : Int) := of_decide_eq_true (by first | (with_reducible assumption) | assumption)
                              have q12 : x6_2 < (a0.size : Int) := of_decide_eq_true (by first | (with_reducible assumption) | assumption)
                              have hx12 := bt_at a0 x6_2
                              replace p12 := eq_true p12
                              replace q12 := eq_true q12
                              go_wp2
                              go_ret2
                              exact ⟨by first | rfl | (simp; done) | (simp [*]; done) | (simp [wrap64]; done), by repeat (first | exact Drawn0.refl _ | apply Drawn0.step)⟩
                        · rw [if_neg c11] at H
                          exact absurd H (by simp)
                      · rw [if_neg c10] at H
                        exact absurd H (by simp)
                    · rw [if_neg c9] at H
                      have c9b0 : decide (0 ≤ x6_2) = false := decide_eq_false c9
                      clear c9
                      by_cases c15 : (Int.tmod (wrap64 (x6_2 - x4_1)) 2) = 0
                      · rw [if_pos c15] at H
                        have c15b0 : ((Int.tmod (wrap64 (x6_2 - x4_1)) 2) == 0) = true := beq_iff_eq.mpr c15
                        have c15b1 : ((Int.tmod (wrap64 (x6_2 - x4_1)) 2) != 0) = false := bne_eq_false_iff_eq.mpr c15
                        clear c15
                        have H' := Aside0.mk H
                        clear H
                        go_wp2
                        go_roundg k2
                        case measure => have := HK1.out; have := HK2.out; omega
                        case rel => exact ⟨(wrap64 (x4_1 + 1)), (by first | rfl | (simp; done) | (simp [*]; done) | (simp [wrap64]; done)), H', ⟨by have := HK1.out; have := HK2.out; omega⟩, by repeat (first | exact Drawn0.refl _ | apply Drawn0.step)⟩
                      · rw [if_neg c15] at H
                        have c15b0 : ((Int.tmod (wrap64 (x6_2 - x4_1)) 2) == 0) = false := beq_eq_false_iff_ne.mpr c15
                        have c15b1 : ((Int.tmod (wrap64 (x6_2 - x4_1)) 2) != 0) = true := bne_iff_ne.mpr c15
                        simp only [Option.some.injEq, Prod.mk.injEq] at H
                        obtain ⟨rfl, rfl⟩ := H
                        go_wp2
                        go_ret2
                        exact ⟨by first | rfl | (simp; done) | (simp [*]; done) | (simp [wrap64]; done), by repeat (first | exact Drawn0.refl _ | apply Drawn0.step)⟩
              · rw [if_neg c8] at H
                have c8b0 : ((bt a0 x4_1) == 46) = false := beq_eq_false_iff_ne.mpr c8
                have c8b1 : ((bt a0 x4_1) != 46) = true := bne_iff_ne.mpr c8
                have H' := Aside0.mk H
                clear H
                have p7 : 0 ≤ (x4_1 : Int) := of_decide_eq_true (by first | (with_reducible assumption) | assumption)
                have q7 : x4_1 < (a0.size : Int) := of_decide_eq_true (by first | (with_reducible assumption) | assumption)
                have hx7 := bt_at a0 x4_1
                replace p7 := eq_true p7
                replace q7 := eq_true q7
                go_wp2
                go_roundg k1
                case measure => have := HK1.out; omega
                case rel => exact ⟨(wrap64 (x4_1 + 1)), (by first | rfl | (simp; done) | (simp [*]; done) | (simp [wrap64]; done)), H', ⟨by have := HK1.out; omega⟩, by repeat (first | exact Drawn0.refl _ | apply Drawn0.step)⟩
            · rw [if_neg c6] at H
              exact absurd H (by simp)
          · rw [if_neg c5] at H
            exact absurd H (by simp)
        · rw [if_neg c4] at H
          have c4b0 : decide (x4_1 < (wrap64 ((a0.size : Int) - 1))) = false := decide_eq_false c4
          clear c4
          simp only [Option.some.injEq, Prod.mk.injEq] at H
          obtain ⟨rfl, rfl⟩ := H
          go_wp2
          go_ret2
          exact ⟨by first | rfl | (simp; done) | (simp [*]; done) | (simp [wrap64]; done), by repeat (first | exact Drawn0.refl _ | apply Drawn0.step)⟩

end Go.Proofs.YtiilihafcdmccaaDoor.P
