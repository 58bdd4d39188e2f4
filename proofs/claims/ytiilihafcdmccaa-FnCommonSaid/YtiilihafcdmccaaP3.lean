-- Written by a program of this session (wip/tools/pprint.py) out of the translation: it goes by the kit's print and by the contracts of YtiilihafcdmccaaHand. Not trusted: Lean checks it.
import Derived.Test.YtiilihafcdmccaaP0
namespace Go.Proofs.Ytiilihafcdmccaa.P
open Go.RowKit Go.Proofs.YtiilihafcdmccaaW.PrintWords Go.Proofs.YtiilihafcdmccaaW.PrintLast Go.Proofs.YtiilihafcdmccaaW.PrintMore
attribute [local go_sem] max2_int min2_int max_two min_two max_three min_three max_four min_four   -- for this text's walks alone
set_option linter.unusedVariables false
set_option linter.unusedSimpArgs false

/-! ### dns_NextLabel: function 23 -/
mutual
def dns_NextLabel.l0 : Nat → ByteArray → Int → Option (Int × Bool)
  | 0, _, _ => none
  | k + 1, x0, x4 => if x4 < (wrap64 ((x0.size : Int) - 1)) then (if 0 ≤ x4 then (if x4 < (x0.size : Int) then (if (bt x0 x4) = 46 then (dns_NextLabel.l1 k x0 x4 (wrap64 (x4 - 1))) else (dns_NextLabel.l0 k x0 (wrap64 (x4 + 1)))) else (none)) else (none)) else (some (wrap64 (x4 + 1), true))
def dns_NextLabel.l1 : Nat → ByteArray → Int → Int → Option (Int × Bool)
  | 0, _, _, _ => none
  | k + 1, x0, x4, x6 => if x6 ≥ 0 then (if 0 ≤ x6 then (if x6 < (x0.size : Int) then (if (bt x0 x6) = 92 then (dns_NextLabel.l1 k x0 x4 (wrap64 (x6 - 1))) else (if (Int.tmod (wrap64 (x6 - x4)) 2) = 0 then (dns_NextLabel.l0 k x0 (wrap64 (x4 + 1))) else (some (wrap64 (x4 + 1), false)))) else (none)) else (none)) else (if (Int.tmod (wrap64 (x6 - x4)) 2) = 0 then (dns_NextLabel.l0 k x0 (wrap64 (x4 + 1))) else (some (wrap64 (x4 + 1), false)))
end
def dns_NextLabel.f (k : Nat) (a0 : ByteArray) (a1 : Int) : Option (Int × Bool) := if a0.toList = ([] : List UInt8) then (some (0, true)) else (dns_NextLabel.l0 k a0 a1)
theorem dns_NextLabel.mono_l : ∀ k, (∀ y0 y1, LeO (dns_NextLabel.l0 k y0 y1) (dns_NextLabel.l0 (k + 1) y0 y1)) ∧ (∀ y0 y1 y2, LeO (dns_NextLabel.l1 k y0 y1 y2) (dns_NextLabel.l1 (k + 1) y0 y1 y2))
  | 0 => ⟨fun _ _ r h => by simp [dns_NextLabel.l0] at h, fun _ _ _ r h => by simp [dns_NextLabel.l1] at h⟩
  | k + 1 => by
    obtain ⟨ih0, ih1⟩ := dns_NextLabel.mono_l k
    refine ⟨?_, ?_⟩
    · intro y0 y1
      unfold dns_NextLabel.l0
      repeat' first
      | (with_reducible exact ih0 _ _)
      | (with_reducible exact ih1 _ _ _)
      | (with_reducible exact LeO.refl _)
      | (with_reducible exact LeO.none _)
      | (with_reducible refine LeO.ite ?_ ?_)
      | (with_reducible refine LeO.bind ?_ (fun _ => ?_))
      | exact ih0 _ _
      | exact ih1 _ _ _
      | exact LeO.none _
      | refine LeO.ite ?_ ?_
      | refine LeO.bind ?_ (fun _ => ?_)
    · intro y0 y1 y2
      unfold dns_NextLabel.l1
      repeat' first
      | (with_reducible exact ih0 _ _)
      | (with_reducible exact ih1 _ _ _)
      | (with_reducible exact LeO.refl _)
      | (with_reducible exact LeO.none _)
      | (with_reducible refine LeO.ite ?_ ?_)
      | (with_reducible refine LeO.bind ?_ (fun _ => ?_))
      | exact ih0 _ _
      | exact ih1 _ _ _
      | exact LeO.none _
      | refine LeO.ite ?_ ?_
      | refine LeO.bind ?_ (fun _ => ?_)
theorem dns_NextLabel.mono : ∀ a0 a1 k, LeO (dns_NextLabel.f k a0 a1) (dns_NextLabel.f (k + 1) a0 a1) := by
  intro a0 a1 k
  obtain ⟨ih0, ih1⟩ := dns_NextLabel.mono_l k
  unfold dns_NextLabel.f
  repeat' first
      | (with_reducible exact ih0 _ _)
      | (with_reducible exact ih1 _ _ _)
      | (with_reducible exact LeO.refl _)
      | (with_reducible exact LeO.none _)
      | (with_reducible refine LeO.ite ?_ ?_)
      | (with_reducible refine LeO.bind ?_ (fun _ => ?_))
      | exact ih0 _ _
      | exact ih1 _ _ _
      | exact LeO.none _
      | refine LeO.ite ?_ ?_
      | refine LeO.bind ?_ (fun _ => ?_)
set_option maxHeartbeats 8000000 in
set_option maxRecDepth 100000 in
theorem dns_NextLabel.calls (k : Nat) (a0 : ByteArray) (a1 : Int) (r1 : Int) (r2 : Bool) (w : World) (h : dns_NextLabel.f k a0 a1 = some (r1, r2)) :
    Calls Try.prog 23 #[.string a0, .int .i64 a1] w fun e w' => e = .returned (.tuple #[.int .i64 r1, .bool r2]) ∧ Drawn0 w w' := by
  have H : (if a0.toList = ([] : List UInt8) then (some (0, true)) else (dns_NextLabel.l0 k a0 a1)) = some (r1, r2) := h
  clear h
  by_cases c3 : a0.toList = ([] : List UInt8)
  · rw [if_pos c3] at H
    have c3b0 : (a0.toList == ([] : List UInt8)) = true := beq_iff_eq.mpr c3
    have c3b1 : (a0.toList != ([] : List UInt8)) = false := bne_eq_false_iff_eq.mpr c3
    clear c3
    simp only [Option.some.injEq, Prod.mk.injEq] at H
    obtain ⟨rfl, rfl⟩ := H
    go_enter Try.func23, Try.ntmps23
    go_wp2
    go_ret2
    exact ⟨by first | rfl | (simp; done) | (simp [*]; done) | (simp [wrap64]; done), by repeat (first | exact Drawn0.refl _ | apply Drawn0.step)⟩
  · rw [if_neg c3] at H
    have c3b0 : (a0.toList == ([] : List UInt8)) = false := beq_eq_false_iff_ne.mpr c3
    have c3b1 : (a0.toList != ([] : List UInt8)) = true := bne_iff_ne.mpr c3
    have H' := Aside0.mk H
    clear H
    go_enter Try.func23, Try.ntmps23
    go_wp2
    go_loopg [4] k (fun kq v4 w' => ∃ (x4_1 : Int), v4 = .int .i64 x4_1 ∧ Aside0 (dns_NextLabel.l0 kq a0 x4_1 = some (r1, r2)) ∧ Aside0 (kq ≤ k) ∧ Drawn0 w w')
    case atStart => exact ⟨(a1), (by first | rfl | (simp; done) | (simp [*]; done) | (simp [wrap64]; done)), H', ⟨Nat.le_refl _⟩, by repeat (first | exact Drawn0.refl _ | apply Drawn0.step)⟩
    case round =>
      clear H'
      try clear c2
      try clear p2
      try clear c3
      try clear c3b0
      try clear c3b1
      obtain ⟨x4_1, rfl, HA, HK1, ⟨m1, rfl⟩⟩ := hrel
      cases gk with
      | zero => exact absurd HA.out (by simp [dns_NextLabel.l0])
      | succ k1 =>
        have H := HA.out
        clear HA
        simp only [dns_NextLabel.l0] at H
        by_cases c4 : x4_1 < (wrap64 ((a0.size : Int) - 1))
        · rw [if_pos c4] at H
          have c4b0 : decide (x4_1 < (wrap64 ((a0.size : Int) - 1))) = true := decide_eq_true c4
          clear c4
          by_cases c5 : 0 ≤ x4_1
          · rw [if_pos c5] at H
            have c5b0 : decide (0 ≤ x4_1) = true := decide_eq_true c5
            clear c5
            by_cases c6 : x4_1 < (a0.size : Int)
            · rw [if_pos c6] at H
              have c6b0 : decide (x4_1 < (a0.size : Int)) = true := decide_eq_true c6
              clear c6
              by_cases c8 : (bt a0 x4_1) = 46
              · rw [if_pos c8] at H
                have c8b0 : ((bt a0 x4_1) == 46) = true := beq_iff_eq.mpr c8
                have c8b1 : ((bt a0 x4_1) != 46) = false := bne_eq_false_iff_eq.mpr c8
                clear c8
                have H' := Aside0.mk H
                clear H
                have p7 : 0 ≤ (x4_1 : Int) := of_decide_eq_true (by first | (with_reducible assumption) | assumption)
                have q7 : x4_1 < (a0.size : Int) := of_decide_eq_true (by first | (with_reducible assumption) | assumption)
                have hx7 := bt_at a0 x4_1
                replace p7 := eq_true p7
                replace q7 := eq_true q7
                go_wp2
                go_loopg [6] k1 (fun kq v6 w' => ∃ (x6_2 : Int), v6 = .int .i64 x6_2 ∧ Aside0 (dns_NextLabel.l1 kq a0 x4_1 x6_2 = some (r1, r2)) ∧ Aside0 (kq ≤ k1) ∧ Drawn0 w w')
                case atStart => exact ⟨(wrap64 (x4_1 - 1)), (by first | rfl | (simp; done) | (simp [*]; done) | (simp [wrap64]; done)), H', ⟨Nat.le_refl _⟩, by repeat (first | exact Drawn0.refl _ | apply Drawn0.step)⟩
                case round =>
                  clear H'
                  try clear c2
                  try clear p2
                  try clear c3
                  try clear c3b0
                  try clear c3b1
                  try clear c4
                  try clear c4b0
                  try clear c5
                  try clear c5b0
                  try clear c6
                  try clear c6b0
                  try clear p6
                  try clear p7
                  try clear q7
                  try clear hx7
                  try clear c8
                  try clear c8b0
                  try clear c8b1
                  try clear p2
                  try clear p7
                  try clear q7
                  obtain ⟨x6_2, rfl, HA, HK2, ⟨m2, rfl⟩⟩ := hrel
                  cases gk with
                  | zero => exact absurd HA.out (by simp [dns_NextLabel.l1])
                  | succ k2 =>
                    have H := HA.out
                    clear HA
                    simp only [dns_NextLabel.l1] at H
                    by_cases c9 : x6_2 ≥ 0
                    · rw [if_pos c9] at H
                      have c9b0 : decide (0 ≤ x6_2) = true := decide_eq_true c9
                      clear c9
                      by_cases c10 : 0 ≤ x6_2
                      · rw [if_pos c10] at H
                        have c10b0 : decide (0 ≤ x6_2) = true := decide_eq_true c10
                        clear c10
                        by_cases c11 : x6_2 < (a0.size : Int)
                        · rw [if_pos c11] at H
                          have c11b0 : decide (x6_2 < (a0.size : Int)) = true := decide_eq_true c11
                          clear c11
                          by_cases c13 : (bt a0 x6_2) = 92
                          · rw [if_pos c13] at H
                            have c13b0 : ((bt a0 x6_2) == 92) = true := beq_iff_eq.mpr c13
                            have c13b1 : ((bt a0 x6_2) != 92) = false := bne_eq_false_iff_eq.mpr c13
                            clear c13
                            have H' := Aside0.mk H
                            clear H
                            have p12 : 0 ≤ (x6_2 : Int) := of_decide_eq_true (by first | (with_reducible assumption) | assumption)
                            have q12 : x6_2 < (a0.size : Int) := of_decide_eq_true (by first | (with_reducible assumption) | assumption)
                            have hx12 := bt_at a0 x6_2
                            replace p12 := eq_true p12
                            replace q12 := eq_true q12
                            go_wp2
                            go_roundg k2
                            case measure => have := HK1.out; have := HK2.out; omega
                            case rel => exact ⟨(wrap64 (x6_2 - 1)), (by first | rfl | (simp; done) | (simp [*]; done) | (simp [wrap64]; done)), H', ⟨by have := HK1.out; have := HK2.out; omega⟩, by repeat (first | exact Drawn0.refl _ | apply Drawn0.step)⟩
                          · rw [if_neg c13] at H
                            have c13b0 : ((bt a0 x6_2) == 92) = false := beq_eq_false_iff_ne.mpr c13
                            have c13b1 : ((bt a0 x6_2) != 92) = true := bne_iff_ne.mpr c13
                            by_cases c14 : (Int.tmod (wrap64 (x6_2 - x4_1)) 2) = 0
                            · rw [if_pos c14] at H
                              have c14b0 : ((Int.tmod (wrap64 (x6_2 - x4_1)) 2) == 0) = true := beq_iff_eq.mpr c14
                              have c14b1 : ((Int.tmod (wrap64 (x6_2 - x4_1)) 2) != 0) = false := bne_eq_false_iff_eq.mpr c14
                              clear c14
                              have H' := Aside0.mk H
                              clear H
                              have p12 : 0 ≤ (x6_2 : Int) := of_decide_eq_true (by first | (with_reducible assumption) | assumption)
                              have q12 : x6_2 < (a0.size : Int) := of_decide_eq_true (by first | (with_reducible assumption) | assumption)
                              have hx12 := bt_at a0 x6_2
                              replace p12 := eq_true p12
                              replace q12 := eq_true q12
                              go_wp2
                              go_roundg k2
                              case measure => have := HK1.out; have := HK2.out; omega
                              case rel => exact ⟨(wrap64 (x4_1 + 1)), (by first | rfl | (simp; done) | (simp [*]; done) | (simp [wrap64]; done)), H', ⟨by have := HK1.out; have := HK2.out; omega⟩, by repeat (first | exact Drawn0.refl _ | apply Drawn0.step)⟩
                            · rw [if_neg c14] at H
                              have c14b0 : ((Int.tmod (wrap64 (x6_2 - x4_1)) 2) == 0) = false := beq_eq_false_iff_ne.mpr c14
                              have c14b1 : ((Int.tmod (wrap64 (x6_2 - x4_1)) 2) != 0) = true := bne_iff_ne.mpr c14
                              simp only [Option.some.injEq, Prod.mk.injEq] at H
                              obtain ⟨rfl, rfl⟩ := H
                              have p12 : 0 ≤ (x6_2 : Int) := of_decide_eq_true (by first | (with_reducible assumption) | assumption)
                              have q12 : x6_2 < (a0.size : Int) := of_decide_eq_true (by first | (with_reducible assumption) | assumption)
                              have hx12 := bt_at a0 x6_2
                              replace p12 := eq_true p12
                              replace q12 := eq_true q12
                              go_wp2
                              go_ret2
                              exact ⟨by first | rfl | (simp; done) | (simp [*]; done) | (simp [wrap64]; done), by repeat (first | exact Drawn0.refl _ | apply Drawn0.step)⟩
                        · rw [if_neg c11] at H
                          exact absurd H (by simp)
                      · rw [if_neg c10] at H
                        exact absurd H (by simp)
                    · rw [if_neg c9] at H
                      have c9b0 : decide (0 ≤ x6_2) = false := decide_eq_false c9
                      clear c9
                      by_cases c15 : (Int.tmod (wrap64 (x6_2 - x4_1)) 2) = 0
                      · rw [if_pos c15] at H
                        have c15b0 : ((Int.tmod (wrap64 (x6_2 - x4_1)) 2) == 0) = true := beq_iff_eq.mpr c15
                        have c15b1 : ((Int.tmod (wrap64 (x6_2 - x4_1)) 2) != 0) = false := bne_eq_false_iff_eq.mpr c15
                        clear c15
                        have H' := Aside0.mk H
                        clear H
                        go_wp2
                        go_roundg k2
                        case measure => have := HK1.out; have := HK2.out; omega
                        case rel => exact ⟨(wrap64 (x4_1 + 1)), (by first | rfl | (simp; done) | (simp [*]; done) | (simp [wrap64]; done)), H', ⟨by have := HK1.out; have := HK2.out; omega⟩, by repeat (first | exact Drawn0.refl _ | apply Drawn0.step)⟩
                      · rw [if_neg c15] at H
                        have c15b0 : ((Int.tmod (wrap64 (x6_2 - x4_1)) 2) == 0) = false := beq_eq_false_iff_ne.mpr c15
                        have c15b1 : ((Int.tmod (wrap64 (x6_2 - x4_1)) 2) != 0) = true := bne_iff_ne.mpr c15
                        simp only [Option.some.injEq, Prod.mk.injEq] at H
                        obtain ⟨rfl, rfl⟩ := H
                        go_wp2
                        go_ret2
                        exact ⟨by first | rfl | (simp; done) | (simp [*]; done) | (simp [wrap64]; done), by repeat (first | exact Drawn0.refl _ | apply Drawn0.step)⟩
              · rw [if_neg c8] at H
                have c8b0 : ((bt a0 x4_1) == 46) = false := beq_eq_false_iff_ne.mpr c8
                have c8b1 : ((bt a0 x4_1) != 46) = true := bne_iff_ne.mpr c8
                have H' := Aside0.mk H
                clear H
                have p7 : 0 ≤ (x4_1 : Int) := of_decide_eq_true (by first | (with_reducible assumption) | assumption)
                have q7 : x4_1 < (a0.size : Int) := of_decide_eq_true (by first | (with_reducible assumption) | assumption)
                have hx7 := bt_at a0 x4_1
                replace p7 := eq_true p7
                replace q7 := eq_true q7
                go_wp2
                go_roundg k1
                case measure => have := HK1.out; omega
                case rel => exact ⟨(wrap64 (x4_1 + 1)), (by first | rfl | (simp; done) | (simp [*]; done) | (simp [wrap64]; done)), H', ⟨by have := HK1.out; omega⟩, by repeat (first | exact Drawn0.refl _ | apply Drawn0.step)⟩
            · rw [if_neg c6] at H
              exact absurd H (by simp)
          · rw [if_neg c5] at H
            exact absurd H (by simp)
        · rw [if_neg c4] at H
          have c4b0 : decide (x4_1 < (wrap64 ((a0.size : Int) - 1))) = false := decide_eq_false c4
          clear c4
          simp only [Option.some.injEq, Prod.mk.injEq] at H
          obtain ⟨rfl, rfl⟩ := H
          go_wp2
          go_ret2
          exact ⟨by first | rfl | (simp; done) | (simp [*]; done) | (simp [wrap64]; done), by repeat (first | exact Drawn0.refl _ | apply Drawn0.step)⟩

/-! ### dns_Split: function 18 -/
def dns_Split.l0 : Nat → ByteArray → List Int → Int → Option (List Int)
  | 0, _, _, _ => none
  | k + 1, x0, x3, x4 => (dns_NextLabel.f k x0 x4).bind fun bt144 => (if bt144.2 = true then (some x3) else (if x3.length < 17592186044416 then (dns_Split.l0 k x0 (x3 ++ [bt144.1]) bt144.1) else (none)))
def dns_Split.f (k : Nat) (a0 : ByteArray) : Option (List Int) := if a0.toList = ([46] : List UInt8) then (some ([] : List Int)) else (if 1 ≤ 35184372088832 then (dns_Split.l0 k a0 (List.replicate 1 0) 0) else (none))
theorem dns_Split.mono_l : ∀ k, (∀ y0 y1 y2, LeO (dns_Split.l0 k y0 y1 y2) (dns_Split.l0 (k + 1) y0 y1 y2))
  | 0 => fun _ _ _ r h => by simp [dns_Split.l0] at h
  | k + 1 => by
    have ih0 := dns_Split.mono_l k
    · intro y0 y1 y2
      unfold dns_Split.l0
      repeat' first
      | (with_reducible exact ih0 _ _ _)
      | (with_reducible exact dns_NextLabel.mono _ _ _)
      | (with_reducible exact LeO.refl _)
      | (with_reducible exact LeO.none _)
      | (with_reducible refine LeO.ite ?_ ?_)
      | (with_reducible refine LeO.bind ?_ (fun _ => ?_))
      | exact ih0 _ _ _
      | exact dns_NextLabel.mono _ _ _
      | exact LeO.none _
      | refine LeO.ite ?_ ?_
      | refine LeO.bind ?_ (fun _ => ?_)
theorem dns_Split.mono : ∀ a0 k, LeO (dns_Split.f k a0) (dns_Split.f (k + 1) a0) := by
  intro a0 k
  have ih0 := dns_Split.mono_l k
  unfold dns_Split.f
  repeat' first
      | (with_reducible exact ih0 _ _ _)
      | (with_reducible exact dns_NextLabel.mono _ _ _)
      | (with_reducible exact LeO.refl _)
      | (with_reducible exact LeO.none _)
      | (with_reducible refine LeO.ite ?_ ?_)
      | (with_reducible refine LeO.bind ?_ (fun _ => ?_))
      | exact ih0 _ _ _
      | exact dns_NextLabel.mono _ _ _
      | exact LeO.none _
      | refine LeO.ite ?_ ?_
      | refine LeO.bind ?_ (fun _ => ?_)
set_option maxHeartbeats 8000000 in
set_option maxRecDepth 100000 in
theorem dns_Split.calls (k : Nat) (a0 : ByteArray) (r : List Int) (w : World) (h : dns_Split.f k a0 = some r) :
    Calls Try.prog 18 #[.string a0] w fun e w' => ∃ v0_ : Value, e = .returned (v0_) ∧ Kd.R (Kd.int .i64) 3 w' w.heap.size (fun _ => True) v0_ r ∧ Below w.heap.size w w' := by
  have HB := Aside0.mk (Below.refl w.heap.size w)
  have H : (if a0.toList = ([46] : List UInt8) then (some ([] : List Int)) else (if 1 ≤ 35184372088832 then (dns_Split.l0 k a0 (List.replicate 1 0) 0) else (none))) = some r := h
  clear h
  by_cases c2 : a0.toList = ([46] : List UInt8)
  · rw [if_pos c2] at H
    have c2b0 : (a0.toList == ([46] : List UInt8)) = true := beq_iff_eq.mpr c2
    have c2b1 : (a0.toList != ([46] : List UInt8)) = false := bne_eq_false_iff_eq.mpr c2
    clear c2
    obtain rfl := Option.some.inj H
    go_enter Try.func18, Try.ntmps18
    go_wp2
    go_ret
    exact ⟨_, by first | rfl | (simp [errW_none, errW_some] <;> rfl) | (simp [*, errW_none, errW_some] <;> rfl), by first | exact Kd.R_nil _ _ _ _ _ | exact Kd.N_nil _ _ _ _ _ | exact Kd.V_nil _ _ _ _ _ | exact Kd.Q_nil _ _ _ _ _ | exact Kd.S_nil _ _ _ _ _, by repeat (first | (with_reducible first | exact HB.out | apply below_alloc | apply pw_below_drewN | apply below_drew1) | exact HB.out)⟩
  · rw [if_neg c2] at H
    have c2b0 : (a0.toList == ([46] : List UInt8)) = false := beq_eq_false_iff_ne.mpr c2
    have c2b1 : (a0.toList != ([46] : List UInt8)) = true := bne_iff_ne.mpr c2
    by_cases c3 : 1 ≤ 35184372088832
    · rw [if_pos c3] at H
      have c3b0 := eq_true c3
      have c3b1 : decide (1 ≤ 35184372088832) = true := decide_eq_true c3
      clear c3
      obtain ⟨y141, hy141⟩ : ∃ y_ : List Int, y_ = (List.replicate 1 0) := ⟨_, rfl⟩
      replace H : (dns_Split.l0 k a0 y141 0) = some r := by first | (rw [hy141]; with_reducible exact H) | (have H2_ := (Option.bind_some _ _).symm.trans H; rw [hy141]; with_reducible exact H2_) | (have H2_ := (Option.bind_some _ _).symm.trans H; with_reducible exact H2_) | with_reducible exact H | (rw [hy141]; exact H) | exact H
      have Ny141 := Aside0.mk hy141
      clear hy141
      have H' := Aside0.mk H
      clear H
      go_enter Try.func18, Try.ntmps18
      go_wp2_with (first | ((with_reducible refine gate_dst (N := 8) rfl ?_); refine R_makec (Kd.int .i64) _ 3 rfl (N := 8) rfl 36 _ _ rfl 1 3 rfl rfl (by omega) Try.underlying36 (.int .i64 0) 8 info3 rfl (by decide) (by omega) 0 (ok := fun _ => True) (okp := fun _ => True) rfl (fun _ hk => hk) trivial (by omega) (by omega) (Below.refl _ _) (Nat.le_refl _) ?_; intro v142 w4 ho5 hb hg_ hnew_; clear hg_ hnew_; (first | rw [← Ny141.out] at ho5 | (simp only [Int.reduceToNat] at ho5; rw [← Ny141.out] at ho5)); have n0_ := Aside0.mk (Kd.R_lower ho5 (below_size (by repeat (first | (with_reducible first | exact HB.out | apply below_alloc | apply pw_below_drewN | apply below_drew1) | exact HB.out)))); have n1_ := Aside0.mk (below_step (by repeat (first | (with_reducible first | exact HB.out | apply below_alloc | apply pw_below_drewN | apply below_drew1) | exact HB.out)) hb); clear HB; have HO143 := n0_; have HB := n1_; clear n0_ n1_; clear hb ho5))
      go_loopg [3, 4] k (fun kq v3 v4 w' => ∃ (x3_1 : List Int) (x4_1 : Int), v4 = .int .i64 x4_1 ∧ Aside0 (dns_Split.l0 kq a0 x3_1 x4_1 = some r) ∧ Aside0 (kq ≤ k) ∧ Aside0 (Kd.R (Kd.int .i64) 3 w' w.heap.size (fun _ => True) v3 x3_1) ∧ Aside0 (Below w.heap.size w w'))
      case atStart => exact ⟨(y141), (0), (by first | rfl | (simp; done) | (simp [*]; done) | (simp [wrap64]; done)), H', ⟨Nat.le_refl _⟩, ⟨by (with_reducible repeat (first | apply Kd.R_alloc | apply Kd.R_drewN | apply Kd.R_drew)); exact HO143.out⟩, ⟨by repeat (first | (with_reducible first | exact HB.out | apply below_alloc | apply pw_below_drewN | apply below_drew1) | exact HB.out)⟩⟩
      case round =>
        clear H'
        try clear c1
        try clear c2
        try clear c2b0
        try clear c2b1
        try clear p2
        try clear c3
        try clear c3b0
        try clear c3b1
        obtain ⟨x3_1, x4_1, rfl, HA, HK1, HO_3, HB⟩ := hrel
        cases gk with
        | zero => exact absurd HA.out (by simp [dns_Split.l0])
        | succ k1 =>
          have H := HA.out
          clear HA
          simp only [dns_Split.l0] at H
          replace H := Option.bind_eq_some_iff.mp H
          obtain ⟨⟨t144, t145⟩, A60, H⟩ := H
          replace H : (if t145 = true then (some x3_1) else (if x3_1.length < 17592186044416 then (dns_Split.l0 k1 a0 (x3_1 ++ [t144]) t144) else (none))) = some r := H
          have A6 := Aside0.mk A60
          clear A60
          by_cases c7 : t145 = true
          · subst c7
            have H1 : (some x3_1) = some r := by rw [if_pos rfl] at H; exact H
            clear H
            have H := H1
            clear H1
            obtain rfl := Option.some.inj H
            go_wp2_with (first | ((with_reducible refine gate_callee (f := 23) rfl ?_); refine goesL_ (some 12) rfl rfl Try.func23 (by kernel_rfl) rfl #[.string a0, .int .i64 x4_1] rfl (by (try simp only [List.map_toArray, List.map_cons, List.map_nil]); first | done | rfl | (simp only [List.length_drop, List.length_take]; rfl)) ?_; (with_reducible refine (dns_NextLabel.calls k1 a0 x4_1 t144 true _ A6.out).mono ?_); rintro e w' ⟨rfl, ⟨nd, rfl⟩⟩; refine ⟨_, rfl, ?_⟩))
            go_ret
            exact ⟨_, by first | rfl | (simp [errW_none, errW_some] <;> rfl) | (simp [*, errW_none, errW_some] <;> rfl), by (with_reducible repeat (first | apply Kd.R_alloc | apply Kd.R_drewN | apply Kd.R_drew)); exact HO_3.out, by repeat (first | (with_reducible first | exact HB.out | apply below_alloc | apply pw_below_drewN | apply below_drew1) | exact HB.out)⟩
          · replace c7 := Bool.eq_false_iff.mpr c7
            subst c7
            have H1 : (if x3_1.length < 17592186044416 then (dns_Split.l0 k1 a0 (x3_1 ++ [t144]) t144) else (none)) = some r := by rw [if_neg (show ¬ (false = true) by decide)] at H; exact H
            clear H
            have H := H1
            clear H1
            by_cases c8 : x3_1.length < 17592186044416
            · rw [if_pos c8] at H
              have LMc8 := Aside0.mk c8
              clear c8
              obtain ⟨y146, hy146⟩ : ∃ y_ : List Int, y_ = (x3_1 ++ [t144]) := ⟨_, rfl⟩
              replace H : (dns_Split.l0 k1 a0 y146 t144) = some r := by first | (rw [hy146]; with_reducible exact H) | (have H2_ := (Option.bind_some _ _).symm.trans H; rw [hy146]; with_reducible exact H2_) | (have H2_ := (Option.bind_some _ _).symm.trans H; with_reducible exact H2_) | with_reducible exact H | (rw [hy146]; exact H) | exact H
              have Ny146 := Aside0.mk hy146
              clear hy146
              have H' := Aside0.mk H
              clear H
              go_wp2_with (first | ((with_reducible refine gate_callee (f := 23) rfl ?_); refine goesL_ (some 12) rfl rfl Try.func23 (by kernel_rfl) rfl #[.string a0, .int .i64 x4_1] rfl (by (try simp only [List.map_toArray, List.map_cons, List.map_nil]); first | done | rfl | (simp only [List.length_drop, List.length_take]; rfl)) ?_; (with_reducible refine (dns_NextLabel.calls k1 a0 x4_1 t144 false _ A6.out).mono ?_); rintro e w' ⟨rfl, ⟨nd, rfl⟩⟩; refine ⟨_, rfl, ?_⟩) | ((with_reducible refine gate_builtin (b := .append) (xs := #[.tmp 17, .tmp 19]) rfl ?_); at_builtin; refine Kd.R_append (Kd.int .i64) (w0 := w) w.heap.size rfl (.tmp 17) (.tmp 19) 36 3 (.int .i64 0) 8 rfl Try.underlying36 info3 rfl (by decide) (by omega) u3 x3_1 t144 [.int .i64 t144] (fun _ => True) (fun _ => False) rfl rfl ?aP (fun _ hk => hk.elim) ?aF ?aO ?aB ?aS ?aL ?_; (case aP => exact rfl); (case aB => exact (by repeat (first | (with_reducible first | exact HB.out | apply below_alloc | apply pw_below_drewN | apply below_drew1) | exact HB.out))); (case aF => exact (fun _ _ => trivial)); (case aO => exact (by (with_reducible repeat (first | apply Kd.R_alloc | apply Kd.R_drewN | apply Kd.R_drew)); exact HO_3.out)); (case aS => exact (below_size (by repeat (first | (with_reducible first | exact HB.out | apply below_alloc | apply pw_below_drewN | apply below_drew1) | exact HB.out)))); (case aL => have := LMc8.out; omega); intro v147 w9 ho hb hg hat; rw [← Ny146.out] at ho; have n0_ := Aside0.mk (hb); have n1_ := Aside0.mk (ho); clear HB; clear HO_3; have HB := n0_; have HO148 := n1_; clear n0_ n1_; clear ho hb hg hat))
              go_roundg k1
              case measure => have := HK1.out; omega
              case rel => exact ⟨(y146), (t144), (by first | rfl | (simp; done) | (simp [*]; done) | (simp [wrap64]; done)), H', ⟨by have := HK1.out; omega⟩, ⟨by (with_reducible repeat (first | apply Kd.R_alloc | apply Kd.R_drewN | apply Kd.R_drew)); exact HO148.out⟩, ⟨by repeat (first | (with_reducible first | exact HB.out | apply below_alloc | apply pw_below_drewN | apply below_drew1) | exact HB.out)⟩⟩
            · rw [if_neg c8] at H
              exact absurd H (by simp)
    · rw [if_neg c3] at H
      exact absurd H (by simp)

/-! ### dns_equal: function 19 -/
mutual
def dns_equal.l0 : Nat → ByteArray → ByteArray → Int → Option (Bool)
  | 0, _, _, _ => none
  | k + 1, x0, x1, x7 => if x7 ≥ 0 then (if 0 ≤ x7 then (if x7 < (x0.size : Int) then (if x7 < (x1.size : Int) then (if (bt x0 x7) ≥ 65 then (dns_equal.j1 k x0 x1 x7 (bt x0 x7) (bt x1 x7) (decide ((bt x0 x7) ≤ 90))) else (dns_equal.j1 k x0 x1 x7 (bt x0 x7) (bt x1 x7) false)) else (none)) else (none)) else (none)) else (some true)
def dns_equal.j1 : Nat → ByteArray → ByteArray → Int → Int → Int → Bool → Option (Bool)
  | 0, _, _, _, _, _, _ => none
  | k + 1, x0, x1, x7, x8, x9, x34 => if x34 = true then (dns_equal.j2 k x0 x1 x7 (Go.bits .or .u8 x8 32) x9) else (dns_equal.j2 k x0 x1 x7 x8 x9)
def dns_equal.j2 : Nat → ByteArray → ByteArray → Int → Int → Int → Option (Bool)
  | 0, _, _, _, _, _ => none
  | k + 1, x0, x1, x7, x8, x9 => if x9 ≥ 65 then (dns_equal.j3 k x0 x1 x7 x8 x9 (decide (x9 ≤ 90))) else (dns_equal.j3 k x0 x1 x7 x8 x9 false)
def dns_equal.j3 : Nat → ByteArray → ByteArray → Int → Int → Int → Bool → Option (Bool)
  | 0, _, _, _, _, _, _ => none
  | k + 1, x0, x1, x7, x8, x9, x42 => if x42 = true then (if x8 = (Go.bits .or .u8 x9 32) then (dns_equal.l0 k x0 x1 (wrap64 (x7 - 1))) else (some false)) else (if x8 = x9 then (dns_equal.l0 k x0 x1 (wrap64 (x7 - 1))) else (some false))
end
def dns_equal.f (k : Nat) (a0 : ByteArray) (a1 : ByteArray) : Option (Bool) := if (a0.size : Int) = (a1.size : Int) then (dns_equal.l0 k a0 a1 (wrap64 ((a0.size : Int) - 1))) else (some false)
theorem dns_equal.mono_l : ∀ k, (∀ y0 y1 y2, LeO (dns_equal.l0 k y0 y1 y2) (dns_equal.l0 (k + 1) y0 y1 y2)) ∧ (∀ y0 y1 y2 y3 y4 y5, LeO (dns_equal.j1 k y0 y1 y2 y3 y4 y5) (dns_equal.j1 (k + 1) y0 y1 y2 y3 y4 y5)) ∧ (∀ y0 y1 y2 y3 y4, LeO (dns_equal.j2 k y0 y1 y2 y3 y4) (dns_equal.j2 (k + 1) y0 y1 y2 y3 y4)) ∧ (∀ y0 y1 y2 y3 y4 y5, LeO (dns_equal.j3 k y0 y1 y2 y3 y4 y5) (dns_equal.j3 (k + 1) y0 y1 y2 y3 y4 y5))
  | 0 => ⟨fun _ _ _ r h => by simp [dns_equal.l0] at h, fun _ _ _ _ _ _ r h => by simp [dns_equal.j1] at h, fun _ _ _ _ _ r h => by simp [dns_equal.j2] at h, fun _ _ _ _ _ _ r h => by simp [dns_equal.j3] at h⟩
  | k + 1 => by
    obtain ⟨ih0, ih1, ih2, ih3⟩ := dns_equal.mono_l k
    refine ⟨?_, ?_, ?_, ?_⟩
    · intro y0 y1 y2
      unfold dns_equal.l0
      repeat' first
      | (with_reducible exact ih0 _ _ _)
      | (with_reducible exact ih1 _ _ _ _ _ _)
      | (with_reducible exact ih2 _ _ _ _ _)
      | (with_reducible exact ih3 _ _ _ _ _ _)
      | (with_reducible exact LeO.refl _)
      | (with_reducible exact LeO.none _)
      | (with_reducible refine LeO.ite ?_ ?_)
      | (with_reducible refine LeO.bind ?_ (fun _ => ?_))
      | exact ih0 _ _ _
      | exact ih1 _ _ _ _ _ _
      | exact ih2 _ _ _ _ _
      | exact ih3 _ _ _ _ _ _
      | exact LeO.none _
      | refine LeO.ite ?_ ?_
      | refine LeO.bind ?_ (fun _ => ?_)
    · intro y0 y1 y2 y3 y4 y5
      unfold dns_equal.j1
      repeat' first
      | (with_reducible exact ih0 _ _ _)
      | (with_reducible exact ih1 _ _ _ _ _ _)
      | (with_reducible exact ih2 _ _ _ _ _)
      | (with_reducible exact ih3 _ _ _ _ _ _)
      | (with_reducible exact LeO.refl _)
      | (with_reducible exact LeO.none _)
      | (with_reducible refine LeO.ite ?_ ?_)
      | (with_reducible refine LeO.bind ?_ (fun _ => ?_))
      | exact ih0 _ _ _
      | exact ih1 _ _ _ _ _ _
      | exact ih2 _ _ _ _ _
      | exact ih3 _ _ _ _ _ _
      | exact LeO.none _
      | refine LeO.ite ?_ ?_
      | refine LeO.bind ?_ (fun _ => ?_)
    · intro y0 y1 y2 y3 y4
      unfold dns_equal.j2
      repeat' first
      | (with_reducible exact ih0 _ _ _)
      | (with_reducible exact ih1 _ _ _ _ _ _)
      | (with_reducible exact ih2 _ _ _ _ _)
      | (with_reducible exact ih3 _ _ _ _ _ _)
      | (with_reducible exact LeO.refl _)
      | (with_reducible exact LeO.none _)
      | (with_reducible refine LeO.ite ?_ ?_)
      | (with_reducible refine LeO.bind ?_ (fun _ => ?_))
      | exact ih0 _ _ _
      | exact ih1 _ _ _ _ _ _
      | exact ih2 _ _ _ _ _
      | exact ih3 _ _ _ _ _ _
      | exact LeO.none _
      | refine LeO.ite ?_ ?_
      | refine LeO.bind ?_ (fun _ => ?_)
    · intro y0 y1 y2 y3 y4 y5
      unfold dns_equal.j3
      repeat' first
      | (with_reducible exact ih0 _ _ _)
      | (with_reducible exact ih1 _ _ _ _ _ _)
      | (with_reducible exact ih2 _ _ _ _ _)
      | (with_reducible exact ih3 _ _ _ _ _ _)
      | (with_reducible exact LeO.refl _)
      | (with_reducible exact LeO.none _)
      | (with_reducible refine LeO.ite ?_ ?_)
      | (with_reducible refine LeO.bind ?_ (fun _ => ?_))
      | exact ih0 _ _ _
      | exact ih1 _ _ _ _ _ _
      | exact ih2 _ _ _ _ _
      | exact ih3 _ _ _ _ _ _
      | exact LeO.none _
      | refine LeO.ite ?_ ?_
      | refine LeO.bind ?_ (fun _ => ?_)
theorem dns_equal.mono : ∀ a0 a1 k, LeO (dns_equal.f k a0 a1) (dns_equal.f (k + 1) a0 a1) := by
  intro a0 a1 k
  obtain ⟨ih0, ih1, ih2, ih3⟩ := dns_equal.mono_l k
  unfold dns_equal.f
  repeat' first
      | (with_reducible exact ih0 _ _ _)
      | (with_reducible exact ih1 _ _ _ _ _ _)
      | (with_reducible exact ih2 _ _ _ _ _)
      | (with_reducible exact ih3 _ _ _ _ _ _)
      | (with_reducible exact LeO.refl _)
      | (with_reducible exact LeO.none _)
      | (with_reducible refine LeO.ite ?_ ?_)
      | (with_reducible refine LeO.bind ?_ (fun _ => ?_))
      | exact ih0 _ _ _
      | exact ih1 _ _ _ _ _ _
      | exact ih2 _ _ _ _ _
      | exact ih3 _ _ _ _ _ _
      | exact LeO.none _
      | refine LeO.ite ?_ ?_
      | refine LeO.bind ?_ (fun _ => ?_)
set_option maxHeartbeats 8000000 in
set_option maxRecDepth 100000 in
theorem dns_equal.calls (k : Nat) (a0 : ByteArray) (a1 : ByteArray) (r : Bool) (w : World) (h : dns_equal.f k a0 a1 = some r) :
    Calls Try.prog 19 #[.string a0, .string a1] w fun e w' => e = .returned (.bool r) ∧ Drawn0 w w' := by
  have H : (if (a0.size : Int) = (a1.size : Int) then (dns_equal.l0 k a0 a1 (wrap64 ((a0.size : Int) - 1))) else (some false)) = some r := h
  clear h
  by_cases c3 : (a0.size : Int) = (a1.size : Int)
  · rw [if_pos c3] at H
    have c3b0 : ((a0.size : Int) == (a1.size : Int)) = true := beq_iff_eq.mpr c3
    have c3b1 : ((a0.size : Int) != (a1.size : Int)) = false := bne_eq_false_iff_eq.mpr c3
    have c3b2 : (a0.size == a1.size) = true := by first | simpa using c3 | (simp at c3 ⊢; omega)
    clear c3
    have H' := Aside0.mk H
    clear H
    go_enter Try.func19, Try.ntmps19
    go_wp2
    go_loopg [7] k (fun kq v7 w' => ∃ (x7_1 : Int), v7 = .int .i64 x7_1 ∧ Aside0 (dns_equal.l0 kq a0 a1 x7_1 = some r) ∧ Aside0 (kq ≤ k) ∧ Drawn0 w w')
    case atStart => exact ⟨(wrap64 ((a0.size : Int) - 1)), (by first | rfl | (simp; done) | (simp [*]; done) | (simp [wrap64]; done)), H', ⟨Nat.le_refl _⟩, by repeat (first | exact Drawn0.refl _ | apply Drawn0.step)⟩
    case round =>
      clear H'
      try clear c1
      try clear p2
      try clear c3
      try clear c3b0
      try clear c3b1
      try clear c3b2
      obtain ⟨x7_1, rfl, HA, HK1, ⟨m1, rfl⟩⟩ := hrel
      cases gk with
      | zero => exact absurd HA.out (by simp [dns_equal.l0])
      | succ k1 =>
        have H := HA.out
        clear HA
        simp only [dns_equal.l0] at H
        by_cases c4 : x7_1 ≥ 0
        · rw [if_pos c4] at H
          have c4b0 : decide (0 ≤ x7_1) = true := decide_eq_true c4
          clear c4
          by_cases c5 : 0 ≤ x7_1
          · rw [if_pos c5] at H
            have c5b0 : decide (0 ≤ x7_1) = true := decide_eq_true c5
            clear c5
            by_cases c6 : x7_1 < (a0.size : Int)
            · rw [if_pos c6] at H
              have c6b0 : decide (x7_1 < (a0.size : Int)) = true := decide_eq_true c6
              clear c6
              by_cases c8 : x7_1 < (a1.size : Int)
              · rw [if_pos c8] at H
                have c8b0 : decide (x7_1 < (a1.size : Int)) = true := decide_eq_true c8
                clear c8
                have HC10 := Aside0.mk H
                clear H
                have p7 : 0 ≤ (x7_1 : Int) := of_decide_eq_true (by first | (with_reducible assumption) | assumption)
                have q7 : x7_1 < (a0.size : Int) := of_decide_eq_true (by first | (with_reducible assumption) | assumption)
                have hx7 := bt_at a0 x7_1
                replace p7 := eq_true p7
                replace q7 := eq_true q7
                have p9 : 0 ≤ (x7_1 : Int) := of_decide_eq_true (by first | (with_reducible assumption) | assumption)
                have q9 : x7_1 < (a1.size : Int) := of_decide_eq_true (by first | (with_reducible assumption) | assumption)
                have hx9 := bt_at a1 x7_1
                replace p9 := eq_true p9
                replace q9 := eq_true q9
                go_upto_region 10 with (fail)
                go_cut [34] (fun v34 wc => ∃ (kq : Nat) (x34_9 : Bool), v34 = .bool x34_9 ∧ Aside0 (dns_equal.j1 kq a0 a1 x7_1 (bt a0 x7_1) (bt a1 x7_1) x34_9 = some r) ∧ Aside0 (kq ≤ k1) ∧ Drawn0 w wc)
                case first =>
                  have H := HC10.out
                  clear HC10
                  by_cases c11 : (bt a0 x7_1) ≥ 65
                  · rw [if_pos c11] at H
                    have c11b0 : decide (65 ≤ (bt a0 x7_1)) = true := decide_eq_true c11
                    clear c11
                    (first | rw [c11b0] | (simp only [i64_w, i32_w]; rw [c11b0]) | skip)
                    have H' := Aside0.mk H
                    clear H
                    go_wp2
                    go_meet
                    case rel => exact ⟨_, (decide ((bt a0 x7_1) ≤ 90)), (by first | rfl | (simp; done) | (simp [*]; done) | (simp [wrap64]; done)), H', ⟨by have := HK1.out; first | omega | exact Nat.le_refl _⟩, by repeat (first | exact Drawn0.refl _ | apply Drawn0.step)⟩
                  · rw [if_neg c11] at H
                    have c11b0 : decide (65 ≤ (bt a0 x7_1)) = false := decide_eq_false c11
                    clear c11
                    (first | rw [c11b0] | (simp only [i64_w, i32_w]; rw [c11b0]) | skip)
                    have H' := Aside0.mk H
                    clear H
                    go_wp2
                    go_meet
                    case rel => exact ⟨_, (false), (by first | rfl | (simp; done) | (simp [*]; done) | (simp [wrap64]; done)), H', ⟨by have := HK1.out; first | omega | exact Nat.le_refl _⟩, by repeat (first | exact Drawn0.refl _ | apply Drawn0.step)⟩
                case rest =>
                  clear HC10
                  try clear c1
                  try clear p2
                  try clear c3
                  try clear c3b0
                  try clear c3b1
                  try clear c3b2
                  try clear c4
                  try clear c4b0
                  try clear c5
                  try clear c5b0
                  try clear c6
                  try clear c6b0
                  try clear p6
                  try clear p7
                  try clear q7
                  try clear hx7
                  try clear c8
                  try clear c8b0
                  try clear p9
                  try clear q9
                  try clear hx9
                  try clear c11
                  try clear c11b0
                  try clear p2
                  try clear p7
                  try clear p9
                  try clear q7
                  try clear q9
                  obtain ⟨kq, x34_9, rfl, HA, HJ9, ⟨mc9, rfl⟩⟩ := hcut
                  cases kq with
                  | zero => exact absurd HA.out (by simp [dns_equal.j1])
                  | succ kj9 =>
                    have H := HA.out
                    clear HA
                    simp only [dns_equal.j1] at H
                    have HC12 := Aside0.mk H
                    clear H
                    go_upto_if 34 with (fail)
                    go_cut [8] (fun v8 wc => ∃ (kq : Nat) (x8_11 : Int), v8 = .int .u8 x8_11 ∧ Aside0 (dns_equal.j2 kq a0 a1 x7_1 x8_11 (bt a1 x7_1) = some r) ∧ Aside0 (kq ≤ kj9) ∧ Drawn0 w wc)
                    case first =>
                      have H := HC12.out
                      clear HC12
                      by_cases c13 : x34_9 = true
                      · subst c13
                        have H1 : (dns_equal.j2 kj9 a0 a1 x7_1 (Go.bits .or .u8 (bt a0 x7_1) 32) (bt a1 x7_1)) = some r := by rw [if_pos rfl] at H; exact H
                        clear H
                        have H := H1
                        clear H1
                        have H' := Aside0.mk H
                        clear H
                        go_wp2
                        go_meet
                        case rel => exact ⟨_, (Go.bits .or .u8 (bt a0 x7_1) 32), (by first | rfl | (simp; done) | (simp [*]; done) | (simp [wrap64]; done)), H', ⟨by have := HK1.out; have := HJ9.out; first | omega | exact Nat.le_refl _⟩, by repeat (first | exact Drawn0.refl _ | apply Drawn0.step)⟩
                      · replace c13 := Bool.eq_false_iff.mpr c13
                        subst c13
                        have H1 : (dns_equal.j2 kj9 a0 a1 x7_1 (bt a0 x7_1) (bt a1 x7_1)) = some r := by rw [if_neg (show ¬ (false = true) by decide)] at H; exact H
                        clear H
                        have H := H1
                        clear H1
                        have H' := Aside0.mk H
                        clear H
                        go_wp2
                        go_meet
                        case rel => exact ⟨_, ((bt a0 x7_1)), (by first | rfl | (simp; done) | (simp [*]; done) | (simp [wrap64]; done)), H', ⟨by have := HK1.out; have := HJ9.out; first | omega | exact Nat.le_refl _⟩, by repeat (first | exact Drawn0.refl _ | apply Drawn0.step)⟩
                    case rest =>
                      clear HC12
                      try clear c1
                      try clear p2
                      try clear c3
                      try clear c3b0
                      try clear c3b1
                      try clear c3b2
                      try clear c4
                      try clear c4b0
                      try clear c5
                      try clear c5b0
                      try clear c6
                      try clear c6b0
                      try clear p6
                      try clear p7
                      try clear q7
                      try clear hx7
                      try clear c8
                      try clear c8b0
                      try clear c9
                      try clear p9
                      try clear q9
                      try clear hx9
                      try clear c11
                      try clear c11b0
                      try clear c13
                      try clear p2
                      try clear p6
                      try clear p7
                      try clear p9
                      try clear q7
                      try clear q9
                      obtain ⟨kq, x8_11, rfl, HA, HJ11, ⟨mc11, rfl⟩⟩ := hcut
                      cases kq with
                      | zero => exact absurd HA.out (by simp [dns_equal.j2])
                      | succ kj11 =>
                        have H := HA.out
                        clear HA
                        simp only [dns_equal.j2] at H
                        have HC14 := Aside0.mk H
                        clear H
                        go_upto_region 12 with (fail)
                        go_cut [42] (fun v42 wc => ∃ (kq : Nat) (x42_13 : Bool), v42 = .bool x42_13 ∧ Aside0 (dns_equal.j3 kq a0 a1 x7_1 x8_11 (bt a1 x7_1) x42_13 = some r) ∧ Aside0 (kq ≤ kj11) ∧ Drawn0 w wc)
                        case first =>
                          have H := HC14.out
                          clear HC14
                          by_cases c15 : (bt a1 x7_1) ≥ 65
                          · rw [if_pos c15] at H
                            have c15b0 : decide (65 ≤ (bt a1 x7_1)) = true := decide_eq_true c15
                            clear c15
                            (first | rw [c15b0] | (simp only [i64_w, i32_w]; rw [c15b0]) | skip)
                            have H' := Aside0.mk H
                            clear H
                            go_wp2
                            go_meet
                            case rel => exact ⟨_, (decide ((bt a1 x7_1) ≤ 90)), (by first | rfl | (simp; done) | (simp [*]; done) | (simp [wrap64]; done)), H', ⟨by have := HK1.out; have := HJ9.out; have := HJ11.out; first | omega | exact Nat.le_refl _⟩, by repeat (first | exact Drawn0.refl _ | apply Drawn0.step)⟩
                          · rw [if_neg c15] at H
                            have c15b0 : decide (65 ≤ (bt a1 x7_1)) = false := decide_eq_false c15
                            clear c15
                            (first | rw [c15b0] | (simp only [i64_w, i32_w]; rw [c15b0]) | skip)
                            have H' := Aside0.mk H
                            clear H
                            go_wp2
                            go_meet
                            case rel => exact ⟨_, (false), (by first | rfl | (simp; done) | (simp [*]; done) | (simp [wrap64]; done)), H', ⟨by have := HK1.out; have := HJ9.out; have := HJ11.out; first | omega | exact Nat.le_refl _⟩, by repeat (first | exact Drawn0.refl _ | apply Drawn0.step)⟩
                        case rest =>
                          clear HC14
                          try clear c1
                          try clear p2
                          try clear c3
                          try clear c3b0
                          try clear c3b1
                          try clear c3b2
                          try clear c4
                          try clear c4b0
                          try clear c5
                          try clear c5b0
                          try clear c6
                          try clear c6b0
                          try clear p6
                          try clear p7
                          try clear q7
                          try clear hx7
                          try clear c8
                          try clear c8b0
                          try clear c9
                          try clear p9
                          try clear q9
                          try clear hx9
                          try clear c11
                          try clear c11b0
                          try clear c13
                          try clear c15
                          try clear c15b0
                          try clear p2
                          try clear p6
                          try clear p7
                          try clear p9
                          try clear q7
                          try clear q9
                          obtain ⟨kq, x42_13, rfl, HA, HJ13, ⟨mc13, rfl⟩⟩ := hcut
                          cases kq with
                          | zero => exact absurd HA.out (by simp [dns_equal.j3])
                          | succ kj13 =>
                            have H := HA.out
                            clear HA
                            simp only [dns_equal.j3] at H
                            by_cases c16 : x42_13 = true
                            · subst c16
                              have H1 : (if x8_11 = (Go.bits .or .u8 (bt a1 x7_1) 32) then (dns_equal.l0 kj13 a0 a1 (wrap64 (x7_1 - 1))) else (some false)) = some r := by rw [if_pos rfl] at H; exact H
                              clear H
                              have H := H1
                              clear H1
                              by_cases c17 : x8_11 = (Go.bits .or .u8 (bt a1 x7_1) 32)
                              · rw [if_pos c17] at H
                                have c17b0 : (x8_11 == (Go.bits .or .u8 (bt a1 x7_1) 32)) = true := beq_iff_eq.mpr c17
                                have c17b1 : (x8_11 != (Go.bits .or .u8 (bt a1 x7_1) 32)) = false := bne_eq_false_iff_eq.mpr c17
                                clear c17
                                have H' := Aside0.mk H
                                clear H
                                go_wp2
                                go_roundg kj13
                                case measure => have := HK1.out; have := HJ9.out; have := HJ11.out; have := HJ13.out; omega
                                case rel => exact ⟨(wrap64 (x7_1 - 1)), (by first | rfl | (simp; done) | (simp [*]; done) | (simp [wrap64]; done)), H', ⟨by have := HK1.out; have := HJ9.out; have := HJ11.out; have := HJ13.out; omega⟩, by repeat (first | exact Drawn0.refl _ | apply Drawn0.step)⟩
                              · rw [if_neg c17] at H
                                have c17b0 : (x8_11 == (Go.bits .or .u8 (bt a1 x7_1) 32)) = false := beq_eq_false_iff_ne.mpr c17
                                have c17b1 : (x8_11 != (Go.bits .or .u8 (bt a1 x7_1) 32)) = true := bne_iff_ne.mpr c17
                                obtain rfl := Option.some.inj H
                                go_wp2
                                go_ret
                                exact ⟨by first | rfl | (simp; done) | (simp [*]; done) | (simp [wrap64]; done), by repeat (first | exact Drawn0.refl _ | apply Drawn0.step)⟩
                            · replace c16 := Bool.eq_false_iff.mpr c16
                              subst c16
                              have H1 : (if x8_11 = (bt a1 x7_1) then (dns_equal.l0 kj13 a0 a1 (wrap64 (x7_1 - 1))) else (some false)) = some r := by rw [if_neg (show ¬ (false = true) by decide)] at H; exact H
                              clear H
                              have H := H1
                              clear H1
                              by_cases c18 : x8_11 = (bt a1 x7_1)
                              · rw [if_pos c18] at H
                                have c18b0 : (x8_11 == (bt a1 x7_1)) = true := beq_iff_eq.mpr c18
                                have c18b1 : (x8_11 != (bt a1 x7_1)) = false := bne_eq_false_iff_eq.mpr c18
                                clear c18
                                have H' := Aside0.mk H
                                clear H
                                go_wp2
                                go_roundg kj13
                                case measure => have := HK1.out; have := HJ9.out; have := HJ11.out; have := HJ13.out; omega
                                case rel => exact ⟨(wrap64 (x7_1 - 1)), (by first | rfl | (simp; done) | (simp [*]; done) | (simp [wrap64]; done)), H', ⟨by have := HK1.out; have := HJ9.out; have := HJ11.out; have := HJ13.out; omega⟩, by repeat (first | exact Drawn0.refl _ | apply Drawn0.step)⟩
                              · rw [if_neg c18] at H
                                have c18b0 : (x8_11 == (bt a1 x7_1)) = false := beq_eq_false_iff_ne.mpr c18
                                have c18b1 : (x8_11 != (bt a1 x7_1)) = true := bne_iff_ne.mpr c18
                                obtain rfl := Option.some.inj H
                                go_wp2
                                go_ret
                                exact ⟨by first | rfl | (simp; done) | (simp [*]; done) | (simp [wrap64]; done), by repeat (first | exact Drawn0.refl _ | apply Drawn0.step)⟩
              · rw [if_neg c8] at H
                exact absurd H (by simp)
            · rw [if_neg c6] at H
              exact absurd H (by simp)
          · rw [if_neg c5] at H
            exact absurd H (by simp)
        · rw [if_neg c4] at H
          have c4b0 : decide (0 ≤ x7_1) = false := decide_eq_false c4
          clear c4
          obtain rfl := Option.some.inj H
          go_wp2
          go_ret
          exact ⟨by first | rfl | (simp; done) | (simp [*]; done) | (simp [wrap64]; done), by repeat (first | exact Drawn0.refl _ | apply Drawn0.step)⟩
  · rw [if_neg c3] at H
    have c3b0 : ((a0.size : Int) == (a1.size : Int)) = false := beq_eq_false_iff_ne.mpr c3
    have c3b1 : ((a0.size : Int) != (a1.size : Int)) = true := bne_iff_ne.mpr c3
    have c3b2 : (a0.size == a1.size) = false := by first | simpa using c3 | (simp at c3 ⊢; omega)
    obtain rfl := Option.some.inj H
    go_enter Try.func19, Try.ntmps19
    go_wp2
    go_ret
    exact ⟨by first | rfl | (simp; done) | (simp [*]; done) | (simp [wrap64]; done), by repeat (first | exact Drawn0.refl _ | apply Drawn0.step)⟩

end Go.Proofs.Ytiilihafcdmccaa.P
