-- Written by a program of this session (wip/tools/pprint.py) out of the translation: it goes by the kit's print and by the contracts of YtiilihafcdmccaaDoorHand. Not trusted: Lean checks it.
import Derived.Test.YtiilihafcdmccaaDoorP0
namespace Go.Proofs.YtiilihafcdmccaaDoor.P
open Go.RowKit Go.Proofs.YtiilihafcdmccaaDoorW.PrintWords Go.Proofs.YtiilihafcdmccaaDoorW.PrintLast Go.Proofs.YtiilihafcdmccaaDoorW.PrintMore
attribute [local go_sem] max2_int min2_int max_two min_two max_three min_three max_four min_four   -- for this text's walks alone
set_option linter.unusedVariables false
set_option linter.unusedSimpArgs false

/-! ### dns_PrevLabel: function 58 -/
mutual
def dns_PrevLabel.j0 : Nat → ByteArray → Int → Int → Option (Int × Bool)
  | 0, _, _, _ => none
  | k + 1, x0, x1, x6 => dns_PrevLabel.l0 k x0 x1 x6
def dns_PrevLabel.l0 : Nat → ByteArray → Int → Int → Option (Int × Bool)
  | 0, _, _, _ => none
  | k + 1, x0, x1, x6 => if x6 ≥ 0 then (dns_PrevLabel.j2 k x0 x1 x6 (decide (x1 > 0))) else (dns_PrevLabel.j2 k x0 x1 x6 false)
def dns_PrevLabel.j2 : Nat → ByteArray → Int → Int → Bool → Option (Int × Bool)
  | 0, _, _, _, _ => none
  | k + 1, x0, x1, x6, x28 => if x28 = true then (if 0 ≤ x6 then (if x6 < (x0.size : Int) then (if (bt x0 x6) = 46 then (dns_PrevLabel.l1 k x0 x1 x6 (wrap64 (x6 - 1))) else (dns_PrevLabel.l0 k x0 x1 (wrap64 (x6 - 1)))) else (none)) else (none)) else (some (0, decide (x1 > 1)))
def dns_PrevLabel.j4 : Nat → ByteArray → Int → Int → Int → Option (Int × Bool)
  | 0, _, _, _, _ => none
  | k + 1, x0, x1, x6, x7 => if (Int.tmod (wrap64 (x7 - x6)) 2) = 0 then (dns_PrevLabel.l0 k x0 x1 (wrap64 (x6 - 1))) else (if (wrap64 (x1 - 1)) = 0 then (some (wrap64 (x6 + 1), false)) else (dns_PrevLabel.l0 k x0 (wrap64 (x1 - 1)) (wrap64 (x6 - 1))))
def dns_PrevLabel.l1 : Nat → ByteArray → Int → Int → Int → Option (Int × Bool)
  | 0, _, _, _, _ => none
  | k + 1, x0, x1, x6, x7 => if x7 ≥ 0 then (if 0 ≤ x7 then (if x7 < (x0.size : Int) then (if (bt x0 x7) = 92 then (dns_PrevLabel.l1 k x0 x1 x6 (wrap64 (x7 - 1))) else (dns_PrevLabel.j4 k x0 x1 x6 x7)) else (none)) else (none)) else (dns_PrevLabel.j4 k x0 x1 x6 x7)
end
def dns_PrevLabel.f (k : Nat) (a0 : ByteArray) (a1 : Int) : Option (Int × Bool) := if a0.toList = ([] : List UInt8) then (some (0, true)) else (if a1 = 0 then (some ((a0.size : Int), false)) else (if 0 ≤ (wrap64 ((a0.size : Int) - 1)) then (if (wrap64 ((a0.size : Int) - 1)) < (a0.size : Int) then (if (bt a0 (wrap64 ((a0.size : Int) - 1))) = 46 then (dns_PrevLabel.j0 k a0 a1 (wrap64 ((wrap64 ((a0.size : Int) - 1)) - 1))) else (dns_PrevLabel.j0 k a0 a1 (wrap64 ((a0.size : Int) - 1)))) else (none)) else (none)))
theorem dns_PrevLabel.mono_l : ∀ k, (∀ y0 y1 y2, LeO (dns_PrevLabel.j0 k y0 y1 y2) (dns_PrevLabel.j0 (k + 1) y0 y1 y2)) ∧ (∀ y0 y1 y2, LeO (dns_PrevLabel.l0 k y0 y1 y2) (dns_PrevLabel.l0 (k + 1) y0 y1 y2)) ∧ (∀ y0 y1 y2 y3, LeO (dns_PrevLabel.j2 k y0 y1 y2 y3) (dns_PrevLabel.j2 (k + 1) y0 y1 y2 y3)) ∧ (∀ y0 y1 y2 y3, LeO (dns_PrevLabel.j4 k y0 y1 y2 y3) (dns_PrevLabel.j4 (k + 1) y0 y1 y2 y3)) ∧ (∀ y0 y1 y2 y3, LeO (dns_PrevLabel.l1 k y0 y1 y2 y3) (dns_PrevLabel.l1 (k + 1) y0 y1 y2 y3))
  | 0 => ⟨fun _ _ _ r h => by simp [dns_PrevLabel.j0] at h, fun _ _ _ r h => by simp [dns_PrevLabel.l0] at h, fun _ _ _ _ r h => by simp [dns_PrevLabel.j2] at h, fun _ _ _ _ r h => by simp [dns_PrevLabel.j4] at h, fun _ _ _ _ r h => by simp [dns_PrevLabel.l1] at h⟩
  | k + 1 => by
    obtain ⟨ih0, ih1, ih2, ih3, ih4⟩ := dns_PrevLabel.mono_l k
    refine ⟨?_, ?_, ?_, ?_, ?_⟩
    · intro y0 y1 y2
      unfold dns_PrevLabel.j0
      repeat' first
      | (with_reducible exact ih0 _ _ _)
      | (with_reducible exact ih1 _ _ _)
      | (with_reducible exact ih2 _ _ _ _)
      | (with_reducible exact ih3 _ _ _ _)
      | (with_reducible exact ih4 _ _ _ _)
      | (with_reducible exact LeO.refl _)
      | (with_reducible exact LeO.none _)
      | (with_reducible refine LeO.ite ?_ ?_)
      | (with_reducible refine LeO.bind ?_ (fun _ => ?_))
      | exact ih0 _ _ _
      | exact ih1 _ _ _
      | exact ih2 _ _ _ _
      | exact ih3 _ _ _ _
      | exact ih4 _ _ _ _
      | exact LeO.none _
      | refine LeO.ite ?_ ?_
      | refine LeO.bind ?_ (fun _ => ?_)
    · intro y0 y1 y2
      unfold dns_PrevLabel.l0
      repeat' first
      | (with_reducible exact ih0 _ _ _)
      | (with_reducible exact ih1 _ _ _)
      | (with_reducible exact ih2 _ _ _ _)
      | (with_reducible exact ih3 _ _ _ _)
      | (with_reducible exact ih4 _ _ _ _)
      | (with_reducible exact LeO.refl _)
      | (with_reducible exact LeO.none _)
      | (with_reducible refine LeO.ite ?_ ?_)
      | (with_reducible refine LeO.bind ?_ (fun _ => ?_))
      | exact ih0 _ _ _
      | exact ih1 _ _ _
      | exact ih2 _ _ _ _
      | exact ih3 _ _ _ _
      | exact ih4 _ _ _ _
      | exact LeO.none _
      | refine LeO.ite ?_ ?_
      | refine LeO.bind ?_ (fun _ => ?_)
    · intro y0 y1 y2 y3
      unfold dns_PrevLabel.j2
      repeat' first
      | (with_reducible exact ih0 _ _ _)
      | (with_reducible exact ih1 _ _ _)
      | (with_reducible exact ih2 _ _ _ _)
      | (with_reducible exact ih3 _ _ _ _)
      | (with_reducible exact ih4 _ _ _ _)
      | (with_reducible exact LeO.refl _)
      | (with_reducible exact LeO.none _)
      | (with_reducible refine LeO.ite ?_ ?_)
      | (with_reducible refine LeO.bind ?_ (fun _ => ?_))
      | exact ih0 _ _ _
      | exact ih1 _ _ _
      | exact ih2 _ _ _ _
      | exact ih3 _ _ _ _
      | exact ih4 _ _ _ _
      | exact LeO.none _
      | refine LeO.ite ?_ ?_
      | refine LeO.bind ?_ (fun _ => ?_)
    · intro y0 y1 y2 y3
      unfold dns_PrevLabel.j4
      repeat' first
      | (with_reducible exact ih0 _ _ _)
      | (with_reducible exact ih1 _ _ _)
      | (with_reducible exact ih2 _ _ _ _)
      | (with_reducible exact ih3 _ _ _ _)
      | (with_reducible exact ih4 _ _ _ _)
      | (with_reducible exact LeO.refl _)
      | (with_reducible exact LeO.none _)
      | (with_reducible refine LeO.ite ?_ ?_)
      | (with_reducible refine LeO.bind ?_ (fun _ => ?_))
      | exact ih0 _ _ _
      | exact ih1 _ _ _
      | exact ih2 _ _ _ _
      | exact ih3 _ _ _ _
      | exact ih4 _ _ _ _
      | exact LeO.none _
      | refine LeO.ite ?_ ?_
      | refine LeO.bind ?_ (fun _ => ?_)
    · intro y0 y1 y2 y3
      unfold dns_PrevLabel.l1
      repeat' first
      | (with_reducible exact ih0 _ _ _)
      | (with_reducible exact ih1 _ _ _)
      | (with_reducible exact ih2 _ _ _ _)
      | (with_reducible exact ih3 _ _ _ _)
      | (with_reducible exact ih4 _ _ _ _)
      | (with_reducible exact LeO.refl _)
      | (with_reducible exact LeO.none _)
      | (with_reducible refine LeO.ite ?_ ?_)
      | (with_reducible refine LeO.bind ?_ (fun _ => ?_))
      | exact ih0 _ _ _
      | exact ih1 _ _ _
      | exact ih2 _ _ _ _
      | exact ih3 _ _ _ _
      | exact ih4 _ _ _ _
      | exact LeO.none _
      | refine LeO.ite ?_ ?_
      | refine LeO.bind ?_ (fun _ => ?_)
theorem dns_PrevLabel.mono : ∀ a0 a1 k, LeO (dns_PrevLabel.f k a0 a1) (dns_PrevLabel.f (k + 1) a0 a1) := by
  intro a0 a1 k
  obtain ⟨ih0, ih1, ih2, ih3, ih4⟩ := dns_PrevLabel.mono_l k
  unfold dns_PrevLabel.f
  repeat' first
      | (with_reducible exact ih0 _ _ _)
      | (with_reducible exact ih1 _ _ _)
      | (with_reducible exact ih2 _ _ _ _)
      | (with_reducible exact ih3 _ _ _ _)
      | (with_reducible exact ih4 _ _ _ _)
      | (with_reducible exact LeO.refl _)
      | (with_reducible exact LeO.none _)
      | (with_reducible refine LeO.ite ?_ ?_)
      | (with_reducible refine LeO.bind ?_ (fun _ => ?_))
      | exact ih0 _ _ _
      | exact ih1 _ _ _
      | exact ih2 _ _ _ _
      | exact ih3 _ _ _ _
      | exact ih4 _ _ _ _
      | exact LeO.none _
      | refine LeO.ite ?_ ?_
      | refine LeO.bind ?_ (fun _ => ?_)
set_option maxHeartbeats 8000000 in
set_option maxRecDepth 100000 in
theorem dns_PrevLabel.calls (k : Nat) (a0 : ByteArray) (a1 : Int) (r1 : Int) (r2 : Bool) (w : World) (h : dns_PrevLabel.f k a0 a1 = some (r1, r2)) :
    Calls Tryd.prog 58 #[.string a0, .int .i64 a1] w fun e w' => e = .returned (.tuple #[.int .i64 r1, .bool r2]) ∧ Drawn0 w w' := by
  have H : (if a0.toList = ([] : List UInt8) then (some (0, true)) else (if a1 = 0 then (some ((a0.size : Int), false)) else (if 0 ≤ (wrap64 ((a0.size : Int) - 1)) then (if (wrap64 ((a0.size : Int) - 1)) < (a0.size : Int) then (if (bt a0 (wrap64 ((a0.size : Int) - 1))) = 46 then (dns_PrevLabel.j0 k a0 a1 (wrap64 ((wrap64 ((a0.size : Int) - 1)) - 1))) else (dns_PrevLabel.j0 k a0 a1 (wrap64 ((a0.size : Int) - 1)))) else (none)) else (none)))) = some (r1, r2) := h
  clear h
  by_cases c3 : a0.toList = ([] : List UInt8)
  · rw [if_pos c3] at H
    have c3b0 : (a0.toList == ([] : List UInt8)) = true := beq_iff_eq.mpr c3
    have c3b1 : (a0.toList != ([] : List UInt8)) = false := bne_eq_false_iff_eq.mpr c3
    clear c3
    simp only [Option.some.injEq, Prod.mk.injEq] at H
    obtain ⟨rfl, rfl⟩ := H
    go_enter Tryd.func58, Tryd.ntmps58
    go_wp2
    go_ret2
    exact ⟨by first | rfl | (simp; done) | (simp [*]; done) | (simp [wrap64]; done), by repeat (first | exact Drawn0.refl _ | apply Drawn0.step)⟩
  · rw [if_neg c3] at H
    have c3b0 : (a0.toList == ([] : List UInt8)) = false := beq_eq_false_iff_ne.mpr c3
    have c3b1 : (a0.toList != ([] : List UInt8)) = true := bne_iff_ne.mpr c3
    by_cases c4 : a1 = 0
    · rw [if_pos c4] at H
      have c4b0 : (a1 == 0) = true := beq_iff_eq.mpr c4
      have c4b1 : (a1 != 0) = false := bne_eq_false_iff_eq.mpr c4
      clear c4
      simp only [Option.some.injEq, Prod.mk.injEq] at H
      obtain ⟨rfl, rfl⟩ := H
      go_enter Tryd.func58, Tryd.ntmps58
      go_wp2
      go_ret2
      exact ⟨by first | rfl | (simp; done) | (simp [*]; done) | (simp [wrap64]; done), by repeat (first | exact Drawn0.refl _ | apply Drawn0.step)⟩
    · rw [if_neg c4] at H
      have c4b0 : (a1 == 0) = false := beq_eq_false_iff_ne.mpr c4
      have c4b1 : (a1 != 0) = true := bne_iff_ne.mpr c4
      obtain ⟨ji5, hji5⟩ : ∃ j_ : Int, (wrap64 ((a0.size : Int) - 1)) = j_ := ⟨_, rfl⟩
      replace H : (if 0 ≤ (ji5) then (if (ji5) < (a0.size : Int) then (if (bt a0 (ji5)) = 46 then (dns_PrevLabel.j0 k a0 a1 (wrap64 ((ji5) - 1))) else (dns_PrevLabel.j0 k a0 a1 ji5)) else (none)) else (none)) = some (r1, r2) := by first | (rw [hji5] at H; exact H) | (simp only [hji5] at H ⊢; exact H)
      have hji5w : (IntKind.i64.wrap ((a0.size : Int) - 1)) = ji5 := (i64_w _).trans hji5
      by_cases c6 : 0 ≤ (ji5)
      · rw [if_pos c6] at H
        have c6b0 : decide (0 ≤ (ji5)) = true := decide_eq_true c6
        clear c6
        by_cases c7 : (ji5) < (a0.size : Int)
        · rw [if_pos c7] at H
          have c7b0 : decide ((ji5) < (a0.size : Int)) = true := decide_eq_true c7
          clear c7
          have HC9 := Aside0.mk H
          clear H
          have p8 : 0 ≤ ((ji5) : Int) := of_decide_eq_true (by first | (with_reducible assumption) | assumption)
          have q8 : (ji5) < (a0.size : Int) := of_decide_eq_true (by first | (with_reducible assumption) | assumption)
          have hx8 := bt_at a0 (ji5)
          replace p8 := eq_true p8
          replace q8 := eq_true q8
          go_enter Tryd.func58, Tryd.ntmps58
          go_upto_if 20 with (fail)
          go_cut [6] (fun v6 wc => ∃ (kq : Nat) (x6_8 : Int), v6 = .int .i64 x6_8 ∧ Aside0 (dns_PrevLabel.j0 kq a0 a1 x6_8 = some (r1, r2)) ∧ Aside0 (kq ≤ k) ∧ Drawn0 w wc)
          case first =>
            have H := HC9.out
            clear HC9
            by_cases c10 : (bt a0 (ji5)) = 46
            · rw [if_pos c10] at H
              have c10b0 : ((bt a0 (ji5)) == 46) = true := beq_iff_eq.mpr c10
              have c10b1 : ((bt a0 (ji5)) != 46) = false := bne_eq_false_iff_eq.mpr c10
              clear c10
              (first | rw [c10b0] | (simp only [i64_w, i32_w]; rw [c10b0]) | skip)
              have H' := Aside0.mk H
              clear H
              go_wp2
              go_meet
              case rel => exact ⟨_, (wrap64 ((ji5) - 1)), (by first | rfl | (simp; done) | (simp only [← hji5] <;> (first | rfl | simp)) | (simp [*]; done)), H', ⟨by first | omega | exact Nat.le_refl _⟩, by repeat (first | exact Drawn0.refl _ | apply Drawn0.step)⟩
            · rw [if_neg c10] at H
              have c10b0 : ((bt a0 (ji5)) == 46) = false := beq_eq_false_iff_ne.mpr c10
              have c10b1 : ((bt a0 (ji5)) != 46) = true := bne_iff_ne.mpr c10
              (first | rw [c10b0] | (simp only [i64_w, i32_w]; rw [c10b0]) | skip)
              have H' := Aside0.mk H
              clear H
              go_wp2
              go_meet
              case rel => exact ⟨_, (ji5), (by first | rfl | (simp; done) | (simp only [← hji5] <;> (first | rfl | simp)) | (simp [*]; done)), H', ⟨by first | omega | exact Nat.le_refl _⟩, by repeat (first | exact Drawn0.refl _ | apply Drawn0.step)⟩
          case rest =>
            clear HC9
            try clear c1
            try clear p2
            try clear c3
            try clear c3b0
            try clear c3b1
            try clear c4
            try clear c4b0
            try clear c4b1
            try clear c5
            try clear c6
            try clear c6b0
            try clear p6
            try clear c7
            try clear c7b0
            try clear p8
            try clear q8
            try clear hx8
            try clear c10
            try clear c10b0
            try clear c10b1
            try clear p8
            try clear q8
            obtain ⟨kq, x6_8, rfl, HA, HJ8, ⟨mc8, rfl⟩⟩ := hcut
            cases kq with
            | zero => exact absurd HA.out (by simp [dns_PrevLabel.j0])
            | succ kj8 =>
              have H := HA.out
              clear HA
              simp only [dns_PrevLabel.j0] at H
              have H' := Aside0.mk H
              clear H
              go_wp2
              go_loopg [1, 6] kj8 (fun kq v1 v6 w' => ∃ (x1_2 : Int) (x6_2 : Int), v1 = .int .i64 x1_2 ∧ v6 = .int .i64 x6_2 ∧ Aside0 (dns_PrevLabel.l0 kq a0 x1_2 x6_2 = some (r1, r2)) ∧ Aside0 (kq ≤ kj8) ∧ Drawn0 w w')
              case atStart => exact ⟨(a1), (x6_8), (by first | rfl | (simp; done) | (simp [*]; done) | (simp [wrap64]; done)), (by first | rfl | (simp; done) | (simp [*]; done) | (simp [wrap64]; done)), H', ⟨Nat.le_refl _⟩, by repeat (first | exact Drawn0.refl _ | apply Drawn0.step)⟩
              case round =>
                clear H'
                try clear c1
                try clear p2
                try clear c3
                try clear c3b0
                try clear c3b1
                try clear c4
                try clear c4b0
                try clear c4b1
                try clear c5
                try clear c6
                try clear c6b0
                try clear p6
                try clear c7
                try clear c7b0
                try clear c8
                try clear p8
                try clear q8
                try clear hx8
                try clear c10
                try clear c10b0
                try clear c10b1
                try clear p2
                try clear p6
                try clear p8
                try clear q8
                obtain ⟨x1_2, x6_2, rfl, rfl, HA, HK2, ⟨m2, rfl⟩⟩ := hrel
                cases gk with
                | zero => exact absurd HA.out (by simp [dns_PrevLabel.l0])
                | succ k2 =>
                  have H := HA.out
                  clear HA
                  simp only [dns_PrevLabel.l0] at H
                  have HC11 := Aside0.mk H
                  clear H
                  go_upto_region 8 with (fail)
                  go_cut [28] (fun v28 wc => ∃ (kq : Nat) (x28_10 : Bool), v28 = .bool x28_10 ∧ Aside0 (dns_PrevLabel.j2 kq a0 x1_2 x6_2 x28_10 = some (r1, r2)) ∧ Aside0 (kq ≤ k2) ∧ Drawn0 w wc)
                  case first =>
                    have H := HC11.out
                    clear HC11
                    by_cases c12 : x6_2 ≥ 0
                    · rw [if_pos c12] at H
                      have c12b0 : decide (0 ≤ x6_2) = true := decide_eq_true c12
                      clear c12
                      (first | rw [c12b0] | (simp only [i64_w, i32_w]; rw [c12b0]) | skip)
                      have H' := Aside0.mk H
                      clear H
                      go_wp2
                      go_meet
                      case rel => exact ⟨_, (decide (x1_2 > 0)), (by first | rfl | (simp; done) | (simp [*]; done) | (simp [wrap64]; done)), H', ⟨by have := HJ8.out; have := HK2.out; first | omega | exact Nat.le_refl _⟩, by repeat (first | exact Drawn0.refl _ | apply Drawn0.step)⟩
                    · rw [if_neg c12] at H
                      have c12b0 : decide (0 ≤ x6_2) = false := decide_eq_false c12
                      clear c12
                      (first | rw [c12b0] | (simp only [i64_w, i32_w]; rw [c12b0]) | skip)
                      have H' := Aside0.mk H
                      clear H
                      go_wp2
                      go_meet
                      case rel => exact ⟨_, (false), (by first | rfl | (simp; done) | (simp [*]; done) | (simp [wrap64]; done)), H', ⟨by have := HJ8.out; have := HK2.out; first | omega | exact Nat.le_refl _⟩, by repeat (first | exact Drawn0.refl _ | apply Drawn0.step)⟩
                  case rest =>
                    clear HC11
                    try clear c1
                    try clear p2
                    try clear c3
                    try clear c3b0
                    try clear c3b1
                    try clear c4
                    try clear c4b0
                    try clear c4b1
                    try clear c5
                    try clear c6
                    try clear c6b0
                    try clear p6
                    try clear c7
                    try clear c7b0
                    try clear c8
                    try clear p8
                    try clear q8
                    try clear hx8
                    try clear c10
                    try clear c10b0
                    try clear c10b1
                    try clear c12
                    try clear c12b0
                    try clear p2
                    try clear p6
                    try clear p8
                    try clear q8
                    obtain ⟨kq, x28_10, rfl, HA, HJ10, ⟨mc10, rfl⟩⟩ := hcut
                    cases kq with
                    | zero => exact absurd HA.out (by simp [dns_PrevLabel.j2])
                    | succ kj10 =>
                      have H := HA.out
                      clear HA
                      simp only [dns_PrevLabel.j2] at H
                      by_cases c13 : x28_10 = true
                      · subst c13
                        have H1 : (if 0 ≤ x6_2 then (if x6_2 < (a0.size : Int) then (if (bt a0 x6_2) = 46 then (dns_PrevLabel.l1 kj10 a0 x1_2 x6_2 (wrap64 (x6_2 - 1))) else (dns_PrevLabel.l0 kj10 a0 x1_2 (wrap64 (x6_2 - 1)))) else (none)) else (none)) = some (r1, r2) := by rw [if_pos rfl] at H; exact H
                        clear H
                        have H := H1
                        clear H1
                        by_cases c14 : 0 ≤ x6_2
                        · rw [if_pos c14] at H
                          have c14b0 : decide (0 ≤ x6_2) = true := decide_eq_true c14
                          clear c14
                          by_cases c15 : x6_2 < (a0.size : Int)
                          · rw [if_pos c15] at H
                            have c15b0 : decide (x6_2 < (a0.size : Int)) = true := decide_eq_true c15
                            clear c15
                            by_cases c17 : (bt a0 x6_2) = 46
                            · rw [if_pos c17] at H
                              have c17b0 : ((bt a0 x6_2) == 46) = true := beq_iff_eq.mpr c17
                              have c17b1 : ((bt a0 x6_2) != 46) = false := bne_eq_false_iff_eq.mpr c17
                              clear c17
                              have HC18 := Aside0.mk H
                              clear H
                              have p16 : 0 ≤ (x6_2 : Int) := of_decide_eq_true (by first | (with_reducible assumption) | assumption)
                              have q16 : x6_2 < (a0.size : Int) := of_decide_eq_true (by first | (with_reducible assumption) | assumption)
                              have hx16 := bt_at a0 x6_2
                              replace p16 := eq_true p16
                              replace q16 := eq_true q16
                              go_upto_block 2 with (fail)
                              go_cut [7] (fun v7 wc => ∃ (kq : Nat) (x7_17 : Int), v7 = .int .i64 x7_17 ∧ Aside0 (dns_PrevLabel.j4 kq a0 x1_2 x6_2 x7_17 = some (r1, r2)) ∧ Aside0 (kq ≤ kj10) ∧ Drawn0 w wc)
                              case first =>
                                have H := HC18.out
                                clear HC18
                                have H' := Aside0.mk H
                                clear H
                                go_wp2
                                go_loopg [7] kj10 (fun kq v7 w' => ∃ (x7_4 : Int), v7 = .int .i64 x7_4 ∧ Aside0 (dns_PrevLabel.l1 kq a0 x1_2 x6_2 x7_4 = some (r1, r2)) ∧ Aside0 (kq ≤ kj10) ∧ Drawn0 w w')
                                case atStart => exact ⟨(wrap64 (x6_2 - 1)), (by first | rfl | (simp; done) | (simp [*]; done) | (simp [wrap64]; done)), H', ⟨Nat.le_refl _⟩, by repeat (first | exact Drawn0.refl _ | apply Drawn0.step)⟩
                                case round =>
                                  clear H'
                                  try clear c1
                                  try clear p1
                                  try clear q1
                                  try clear hx1
                                  try clear p2
                                  try clear c3
                                  try clear c3b0
                                  try clear c3b1
                                  try clear c4
                                  try clear c4b0
                                  try clear c4b1
                                  try clear c5
                                  try clear c6
                                  try clear c6b0
                                  try clear p6
                                  try clear c7
                                  try clear c7b0
                                  try clear c8
                                  try clear p8
                                  try clear q8
                                  try clear hx8
                                  try clear c10
                                  try clear c10b0
                                  try clear c10b1
                                  try clear c12
                                  try clear c12b0
                                  try clear c13
                                  try clear c14
                                  try clear c14b0
                                  try clear c15
                                  try clear c15b0
                                  try clear p16
                                  try clear q16
                                  try clear hx16
                                  try clear c17
                                  try clear c17b0
                                  try clear c17b1
                                  try clear p16
                                  try clear p2
                                  try clear p6
                                  try clear p8
                                  try clear q16
                                  try clear q8
                                  obtain ⟨x7_4, rfl, HA, HK4, ⟨m4, rfl⟩⟩ := hrel
                                  cases gk with
                                  | zero => exact absurd HA.out (by simp [dns_PrevLabel.l1])
                                  | succ k4 =>
                                    have H := HA.out
                                    clear HA
                                    simp only [dns_PrevLabel.l1] at H
                                    by_cases c19 : x7_4 ≥ 0
                                    · rw [if_pos c19] at H
                                      have c19b0 : decide (0 ≤ x7_4) = true := decide_eq_true c19
                                      clear c19
                                      (first | rw [c19b0] | (simp only [i64_w, i32_w]; rw [c19b0]) | skip)
                                      by_cases c20 : 0 ≤ x7_4
                                      · rw [if_pos c20] at H
                                        have c20b0 : decide (0 ≤ x7_4) = true := decide_eq_true c20
                                        clear c20
                                        by_cases c21 : x7_4 < (a0.size : Int)
                                        · rw [if_pos c21] at H
                                          have c21b0 : decide (x7_4 < (a0.size : Int)) = true := decide_eq_true c21
                                          clear c21
                                          by_cases c23 : (bt a0 x7_4) = 92
                                          · rw [if_pos c23] at H
                                            have c23b0 : ((bt a0 x7_4) == 92) = true := beq_iff_eq.mpr c23
                                            have c23b1 : ((bt a0 x7_4) != 92) = false := bne_eq_false_iff_eq.mpr c23
                                            clear c23
                                            have H' := Aside0.mk H
                                            clear H
                                            have p22 : 0 ≤ (x7_4 : Int) := of_decide_eq_true (by first | (with_reducible assumption) | assumption)
                                            have q22 : x7_4 < (a0.size : Int) := of_decide_eq_true (by first | (with_reducible assumption) | assumption)
                                            have hx22 := bt_at a0 x7_4
                                            replace p22 := eq_true p22
                                            replace q22 := eq_true q22
                                            go_wp2
                                            go_roundg k4
                                            case measure => have := HJ8.out; have := HK2.out; have := HJ10.out; have := HK4.out; omega
                                            case rel => exact ⟨(wrap64 (x7_4 - 1)), (by first | rfl | (simp; done) | (simp [*]; done) | (simp [wrap64]; done)), H', ⟨by have := HJ8.out; have := HK2.out; have := HJ10.out; have := HK4.out; omega⟩, by repeat (first | exact Drawn0.refl _ | apply Drawn0.step)⟩
                                          · rw [if_neg c23] at H
                                            have c23b0 : ((bt a0 x7_4) == 92) = false := beq_eq_false_iff_ne.mpr c23
                                            have c23b1 : ((bt a0 x7_4) != 92) = true := bne_iff_ne.mpr c23
                                            have H' := Aside0.mk H
                                            clear H
                                            have p22 : 0 ≤ (x7_4 : Int) := of_decide_eq_true (by first | (with_reducible assumption) | assumption)
                                            have q22 : x7_4 < (a0.size : Int) := of_decide_eq_true (by first | (with_reducible assumption) | assumption)
                                            have hx22 := bt_at a0 x7_4
                                            replace p22 := eq_true p22
                                            replace q22 := eq_true q22
                                            go_wp2
                                            go_meet
                                            case rel => exact ⟨_, (x7_4), (by first | rfl | (simp; done) | (simp [*]; done) | (simp [wrap64]; done)), H', ⟨by have := HJ8.out; have := HK2.out; have := HJ10.out; have := HK4.out; first | omega | exact Nat.le_refl _⟩, by repeat (first | exact Drawn0.refl _ | apply Drawn0.step)⟩
                                        · rw [if_neg c21] at H
                                          exact absurd H (by simp)
                                      · rw [if_neg c20] at H
                                        exact absurd H (by simp)
                                    · rw [if_neg c19] at H
                                      have c19b0 : decide (0 ≤ x7_4) = false := decide_eq_false c19
                                      clear c19
                                      (first | rw [c19b0] | (simp only [i64_w, i32_w]; rw [c19b0]) | skip)
                                      have H' := Aside0.mk H
                                      clear H
                                      go_wp2
                                      go_meet
                                      case rel => exact ⟨_, (x7_4), (by first | rfl | (simp; done) | (simp [*]; done) | (simp [wrap64]; done)), H', ⟨by have := HJ8.out; have := HK2.out; have := HJ10.out; have := HK4.out; first | omega | exact Nat.le_refl _⟩, by repeat (first | exact Drawn0.refl _ | apply Drawn0.step)⟩
                              case rest =>
                                clear HC18
                                try clear c1
                                try clear p1
                                try clear q1
                                try clear hx1
                                try clear c2
                                try clear p2
                                try clear q2
                                try clear hx2
                                try clear c3
                                try clear c3b0
                                try clear c3b1
                                try clear c4
                                try clear c4b0
                                try clear c4b1
                                try clear c5
                                try clear c6
                                try clear c6b0
                                try clear p6
                                try clear c7
                                try clear c7b0
                                try clear c8
                                try clear p8
                                try clear q8
                                try clear hx8
                                try clear c10
                                try clear c10b0
                                try clear c10b1
                                try clear c12
                                try clear c12b0
                                try clear c13
                                try clear c14
                                try clear c14b0
                                try clear c15
                                try clear c15b0
                                try clear p16
                                try clear q16
                                try clear hx16
                                try clear c17
                                try clear c17b0
                                try clear c17b1
                                try clear c19
                                try clear c19b0
                                try clear c20
                                try clear c20b0
                                try clear c21
                                try clear c21b0
                                try clear p22
                                try clear q22
                                try clear hx22
                                try clear c23
                                try clear c23b0
                                try clear c23b1
                                try clear p1
                                try clear p16
                                try clear p2
                                try clear p22
                                try clear p6
                                try clear p8
                                try clear q1
                                try clear q16
                                try clear q22
                                try clear q8
                                obtain ⟨kq, x7_17, rfl, HA, HJ17, ⟨mc17, rfl⟩⟩ := hcut
                                cases kq with
                                | zero => exact absurd HA.out (by simp [dns_PrevLabel.j4])
                                | succ kj17 =>
                                  have H := HA.out
                                  clear HA
                                  simp only [dns_PrevLabel.j4] at H
                                  by_cases c24 : (Int.tmod (wrap64 (x7_17 - x6_2)) 2) = 0
                                  · rw [if_pos c24] at H
                                    have c24b0 : ((Int.tmod (wrap64 (x7_17 - x6_2)) 2) == 0) = true := beq_iff_eq.mpr c24
                                    have c24b1 : ((Int.tmod (wrap64 (x7_17 - x6_2)) 2) != 0) = false := bne_eq_false_iff_eq.mpr c24
                                    clear c24
                                    have H' := Aside0.mk H
                                    clear H
                                    go_wp2
                                    go_roundg kj17
                                    case measure => have := HJ8.out; have := HK2.out; have := HJ10.out; have := HJ17.out; omega
                                    case rel => exact ⟨(x1_2), (wrap64 (x6_2 - 1)), (by first | rfl | (simp; done) | (simp [*]; done) | (simp [wrap64]; done)), (by first | rfl | (simp; done) | (simp [*]; done) | (simp [wrap64]; done)), H', ⟨by have := HJ8.out; have := HK2.out; have := HJ10.out; have := HJ17.out; omega⟩, by repeat (first | exact Drawn0.refl _ | apply Drawn0.step)⟩
                                  · rw [if_neg c24] at H
                                    have c24b0 : ((Int.tmod (wrap64 (x7_17 - x6_2)) 2) == 0) = false := beq_eq_false_iff_ne.mpr c24
                                    have c24b1 : ((Int.tmod (wrap64 (x7_17 - x6_2)) 2) != 0) = true := bne_iff_ne.mpr c24
                                    by_cases c25 : (wrap64 (x1_2 - 1)) = 0
                                    · rw [if_pos c25] at H
                                      have c25b0 : ((wrap64 (x1_2 - 1)) == 0) = true := beq_iff_eq.mpr c25
                                      have c25b1 : ((wrap64 (x1_2 - 1)) != 0) = false := bne_eq_false_iff_eq.mpr c25
                                      clear c25
                                      simp only [Option.some.injEq, Prod.mk.injEq] at H
                                      obtain ⟨rfl, rfl⟩ := H
                                      go_wp2
                                      go_ret2
                                      exact ⟨by first | rfl | (simp; done) | (simp only [← hji5] <;> (first | rfl | simp)) | (simp [*]; done), by repeat (first | exact Drawn0.refl _ | apply Drawn0.step)⟩
                                    · rw [if_neg c25] at H
                                      have c25b0 : ((wrap64 (x1_2 - 1)) == 0) = false := beq_eq_false_iff_ne.mpr c25
                                      have c25b1 : ((wrap64 (x1_2 - 1)) != 0) = true := bne_iff_ne.mpr c25
                                      have H' := Aside0.mk H
                                      clear H
                                      go_wp2
                                      go_roundg kj17
                                      case measure => have := HJ8.out; have := HK2.out; have := HJ10.out; have := HJ17.out; omega
                                      case rel => exact ⟨(wrap64 (x1_2 - 1)), (wrap64 (x6_2 - 1)), (by first | rfl | (simp; done) | (simp [*]; done) | (simp [wrap64]; done)), (by first | rfl | (simp; done) | (simp [*]; done) | (simp [wrap64]; done)), H', ⟨by have := HJ8.out; have := HK2.out; have := HJ10.out; have := HJ17.out; omega⟩, by repeat (first | exact Drawn0.refl _ | apply Drawn0.step)⟩
                            · rw [if_neg c17] at H
                              have c17b0 : ((bt a0 x6_2) == 46) = false := beq_eq_false_iff_ne.mpr c17
                              have c17b1 : ((bt a0 x6_2) != 46) = true := bne_iff_ne.mpr c17
                              have H' := Aside0.mk H
                              clear H
                              have p16 : 0 ≤ (x6_2 : Int) := of_decide_eq_true (by first | (with_reducible assumption) | assumption)
                              have q16 : x6_2 < (a0.size : Int) := of_decide_eq_true (by first | (with_reducible assumption) | assumption)
                              have hx16 := bt_at a0 x6_2
                              replace p16 := eq_true p16
                              replace q16 := eq_true q16
                              go_wp2
                              go_roundg kj10
                              case measure => have := HJ8.out; have := HK2.out; have := HJ10.out; omega
                              case rel => exact ⟨(x1_2), (wrap64 (x6_2 - 1)), (by first | rfl | (simp; done) | (simp [*]; done) | (simp [wrap64]; done)), (by first | rfl | (simp; done) | (simp [*]; done) | (simp [wrap64]; done)), H', ⟨by have := HJ8.out; have := HK2.out; have := HJ10.out; omega⟩, by repeat (first | exact Drawn0.refl _ | apply Drawn0.step)⟩
                          · rw [if_neg c15] at H
                            exact absurd H (by simp)
                        · rw [if_neg c14] at H
                          exact absurd H (by simp)
                      · replace c13 := Bool.eq_false_iff.mpr c13
                        subst c13
                        have H1 : (some (0, decide (x1_2 > 1))) = some (r1, r2) := by rw [if_neg (show ¬ (false = true) by decide)] at H; exact H
                        clear H
                        have H := H1
                        clear H1
                        simp only [Option.some.injEq, Prod.mk.injEq] at H
                        obtain ⟨rfl, rfl⟩ := H
                        go_wp2
                        go_ret2
                        exact ⟨by first | rfl | (simp; done) | (simp only [← hji5] <;> (first | rfl | simp)) | (simp [*]; done), by repeat (first | exact Drawn0.refl _ | apply Drawn0.step)⟩
        · rw [if_neg c7] at H
          exact absurd H (by simp)
      · rw [if_neg c6] at H
        exact absurd H (by simp)

end Go.Proofs.YtiilihafcdmccaaDoor.P
