-- Written by a program of this session (wip/tools/pprint.py) out of the translation: it goes by the kit's print and by the contracts of YtiilihafcdmccaaHand. Not trusted: Lean checks it.
import Derived.Test.YtiilihafcdmccaaP0
namespace Go.Proofs.Ytiilihafcdmccaa.P
open Go.RowKit Go.Proofs.YtiilihafcdmccaaW.PrintWords Go.Proofs.YtiilihafcdmccaaW.PrintLast Go.Proofs.YtiilihafcdmccaaW.PrintMore
attribute [local go_sem] max2_int min2_int max_two min_two max_three min_three max_four min_four   -- for this text's walks alone
set_option linter.unusedVariables false
set_option linter.unusedSimpArgs false

/-! ### laws_few: function 4 -/
def laws_few.f (a0 : ByteArray) : Option (Bool) := some (decide ((a0.size : Int) ≤ 4096))
set_option maxHeartbeats 8000000 in
set_option maxRecDepth 100000 in
theorem laws_few.calls (a0 : ByteArray) (r : Bool) (w : World) (h : laws_few.f a0 = some r) :
    Calls Try.prog 4 #[.string a0] w fun e w' => e = .returned (.bool r) ∧ Drawn0 w w' := by
  have H : (some (decide ((a0.size : Int) ≤ 4096))) = some r := h
  clear h
  obtain rfl := Option.some.inj H
  go_enter Try.func4, Try.ntmps4
  go_wp2
  go_ret
  exact ⟨by first | rfl | (simp; done) | (simp [*]; done) | (simp [wrap64]; done), by repeat (first | exact Drawn0.refl _ | apply Drawn0.step)⟩

/-! ### laws_ascii: function 5 -/
def laws_ascii.l0 : Nat → ByteArray → Int → Int → Option (Bool)
  | 0, _, _, _ => none
  | k + 1, x0, x5, x6 => if x6 < x5 then (if 0 ≤ x6 then (if x6 < (x0.size : Int) then (if (bt x0 x6) ≥ 128 then (some false) else (laws_ascii.l0 k x0 x5 (wrap64 (x6 + 1)))) else (none)) else (none)) else (some true)
def laws_ascii.f (k : Nat) (a0 : ByteArray) : Option (Bool) := laws_ascii.l0 k a0 (a0.size : Int) 0
theorem laws_ascii.mono_l : ∀ k, (∀ y0 y1 y2, LeO (laws_ascii.l0 k y0 y1 y2) (laws_ascii.l0 (k + 1) y0 y1 y2))
  | 0 => fun _ _ _ r h => by simp [laws_ascii.l0] at h
  | k + 1 => by
    have ih0 := laws_ascii.mono_l k
    · intro y0 y1 y2
      unfold laws_ascii.l0
      repeat' first
      | (with_reducible exact ih0 _ _ _)
      | (with_reducible exact LeO.refl _)
      | (with_reducible exact LeO.none _)
      | (with_reducible refine LeO.ite ?_ ?_)
      | (with_reducible refine LeO.bind ?_ (fun _ => ?_))
      | exact ih0 _ _ _
      | exact LeO.none _
      | refine LeO.ite ?_ ?_
      | refine LeO.bind ?_ (fun _ => ?_)
theorem laws_ascii.mono : ∀ a0 k, LeO (laws_ascii.f k a0) (laws_ascii.f (k + 1) a0) := by
  intro a0 k
  have ih0 := laws_ascii.mono_l k
  unfold laws_ascii.f
  repeat' first
      | (with_reducible exact ih0 _ _ _)
      | (with_reducible exact LeO.refl _)
      | (with_reducible exact LeO.none _)
      | (with_reducible refine LeO.ite ?_ ?_)
      | (with_reducible refine LeO.bind ?_ (fun _ => ?_))
      | exact ih0 _ _ _
      | exact LeO.none _
      | refine LeO.ite ?_ ?_
      | refine LeO.bind ?_ (fun _ => ?_)
set_option maxHeartbeats 8000000 in
set_option maxRecDepth 100000 in
theorem laws_ascii.calls (k : Nat) (a0 : ByteArray) (r : Bool) (w : World) (h : laws_ascii.f k a0 = some r) :
    Calls Try.prog 5 #[.string a0] w fun e w' => e = .returned (.bool r) ∧ Drawn0 w w' := by
  have H : (laws_ascii.l0 k a0 (a0.size : Int) 0) = some r := h
  clear h
  have H' := Aside0.mk H
  clear H
  go_enter Try.func5, Try.ntmps5
  go_wp2
  go_loopg [6] k (fun kq v6 w' => ∃ (x6_1 : Int), v6 = .int .i64 x6_1 ∧ Aside0 (laws_ascii.l0 kq a0 (a0.size : Int) x6_1 = some r) ∧ Aside0 (kq ≤ k) ∧ Drawn0 w w')
  case atStart => exact ⟨(0), (by first | rfl | (simp; done) | (simp [*]; done) | (simp [wrap64]; done)), H', ⟨Nat.le_refl _⟩, by repeat (first | exact Drawn0.refl _ | apply Drawn0.step)⟩
  case round =>
    clear H'
    obtain ⟨x6_1, rfl, HA, HK1, ⟨m1, rfl⟩⟩ := hrel
    cases gk with
    | zero => exact absurd HA.out (by simp [laws_ascii.l0])
    | succ k1 =>
      have H := HA.out
      clear HA
      simp only [laws_ascii.l0] at H
      by_cases c2 : x6_1 < (a0.size : Int)
      · rw [if_pos c2] at H
        have c2b0 : decide (x6_1 < (a0.size : Int)) = true := decide_eq_true c2
        clear c2
        by_cases c3 : 0 ≤ x6_1
        · rw [if_pos c3] at H
          have c3b0 : decide (0 ≤ x6_1) = true := decide_eq_true c3
          clear c3
          by_cases c4 : x6_1 < (a0.size : Int)
          · rw [if_pos c4] at H
            have c4b0 : decide (x6_1 < (a0.size : Int)) = true := decide_eq_true c4
            clear c4
            by_cases c6 : (bt a0 x6_1) ≥ 128
            · rw [if_pos c6] at H
              have c6b0 : decide (128 ≤ (bt a0 x6_1)) = true := decide_eq_true c6
              clear c6
              obtain rfl := Option.some.inj H
              have p5 : 0 ≤ (x6_1 : Int) := of_decide_eq_true (by first | (with_reducible assumption) | assumption)
              have q5 : x6_1 < (a0.size : Int) := of_decide_eq_true (by first | (with_reducible assumption) | assumption)
              have hx5 := bt_at a0 x6_1
              replace p5 := eq_true p5
              replace q5 := eq_true q5
              go_wp2
              go_ret
              exact ⟨by first | rfl | (simp; done) | (simp [*]; done) | (simp [wrap64]; done), by repeat (first | exact Drawn0.refl _ | apply Drawn0.step)⟩
            · rw [if_neg c6] at H
              have c6b0 : decide (128 ≤ (bt a0 x6_1)) = false := decide_eq_false c6
              clear c6
              have H' := Aside0.mk H
              clear H
              have p5 : 0 ≤ (x6_1 : Int) := of_decide_eq_true (by first | (with_reducible assumption) | assumption)
              have q5 : x6_1 < (a0.size : Int) := of_decide_eq_true (by first | (with_reducible assumption) | assumption)
              have hx5 := bt_at a0 x6_1
              replace p5 := eq_true p5
              replace q5 := eq_true q5
              go_wp2
              go_roundg k1
              case measure => have := HK1.out; omega
              case rel => exact ⟨(wrap64 (x6_1 + 1)), (by first | rfl | (simp; done) | (simp [*]; done) | (simp [wrap64]; done)), H', ⟨by have := HK1.out; omega⟩, by repeat (first | exact Drawn0.refl _ | apply Drawn0.step)⟩
          · rw [if_neg c4] at H
            exact absurd H (by simp)
        · rw [if_neg c3] at H
          exact absurd H (by simp)
      · rw [if_neg c2] at H
        have c2b0 : decide (x6_1 < (a0.size : Int)) = false := decide_eq_false c2
        clear c2
        obtain rfl := Option.some.inj H
        go_wp2
        go_ret
        exact ⟨by first | rfl | (simp; done) | (simp [*]; done) | (simp [wrap64]; done), by repeat (first | exact Drawn0.refl _ | apply Drawn0.step)⟩

/-! ### spec_isDigit: function 21 -/
def spec_isDigit.f (a0 : Int) : Option (Bool) := if a0 ≥ 48 then (some (decide (a0 ≤ 57))) else (some false)
set_option maxHeartbeats 8000000 in
set_option maxRecDepth 100000 in
theorem spec_isDigit.calls (a0 : Int) (r : Bool) (w : World) (h : spec_isDigit.f a0 = some r) :
    Calls Try.prog 21 #[.int .u8 a0] w fun e w' => e = .returned (.bool r) ∧ Drawn0 w w' := by
  have H : (if a0 ≥ 48 then (some (decide (a0 ≤ 57))) else (some false)) = some r := h
  clear h
  by_cases c2 : a0 ≥ 48
  · rw [if_pos c2] at H
    have c2b0 : decide (48 ≤ a0) = true := decide_eq_true c2
    clear c2
    obtain rfl := Option.some.inj H
    go_enter Try.func21, Try.ntmps21
    go_wp2
    go_ret
    exact ⟨by first | rfl | (simp; done) | (simp [*]; done) | (simp [wrap64]; done), by repeat (first | exact Drawn0.refl _ | apply Drawn0.step)⟩
  · rw [if_neg c2] at H
    have c2b0 : decide (48 ≤ a0) = false := decide_eq_false c2
    clear c2
    obtain rfl := Option.some.inj H
    go_enter Try.func21, Try.ntmps21
    go_wp2
    go_ret
    exact ⟨by first | rfl | (simp; done) | (simp [*]; done) | (simp [wrap64]; done), by repeat (first | exact Drawn0.refl _ | apply Drawn0.step)⟩

/-! ### spec_escaped: function 15 -/
def spec_escaped.f (a0 : ByteArray) (a1 : Int) : Option (Int × Int × Bool × Bool) := if 0 ≤ a1 then (if a1 < (a0.size : Int) then (if (bt a0 a1) = 92 then (if (wrap64 (a1 + 1)) ≥ (a0.size : Int) then (some (0, 0, false, false)) else (if 0 ≤ (wrap64 (a1 + 1)) then (if (wrap64 (a1 + 1)) < (a0.size : Int) then ((spec_isDigit.f (bt a0 (wrap64 (a1 + 1)))).bind fun t101 => (if t101 = true then (if (wrap64 (a1 + 3)) ≥ (a0.size : Int) then (some (0, 0, false, false)) else (if 0 ≤ (wrap64 (a1 + 2)) then (if (wrap64 (a1 + 2)) < (a0.size : Int) then ((spec_isDigit.f (bt a0 (wrap64 (a1 + 2)))).bind fun t102 => (if t102 = true then (if 0 ≤ (wrap64 (a1 + 3)) then (if (wrap64 (a1 + 3)) < (a0.size : Int) then ((spec_isDigit.f (bt a0 (wrap64 (a1 + 3)))).bind fun t103 => (if t103 = true then (some (((((((bt a0 (wrap64 (a1 + 1))) - 48) % 256) * 100) + ((((bt a0 (wrap64 (a1 + 2))) - 48) % 256) * 10)) + (((bt a0 (wrap64 (a1 + 3))) - 48) % 256)) % 256, wrap64 (a1 + 4), false, decide (((((((bt a0 (wrap64 (a1 + 1))) - 48) % 256) * 100) + ((((bt a0 (wrap64 (a1 + 2))) - 48) % 256) * 10)) + (((bt a0 (wrap64 (a1 + 3))) - 48) % 256)) < 256))) else (some (0, 0, false, false)))) else (none)) else (none)) else (some (0, 0, false, false)))) else (none)) else (none))) else (some (bt a0 (wrap64 (a1 + 1)), wrap64 (a1 + 2), false, true)))) else (none)) else (none))) else (some (bt a0 a1, wrap64 (a1 + 1), true, true))) else (none)) else (none)
set_option maxHeartbeats 8000000 in
set_option maxRecDepth 100000 in
theorem spec_escaped.calls (a0 : ByteArray) (a1 : Int) (r1 : Int) (r2 : Int) (r3 : Bool) (r4 : Bool) (w : World) (h : spec_escaped.f a0 a1 = some (r1, r2, r3, r4)) :
    Calls Try.prog 15 #[.string a0, .int .i64 a1] w fun e w' => e = .returned (.tuple #[.int .u8 r1, .int .i64 r2, .bool r3, .bool r4]) ∧ Drawn0 w w' := by
  have H : (if 0 ≤ a1 then (if a1 < (a0.size : Int) then (if (bt a0 a1) = 92 then (if (wrap64 (a1 + 1)) ≥ (a0.size : Int) then (some (0, 0, false, false)) else (if 0 ≤ (wrap64 (a1 + 1)) then (if (wrap64 (a1 + 1)) < (a0.size : Int) then ((spec_isDigit.f (bt a0 (wrap64 (a1 + 1)))).bind fun t101 => (if t101 = true then (if (wrap64 (a1 + 3)) ≥ (a0.size : Int) then (some (0, 0, false, false)) else (if 0 ≤ (wrap64 (a1 + 2)) then (if (wrap64 (a1 + 2)) < (a0.size : Int) then ((spec_isDigit.f (bt a0 (wrap64 (a1 + 2)))).bind fun t102 => (if t102 = true then (if 0 ≤ (wrap64 (a1 + 3)) then (if (wrap64 (a1 + 3)) < (a0.size : Int) then ((spec_isDigit.f (bt a0 (wrap64 (a1 + 3)))).bind fun t103 => (if t103 = true then (some (((((((bt a0 (wrap64 (a1 + 1))) - 48) % 256) * 100) + ((((bt a0 (wrap64 (a1 + 2))) - 48) % 256) * 10)) + (((bt a0 (wrap64 (a1 + 3))) - 48) % 256)) % 256, wrap64 (a1 + 4), false, decide (((((((bt a0 (wrap64 (a1 + 1))) - 48) % 256) * 100) + ((((bt a0 (wrap64 (a1 + 2))) - 48) % 256) * 10)) + (((bt a0 (wrap64 (a1 + 3))) - 48) % 256)) < 256))) else (some (0, 0, false, false)))) else (none)) else (none)) else (some (0, 0, false, false)))) else (none)) else (none))) else (some (bt a0 (wrap64 (a1 + 1)), wrap64 (a1 + 2), false, true)))) else (none)) else (none))) else (some (bt a0 a1, wrap64 (a1 + 1), true, true))) else (none)) else (none)) = some (r1, r2, r3, r4) := h
  clear h
  by_cases c3 : 0 ≤ a1
  · rw [if_pos c3] at H
    have c3b0 : decide (0 ≤ a1) = true := decide_eq_true c3
    clear c3
    by_cases c4 : a1 < (a0.size : Int)
    · rw [if_pos c4] at H
      have c4b0 : decide (a1 < (a0.size : Int)) = true := decide_eq_true c4
      clear c4
      by_cases c6 : (bt a0 a1) = 92
      · rw [if_pos c6] at H
        have c6b0 : ((bt a0 a1) == 92) = true := beq_iff_eq.mpr c6
        have c6b1 : ((bt a0 a1) != 92) = false := bne_eq_false_iff_eq.mpr c6
        clear c6
        by_cases c7 : (wrap64 (a1 + 1)) ≥ (a0.size : Int)
        · rw [if_pos c7] at H
          have c7b0 : decide ((a0.size : Int) ≤ (wrap64 (a1 + 1))) = true := decide_eq_true c7
          clear c7
          simp only [Option.some.injEq, Prod.mk.injEq] at H
          obtain ⟨rfl, rfl, rfl, rfl⟩ := H
          have p5 : 0 ≤ (a1 : Int) := of_decide_eq_true (by first | (with_reducible assumption) | assumption)
          have q5 : a1 < (a0.size : Int) := of_decide_eq_true (by first | (with_reducible assumption) | assumption)
          have hx5 := bt_at a0 a1
          replace p5 := eq_true p5
          replace q5 := eq_true q5
          go_enter Try.func15, Try.ntmps15
          go_wp2
          repeat (go_quiet (fail); try go_wp2)
          refine bodyPost_ret (results_list (rs := [.tmp 4, .tmp 5, .tmp 6, .tmp 7]) rfl (by simp) (.tmp (.tmp (.tmp (.tmp .nil))))) rfl ?_
          exact ⟨by first | rfl | (simp; done) | (simp [*]; done) | (simp [wrap64]; done), by repeat (first | exact Drawn0.refl _ | apply Drawn0.step)⟩
        · rw [if_neg c7] at H
          have c7b0 : decide ((a0.size : Int) ≤ (wrap64 (a1 + 1))) = false := decide_eq_false c7
          clear c7
          obtain ⟨ji8, hji8⟩ : ∃ j_ : Int, (wrap64 (a1 + 1)) = j_ := ⟨_, rfl⟩
          replace H : (if 0 ≤ (ji8) then (if (ji8) < (a0.size : Int) then ((spec_isDigit.f (bt a0 (ji8))).bind fun t101 => (if t101 = true then (if (wrap64 (a1 + 3)) ≥ (a0.size : Int) then (some (0, 0, false, false)) else (if 0 ≤ (wrap64 (a1 + 2)) then (if (wrap64 (a1 + 2)) < (a0.size : Int) then ((spec_isDigit.f (bt a0 (wrap64 (a1 + 2)))).bind fun t102 => (if t102 = true then (if 0 ≤ (wrap64 (a1 + 3)) then (if (wrap64 (a1 + 3)) < (a0.size : Int) then ((spec_isDigit.f (bt a0 (wrap64 (a1 + 3)))).bind fun t103 => (if t103 = true then (some (((((((bt a0 (ji8)) - 48) % 256) * 100) + ((((bt a0 (wrap64 (a1 + 2))) - 48) % 256) * 10)) + (((bt a0 (wrap64 (a1 + 3))) - 48) % 256)) % 256, wrap64 (a1 + 4), false, decide (((((((bt a0 (ji8)) - 48) % 256) * 100) + ((((bt a0 (wrap64 (a1 + 2))) - 48) % 256) * 10)) + (((bt a0 (wrap64 (a1 + 3))) - 48) % 256)) < 256))) else (some (0, 0, false, false)))) else (none)) else (none)) else (some (0, 0, false, false)))) else (none)) else (none))) else (some (bt a0 (ji8), wrap64 (a1 + 2), false, true)))) else (none)) else (none)) = some (r1, r2, r3, r4) := by first | (rw [hji8] at H; exact H) | (simp only [hji8] at H ⊢; exact H)
          (try rw [hji8] at c7b0)
          have hji8w : (IntKind.i64.wrap (a1 + 1)) = ji8 := (i64_w _).trans hji8
          by_cases c9 : 0 ≤ (ji8)
          · rw [if_pos c9] at H
            have c9b0 : decide (0 ≤ (ji8)) = true := decide_eq_true c9
            clear c9
            by_cases c10 : (ji8) < (a0.size : Int)
            · rw [if_pos c10] at H
              have c10b0 : decide ((ji8) < (a0.size : Int)) = true := decide_eq_true c10
              clear c10
              replace H := Option.bind_eq_some_iff.mp H
              obtain ⟨t101, A120, H⟩ := H
              replace H : (if t101 = true then (if (wrap64 (a1 + 3)) ≥ (a0.size : Int) then (some (0, 0, false, false)) else (if 0 ≤ (wrap64 (a1 + 2)) then (if (wrap64 (a1 + 2)) < (a0.size : Int) then ((spec_isDigit.f (bt a0 (wrap64 (a1 + 2)))).bind fun t102 => (if t102 = true then (if 0 ≤ (wrap64 (a1 + 3)) then (if (wrap64 (a1 + 3)) < (a0.size : Int) then ((spec_isDigit.f (bt a0 (wrap64 (a1 + 3)))).bind fun t103 => (if t103 = true then (some (((((((bt a0 (ji8)) - 48) % 256) * 100) + ((((bt a0 (wrap64 (a1 + 2))) - 48) % 256) * 10)) + (((bt a0 (wrap64 (a1 + 3))) - 48) % 256)) % 256, wrap64 (a1 + 4), false, decide (((((((bt a0 (ji8)) - 48) % 256) * 100) + ((((bt a0 (wrap64 (a1 + 2))) - 48) % 256) * 10)) + (((bt a0 (wrap64 (a1 + 3))) - 48) % 256)) < 256))) else (some (0, 0, false, false)))) else (none)) else (none)) else (some (0, 0, false, false)))) else (none)) else (none))) else (some (bt a0 (ji8), wrap64 (a1 + 2), false, true))) = some (r1, r2, r3, r4) := H
              have A12 := Aside0.mk A120
              clear A120
              by_cases c13 : t101 = true
              · subst c13
                have H1 : (if (wrap64 (a1 + 3)) ≥ (a0.size : Int) then (some (0, 0, false, false)) else (if 0 ≤ (wrap64 (a1 + 2)) then (if (wrap64 (a1 + 2)) < (a0.size : Int) then ((spec_isDigit.f (bt a0 (wrap64 (a1 + 2)))).bind fun t102 => (if t102 = true then (if 0 ≤ (wrap64 (a1 + 3)) then (if (wrap64 (a1 + 3)) < (a0.size : Int) then ((spec_isDigit.f (bt a0 (wrap64 (a1 + 3)))).bind fun t103 => (if t103 = true then (some (((((((bt a0 (ji8)) - 48) % 256) * 100) + ((((bt a0 (wrap64 (a1 + 2))) - 48) % 256) * 10)) + (((bt a0 (wrap64 (a1 + 3))) - 48) % 256)) % 256, wrap64 (a1 + 4), false, decide (((((((bt a0 (ji8)) - 48) % 256) * 100) + ((((bt a0 (wrap64 (a1 + 2))) - 48) % 256) * 10)) + (((bt a0 (wrap64 (a1 + 3))) - 48) % 256)) < 256))) else (some (0, 0, false, false)))) else (none)) else (none)) else (some (0, 0, false, false)))) else (none)) else (none))) = some (r1, r2, r3, r4) := by rw [if_pos rfl] at H; exact H
                clear H
                have H := H1
                clear H1
                by_cases c14 : (wrap64 (a1 + 3)) ≥ (a0.size : Int)
                · rw [if_pos c14] at H
                  have c14b0 : decide ((a0.size : Int) ≤ (wrap64 (a1 + 3))) = true := decide_eq_true c14
                  clear c14
                  simp only [Option.some.injEq, Prod.mk.injEq] at H
                  obtain ⟨rfl, rfl, rfl, rfl⟩ := H
                  have p5 : 0 ≤ (a1 : Int) := of_decide_eq_true (by first | (with_reducible assumption) | assumption)
                  have q5 : a1 < (a0.size : Int) := of_decide_eq_true (by first | (with_reducible assumption) | assumption)
                  have hx5 := bt_at a0 a1
                  replace p5 := eq_true p5
                  replace q5 := eq_true q5
                  have p11 : 0 ≤ ((ji8) : Int) := of_decide_eq_true (by first | (with_reducible assumption) | assumption)
                  have q11 : (ji8) < (a0.size : Int) := of_decide_eq_true (by first | (with_reducible assumption) | assumption)
                  have hx11 := bt_at a0 (ji8)
                  replace p11 := eq_true p11
                  replace q11 := eq_true q11
                  go_enter Try.func15, Try.ntmps15
                  go_wp2_with (first | (go_at_call 21; (with_reducible refine (spec_isDigit.calls (bt a0 (ji8)) true _ A12.out).mono ?_); rintro e w' ⟨rfl, ⟨nd, rfl⟩⟩; (try first | exact ⟨rfl, _, World.drewN_drewN _ _ _⟩ | exact ⟨rfl, _, Eq.trans (World.drewN_drewN _ _ _) (congrArg (World.drewN _) (Nat.add_assoc _ _ _))⟩)))
                  repeat (go_quiet (first | (go_at_call 21; (with_reducible refine (spec_isDigit.calls (bt a0 (ji8)) true _ A12.out).mono ?_); rintro e w' ⟨rfl, ⟨nd, rfl⟩⟩; (try first | exact ⟨rfl, _, World.drewN_drewN _ _ _⟩ | exact ⟨rfl, _, Eq.trans (World.drewN_drewN _ _ _) (congrArg (World.drewN _) (Nat.add_assoc _ _ _))⟩))); try go_wp2_with (first | (go_at_call 21; (with_reducible refine (spec_isDigit.calls (bt a0 (ji8)) true _ A12.out).mono ?_); rintro e w' ⟨rfl, ⟨nd, rfl⟩⟩; (try first | exact ⟨rfl, _, World.drewN_drewN _ _ _⟩ | exact ⟨rfl, _, Eq.trans (World.drewN_drewN _ _ _) (congrArg (World.drewN _) (Nat.add_assoc _ _ _))⟩))))
                  refine bodyPost_ret (results_list (rs := [.tmp 4, .tmp 5, .tmp 6, .tmp 7]) rfl (by simp) (.tmp (.tmp (.tmp (.tmp .nil))))) rfl ?_
                  exact ⟨by first | rfl | (simp; done) | (simp only [← hji8] <;> (first | rfl | simp)) | (simp [*]; done), by repeat (first | exact Drawn0.refl _ | apply Drawn0.step)⟩
                · rw [if_neg c14] at H
                  have c14b0 : decide ((a0.size : Int) ≤ (wrap64 (a1 + 3))) = false := decide_eq_false c14
                  clear c14
                  obtain ⟨ji15, hji15⟩ : ∃ j_ : Int, (wrap64 (a1 + 2)) = j_ := ⟨_, rfl⟩
                  replace H : (if 0 ≤ (ji15) then (if (ji15) < (a0.size : Int) then ((spec_isDigit.f (bt a0 (ji15))).bind fun t102 => (if t102 = true then (if 0 ≤ (wrap64 (a1 + 3)) then (if (wrap64 (a1 + 3)) < (a0.size : Int) then ((spec_isDigit.f (bt a0 (wrap64 (a1 + 3)))).bind fun t103 => (if t103 = true then (some (((((((bt a0 (ji8)) - 48) % 256) * 100) + ((((bt a0 (ji15)) - 48) % 256) * 10)) + (((bt a0 (wrap64 (a1 + 3))) - 48) % 256)) % 256, wrap64 (a1 + 4), false, decide (((((((bt a0 (ji8)) - 48) % 256) * 100) + ((((bt a0 (ji15)) - 48) % 256) * 10)) + (((bt a0 (wrap64 (a1 + 3))) - 48) % 256)) < 256))) else (some (0, 0, false, false)))) else (none)) else (none)) else (some (0, 0, false, false)))) else (none)) else (none)) = some (r1, r2, r3, r4) := by first | (rw [hji15] at H; exact H) | (simp only [hji15] at H ⊢; exact H)
                  (try rw [hji15] at A12)
                  have hji15w : (IntKind.i64.wrap (a1 + 2)) = ji15 := (i64_w _).trans hji15
                  by_cases c16 : 0 ≤ (ji15)
                  · rw [if_pos c16] at H
                    have c16b0 : decide (0 ≤ (ji15)) = true := decide_eq_true c16
                    clear c16
                    by_cases c17 : (ji15) < (a0.size : Int)
                    · rw [if_pos c17] at H
                      have c17b0 : decide ((ji15) < (a0.size : Int)) = true := decide_eq_true c17
                      clear c17
                      replace H := Option.bind_eq_some_iff.mp H
                      obtain ⟨t102, A190, H⟩ := H
                      replace H : (if t102 = true then (if 0 ≤ (wrap64 (a1 + 3)) then (if (wrap64 (a1 + 3)) < (a0.size : Int) then ((spec_isDigit.f (bt a0 (wrap64 (a1 + 3)))).bind fun t103 => (if t103 = true then (some (((((((bt a0 (ji8)) - 48) % 256) * 100) + ((((bt a0 (ji15)) - 48) % 256) * 10)) + (((bt a0 (wrap64 (a1 + 3))) - 48) % 256)) % 256, wrap64 (a1 + 4), false, decide (((((((bt a0 (ji8)) - 48) % 256) * 100) + ((((bt a0 (ji15)) - 48) % 256) * 10)) + (((bt a0 (wrap64 (a1 + 3))) - 48) % 256)) < 256))) else (some (0, 0, false, false)))) else (none)) else (none)) else (some (0, 0, false, false))) = some (r1, r2, r3, r4) := H
                      have A19 := Aside0.mk A190
                      clear A190
                      by_cases c20 : t102 = true
                      · subst c20
                        have H1 : (if 0 ≤ (wrap64 (a1 + 3)) then (if (wrap64 (a1 + 3)) < (a0.size : Int) then ((spec_isDigit.f (bt a0 (wrap64 (a1 + 3)))).bind fun t103 => (if t103 = true then (some (((((((bt a0 (ji8)) - 48) % 256) * 100) + ((((bt a0 (ji15)) - 48) % 256) * 10)) + (((bt a0 (wrap64 (a1 + 3))) - 48) % 256)) % 256, wrap64 (a1 + 4), false, decide (((((((bt a0 (ji8)) - 48) % 256) * 100) + ((((bt a0 (ji15)) - 48) % 256) * 10)) + (((bt a0 (wrap64 (a1 + 3))) - 48) % 256)) < 256))) else (some (0, 0, false, false)))) else (none)) else (none)) = some (r1, r2, r3, r4) := by rw [if_pos rfl] at H; exact H
                        clear H
                        have H := H1
                        clear H1
                        obtain ⟨ji21, hji21⟩ : ∃ j_ : Int, (wrap64 (a1 + 3)) = j_ := ⟨_, rfl⟩
                        replace H : (if 0 ≤ (ji21) then (if (ji21) < (a0.size : Int) then ((spec_isDigit.f (bt a0 (ji21))).bind fun t103 => (if t103 = true then (some (((((((bt a0 (ji8)) - 48) % 256) * 100) + ((((bt a0 (ji15)) - 48) % 256) * 10)) + (((bt a0 (ji21)) - 48) % 256)) % 256, wrap64 (a1 + 4), false, decide (((((((bt a0 (ji8)) - 48) % 256) * 100) + ((((bt a0 (ji15)) - 48) % 256) * 10)) + (((bt a0 (ji21)) - 48) % 256)) < 256))) else (some (0, 0, false, false)))) else (none)) else (none)) = some (r1, r2, r3, r4) := by first | (rw [hji21] at H; exact H) | (simp only [hji21] at H ⊢; exact H)
                        (try rw [hji21] at c14b0)
                        (try rw [hji21] at A12)
                        (try rw [hji21] at A19)
                        have hji21w : (IntKind.i64.wrap (a1 + 3)) = ji21 := (i64_w _).trans hji21
                        by_cases c22 : 0 ≤ (ji21)
                        · rw [if_pos c22] at H
                          have c22b0 : decide (0 ≤ (ji21)) = true := decide_eq_true c22
                          clear c22
                          by_cases c23 : (ji21) < (a0.size : Int)
                          · rw [if_pos c23] at H
                            have c23b0 : decide ((ji21) < (a0.size : Int)) = true := decide_eq_true c23
                            clear c23
                            replace H := Option.bind_eq_some_iff.mp H
                            obtain ⟨t103, A250, H⟩ := H
                            replace H : (if t103 = true then (some (((((((bt a0 (ji8)) - 48) % 256) * 100) + ((((bt a0 (ji15)) - 48) % 256) * 10)) + (((bt a0 (ji21)) - 48) % 256)) % 256, wrap64 (a1 + 4), false, decide (((((((bt a0 (ji8)) - 48) % 256) * 100) + ((((bt a0 (ji15)) - 48) % 256) * 10)) + (((bt a0 (ji21)) - 48) % 256)) < 256))) else (some (0, 0, false, false))) = some (r1, r2, r3, r4) := H
                            have A25 := Aside0.mk A250
                            clear A250
                            by_cases c26 : t103 = true
                            · subst c26
                              have H1 : (some (((((((bt a0 (ji8)) - 48) % 256) * 100) + ((((bt a0 (ji15)) - 48) % 256) * 10)) + (((bt a0 (ji21)) - 48) % 256)) % 256, wrap64 (a1 + 4), false, decide (((((((bt a0 (ji8)) - 48) % 256) * 100) + ((((bt a0 (ji15)) - 48) % 256) * 10)) + (((bt a0 (ji21)) - 48) % 256)) < 256))) = some (r1, r2, r3, r4) := by rw [if_pos rfl] at H; exact H
                              clear H
                              have H := H1
                              clear H1
                              simp only [Option.some.injEq, Prod.mk.injEq] at H
                              obtain ⟨rfl, rfl, rfl, rfl⟩ := H
                              have p5 : 0 ≤ (a1 : Int) := of_decide_eq_true (by first | (with_reducible assumption) | assumption)
                              have q5 : a1 < (a0.size : Int) := of_decide_eq_true (by first | (with_reducible assumption) | assumption)
                              have hx5 := bt_at a0 a1
                              replace p5 := eq_true p5
                              replace q5 := eq_true q5
                              have p11 : 0 ≤ ((ji8) : Int) := of_decide_eq_true (by first | (with_reducible assumption) | assumption)
                              have q11 : (ji8) < (a0.size : Int) := of_decide_eq_true (by first | (with_reducible assumption) | assumption)
                              have hx11 := bt_at a0 (ji8)
                              replace p11 := eq_true p11
                              replace q11 := eq_true q11
                              go_enter Try.func15, Try.ntmps15
                              go_wp2_with (first | (go_at_call 21; (with_reducible refine (spec_isDigit.calls (bt a0 (ji8)) true _ A12.out).mono ?_); rintro e w' ⟨rfl, ⟨nd, rfl⟩⟩; (try first | exact ⟨rfl, _, World.drewN_drewN _ _ _⟩ | exact ⟨rfl, _, Eq.trans (World.drewN_drewN _ _ _) (congrArg (World.drewN _) (Nat.add_assoc _ _ _))⟩); have p18 : 0 ≤ ((ji15) : Int) := of_decide_eq_true (by first | (with_reducible assumption) | assumption); have q18 : (ji15) < (a0.size : Int) := of_decide_eq_true (by first | (with_reducible assumption) | assumption); have hx18 := bt_at a0 (ji15); replace p18 := eq_true p18; replace q18 := eq_true q18) | (go_at_call 21; (with_reducible refine (spec_isDigit.calls (bt a0 (ji15)) true _ A19.out).mono ?_); rintro e w' ⟨rfl, ⟨nd, rfl⟩⟩; (try first | exact ⟨rfl, _, World.drewN_drewN _ _ _⟩ | exact ⟨rfl, _, Eq.trans (World.drewN_drewN _ _ _) (congrArg (World.drewN _) (Nat.add_assoc _ _ _))⟩); have p24 : 0 ≤ ((ji21) : Int) := of_decide_eq_true (by first | (with_reducible assumption) | assumption); have q24 : (ji21) < (a0.size : Int) := of_decide_eq_true (by first | (with_reducible assumption) | assumption); have hx24 := bt_at a0 (ji21); replace p24 := eq_true p24; replace q24 := eq_true q24) | (go_at_call 21; (with_reducible refine (spec_isDigit.calls (bt a0 (ji21)) true _ A25.out).mono ?_); rintro e w' ⟨rfl, ⟨nd, rfl⟩⟩; (try first | exact ⟨rfl, _, World.drewN_drewN _ _ _⟩ | exact ⟨rfl, _, Eq.trans (World.drewN_drewN _ _ _) (congrArg (World.drewN _) (Nat.add_assoc _ _ _))⟩); have p27 : 0 ≤ ((ji8) : Int) := of_decide_eq_true (by first | (with_reducible assumption) | assumption); have q27 : (ji8) < (a0.size : Int) := of_decide_eq_true (by first | (with_reducible assumption) | assumption); have hx27 := bt_at a0 (ji8); replace p27 := eq_true p27; replace q27 := eq_true q27; have p28 : 0 ≤ ((ji15) : Int) := of_decide_eq_true (by first | (with_reducible assumption) | assumption); have q28 : (ji15) < (a0.size : Int) := of_decide_eq_true (by first | (with_reducible assumption) | assumption); have hx28 := bt_at a0 (ji15); replace p28 := eq_true p28; replace q28 := eq_true q28; have p29 : 0 ≤ ((ji21) : Int) := of_decide_eq_true (by first | (with_reducible assumption) | assumption); have q29 : (ji21) < (a0.size : Int) := of_decide_eq_true (by first | (with_reducible assumption) | assumption); have hx29 := bt_at a0 (ji21); replace p29 := eq_true p29; replace q29 := eq_true q29))
                              repeat (go_quiet (first | (go_at_call 21; (with_reducible refine (spec_isDigit.calls (bt a0 (ji8)) true _ A12.out).mono ?_); rintro e w' ⟨rfl, ⟨nd, rfl⟩⟩; (try first | exact ⟨rfl, _, World.drewN_drewN _ _ _⟩ | exact ⟨rfl, _, Eq.trans (World.drewN_drewN _ _ _) (congrArg (World.drewN _) (Nat.add_assoc _ _ _))⟩); have p18 : 0 ≤ ((ji15) : Int) := of_decide_eq_true (by first | (with_reducible assumption) | assumption); have q18 : (ji15) < (a0.size : Int) := of_decide_eq_true (by first | (with_reducible assumption) | assumption); have hx18 := bt_at a0 (ji15); replace p18 := eq_true p18; replace q18 := eq_true q18) | (go_at_call 21; (with_reducible refine (spec_isDigit.calls (bt a0 (ji15)) true _ A19.out).mono ?_); rintro e w' ⟨rfl, ⟨nd, rfl⟩⟩; (try first | exact ⟨rfl, _, World.drewN_drewN _ _ _⟩ | exact ⟨rfl, _, Eq.trans (World.drewN_drewN _ _ _) (congrArg (World.drewN _) (Nat.add_assoc _ _ _))⟩); have p24 : 0 ≤ ((ji21) : Int) := of_decide_eq_true (by first | (with_reducible assumption) | assumption); have q24 : (ji21) < (a0.size : Int) := of_decide_eq_true (by first | (with_reducible assumption) | assumption); have hx24 := bt_at a0 (ji21); replace p24 := eq_true p24; replace q24 := eq_true q24) | (go_at_call 21; (with_reducible refine (spec_isDigit.calls (bt a0 (ji21)) true _ A25.out).mono ?_); rintro e w' ⟨rfl, ⟨nd, rfl⟩⟩; (try first | exact ⟨rfl, _, World.drewN_drewN _ _ _⟩ | exact ⟨rfl, _, Eq.trans (World.drewN_drewN _ _ _) (congrArg (World.drewN _) (Nat.add_assoc _ _ _))⟩); have p27 : 0 ≤ ((ji8) : Int) := of_decide_eq_true (by first | (with_reducible assumption) | assumption); have q27 : (ji8) < (a0.size : Int) := of_decide_eq_true (by first | (with_reducible assumption) | assumption); have hx27 := bt_at a0 (ji8); replace p27 := eq_true p27; replace q27 := eq_true q27; have p28 : 0 ≤ ((ji15) : Int) := of_decide_eq_true (by first | (with_reducible assumption) | assumption); have q28 : (ji15) < (a0.size : Int) := of_decide_eq_true (by first | (with_reducible assumption) | assumption); have hx28 := bt_at a0 (ji15); replace p28 := eq_true p28; replace q28 := eq_true q28; have p29 : 0 ≤ ((ji21) : Int) := of_decide_eq_true (by first | (with_reducible assumption) | assumption); have q29 : (ji21) < (a0.size : Int) := of_decide_eq_true (by first | (with_reducible assumption) | assumption); have hx29 := bt_at a0 (ji21); replace p29 := eq_true p29; replace q29 := eq_true q29)); try go_wp2_with (first | (go_at_call 21; (with_reducible refine (spec_isDigit.calls (bt a0 (ji8)) true _ A12.out).mono ?_); rintro e w' ⟨rfl, ⟨nd, rfl⟩⟩; (try first | exact ⟨rfl, _, World.drewN_drewN _ _ _⟩ | exact ⟨rfl, _, Eq.trans (World.drewN_drewN _ _ _) (congrArg (World.drewN _) (Nat.add_assoc _ _ _))⟩); have p18 : 0 ≤ ((ji15) : Int) := of_decide_eq_true (by first | (with_reducible assumption) | assumption); have q18 : (ji15) < (a0.size : Int) := of_decide_eq_true (by first | (with_reducible assumption) | assumption); have hx18 := bt_at a0 (ji15); replace p18 := eq_true p18; replace q18 := eq_true q18) | (go_at_call 21; (with_reducible refine (spec_isDigit.calls (bt a0 (ji15)) true _ A19.out).mono ?_); rintro e w' ⟨rfl, ⟨nd, rfl⟩⟩; (try first | exact ⟨rfl, _, World.drewN_drewN _ _ _⟩ | exact ⟨rfl, _, Eq.trans (World.drewN_drewN _ _ _) (congrArg (World.drewN _) (Nat.add_assoc _ _ _))⟩); have p24 : 0 ≤ ((ji21) : Int) := of_decide_eq_true (by first | (with_reducible assumption) | assumption); have q24 : (ji21) < (a0.size : Int) := of_decide_eq_true (by first | (with_reducible assumption) | assumption); have hx24 := bt_at a0 (ji21); replace p24 := eq_true p24; replace q24 := eq_true q24) | (go_at_call 21; (with_reducible refine (spec_isDigit.calls (bt a0 (ji21)) true _ A25.out).mono ?_); rintro e w' ⟨rfl, ⟨nd, rfl⟩⟩; (try first | exact ⟨rfl, _, World.drewN_drewN _ _ _⟩ | exact ⟨rfl, _, Eq.trans (World.drewN_drewN _ _ _) (congrArg (World.drewN _) (Nat.add_assoc _ _ _))⟩); have p27 : 0 ≤ ((ji8) : Int) := of_decide_eq_true (by first | (with_reducible assumption) | assumption); have q27 : (ji8) < (a0.size : Int) := of_decide_eq_true (by first | (with_reducible assumption) | assumption); have hx27 := bt_at a0 (ji8); replace p27 := eq_true p27; replace q27 := eq_true q27; have p28 : 0 ≤ ((ji15) : Int) := of_decide_eq_true (by first | (with_reducible assumption) | assumption); have q28 : (ji15) < (a0.size : Int) := of_decide_eq_true (by first | (with_reducible assumption) | assumption); have hx28 := bt_at a0 (ji15); replace p28 := eq_true p28; replace q28 := eq_true q28; have p29 : 0 ≤ ((ji21) : Int) := of_decide_eq_true (by first | (with_reducible assumption) | assumption); have q29 : (ji21) < (a0.size : Int) := of_decide_eq_true (by first | (with_reducible assumption) | assumption); have hx29 := bt_at a0 (ji21); replace p29 := eq_true p29; replace q29 := eq_true q29)))
                              refine bodyPost_ret (results_list (rs := [.tmp 4, .tmp 5, .tmp 6, .tmp 7]) rfl (by simp) (.tmp (.tmp (.tmp (.tmp .nil))))) rfl ?_
                              exact ⟨by first | rfl | (simp; done) | (simp only [← hji8, ← hji15, ← hji21] <;> (first | rfl | simp)) | (simp [*]; done), by repeat (first | exact Drawn0.refl _ | apply Drawn0.step)⟩
                            · replace c26 := Bool.eq_false_iff.mpr c26
                              subst c26
                              have H1 : (some (0, 0, false, false)) = some (r1, r2, r3, r4) := by rw [if_neg (show ¬ (false = true) by decide)] at H; exact H
                              clear H
                              have H := H1
                              clear H1
                              simp only [Option.some.injEq, Prod.mk.injEq] at H
                              obtain ⟨rfl, rfl, rfl, rfl⟩ := H
                              have p5 : 0 ≤ (a1 : Int) := of_decide_eq_true (by first | (with_reducible assumption) | assumption)
                              have q5 : a1 < (a0.size : Int) := of_decide_eq_true (by first | (with_reducible assumption) | assumption)
                              have hx5 := bt_at a0 a1
                              replace p5 := eq_true p5
                              replace q5 := eq_true q5
                              have p11 : 0 ≤ ((ji8) : Int) := of_decide_eq_true (by first | (with_reducible assumption) | assumption)
                              have q11 : (ji8) < (a0.size : Int) := of_decide_eq_true (by first | (with_reducible assumption) | assumption)
                              have hx11 := bt_at a0 (ji8)
                              replace p11 := eq_true p11
                              replace q11 := eq_true q11
                              go_enter Try.func15, Try.ntmps15
                              go_wp2_with (first | (go_at_call 21; (with_reducible refine (spec_isDigit.calls (bt a0 (ji8)) true _ A12.out).mono ?_); rintro e w' ⟨rfl, ⟨nd, rfl⟩⟩; (try first | exact ⟨rfl, _, World.drewN_drewN _ _ _⟩ | exact ⟨rfl, _, Eq.trans (World.drewN_drewN _ _ _) (congrArg (World.drewN _) (Nat.add_assoc _ _ _))⟩); have p18 : 0 ≤ ((ji15) : Int) := of_decide_eq_true (by first | (with_reducible assumption) | assumption); have q18 : (ji15) < (a0.size : Int) := of_decide_eq_true (by first | (with_reducible assumption) | assumption); have hx18 := bt_at a0 (ji15); replace p18 := eq_true p18; replace q18 := eq_true q18) | (go_at_call 21; (with_reducible refine (spec_isDigit.calls (bt a0 (ji15)) true _ A19.out).mono ?_); rintro e w' ⟨rfl, ⟨nd, rfl⟩⟩; (try first | exact ⟨rfl, _, World.drewN_drewN _ _ _⟩ | exact ⟨rfl, _, Eq.trans (World.drewN_drewN _ _ _) (congrArg (World.drewN _) (Nat.add_assoc _ _ _))⟩); have p24 : 0 ≤ ((ji21) : Int) := of_decide_eq_true (by first | (with_reducible assumption) | assumption); have q24 : (ji21) < (a0.size : Int) := of_decide_eq_true (by first | (with_reducible assumption) | assumption); have hx24 := bt_at a0 (ji21); replace p24 := eq_true p24; replace q24 := eq_true q24) | (go_at_call 21; (with_reducible refine (spec_isDigit.calls (bt a0 (ji21)) false _ A25.out).mono ?_); rintro e w' ⟨rfl, ⟨nd, rfl⟩⟩; (try first | exact ⟨rfl, _, World.drewN_drewN _ _ _⟩ | exact ⟨rfl, _, Eq.trans (World.drewN_drewN _ _ _) (congrArg (World.drewN _) (Nat.add_assoc _ _ _))⟩)))
                              repeat (go_quiet (first | (go_at_call 21; (with_reducible refine (spec_isDigit.calls (bt a0 (ji8)) true _ A12.out).mono ?_); rintro e w' ⟨rfl, ⟨nd, rfl⟩⟩; (try first | exact ⟨rfl, _, World.drewN_drewN _ _ _⟩ | exact ⟨rfl, _, Eq.trans (World.drewN_drewN _ _ _) (congrArg (World.drewN _) (Nat.add_assoc _ _ _))⟩); have p18 : 0 ≤ ((ji15) : Int) := of_decide_eq_true (by first | (with_reducible assumption) | assumption); have q18 : (ji15) < (a0.size : Int) := of_decide_eq_true (by first | (with_reducible assumption) | assumption); have hx18 := bt_at a0 (ji15); replace p18 := eq_true p18; replace q18 := eq_true q18) | (go_at_call 21; (with_reducible refine (spec_isDigit.calls (bt a0 (ji15)) true _ A19.out).mono ?_); rintro e w' ⟨rfl, ⟨nd, rfl⟩⟩; (try first | exact ⟨rfl, _, World.drewN_drewN _ _ _⟩ | exact ⟨rfl, _, Eq.trans (World.drewN_drewN _ _ _) (congrArg (World.drewN _) (Nat.add_assoc _ _ _))⟩); have p24 : 0 ≤ ((ji21) : Int) := of_decide_eq_true (by first | (with_reducible assumption) | assumption); have q24 : (ji21) < (a0.size : Int) := of_decide_eq_true (by first | (with_reducible assumption) | assumption); have hx24 := bt_at a0 (ji21); replace p24 := eq_true p24; replace q24 := eq_true q24) | (go_at_call 21; (with_reducible refine (spec_isDigit.calls (bt a0 (ji21)) false _ A25.out).mono ?_); rintro e w' ⟨rfl, ⟨nd, rfl⟩⟩; (try first | exact ⟨rfl, _, World.drewN_drewN _ _ _⟩ | exact ⟨rfl, _, Eq.trans (World.drewN_drewN _ _ _) (congrArg (World.drewN _) (Nat.add_assoc _ _ _))⟩))); try go_wp2_with (first | (go_at_call 21; (with_reducible refine (spec_isDigit.calls (bt a0 (ji8)) true _ A12.out).mono ?_); rintro e w' ⟨rfl, ⟨nd, rfl⟩⟩; (try first | exact ⟨rfl, _, World.drewN_drewN _ _ _⟩ | exact ⟨rfl, _, Eq.trans (World.drewN_drewN _ _ _) (congrArg (World.drewN _) (Nat.add_assoc _ _ _))⟩); have p18 : 0 ≤ ((ji15) : Int) := of_decide_eq_true (by first | (with_reducible assumption) | assumption); have q18 : (ji15) < (a0.size : Int) := of_decide_eq_true (by first | (with_reducible assumption) | assumption); have hx18 := bt_at a0 (ji15); replace p18 := eq_true p18; replace q18 := eq_true q18) | (go_at_call 21; (with_reducible refine (spec_isDigit.calls (bt a0 (ji15)) true _ A19.out).mono ?_); rintro e w' ⟨rfl, ⟨nd, rfl⟩⟩; (try first | exact ⟨rfl, _, World.drewN_drewN _ _ _⟩ | exact ⟨rfl, _, Eq.trans (World.drewN_drewN _ _ _) (congrArg (World.drewN _) (Nat.add_assoc _ _ _))⟩); have p24 : 0 ≤ ((ji21) : Int) := of_decide_eq_true (by first | (with_reducible assumption) | assumption); have q24 : (ji21) < (a0.size : Int) := of_decide_eq_true (by first | (with_reducible assumption) | assumption); have hx24 := bt_at a0 (ji21); replace p24 := eq_true p24; replace q24 := eq_true q24) | (go_at_call 21; (with_reducible refine (spec_isDigit.calls (bt a0 (ji21)) false _ A25.out).mono ?_); rintro e w' ⟨rfl, ⟨nd, rfl⟩⟩; (try first | exact ⟨rfl, _, World.drewN_drewN _ _ _⟩ | exact ⟨rfl, _, Eq.trans (World.drewN_drewN _ _ _) (congrArg (World.drewN _) (Nat.add_assoc _ _ _))⟩))))
                              refine bodyPost_ret (results_list (rs := [.tmp 4, .tmp 5, .tmp 6, .tmp 7]) rfl (by simp) (.tmp (.tmp (.tmp (.tmp .nil))))) rfl ?_
                              exact ⟨by first | rfl | (simp; done) | (simp only [← hji8, ← hji15, ← hji21] <;> (first | rfl | simp)) | (simp [*]; done), by repeat (first | exact Drawn0.refl _ | apply Drawn0.step)⟩
                          · rw [if_neg c23] at H
                            exact absurd H (by simp)
                        · rw [if_neg c22] at H
                          exact absurd H (by simp)
                      · replace c20 := Bool.eq_false_iff.mpr c20
                        subst c20
                        have H1 : (some (0, 0, false, false)) = some (r1, r2, r3, r4) := by rw [if_neg (show ¬ (false = true) by decide)] at H; exact H
                        clear H
                        have H := H1
                        clear H1
                        simp only [Option.some.injEq, Prod.mk.injEq] at H
                        obtain ⟨rfl, rfl, rfl, rfl⟩ := H
                        have p5 : 0 ≤ (a1 : Int) := of_decide_eq_true (by first | (with_reducible assumption) | assumption)
                        have q5 : a1 < (a0.size : Int) := of_decide_eq_true (by first | (with_reducible assumption) | assumption)
                        have hx5 := bt_at a0 a1
                        replace p5 := eq_true p5
                        replace q5 := eq_true q5
                        have p11 : 0 ≤ ((ji8) : Int) := of_decide_eq_true (by first | (with_reducible assumption) | assumption)
                        have q11 : (ji8) < (a0.size : Int) := of_decide_eq_true (by first | (with_reducible assumption) | assumption)
                        have hx11 := bt_at a0 (ji8)
                        replace p11 := eq_true p11
                        replace q11 := eq_true q11
                        go_enter Try.func15, Try.ntmps15
                        go_wp2_with (first | (go_at_call 21; (with_reducible refine (spec_isDigit.calls (bt a0 (ji8)) true _ A12.out).mono ?_); rintro e w' ⟨rfl, ⟨nd, rfl⟩⟩; (try first | exact ⟨rfl, _, World.drewN_drewN _ _ _⟩ | exact ⟨rfl, _, Eq.trans (World.drewN_drewN _ _ _) (congrArg (World.drewN _) (Nat.add_assoc _ _ _))⟩); have p18 : 0 ≤ ((ji15) : Int) := of_decide_eq_true (by first | (with_reducible assumption) | assumption); have q18 : (ji15) < (a0.size : Int) := of_decide_eq_true (by first | (with_reducible assumption) | assumption); have hx18 := bt_at a0 (ji15); replace p18 := eq_true p18; replace q18 := eq_true q18) | (go_at_call 21; (with_reducible refine (spec_isDigit.calls (bt a0 (ji15)) false _ A19.out).mono ?_); rintro e w' ⟨rfl, ⟨nd, rfl⟩⟩; (try first | exact ⟨rfl, _, World.drewN_drewN _ _ _⟩ | exact ⟨rfl, _, Eq.trans (World.drewN_drewN _ _ _) (congrArg (World.drewN _) (Nat.add_assoc _ _ _))⟩)))
                        repeat (go_quiet (first | (go_at_call 21; (with_reducible refine (spec_isDigit.calls (bt a0 (ji8)) true _ A12.out).mono ?_); rintro e w' ⟨rfl, ⟨nd, rfl⟩⟩; (try first | exact ⟨rfl, _, World.drewN_drewN _ _ _⟩ | exact ⟨rfl, _, Eq.trans (World.drewN_drewN _ _ _) (congrArg (World.drewN _) (Nat.add_assoc _ _ _))⟩); have p18 : 0 ≤ ((ji15) : Int) := of_decide_eq_true (by first | (with_reducible assumption) | assumption); have q18 : (ji15) < (a0.size : Int) := of_decide_eq_true (by first | (with_reducible assumption) | assumption); have hx18 := bt_at a0 (ji15); replace p18 := eq_true p18; replace q18 := eq_true q18) | (go_at_call 21; (with_reducible refine (spec_isDigit.calls (bt a0 (ji15)) false _ A19.out).mono ?_); rintro e w' ⟨rfl, ⟨nd, rfl⟩⟩; (try first | exact ⟨rfl, _, World.drewN_drewN _ _ _⟩ | exact ⟨rfl, _, Eq.trans (World.drewN_drewN _ _ _) (congrArg (World.drewN _) (Nat.add_assoc _ _ _))⟩))); try go_wp2_with (first | (go_at_call 21; (with_reducible refine (spec_isDigit.calls (bt a0 (ji8)) true _ A12.out).mono ?_); rintro e w' ⟨rfl, ⟨nd, rfl⟩⟩; (try first | exact ⟨rfl, _, World.drewN_drewN _ _ _⟩ | exact ⟨rfl, _, Eq.trans (World.drewN_drewN _ _ _) (congrArg (World.drewN _) (Nat.add_assoc _ _ _))⟩); have p18 : 0 ≤ ((ji15) : Int) := of_decide_eq_true (by first | (with_reducible assumption) | assumption); have q18 : (ji15) < (a0.size : Int) := of_decide_eq_true (by first | (with_reducible assumption) | assumption); have hx18 := bt_at a0 (ji15); replace p18 := eq_true p18; replace q18 := eq_true q18) | (go_at_call 21; (with_reducible refine (spec_isDigit.calls (bt a0 (ji15)) false _ A19.out).mono ?_); rintro e w' ⟨rfl, ⟨nd, rfl⟩⟩; (try first | exact ⟨rfl, _, World.drewN_drewN _ _ _⟩ | exact ⟨rfl, _, Eq.trans (World.drewN_drewN _ _ _) (congrArg (World.drewN _) (Nat.add_assoc _ _ _))⟩))))
                        refine bodyPost_ret (results_list (rs := [.tmp 4, .tmp 5, .tmp 6, .tmp 7]) rfl (by simp) (.tmp (.tmp (.tmp (.tmp .nil))))) rfl ?_
                        exact ⟨by first | rfl | (simp; done) | (simp only [← hji8, ← hji15] <;> (first | rfl | simp)) | (simp [*]; done), by repeat (first | exact Drawn0.refl _ | apply Drawn0.step)⟩
                    · rw [if_neg c17] at H
                      exact absurd H (by simp)
                  · rw [if_neg c16] at H
                    exact absurd H (by simp)
              · replace c13 := Bool.eq_false_iff.mpr c13
                subst c13
                have H1 : (some (bt a0 (ji8), wrap64 (a1 + 2), false, true)) = some (r1, r2, r3, r4) := by rw [if_neg (show ¬ (false = true) by decide)] at H; exact H
                clear H
                have H := H1
                clear H1
                simp only [Option.some.injEq, Prod.mk.injEq] at H
                obtain ⟨rfl, rfl, rfl, rfl⟩ := H
                have p5 : 0 ≤ (a1 : Int) := of_decide_eq_true (by first | (with_reducible assumption) | assumption)
                have q5 : a1 < (a0.size : Int) := of_decide_eq_true (by first | (with_reducible assumption) | assumption)
                have hx5 := bt_at a0 a1
                replace p5 := eq_true p5
                replace q5 := eq_true q5
                have p11 : 0 ≤ ((ji8) : Int) := of_decide_eq_true (by first | (with_reducible assumption) | assumption)
                have q11 : (ji8) < (a0.size : Int) := of_decide_eq_true (by first | (with_reducible assumption) | assumption)
                have hx11 := bt_at a0 (ji8)
                replace p11 := eq_true p11
                replace q11 := eq_true q11
                go_enter Try.func15, Try.ntmps15
                go_wp2_with (first | (go_at_call 21; (with_reducible refine (spec_isDigit.calls (bt a0 (ji8)) false _ A12.out).mono ?_); rintro e w' ⟨rfl, ⟨nd, rfl⟩⟩; (try first | exact ⟨rfl, _, World.drewN_drewN _ _ _⟩ | exact ⟨rfl, _, Eq.trans (World.drewN_drewN _ _ _) (congrArg (World.drewN _) (Nat.add_assoc _ _ _))⟩); have p30 : 0 ≤ ((ji8) : Int) := of_decide_eq_true (by first | (with_reducible assumption) | assumption); have q30 : (ji8) < (a0.size : Int) := of_decide_eq_true (by first | (with_reducible assumption) | assumption); have hx30 := bt_at a0 (ji8); replace p30 := eq_true p30; replace q30 := eq_true q30))
                repeat (go_quiet (first | (go_at_call 21; (with_reducible refine (spec_isDigit.calls (bt a0 (ji8)) false _ A12.out).mono ?_); rintro e w' ⟨rfl, ⟨nd, rfl⟩⟩; (try first | exact ⟨rfl, _, World.drewN_drewN _ _ _⟩ | exact ⟨rfl, _, Eq.trans (World.drewN_drewN _ _ _) (congrArg (World.drewN _) (Nat.add_assoc _ _ _))⟩); have p30 : 0 ≤ ((ji8) : Int) := of_decide_eq_true (by first | (with_reducible assumption) | assumption); have q30 : (ji8) < (a0.size : Int) := of_decide_eq_true (by first | (with_reducible assumption) | assumption); have hx30 := bt_at a0 (ji8); replace p30 := eq_true p30; replace q30 := eq_true q30)); try go_wp2_with (first | (go_at_call 21; (with_reducible refine (spec_isDigit.calls (bt a0 (ji8)) false _ A12.out).mono ?_); rintro e w' ⟨rfl, ⟨nd, rfl⟩⟩; (try first | exact ⟨rfl, _, World.drewN_drewN _ _ _⟩ | exact ⟨rfl, _, Eq.trans (World.drewN_drewN _ _ _) (congrArg (World.drewN _) (Nat.add_assoc _ _ _))⟩); have p30 : 0 ≤ ((ji8) : Int) := of_decide_eq_true (by first | (with_reducible assumption) | assumption); have q30 : (ji8) < (a0.size : Int) := of_decide_eq_true (by first | (with_reducible assumption) | assumption); have hx30 := bt_at a0 (ji8); replace p30 := eq_true p30; replace q30 := eq_true q30)))
                refine bodyPost_ret (results_list (rs := [.tmp 4, .tmp 5, .tmp 6, .tmp 7]) rfl (by simp) (.tmp (.tmp (.tmp (.tmp .nil))))) rfl ?_
                exact ⟨by first | rfl | (simp; done) | (simp only [← hji8] <;> (first | rfl | simp)) | (simp [*]; done), by repeat (first | exact Drawn0.refl _ | apply Drawn0.step)⟩
            · rw [if_neg c10] at H
              exact absurd H (by simp)
          · rw [if_neg c9] at H
            exact absurd H (by simp)
      · rw [if_neg c6] at H
        have c6b0 : ((bt a0 a1) == 92) = false := beq_eq_false_iff_ne.mpr c6
        have c6b1 : ((bt a0 a1) != 92) = true := bne_iff_ne.mpr c6
        simp only [Option.some.injEq, Prod.mk.injEq] at H
        obtain ⟨rfl, rfl, rfl, rfl⟩ := H
        have p5 : 0 ≤ (a1 : Int) := of_decide_eq_true (by first | (with_reducible assumption) | assumption)
        have q5 : a1 < (a0.size : Int) := of_decide_eq_true (by first | (with_reducible assumption) | assumption)
        have hx5 := bt_at a0 a1
        replace p5 := eq_true p5
        replace q5 := eq_true q5
        have p31 : 0 ≤ (a1 : Int) := of_decide_eq_true (by first | (with_reducible assumption) | assumption)
        have q31 : a1 < (a0.size : Int) := of_decide_eq_true (by first | (with_reducible assumption) | assumption)
        have hx31 := bt_at a0 a1
        replace p31 := eq_true p31
        replace q31 := eq_true q31
        go_enter Try.func15, Try.ntmps15
        go_wp2
        repeat (go_quiet (fail); try go_wp2)
        refine bodyPost_ret (results_list (rs := [.tmp 4, .tmp 5, .tmp 6, .tmp 7]) rfl (by simp) (.tmp (.tmp (.tmp (.tmp .nil))))) rfl ?_
        exact ⟨by first | rfl | (simp; done) | (simp [*]; done) | (simp [wrap64]; done), by repeat (first | exact Drawn0.refl _ | apply Drawn0.step)⟩
    · rw [if_neg c4] at H
      exact absurd H (by simp)
  · rw [if_neg c3] at H
    exact absurd H (by simp)

/-! ### spec_Name_Size: function 22 -/
def spec_Name_Size.l0 : Nat → Int → List ByteArray → Int → Int → Option (Int)
  | 0, _, _, _, _ => none
  | k + 1, x3, x6, x7, x8 => if x8 < x7 then (if 0 ≤ x8 then (if x8 < (x6.length : Int) then (spec_Name_Size.l0 k (wrap64 (x3 + (wrap64 (1 + ((rdOf ByteArray.empty x6 x8).size : Int))))) x6 x7 (wrap64 (x8 + 1))) else (none)) else (none)) else (some x3)
def spec_Name_Size.f (k : Nat) (l0 : List ByteArray) : Option (Int) := spec_Name_Size.l0 k 1 l0 (l0.length : Int) 0
theorem spec_Name_Size.mono_l : ∀ k, (∀ y0 y1 y2 y3, LeO (spec_Name_Size.l0 k y0 y1 y2 y3) (spec_Name_Size.l0 (k + 1) y0 y1 y2 y3))
  | 0 => fun _ _ _ _ r h => by simp [spec_Name_Size.l0] at h
  | k + 1 => by
    have ih0 := spec_Name_Size.mono_l k
    · intro y0 y1 y2 y3
      unfold spec_Name_Size.l0
      repeat' first
      | (with_reducible exact ih0 _ _ _ _)
      | (with_reducible exact LeO.refl _)
      | (with_reducible exact LeO.none _)
      | (with_reducible refine LeO.ite ?_ ?_)
      | (with_reducible refine LeO.bind ?_ (fun _ => ?_))
      | exact ih0 _ _ _ _
      | exact LeO.none _
      | refine LeO.ite ?_ ?_
      | refine LeO.bind ?_ (fun _ => ?_)
theorem spec_Name_Size.mono : ∀ a0 k, LeO (spec_Name_Size.f k a0) (spec_Name_Size.f (k + 1) a0) := by
  intro a0 k
  have ih0 := spec_Name_Size.mono_l k
  unfold spec_Name_Size.f
  repeat' first
      | (with_reducible exact ih0 _ _ _ _)
      | (with_reducible exact LeO.refl _)
      | (with_reducible exact LeO.none _)
      | (with_reducible refine LeO.ite ?_ ?_)
      | (with_reducible refine LeO.bind ?_ (fun _ => ?_))
      | exact ih0 _ _ _ _
      | exact LeO.none _
      | refine LeO.ite ?_ ?_
      | refine LeO.bind ?_ (fun _ => ?_)
set_option maxHeartbeats 8000000 in
set_option maxRecDepth 100000 in
theorem spec_Name_Size.calls (k : Nat) (A0 : Option Addr) (c0 : Nat) (l0 : List ByteArray) (r : Int) (w : World) (hr0 : Kd.C Kd.string w A0 l0.length l0) (hc0 : l0.length ≤ c0) (h : spec_Name_Size.f k l0 = some r) :
    Calls Try.prog 22 #[.slice A0 l0.length c0] w fun e w' => e = .returned (.int .i64 r) ∧ Drawn0 w w' := by
  have HR0 := Aside0.mk hr0
  have HC0 := Aside0.mk hc0
  clear hr0 hc0
  have H : (spec_Name_Size.l0 k 1 l0 (l0.length : Int) 0) = some r := h
  clear h
  have H' := Aside0.mk H
  clear H
  go_enter Try.func22, Try.ntmps22
  go_wp2
  go_loopg [3, 8] k (fun kq v3 v8 w' => ∃ (x3_1 : Int) (x8_1 : Int), v3 = .int .i64 x3_1 ∧ v8 = .int .i64 x8_1 ∧ Aside0 (spec_Name_Size.l0 kq x3_1 l0 (l0.length : Int) x8_1 = some r) ∧ Aside0 (kq ≤ k) ∧ Drawn0 w w')
  case atStart => exact ⟨(1), (0), (by first | rfl | (simp; done) | (simp [*]; done) | (simp [wrap64]; done)), (by first | rfl | (simp; done) | (simp [*]; done) | (simp [wrap64]; done)), H', ⟨Nat.le_refl _⟩, by repeat (first | exact Drawn0.refl _ | apply Drawn0.step)⟩
  case round =>
    clear H'
    obtain ⟨x3_1, x8_1, rfl, rfl, HA, HK1, ⟨m1, rfl⟩⟩ := hrel
    cases gk with
    | zero => exact absurd HA.out (by simp [spec_Name_Size.l0])
    | succ k1 =>
      have H := HA.out
      clear HA
      simp only [spec_Name_Size.l0] at H
      by_cases c2 : x8_1 < (l0.length : Int)
      · rw [if_pos c2] at H
        have c2b0 : decide (x8_1 < (l0.length : Int)) = true := decide_eq_true c2
        clear c2
        by_cases c3 : 0 ≤ x8_1
        · rw [if_pos c3] at H
          have c3b0 : decide (0 ≤ x8_1) = true := decide_eq_true c3
          clear c3
          by_cases c4 : x8_1 < (l0.length : Int)
          · rw [if_pos c4] at H
            have c4b0 : decide (x8_1 < (l0.length : Int)) = true := decide_eq_true c4
            clear c4
            have H' := Aside0.mk H
            clear H
            have p104 : 0 ≤ (x8_1 : Int) := of_decide_eq_true (by first | (with_reducible assumption) | assumption)
            have q104 : x8_1 < (l0.length : Int) := of_decide_eq_true (by first | (with_reducible assumption) | assumption)
            obtain ⟨ad104, e104, hx104_0⟩ := Kd.at_string HR0.out x8_1 p104 q104
            cases e104
            replace p104 := eq_true p104
            replace q104 := eq_true q104
            go_wp2
            go_roundg k1
            case measure => have := HK1.out; omega
            case rel => exact ⟨(wrap64 (x3_1 + (wrap64 (1 + ((rdOf ByteArray.empty l0 x8_1).size : Int))))), (wrap64 (x8_1 + 1)), (by first | rfl | (simp; done) | (simp [*]; done) | (simp [wrap64]; done)), (by first | rfl | (simp; done) | (simp [*]; done) | (simp [wrap64]; done)), H', ⟨by have := HK1.out; omega⟩, by repeat (first | exact Drawn0.refl _ | apply Drawn0.step)⟩
          · rw [if_neg c4] at H
            exact absurd H (by simp)
        · rw [if_neg c3] at H
          exact absurd H (by simp)
      · rw [if_neg c2] at H
        have c2b0 : decide (x8_1 < (l0.length : Int)) = false := decide_eq_false c2
        clear c2
        obtain rfl := Option.some.inj H
        go_wp2
        go_ret
        exact ⟨by first | rfl | (simp; done) | (simp [*]; done) | (simp [wrap64]; done), by repeat (first | exact Drawn0.refl _ | apply Drawn0.step)⟩

/-! ### spec_Name_Valid: function 16 -/
def spec_Name_Valid.l0 : Nat → List ByteArray → List ByteArray → Int → Int → Option (Bool)
  | 0, _, _, _, _ => none
  | k + 1, x0, x5, x6, x7 => if x7 < x6 then (if 0 ≤ x7 then (if x7 < (x5.length : Int) then (if ((rdOf ByteArray.empty x5 x7).size : Int) = 0 then (some false) else (if ((rdOf ByteArray.empty x5 x7).size : Int) > 63 then (some false) else (spec_Name_Valid.l0 k x0 x5 x6 (wrap64 (x7 + 1))))) else (none)) else (none)) else ((spec_Name_Size.f k x0).bind fun t106 => (some (decide (t106 ≤ 255))))
def spec_Name_Valid.f (k : Nat) (l0 : List ByteArray) : Option (Bool) := spec_Name_Valid.l0 k l0 l0 (l0.length : Int) 0
theorem spec_Name_Valid.mono_l : ∀ k, (∀ y0 y1 y2 y3, LeO (spec_Name_Valid.l0 k y0 y1 y2 y3) (spec_Name_Valid.l0 (k + 1) y0 y1 y2 y3))
  | 0 => fun _ _ _ _ r h => by simp [spec_Name_Valid.l0] at h
  | k + 1 => by
    have ih0 := spec_Name_Valid.mono_l k
    · intro y0 y1 y2 y3
      unfold spec_Name_Valid.l0
      repeat' first
      | (with_reducible exact ih0 _ _ _ _)
      | (with_reducible exact spec_Name_Size.mono _ _)
      | (with_reducible exact LeO.refl _)
      | (with_reducible exact LeO.none _)
      | (with_reducible refine LeO.ite ?_ ?_)
      | (with_reducible refine LeO.bind ?_ (fun _ => ?_))
      | exact ih0 _ _ _ _
      | exact spec_Name_Size.mono _ _
      | exact LeO.none _
      | refine LeO.ite ?_ ?_
      | refine LeO.bind ?_ (fun _ => ?_)
theorem spec_Name_Valid.mono : ∀ a0 k, LeO (spec_Name_Valid.f k a0) (spec_Name_Valid.f (k + 1) a0) := by
  intro a0 k
  have ih0 := spec_Name_Valid.mono_l k
  unfold spec_Name_Valid.f
  repeat' first
      | (with_reducible exact ih0 _ _ _ _)
      | (with_reducible exact spec_Name_Size.mono _ _)
      | (with_reducible exact LeO.refl _)
      | (with_reducible exact LeO.none _)
      | (with_reducible refine LeO.ite ?_ ?_)
      | (with_reducible refine LeO.bind ?_ (fun _ => ?_))
      | exact ih0 _ _ _ _
      | exact spec_Name_Size.mono _ _
      | exact LeO.none _
      | refine LeO.ite ?_ ?_
      | refine LeO.bind ?_ (fun _ => ?_)
set_option maxHeartbeats 8000000 in
set_option maxRecDepth 100000 in
theorem spec_Name_Valid.calls (k : Nat) (A0 : Option Addr) (c0 : Nat) (l0 : List ByteArray) (r : Bool) (w : World) (hr0 : Kd.C Kd.string w A0 l0.length l0) (hc0 : l0.length ≤ c0) (h : spec_Name_Valid.f k l0 = some r) :
    Calls Try.prog 16 #[.slice A0 l0.length c0] w fun e w' => e = .returned (.bool r) ∧ Drawn0 w w' := by
  have HR0 := Aside0.mk hr0
  have HC0 := Aside0.mk hc0
  clear hr0 hc0
  have H : (spec_Name_Valid.l0 k l0 l0 (l0.length : Int) 0) = some r := h
  clear h
  have H' := Aside0.mk H
  clear H
  go_enter Try.func16, Try.ntmps16
  go_wp2
  go_loopg [7] k (fun kq v7 w' => ∃ (x7_1 : Int), v7 = .int .i64 x7_1 ∧ Aside0 (spec_Name_Valid.l0 kq l0 l0 (l0.length : Int) x7_1 = some r) ∧ Aside0 (kq ≤ k) ∧ Drawn0 w w')
  case atStart => exact ⟨(0), (by first | rfl | (simp; done) | (simp [*]; done) | (simp [wrap64]; done)), H', ⟨Nat.le_refl _⟩, by repeat (first | exact Drawn0.refl _ | apply Drawn0.step)⟩
  case round =>
    clear H'
    try clear c1
    obtain ⟨x7_1, rfl, HA, HK1, ⟨m1, rfl⟩⟩ := hrel
    cases gk with
    | zero => exact absurd HA.out (by simp [spec_Name_Valid.l0])
    | succ k1 =>
      have H := HA.out
      clear HA
      simp only [spec_Name_Valid.l0] at H
      by_cases c2 : x7_1 < (l0.length : Int)
      · rw [if_pos c2] at H
        have c2b0 : decide (x7_1 < (l0.length : Int)) = true := decide_eq_true c2
        clear c2
        by_cases c3 : 0 ≤ x7_1
        · rw [if_pos c3] at H
          have c3b0 : decide (0 ≤ x7_1) = true := decide_eq_true c3
          clear c3
          by_cases c4 : x7_1 < (l0.length : Int)
          · rw [if_pos c4] at H
            have c4b0 : decide (x7_1 < (l0.length : Int)) = true := decide_eq_true c4
            clear c4
            by_cases c5 : ((rdOf ByteArray.empty l0 x7_1).size : Int) = 0
            · rw [if_pos c5] at H
              have c5b0 : (((rdOf ByteArray.empty l0 x7_1).size : Int) == 0) = true := beq_iff_eq.mpr c5
              have c5b1 : (((rdOf ByteArray.empty l0 x7_1).size : Int) != 0) = false := bne_eq_false_iff_eq.mpr c5
              clear c5
              obtain rfl := Option.some.inj H
              have p105 : 0 ≤ (x7_1 : Int) := of_decide_eq_true (by first | (with_reducible assumption) | assumption)
              have q105 : x7_1 < (l0.length : Int) := of_decide_eq_true (by first | (with_reducible assumption) | assumption)
              obtain ⟨ad105, e105, hx105_0⟩ := Kd.at_string HR0.out x7_1 p105 q105
              cases e105
              replace p105 := eq_true p105
              replace q105 := eq_true q105
              go_wp2
              go_ret
              exact ⟨by first | rfl | (simp; done) | (simp [*]; done) | (simp [wrap64]; done), by repeat (first | exact Drawn0.refl _ | apply Drawn0.step)⟩
            · rw [if_neg c5] at H
              have c5b0 : (((rdOf ByteArray.empty l0 x7_1).size : Int) == 0) = false := beq_eq_false_iff_ne.mpr c5
              have c5b1 : (((rdOf ByteArray.empty l0 x7_1).size : Int) != 0) = true := bne_iff_ne.mpr c5
              by_cases c6 : ((rdOf ByteArray.empty l0 x7_1).size : Int) > 63
              · rw [if_pos c6] at H
                have c6b0 : decide (63 < ((rdOf ByteArray.empty l0 x7_1).size : Int)) = true := decide_eq_true c6
                have c6b1 : decide (63 < (rdOf ByteArray.empty l0 x7_1).size) = true := decide_eq_true (by omega)
                clear c6
                obtain rfl := Option.some.inj H
                have p105 : 0 ≤ (x7_1 : Int) := of_decide_eq_true (by first | (with_reducible assumption) | assumption)
                have q105 : x7_1 < (l0.length : Int) := of_decide_eq_true (by first | (with_reducible assumption) | assumption)
                obtain ⟨ad105, e105, hx105_0⟩ := Kd.at_string HR0.out x7_1 p105 q105
                cases e105
                replace p105 := eq_true p105
                replace q105 := eq_true q105
                go_wp2
                go_ret
                exact ⟨by first | rfl | (simp; done) | (simp [*]; done) | (simp [wrap64]; done), by repeat (first | exact Drawn0.refl _ | apply Drawn0.step)⟩
              · rw [if_neg c6] at H
                have c6b0 : decide (63 < ((rdOf ByteArray.empty l0 x7_1).size : Int)) = false := decide_eq_false c6
                have c6b1 : decide (63 < (rdOf ByteArray.empty l0 x7_1).size) = false := decide_eq_false (by omega)
                clear c6
                have H' := Aside0.mk H
                clear H
                have p105 : 0 ≤ (x7_1 : Int) := of_decide_eq_true (by first | (with_reducible assumption) | assumption)
                have q105 : x7_1 < (l0.length : Int) := of_decide_eq_true (by first | (with_reducible assumption) | assumption)
                obtain ⟨ad105, e105, hx105_0⟩ := Kd.at_string HR0.out x7_1 p105 q105
                cases e105
                replace p105 := eq_true p105
                replace q105 := eq_true q105
                go_wp2
                go_roundg k1
                case measure => have := HK1.out; omega
                case rel => exact ⟨(wrap64 (x7_1 + 1)), (by first | rfl | (simp; done) | (simp [*]; done) | (simp [wrap64]; done)), H', ⟨by have := HK1.out; omega⟩, by repeat (first | exact Drawn0.refl _ | apply Drawn0.step)⟩
          · rw [if_neg c4] at H
            exact absurd H (by simp)
        · rw [if_neg c3] at H
          exact absurd H (by simp)
      · rw [if_neg c2] at H
        have c2b0 : decide (x7_1 < (l0.length : Int)) = false := decide_eq_false c2
        clear c2
        replace H := Option.bind_eq_some_iff.mp H
        obtain ⟨t106, A70, H⟩ := H
        replace H : (some (decide (t106 ≤ 255))) = some r := H
        have A7 := Aside0.mk A70
        clear A70
        obtain rfl := Option.some.inj H
        go_wp2_with (first | ((with_reducible refine gate_callee (f := 22) rfl ?_); refine goesL_ (some 21) rfl rfl Try.func22 (by kernel_rfl) rfl #[.slice A0 l0.length c0] rfl (by (try simp only [List.map_toArray, List.map_cons, List.map_nil]); first | done | rfl | (simp only [List.length_drop, List.length_take]; rfl)) ?_; (with_reducible refine (spec_Name_Size.calls k1 _ _ l0 t106 _ ?side1 ?side2 A7.out).mono ?_); (case side1 => repeat (first | exact HR0.out | (with_reducible refine Kd.C_alloc ?_ _) | (with_reducible refine Kd.C_drewN ?_ _) | (with_reducible refine Kd.C_drew ?_))); (case side2 => exact HC0.out); rintro e w' ⟨rfl, ⟨nd, rfl⟩⟩; refine ⟨_, rfl, ?_⟩))
        go_ret
        exact ⟨by first | rfl | (simp; done) | (simp [*]; done) | (simp [wrap64]; done), by repeat (first | exact Drawn0.refl _ | apply Drawn0.step)⟩

end Go.Proofs.Ytiilihafcdmccaa.P
