-- Written by a program of this session (wip/tools/pprint.py) out of the translation: it goes by the kit's print and by the contracts of YtiilihafcdmccaaDoorHand. Not trusted: Lean checks it.
import Derived.Test.YtiilihafcdmccaaDoorP0
import Derived.Test.YtiilihafcdmccaaDoorPF76
namespace Go.Proofs.YtiilihafcdmccaaDoor.P
open Go.RowKit Go.Proofs.YtiilihafcdmccaaDoorW.PrintWords Go.Proofs.YtiilihafcdmccaaDoorW.PrintLast Go.Proofs.YtiilihafcdmccaaDoorW.PrintMore
attribute [local go_sem] max2_int min2_int max_two min_two max_three min_three max_four min_four   -- for this text's walks alone
set_option linter.unusedVariables false
set_option linter.unusedSimpArgs false

/-! ### spec_escaped: function 49 -/
def spec_escaped.f (a0 : ByteArray) (a1 : Int) : Option (Int × Int × Bool × Bool) := if 0 ≤ a1 then (if a1 < (a0.size : Int) then (if (bt a0 a1) = 92 then (if (wrap64 (a1 + 1)) ≥ (a0.size : Int) then (some (0, 0, false, false)) else (if 0 ≤ (wrap64 (a1 + 1)) then (if (wrap64 (a1 + 1)) < (a0.size : Int) then ((spec_isDigit.f (bt a0 (wrap64 (a1 + 1)))).bind fun t104 => (if t104 = true then (if (wrap64 (a1 + 3)) ≥ (a0.size : Int) then (some (0, 0, false, false)) else (if 0 ≤ (wrap64 (a1 + 2)) then (if (wrap64 (a1 + 2)) < (a0.size : Int) then ((spec_isDigit.f (bt a0 (wrap64 (a1 + 2)))).bind fun t105 => (if t105 = true then (if 0 ≤ (wrap64 (a1 + 3)) then (if (wrap64 (a1 + 3)) < (a0.size : Int) then ((spec_isDigit.f (bt a0 (wrap64 (a1 + 3)))).bind fun t106 => (if t106 = true then (some (((((((bt a0 (wrap64 (a1 + 1))) - 48) % 256) * 100) + ((((bt a0 (wrap64 (a1 + 2))) - 48) % 256) * 10)) + (((bt a0 (wrap64 (a1 + 3))) - 48) % 256)) % 256, wrap64 (a1 + 4), false, decide (((((((bt a0 (wrap64 (a1 + 1))) - 48) % 256) * 100) + ((((bt a0 (wrap64 (a1 + 2))) - 48) % 256) * 10)) + (((bt a0 (wrap64 (a1 + 3))) - 48) % 256)) < 256))) else (some (0, 0, false, false)))) else (none)) else (none)) else (some (0, 0, false, false)))) else (none)) else (none))) else (some (bt a0 (wrap64 (a1 + 1)), wrap64 (a1 + 2), false, true)))) else (none)) else (none))) else (some (bt a0 a1, wrap64 (a1 + 1), true, true))) else (none)) else (none)
set_option maxHeartbeats 8000000 in
set_option maxRecDepth 100000 in
theorem spec_escaped.calls (a0 : ByteArray) (a1 : Int) (r1 : Int) (r2 : Int) (r3 : Bool) (r4 : Bool) (w : World) (h : spec_escaped.f a0 a1 = some (r1, r2, r3, r4)) :
    Calls Tryd.prog 49 #[.string a0, .int .i64 a1] w fun e w' => e = .returned (.tuple #[.int .u8 r1, .int .i64 r2, .bool r3, .bool r4]) ∧ Drawn0 w w' := by
  have H : (if 0 ≤ a1 then (if a1 < (a0.size : Int) then (if (bt a0 a1) = 92 then (if (wrap64 (a1 + 1)) ≥ (a0.size : Int) then (some (0, 0, false, false)) else (if 0 ≤ (wrap64 (a1 + 1)) then (if (wrap64 (a1 + 1)) < (a0.size : Int) then ((spec_isDigit.f (bt a0 (wrap64 (a1 + 1)))).bind fun t104 => (if t104 = true then (if (wrap64 (a1 + 3)) ≥ (a0.size : Int) then (some (0, 0, false, false)) else (if 0 ≤ (wrap64 (a1 + 2)) then (if (wrap64 (a1 + 2)) < (a0.size : Int) then ((spec_isDigit.f (bt a0 (wrap64 (a1 + 2)))).bind fun t105 => (if t105 = true then (if 0 ≤ (wrap64 (a1 + 3)) then (if (wrap64 (a1 + 3)) < (a0.size : Int) then ((spec_isDigit.f (bt a0 (wrap64 (a1 + 3)))).bind fun t106 => (if t106 = true then (some (((((((bt a0 (wrap64 (a1 + 1))) - 48) % 256) * 100) + ((((bt a0 (wrap64 (a1 + 2))) - 48) % 256) * 10)) + (((bt a0 (wrap64 (a1 + 3))) - 48) % 256)) % 256, wrap64 (a1 + 4), false, decide (((((((bt a0 (wrap64 (a1 + 1))) - 48) % 256) * 100) + ((((bt a0 (wrap64 (a1 + 2))) - 48) % 256) * 10)) + (((bt a0 (wrap64 (a1 + 3))) - 48) % 256)) < 256))) else (some (0, 0, false, false)))) else (none)) else (none)) else (some (0, 0, false, false)))) else (none)) else (none))) else (some (bt a0 (wrap64 (a1 + 1)), wrap64 (a1 + 2), false, true)))) else (none)) else (none))) else (some (bt a0 a1, wrap64 (a1 + 1), true, true))) else (none)) else (none)) = some (r1, r2, r3, r4) := h
  clear h
  by_cases c3 : 0 ≤ a1
  · rw [if_pos c3] at H
    have c3b0 : decide (0 ≤ a1) = true := decide_eq_true c3
    clear c3
    by_cases c4 : a1 < (a0.size : Int)
    · rw [if_pos c4] at H
      have c4b0 : decide (a1 < (a0.size : Int)) = true := decide_eq_true c4
      clear c4
      by_cases c6 : (bt a0 a1) = 92
      · rw [if_pos c6] at H
        have c6b0 : ((bt a0 a1) == 92) = true := beq_iff_eq.mpr c6
        have c6b1 : ((bt a0 a1) != 92) = false := bne_eq_false_iff_eq.mpr c6
        clear c6
        by_cases c7 : (wrap64 (a1 + 1)) ≥ (a0.size : Int)
        · rw [if_pos c7] at H
          have c7b0 : decide ((a0.size : Int) ≤ (wrap64 (a1 + 1))) = true := decide_eq_true c7
          clear c7
          simp only [Option.some.injEq, Prod.mk.injEq] at H
          obtain ⟨rfl, rfl, rfl, rfl⟩ := H
          have p5 : 0 ≤ (a1 : Int) := of_decide_eq_true (by first | (with_reducible assumption) | assumption)
          have q5 : a1 < (a0.size : Int) := of_decide_eq_true (by first | (with_reducible assumption) | assumption)
          have hx5 := bt_at a0 a1
          replace p5 := eq_true p5
          replace q5 := eq_true q5
          go_enter Tryd.func49, Tryd.ntmps49
          go_wp2
          repeat (go_quiet (fail); try go_wp2)
          refine bodyPost_ret (results_list (rs := [.tmp 4, .tmp 5, .tmp 6, .tmp 7]) rfl (by simp) (.tmp (.tmp (.tmp (.tmp .nil))))) rfl ?_
          exact ⟨by first | rfl | (simp; done) | (simp [*]; done) | (simp [wrap64]; done), by repeat (first | exact Drawn0.refl _ | apply Drawn0.step)⟩
        · rw [if_neg c7] at H
          have c7b0 : decide ((a0.size : Int) ≤ (wrap64 (a1 + 1))) = false := decide_eq_false c7
          clear c7
          obtain ⟨ji8, hji8⟩ : ∃ j_ : Int, (wrap64 (a1 + 1)) = j_ := ⟨_, rfl⟩
          replace H : (if 0 ≤ (ji8) then (if (ji8) < (a0.size : Int) then ((spec_isDigit.f (bt a0 (ji8))).bind fun t104 => (if t104 = true then (if (wrap64 (a1 + 3)) ≥ (a0.size : Int) then (some (0, 0, false, false)) else (if 0 ≤ (wrap64 (a1 + 2)) then (if (wrap64 (a1 + 2)) < (a0.size : Int) then ((spec_isDigit.f (bt a0 (wrap64 (a1 + 2)))).bind fun t105 => (if t105 = true then (if 0 ≤ (wrap64 (a1 + 3)) then (if (wrap64 (a1 + 3)) < (a0.size : Int) then ((spec_isDigit.f (bt a0 (wrap64 (a1 + 3)))).bind fun t106 => (if t106 = true then (some (((((((bt a0 (ji8)) - 48) % 256) * 100) + ((((bt a0 (wrap64 (a1 + 2))) - 48) % 256) * 10)) + (((bt a0 (wrap64 (a1 + 3))) - 48) % 256)) % 256, wrap64 (a1 + 4), false, decide (((((((bt a0 (ji8)) - 48) % 256) * 100) + ((((bt a0 (wrap64 (a1 + 2))) - 48) % 256) * 10)) + (((bt a0 (wrap64 (a1 + 3))) - 48) % 256)) < 256))) else (some (0, 0, false, false)))) else (none)) else (none)) else (some (0, 0, false, false)))) else (none)) else (none))) else (some (bt a0 (ji8), wrap64 (a1 + 2), false, true)))) else (none)) else (none)) = some (r1, r2, r3, r4) := by first | (rw [hji8] at H; exact H) | (simp only [hji8] at H ⊢; exact H)
          (try rw [hji8] at c7b0)
          have hji8w : (IntKind.i64.wrap (a1 + 1)) = ji8 := (i64_w _).trans hji8
          by_cases c9 : 0 ≤ (ji8)
          · rw [if_pos c9] at H
            have c9b0 : decide (0 ≤ (ji8)) = true := decide_eq_true c9
            clear c9
            by_cases c10 : (ji8) < (a0.size : Int)
            · rw [if_pos c10] at H
              have c10b0 : decide ((ji8) < (a0.size : Int)) = true := decide_eq_true c10
              clear c10
              replace H := Option.bind_eq_some_iff.mp H
              obtain ⟨t104, A120, H⟩ := H
              replace H : (if t104 = true then (if (wrap64 (a1 + 3)) ≥ (a0.size : Int) then (some (0, 0, false, false)) else (if 0 ≤ (wrap64 (a1 + 2)) then (if (wrap64 (a1 + 2)) < (a0.size : Int) then ((spec_isDigit.f (bt a0 (wrap64 (a1 + 2)))).bind fun t105 => (if t105 = true then (if 0 ≤ (wrap64 (a1 + 3)) then (if (wrap64 (a1 + 3)) < (a0.size : Int) then ((spec_isDigit.f (bt a0 (wrap64 (a1 + 3)))).bind fun t106 => (if t106 = true then (some (((((((bt a0 (ji8)) - 48) % 256) * 100) + ((((bt a0 (wrap64 (a1 + 2))) - 48) % 256) * 10)) + (((bt a0 (wrap64 (a1 + 3))) - 48) % 256)) % 256, wrap64 (a1 + 4), false, decide (((((((bt a0 (ji8)) - 48) % 256) * 100) + ((((bt a0 (wrap64 (a1 + 2))) - 48) % 256) * 10)) + (((bt a0 (wrap64 (a1 + 3))) - 48) % 256)) < 256))) else (some (0, 0, false, false)))) else (none)) else (none)) else (some (0, 0, false, false)))) else (none)) else (none))) else (some (bt a0 (ji8), wrap64 (a1 + 2), false, true))) = some (r1, r2, r3, r4) := H
              have A12 := Aside0.mk A120
              clear A120
              by_cases c13 : t104 = true
              · subst c13
                have H1 : (if (wrap64 (a1 + 3)) ≥ (a0.size : Int) then (some (0, 0, false, false)) else (if 0 ≤ (wrap64 (a1 + 2)) then (if (wrap64 (a1 + 2)) < (a0.size : Int) then ((spec_isDigit.f (bt a0 (wrap64 (a1 + 2)))).bind fun t105 => (if t105 = true then (if 0 ≤ (wrap64 (a1 + 3)) then (if (wrap64 (a1 + 3)) < (a0.size : Int) then ((spec_isDigit.f (bt a0 (wrap64 (a1 + 3)))).bind fun t106 => (if t106 = true then (some (((((((bt a0 (ji8)) - 48) % 256) * 100) + ((((bt a0 (wrap64 (a1 + 2))) - 48) % 256) * 10)) + (((bt a0 (wrap64 (a1 + 3))) - 48) % 256)) % 256, wrap64 (a1 + 4), false, decide (((((((bt a0 (ji8)) - 48) % 256) * 100) + ((((bt a0 (wrap64 (a1 + 2))) - 48) % 256) * 10)) + (((bt a0 (wrap64 (a1 + 3))) - 48) % 256)) < 256))) else (some (0, 0, false, false)))) else (none)) else (none)) else (some (0, 0, false, false)))) else (none)) else (none))) = some (r1, r2, r3, r4) := by rw [if_pos rfl] at H; exact H
                clear H
                have H := H1
                clear H1
                by_cases c14 : (wrap64 (a1 + 3)) ≥ (a0.size : Int)
                · rw [if_pos c14] at H
                  have c14b0 : decide ((a0.size : Int) ≤ (wrap64 (a1 + 3))) = true := decide_eq_true c14
                  clear c14
                  simp only [Option.some.injEq, Prod.mk.injEq] at H
                  obtain ⟨rfl, rfl, rfl, rfl⟩ := H
                  have p5 : 0 ≤ (a1 : Int) := of_decide_eq_true (by first | (with_reducible assumption) | assumption)
                  have q5 : a1 < (a0.size : Int) := of_decide_eq_true (by first | (with_reducible assumption) | assumption)
                  have hx5 := bt_at a0 a1
                  replace p5 := eq_true p5
                  replace q5 := eq_true q5
                  have p11 : 0 ≤ ((ji8) : Int) := of_decide_eq_true (by first | (with_reducible assumption) | assumption)
                  have q11 : (ji8) < (a0.size : Int) := of_decide_eq_true (by first | (with_reducible assumption) | assumption)
                  have hx11 := bt_at a0 (ji8)
                  replace p11 := eq_true p11
                  replace q11 := eq_true q11
                  go_enter Tryd.func49, Tryd.ntmps49
                  go_wp2_with (first | (go_at_call 76; (with_reducible refine (spec_isDigit.calls (bt a0 (ji8)) true _ A12.out).mono ?_); rintro e w' ⟨rfl, ⟨nd, rfl⟩⟩; (try first | exact ⟨rfl, _, World.drewN_drewN _ _ _⟩ | exact ⟨rfl, _, Eq.trans (World.drewN_drewN _ _ _) (congrArg (World.drewN _) (Nat.add_assoc _ _ _))⟩)))
                  repeat (go_quiet (first | (go_at_call 76; (with_reducible refine (spec_isDigit.calls (bt a0 (ji8)) true _ A12.out).mono ?_); rintro e w' ⟨rfl, ⟨nd, rfl⟩⟩; (try first | exact ⟨rfl, _, World.drewN_drewN _ _ _⟩ | exact ⟨rfl, _, Eq.trans (World.drewN_drewN _ _ _) (congrArg (World.drewN _) (Nat.add_assoc _ _ _))⟩))); try go_wp2_with (first | (go_at_call 76; (with_reducible refine (spec_isDigit.calls (bt a0 (ji8)) true _ A12.out).mono ?_); rintro e w' ⟨rfl, ⟨nd, rfl⟩⟩; (try first | exact ⟨rfl, _, World.drewN_drewN _ _ _⟩ | exact ⟨rfl, _, Eq.trans (World.drewN_drewN _ _ _) (congrArg (World.drewN _) (Nat.add_assoc _ _ _))⟩))))
                  refine bodyPost_ret (results_list (rs := [.tmp 4, .tmp 5, .tmp 6, .tmp 7]) rfl (by simp) (.tmp (.tmp (.tmp (.tmp .nil))))) rfl ?_
                  exact ⟨by first | rfl | (simp; done) | (simp only [← hji8] <;> (first | rfl | simp)) | (simp [*]; done), by repeat (first | exact Drawn0.refl _ | apply Drawn0.step)⟩
                · rw [if_neg c14] at H
                  have c14b0 : decide ((a0.size : Int) ≤ (wrap64 (a1 + 3))) = false := decide_eq_false c14
                  clear c14
                  obtain ⟨ji15, hji15⟩ : ∃ j_ : Int, (wrap64 (a1 + 2)) = j_ := ⟨_, rfl⟩
                  replace H : (if 0 ≤ (ji15) then (if (ji15) < (a0.size : Int) then ((spec_isDigit.f (bt a0 (ji15))).bind fun t105 => (if t105 = true then (if 0 ≤ (wrap64 (a1 + 3)) then (if (wrap64 (a1 + 3)) < (a0.size : Int) then ((spec_isDigit.f (bt a0 (wrap64 (a1 + 3)))).bind fun t106 => (if t106 = true then (some (((((((bt a0 (ji8)) - 48) % 256) * 100) + ((((bt a0 (ji15)) - 48) % 256) * 10)) + (((bt a0 (wrap64 (a1 + 3))) - 48) % 256)) % 256, wrap64 (a1 + 4), false, decide (((((((bt a0 (ji8)) - 48) % 256) * 100) + ((((bt a0 (ji15)) - 48) % 256) * 10)) + (((bt a0 (wrap64 (a1 + 3))) - 48) % 256)) < 256))) else (some (0, 0, false, false)))) else (none)) else (none)) else (some (0, 0, false, false)))) else (none)) else (none)) = some (r1, r2, r3, r4) := by first | (rw [hji15] at H; exact H) | (simp only [hji15] at H ⊢; exact H)
                  (try rw [hji15] at A12)
                  have hji15w : (IntKind.i64.wrap (a1 + 2)) = ji15 := (i64_w _).trans hji15
                  by_cases c16 : 0 ≤ (ji15)
                  · rw [if_pos c16] at H
                    have c16b0 : decide (0 ≤ (ji15)) = true := decide_eq_true c16
                    clear c16
                    by_cases c17 : (ji15) < (a0.size : Int)
                    · rw [if_pos c17] at H
                      have c17b0 : decide ((ji15) < (a0.size : Int)) = true := decide_eq_true c17
                      clear c17
                      replace H := Option.bind_eq_some_iff.mp H
                      obtain ⟨t105, A190, H⟩ := H
                      replace H : (if t105 = true then (if 0 ≤ (wrap64 (a1 + 3)) then (if (wrap64 (a1 + 3)) < (a0.size : Int) then ((spec_isDigit.f (bt a0 (wrap64 (a1 + 3)))).bind fun t106 => (if t106 = true then (some (((((((bt a0 (ji8)) - 48) % 256) * 100) + ((((bt a0 (ji15)) - 48) % 256) * 10)) + (((bt a0 (wrap64 (a1 + 3))) - 48) % 256)) % 256, wrap64 (a1 + 4), false, decide (((((((bt a0 (ji8)) - 48) % 256) * 100) + ((((bt a0 (ji15)) - 48) % 256) * 10)) + (((bt a0 (wrap64 (a1 + 3))) - 48) % 256)) < 256))) else (some (0, 0, false, false)))) else (none)) else (none)) else (some (0, 0, false, false))) = some (r1, r2, r3, r4) := H
                      have A19 := Aside0.mk A190
                      clear A190
                      by_cases c20 : t105 = true
                      · subst c20
                        have H1 : (if 0 ≤ (wrap64 (a1 + 3)) then (if (wrap64 (a1 + 3)) < (a0.size : Int) then ((spec_isDigit.f (bt a0 (wrap64 (a1 + 3)))).bind fun t106 => (if t106 = true then (some (((((((bt a0 (ji8)) - 48) % 256) * 100) + ((((bt a0 (ji15)) - 48) % 256) * 10)) + (((bt a0 (wrap64 (a1 + 3))) - 48) % 256)) % 256, wrap64 (a1 + 4), false, decide (((((((bt a0 (ji8)) - 48) % 256) * 100) + ((((bt a0 (ji15)) - 48) % 256) * 10)) + (((bt a0 (wrap64 (a1 + 3))) - 48) % 256)) < 256))) else (some (0, 0, false, false)))) else (none)) else (none)) = some (r1, r2, r3, r4) := by rw [if_pos rfl] at H; exact H
                        clear H
                        have H := H1
                        clear H1
                        obtain ⟨ji21, hji21⟩ : ∃ j_ : Int, (wrap64 (a1 + 3)) = j_ := ⟨_, rfl⟩
                        replace H : (if 0 ≤ (ji21) then (if (ji21) < (a0.size : Int) then ((spec_isDigit.f (bt a0 (ji21))).bind fun t106 => (if t106 = true then (some (((((((bt a0 (ji8)) - 48) % 256) * 100) + ((((bt a0 (ji15)) - 48) % 256) * 10)) + (((bt a0 (ji21)) - 48) % 256)) % 256, wrap64 (a1 + 4), false, decide (((((((bt a0 (ji8)) - 48) % 256) * 100) + ((((bt a0 (ji15)) - 48) % 256) * 10)) + (((bt a0 (ji21)) - 48) % 256)) < 256))) else (some (0, 0, false, false)))) else (none)) else (none)) = some (r1, r2, r3, r4) := by first | (rw [hji21] at H; exact H) | (simp only [hji21] at H ⊢; exact H)
                        (try rw [hji21] at c14b0)
                        (try rw [hji21] at A12)
                        (try rw [hji21] at A19)
                        have hji21w : (IntKind.i64.wrap (a1 + 3)) = ji21 := (i64_w _).trans hji21
                        by_cases c22 : 0 ≤ (ji21)
                        · rw [if_pos c22] at H
                          have c22b0 : decide (0 ≤ (ji21)) = true := decide_eq_true c22
                          clear c22
                          by_cases c23 : (ji21) < (a0.size : Int)
                          · rw [if_pos c23] at H
                            have c23b0 : decide ((ji21) < (a0.size : Int)) = true := decide_eq_true c23
                            clear c23
                            replace H := Option.bind_eq_some_iff.mp H
                            obtain ⟨t106, A250, H⟩ := H
                            replace H : (if t106 = true then (some (((((((bt a0 (ji8)) - 48) % 256) * 100) + ((((bt a0 (ji15)) - 48) % 256) * 10)) + (((bt a0 (ji21)) - 48) % 256)) % 256, wrap64 (a1 + 4), false, decide (((((((bt a0 (ji8)) - 48) % 256) * 100) + ((((bt a0 (ji15)) - 48) % 256) * 10)) + (((bt a0 (ji21)) - 48) % 256)) < 256))) else (some (0, 0, false, false))) = some (r1, r2, r3, r4) := H
                            have A25 := Aside0.mk A250
                            clear A250
                            by_cases c26 : t106 = true
                            · subst c26
                              have H1 : (some (((((((bt a0 (ji8)) - 48) % 256) * 100) + ((((bt a0 (ji15)) - 48) % 256) * 10)) + (((bt a0 (ji21)) - 48) % 256)) % 256, wrap64 (a1 + 4), false, decide (((((((bt a0 (ji8)) - 48) % 256) * 100) + ((((bt a0 (ji15)) - 48) % 256) * 10)) + (((bt a0 (ji21)) - 48) % 256)) < 256))) = some (r1, r2, r3, r4) := by rw [if_pos rfl] at H; exact H
                              clear H
                              have H := H1
                              clear H1
                              simp only [Option.some.injEq, Prod.mk.injEq] at H
                              obtain ⟨rfl, rfl, rfl, rfl⟩ := H
                              have p5 : 0 ≤ (a1 : Int) := of_decide_eq_true (by first | (with_reducible assumption) | assumption)
                              have q5 : a1 < (a0.size : Int) := of_decide_eq_true (by first | (with_reducible assumption) | assumption)
                              have hx5 := bt_at a0 a1
                              replace p5 := eq_true p5
                              replace q5 := eq_true q5
                              have p11 : 0 ≤ ((ji8) : Int) := of_decide_eq_true (by first | (with_reducible assumption) | assumption)
                              have q11 : (ji8) < (a0.size : Int) := of_decide_eq_true (by first | (with_reducible assumption) | assumption)
                              have hx11 := bt_at a0 (ji8)
                              replace p11 := eq_true p11
                              replace q11 := eq_true q11
                              go_enter Tryd.func49, Tryd.ntmps49
                              go_wp2_with (first | (go_at_call 76; (with_reducible refine (spec_isDigit.calls (bt a0 (ji8)) true _ A12.out).mono ?_); rintro e w' ⟨rfl, ⟨nd, rfl⟩⟩; (try first | exact ⟨rfl, _, World.drewN_drewN _ _ _⟩ | exact ⟨rfl, _, Eq.trans (World.drewN_drewN _ _ _) (congrArg (World.drewN _) (Nat.add_assoc _ _ _))⟩); have p18 : 0 ≤ ((ji15) : Int) := of_decide_eq_true (by first | (with_reducible assumption) | assumption); have q18 : (ji15) < (a0.size : Int) := of_decide_eq_true (by first | (with_reducible assumption) | assumption); have hx18 := bt_at a0 (ji15); replace p18 := eq_true p18; replace q18 := eq_true q18) | (go_at_call 76; (with_reducible refine (spec_isDigit.calls (bt a0 (ji15)) true _ A19.out).mono ?_); rintro e w' ⟨rfl, ⟨nd, rfl⟩⟩; (try first | exact ⟨rfl, _, World.drewN_drewN _ _ _⟩ | exact ⟨rfl, _, Eq.trans (World.drewN_drewN _ _ _) (congrArg (World.drewN _) (Nat.add_assoc _ _ _))⟩); have p24 : 0 ≤ ((ji21) : Int) := of_decide_eq_true (by first | (with_reducible assumption) | assumption); have q24 : (ji21) < (a0.size : Int) := of_decide_eq_true (by first | (with_reducible assumption) | assumption); have hx24 := bt_at a0 (ji21); replace p24 := eq_true p24; replace q24 := eq_true q24) | (go_at_call 76; (with_reducible refine (spec_isDigit.calls (bt a0 (ji21)) true _ A25.out).mono ?_); rintro e w' ⟨rfl, ⟨nd, rfl⟩⟩; (try first | exact ⟨rfl, _, World.drewN_drewN _ _ _⟩ | exact ⟨rfl, _, Eq.trans (World.drewN_drewN _ _ _) (congrArg (World.drewN _) (Nat.add_assoc _ _ _))⟩); have p27 : 0 ≤ ((ji8) : Int) := of_decide_eq_true (by first | (with_reducible assumption) | assumption); have q27 : (ji8) < (a0.size : Int) := of_decide_eq_true (by first | (with_reducible assumption) | assumption); have hx27 := bt_at a0 (ji8); replace p27 := eq_true p27; replace q27 := eq_true q27; have p28 : 0 ≤ ((ji15) : Int) := of_decide_eq_true (by first | (with_reducible assumption) | assumption); have q28 : (ji15) < (a0.size : Int) := of_decide_eq_true (by first | (with_reducible assumption) | assumption); have hx28 := bt_at a0 (ji15); replace p28 := eq_true p28; replace q28 := eq_true q28; have p29 : 0 ≤ ((ji21) : Int) := of_decide_eq_true (by first | (with_reducible assumption) | assumption); have q29 : (ji21) < (a0.size : Int) := of_decide_eq_true (by first | (with_reducible assumption) | assumption); have hx29 := bt_at a0 (ji21); replace p29 := eq_true p29; replace q29 := eq_true q29))
                              repeat (go_quiet (first | (go_at_call 76; (with_reducible refine (spec_isDigit.calls (bt a0 (ji8)) true _ A12.out).mono ?_); rintro e w' ⟨rfl, ⟨nd, rfl⟩⟩; (try first | exact ⟨rfl, _, World.drewN_drewN _ _ _⟩ | exact ⟨rfl, _, Eq.trans (World.drewN_drewN _ _ _) (congrArg (World.drewN _) (Nat.add_assoc _ _ _))⟩); have p18 : 0 ≤ ((ji15) : Int) := of_decide_eq_true (by first | (with_reducible assumption) | assumption); have q18 : (ji15) < (a0.size : Int) := of_decide_eq_true (by first | (with_reducible assumption) | assumption); have hx18 := bt_at a0 (ji15); replace p18 := eq_true p18; replace q18 := eq_true q18) | (go_at_call 76; (with_reducible refine (spec_isDigit.calls (bt a0 (ji15)) true _ A19.out).mono ?_); rintro e w' ⟨rfl, ⟨nd, rfl⟩⟩; (try first | exact ⟨rfl, _, World.drewN_drewN _ _ _⟩ | exact ⟨rfl, _, Eq.trans (World.drewN_drewN _ _ _) (congrArg (World.drewN _) (Nat.add_assoc _ _ _))⟩); have p24 : 0 ≤ ((ji21) : Int) := of_decide_eq_true (by first | (with_reducible assumption) | assumption); have q24 : (ji21) < (a0.size : Int) := of_decide_eq_true (by first | (with_reducible assumption) | assumption); have hx24 := bt_at a0 (ji21); replace p24 := eq_true p24; replace q24 := eq_true q24) | (go_at_call 76; (with_reducible refine (spec_isDigit.calls (bt a0 (ji21)) true _ A25.out).mono ?_); rintro e w' ⟨rfl, ⟨nd, rfl⟩⟩; (try first | exact ⟨rfl, _, World.drewN_drewN _ _ _⟩ | exact ⟨rfl, _, Eq.trans (World.drewN_drewN _ _ _) (congrArg (World.drewN _) (Nat.add_assoc _ _ _))⟩); have p27 : 0 ≤ ((ji8) : Int) := of_decide_eq_true (by first | (with_reducible assumption) | assumption); have q27 : (ji8) < (a0.size : Int) := of_decide_eq_true (by first | (with_reducible assumption) | assumption); have hx27 := bt_at a0 (ji8); replace p27 := eq_true p27; replace q27 := eq_true q27; have p28 : 0 ≤ ((ji15) : Int) := of_decide_eq_true (by first | (with_reducible assumption) | assumption); have q28 : (ji15) < (a0.size : Int) := of_decide_eq_true (by first | (with_reducible assumption) | assumption); have hx28 := bt_at a0 (ji15); replace p28 := eq_true p28; replace q28 := eq_true q28; have p29 : 0 ≤ ((ji21) : Int) := of_decide_eq_true (by first | (with_reducible assumption) | assumption); have q29 : (ji21) < (a0.size : Int) := of_decide_eq_true (by first | (with_reducible assumption) | assumption); have hx29 := bt_at a0 (ji21); replace p29 := eq_true p29; replace q29 := eq_true q29)); try go_wp2_with (first | (go_at_call 76; (with_reducible refine (spec_isDigit.calls (bt a0 (ji8)) true _ A12.out).mono ?_); rintro e w' ⟨rfl, ⟨nd, rfl⟩⟩; (try first | exact ⟨rfl, _, World.drewN_drewN _ _ _⟩ | exact ⟨rfl, _, Eq.trans (World.drewN_drewN _ _ _) (congrArg (World.drewN _) (Nat.add_assoc _ _ _))⟩); have p18 : 0 ≤ ((ji15) : Int) := of_decide_eq_true (by first | (with_reducible assumption) | assumption); have q18 : (ji15) < (a0.size : Int) := of_decide_eq_true (by first | (with_reducible assumption) | assumption); have hx18 := bt_at a0 (ji15); replace p18 := eq_true p18; replace q18 := eq_true q18) | (go_at_call 76; (with_reducible refine (spec_isDigit.calls (bt a0 (ji15)) true _ A19.out).mono ?_); rintro e w' ⟨rfl, ⟨nd, rfl⟩⟩; (try first | exact ⟨rfl, _, World.drewN_drewN _ _ _⟩ | exact ⟨rfl, _, Eq.trans (World.drewN_drewN _ _ _) (congrArg (World.drewN _) (Nat.add_assoc _ _ _))⟩); have p24 : 0 ≤ ((ji21) : Int) := of_decide_eq_true (by first | (with_reducible assumption) | assumption); have q24 : (ji21) < (a0.size : Int) := of_decide_eq_true (by first | (with_reducible assumption) | assumption); have hx24 := bt_at a0 (ji21); replace p24 := eq_true p24; replace q24 := eq_true q24) | (go_at_call 76; (with_reducible refine (spec_isDigit.calls (bt a0 (ji21)) true _ A25.out).mono ?_); rintro e w' ⟨rfl, ⟨nd, rfl⟩⟩; (try first | exact ⟨rfl, _, World.drewN_drewN _ _ _⟩ | exact ⟨rfl, _, Eq.trans (World.drewN_drewN _ _ _) (congrArg (World.drewN _) (Nat.add_assoc _ _ _))⟩); have p27 : 0 ≤ ((ji8) : Int) := of_decide_eq_true (by first | (with_reducible assumption) | assumption); have q27 : (ji8) < (a0.size : Int) := of_decide_eq_true (by first | (with_reducible assumption) | assumption); have hx27 := bt_at a0 (ji8); replace p27 := eq_true p27; replace q27 := eq_true q27; have p28 : 0 ≤ ((ji15) : Int) := of_decide_eq_true (by first | (with_reducible assumption) | assumption); have q28 : (ji15) < (a0.size : Int) := of_decide_eq_true (by first | (with_reducible assumption) | assumption); have hx28 := bt_at a0 (ji15); replace p28 := eq_true p28; replace q28 := eq_true q28; have p29 : 0 ≤ ((ji21) : Int) := of_decide_eq_true (by first | (with_reducible assumption) | assumption); have q29 : (ji21) < (a0.size : Int) := of_decide_eq_true (by first | (with_reducible assumption) | assumption); have hx29 := bt_at a0 (ji21); replace p29 := eq_true p29; replace q29 := eq_true q29)))
                              refine bodyPost_ret (results_list (rs := [.tmp 4, .tmp 5, .tmp 6, .tmp 7]) rfl (by simp) (.tmp (.tmp (.tmp (.tmp .nil))))) rfl ?_
                              exact ⟨by first | rfl | (simp; done) | (simp only [← hji8, ← hji15, ← hji21] <;> (first | rfl | simp)) | (simp [*]; done), by repeat (first | exact Drawn0.refl _ | apply Drawn0.step)⟩
                            · replace c26 := Bool.eq_false_iff.mpr c26
                              subst c26
                              have H1 : (some (0, 0, false, false)) = some (r1, r2, r3, r4) := by rw [if_neg (show ¬ (false = true) by decide)] at H; exact H
                              clear H
                              have H := H1
                              clear H1
                              simp only [Option.some.injEq, Prod.mk.injEq] at H
                              obtain ⟨rfl, rfl, rfl, rfl⟩ := H
                              have p5 : 0 ≤ (a1 : Int) := of_decide_eq_true (by first | (with_reducible assumption) | assumption)
                              have q5 : a1 < (a0.size : Int) := of_decide_eq_true (by first | (with_reducible assumption) | assumption)
                              have hx5 := bt_at a0 a1
                              replace p5 := eq_true p5
                              replace q5 := eq_true q5
                              have p11 : 0 ≤ ((ji8) : Int) := of_decide_eq_true (by first | (with_reducible assumption) | assumption)
                              have q11 : (ji8) < (a0.size : Int) := of_decide_eq_true (by first | (with_reducible assumption) | assumption)
                              have hx11 := bt_at a0 (ji8)
                              replace p11 := eq_true p11
                              replace q11 := eq_true q11
                              go_enter Tryd.func49, Tryd.ntmps49
                              go_wp2_with (first | (go_at_call 76; (with_reducible refine (spec_isDigit.calls (bt a0 (ji8)) true _ A12.out).mono ?_); rintro e w' ⟨rfl, ⟨nd, rfl⟩⟩; (try first | exact ⟨rfl, _, World.drewN_drewN _ _ _⟩ | exact ⟨rfl, _, Eq.trans (World.drewN_drewN _ _ _) (congrArg (World.drewN _) (Nat.add_assoc _ _ _))⟩); have p18 : 0 ≤ ((ji15) : Int) := of_decide_eq_true (by first | (with_reducible assumption) | assumption); have q18 : (ji15) < (a0.size : Int) := of_decide_eq_true (by first | (with_reducible assumption) | assumption); have hx18 := bt_at a0 (ji15); replace p18 := eq_true p18; replace q18 := eq_true q18) | (go_at_call 76; (with_reducible refine (spec_isDigit.calls (bt a0 (ji15)) true _ A19.out).mono ?_); rintro e w' ⟨rfl, ⟨nd, rfl⟩⟩; (try first | exact ⟨rfl, _, World.drewN_drewN _ _ _⟩ | exact ⟨rfl, _, Eq.trans (World.drewN_drewN _ _ _) (congrArg (World.drewN _) (Nat.add_assoc _ _ _))⟩); have p24 : 0 ≤ ((ji21) : Int) := of_decide_eq_true (by first | (with_reducible assumption) | assumption); have q24 : (ji21) < (a0.size : Int) := of_decide_eq_true (by first | (with_reducible assumption) | assumption); have hx24 := bt_at a0 (ji21); replace p24 := eq_true p24; replace q24 := eq_true q24) | (go_at_call 76; (with_reducible refine (spec_isDigit.calls (bt a0 (ji21)) false _ A25.out).mono ?_); rintro e w' ⟨rfl, ⟨nd, rfl⟩⟩; (try first | exact ⟨rfl, _, World.drewN_drewN _ _ _⟩ | exact ⟨rfl, _, Eq.trans (World.drewN_drewN _ _ _) (congrArg (World.drewN _) (Nat.add_assoc _ _ _))⟩)))
                              repeat (go_quiet (first | (go_at_call 76; (with_reducible refine (spec_isDigit.calls (bt a0 (ji8)) true _ A12.out).mono ?_); rintro e w' ⟨rfl, ⟨nd, rfl⟩⟩; (try first | exact ⟨rfl, _, World.drewN_drewN _ _ _⟩ | exact ⟨rfl, _, Eq.trans (World.drewN_drewN _ _ _) (congrArg (World.drewN _) (Nat.add_assoc _ _ _))⟩); have p18 : 0 ≤ ((ji15) : Int) := of_decide_eq_true (by first | (with_reducible assumption) | assumption); have q18 : (ji15) < (a0.size : Int) := of_decide_eq_true (by first | (with_reducible assumption) | assumption); have hx18 := bt_at a0 (ji15); replace p18 := eq_true p18; replace q18 := eq_true q18) | (go_at_call 76; (with_reducible refine (spec_isDigit.calls (bt a0 (ji15)) true _ A19.out).mono ?_); rintro e w' ⟨rfl, ⟨nd, rfl⟩⟩; (try first | exact ⟨rfl, _, World.drewN_drewN _ _ _⟩ | exact ⟨rfl, _, Eq.trans (World.drewN_drewN _ _ _) (congrArg (World.drewN _) (Nat.add_assoc _ _ _))⟩); have p24 : 0 ≤ ((ji21) : Int) := of_decide_eq_true (by first | (with_reducible assumption) | assumption); have q24 : (ji21) < (a0.size : Int) := of_decide_eq_true (by first | (with_reducible assumption) | assumption); have hx24 := bt_at a0 (ji21); replace p24 := eq_true p24; replace q24 := eq_true q24) | (go_at_call 76; (with_reducible refine (spec_isDigit.calls (bt a0 (ji21)) false _ A25.out).mono ?_); rintro e w' ⟨rfl, ⟨nd, rfl⟩⟩; (try first | exact ⟨rfl, _, World.drewN_drewN _ _ _⟩ | exact ⟨rfl, _, Eq.trans (World.drewN_drewN _ _ _) (congrArg (World.drewN _) (Nat.add_assoc _ _ _))⟩))); try go_wp2_with (first | (go_at_call 76; (with_reducible refine (spec_isDigit.calls (bt a0 (ji8)) true _ A12.out).mono ?_); rintro e w' ⟨rfl, ⟨nd, rfl⟩⟩; (try first | exact ⟨rfl, _, World.drewN_drewN _ _ _⟩ | exact ⟨rfl, _, Eq.trans (World.drewN_drewN _ _ _) (congrArg (World.drewN _) (Nat.add_assoc _ _ _))⟩); have p18 : 0 ≤ ((ji15) : Int) := of_decide_eq_true (by first | (with_reducible assumption) | assumption); have q18 : (ji15) < (a0.size : Int) := of_decide_eq_true (by first | (with_reducible assumption) | assumption); have hx18 := bt_at a0 (ji15); replace p18 := eq_true p18; replace q18 := eq_true q18) | (go_at_call 76; (with_reducible refine (spec_isDigit.calls (bt a0 (ji15)) true _ A19.out).mono ?_); rintro e w' ⟨rfl, ⟨nd, rfl⟩⟩; (try first | exact ⟨rfl, _, World.drewN_drewN _ _ _⟩ | exact ⟨rfl, _, Eq.trans (World.drewN_drewN _ _ _) (congrArg (World.drewN _) (Nat.add_assoc _ _ _))⟩); have p24 : 0 ≤ ((ji21) : Int) := of_decide_eq_true (by first | (with_reducible assumption) | assumption); have q24 : (ji21) < (a0.size : Int) := of_decide_eq_true (by first | (with_reducible assumption) | assumption); have hx24 := bt_at a0 (ji21); replace p24 := eq_true p24; replace q24 := eq_true q24) | (go_at_call 76; (with_reducible refine (spec_isDigit.calls (bt a0 (ji21)) false _ A25.out).mono ?_); rintro e w' ⟨rfl, ⟨nd, rfl⟩⟩; (try first | exact ⟨rfl, _, World.drewN_drewN _ _ _⟩ | exact ⟨rfl, _, Eq.trans (World.drewN_drewN _ _ _) (congrArg (World.drewN _) (Nat.add_assoc _ _ _))⟩))))
                              refine bodyPost_ret (results_list (rs := [.tmp 4, .tmp 5, .tmp 6, .tmp 7]) rfl (by simp) (.tmp (.tmp (.tmp (.tmp .nil))))) rfl ?_
                              exact ⟨by first | rfl | (simp; done) | (simp only [← hji8, ← hji15, ← hji21] <;> (first | rfl | simp)) | (simp [*]; done), by repeat (first | exact Drawn0.refl _ | apply Drawn0.step)⟩
                          · rw [if_neg c23] at H
                            exact absurd H (by simp)
                        · rw [if_neg c22] at H
                          exact absurd H (by simp)
                      · replace c20 := Bool.eq_false_iff.mpr c20
                        subst c20
                        have H1 : (some (0, 0, false, false)) = some (r1, r2, r3, r4) := by rw [if_neg (show ¬ (false = true) by decide)] at H; exact H
                        clear H
                        have H := H1
                        clear H1
                        simp only [Option.some.injEq, Prod.mk.injEq] at H
                        obtain ⟨rfl, rfl, rfl, rfl⟩ := H
                        have p5 : 0 ≤ (a1 : Int) := of_decide_eq_true (by first | (with_reducible assumption) | assumption)
                        have q5 : a1 < (a0.size : Int) := of_decide_eq_true (by first | (with_reducible assumption) | assumption)
                        have hx5 := bt_at a0 a1
                        replace p5 := eq_true p5
                        replace q5 := eq_true q5
                        have p11 : 0 ≤ ((ji8) : Int) := of_decide_eq_true (by first | (with_reducible assumption) | assumption)
                        have q11 : (ji8) < (a0.size : Int) := of_decide_eq_true (by first | (with_reducible assumption) | assumption)
                        have hx11 := bt_at a0 (ji8)
                        replace p11 := eq_true p11
                        replace q11 := eq_true q11
                        go_enter Tryd.func49, Tryd.ntmps49
                        go_wp2_with (first | (go_at_call 76; (with_reducible refine (spec_isDigit.calls (bt a0 (ji8)) true _ A12.out).mono ?_); rintro e w' ⟨rfl, ⟨nd, rfl⟩⟩; (try first | exact ⟨rfl, _, World.drewN_drewN _ _ _⟩ | exact ⟨rfl, _, Eq.trans (World.drewN_drewN _ _ _) (congrArg (World.drewN _) (Nat.add_assoc _ _ _))⟩); have p18 : 0 ≤ ((ji15) : Int) := of_decide_eq_true (by first | (with_reducible assumption) | assumption); have q18 : (ji15) < (a0.size : Int) := of_decide_eq_true (by first | (with_reducible assumption) | assumption); have hx18 := bt_at a0 (ji15); replace p18 := eq_true p18; replace q18 := eq_true q18) | (go_at_call 76; (with_reducible refine (spec_isDigit.calls (bt a0 (ji15)) false _ A19.out).mono ?_); rintro e w' ⟨rfl, ⟨nd, rfl⟩⟩; (try first | exact ⟨rfl, _, World.drewN_drewN _ _ _⟩ | exact ⟨rfl, _, Eq.trans (World.drewN_drewN _ _ _) (congrArg (World.drewN _) (Nat.add_assoc _ _ _))⟩)))
                        repeat (go_quiet (first | (go_at_call 76; (with_reducible refine (spec_isDigit.calls (bt a0 (ji8)) true _ A12.out).mono ?_); rintro e w' ⟨rfl, ⟨nd, rfl⟩⟩; (try first | exact ⟨rfl, _, World.drewN_drewN _ _ _⟩ | exact ⟨rfl, _, Eq.trans (World.drewN_drewN _ _ _) (congrArg (World.drewN _) (Nat.add_assoc _ _ _))⟩); have p18 : 0 ≤ ((ji15) : Int) := of_decide_eq_true (by first | (with_reducible assumption) | assumption); have q18 : (ji15) < (a0.size : Int) := of_decide_eq_true (by first | (with_reducible assumption) | assumption); have hx18 := bt_at a0 (ji15); replace p18 := eq_true p18; replace q18 := eq_true q18) | (go_at_call 76; (with_reducible refine (spec_isDigit.calls (bt a0 (ji15)) false _ A19.out).mono ?_); rintro e w' ⟨rfl, ⟨nd, rfl⟩⟩; (try first | exact ⟨rfl, _, World.drewN_drewN _ _ _⟩ | exact ⟨rfl, _, Eq.trans (World.drewN_drewN _ _ _) (congrArg (World.drewN _) (Nat.add_assoc _ _ _))⟩))); try go_wp2_with (first | (go_at_call 76; (with_reducible refine (spec_isDigit.calls (bt a0 (ji8)) true _ A12.out).mono ?_); rintro e w' ⟨rfl, ⟨nd, rfl⟩⟩; (try first | exact ⟨rfl, _, World.drewN_drewN _ _ _⟩ | exact ⟨rfl, _, Eq.trans (World.drewN_drewN _ _ _) (congrArg (World.drewN _) (Nat.add_assoc _ _ _))⟩); have p18 : 0 ≤ ((ji15) : Int) := of_decide_eq_true (by first | (with_reducible assumption) | assumption); have q18 : (ji15) < (a0.size : Int) := of_decide_eq_true (by first | (with_reducible assumption) | assumption); have hx18 := bt_at a0 (ji15); replace p18 := eq_true p18; replace q18 := eq_true q18) | (go_at_call 76; (with_reducible refine (spec_isDigit.calls (bt a0 (ji15)) false _ A19.out).mono ?_); rintro e w' ⟨rfl, ⟨nd, rfl⟩⟩; (try first | exact ⟨rfl, _, World.drewN_drewN _ _ _⟩ | exact ⟨rfl, _, Eq.trans (World.drewN_drewN _ _ _) (congrArg (World.drewN _) (Nat.add_assoc _ _ _))⟩))))
                        refine bodyPost_ret (results_list (rs := [.tmp 4, .tmp 5, .tmp 6, .tmp 7]) rfl (by simp) (.tmp (.tmp (.tmp (.tmp .nil))))) rfl ?_
                        exact ⟨by first | rfl | (simp; done) | (simp only [← hji8, ← hji15] <;> (first | rfl | simp)) | (simp [*]; done), by repeat (first | exact Drawn0.refl _ | apply Drawn0.step)⟩
                    · rw [if_neg c17] at H
                      exact absurd H (by simp)
                  · rw [if_neg c16] at H
                    exact absurd H (by simp)
              · replace c13 := Bool.eq_false_iff.mpr c13
                subst c13
                have H1 : (some (bt a0 (ji8), wrap64 (a1 + 2), false, true)) = some (r1, r2, r3, r4) := by rw [if_neg (show ¬ (false = true) by decide)] at H; exact H
                clear H
                have H := H1
                clear H1
                simp only [Option.some.injEq, Prod.mk.injEq] at H
                obtain ⟨rfl, rfl, rfl, rfl⟩ := H
                have p5 : 0 ≤ (a1 : Int) := of_decide_eq_true (by first | (with_reducible assumption) | assumption)
                have q5 : a1 < (a0.size : Int) := of_decide_eq_true (by first | (with_reducible assumption) | assumption)
                have hx5 := bt_at a0 a1
                replace p5 := eq_true p5
                replace q5 := eq_true q5
                have p11 : 0 ≤ ((ji8) : Int) := of_decide_eq_true (by first | (with_reducible assumption) | assumption)
                have q11 : (ji8) < (a0.size : Int) := of_decide_eq_true (by first | (with_reducible assumption) | assumption)
                have hx11 := bt_at a0 (ji8)
                replace p11 := eq_true p11
                replace q11 := eq_true q11
                go_enter Tryd.func49, Tryd.ntmps49
                go_wp2_with (first | (go_at_call 76; (with_reducible refine (spec_isDigit.calls (bt a0 (ji8)) false _ A12.out).mono ?_); rintro e w' ⟨rfl, ⟨nd, rfl⟩⟩; (try first | exact ⟨rfl, _, World.drewN_drewN _ _ _⟩ | exact ⟨rfl, _, Eq.trans (World.drewN_drewN _ _ _) (congrArg (World.drewN _) (Nat.add_assoc _ _ _))⟩); have p30 : 0 ≤ ((ji8) : Int) := of_decide_eq_true (by first | (with_reducible assumption) | assumption); have q30 : (ji8) < (a0.size : Int) := of_decide_eq_true (by first | (with_reducible assumption) | assumption); have hx30 := bt_at a0 (ji8); replace p30 := eq_true p30; replace q30 := eq_true q30))
                repeat (go_quiet (first | (go_at_call 76; (with_reducible refine (spec_isDigit.calls (bt a0 (ji8)) false _ A12.out).mono ?_); rintro e w' ⟨rfl, ⟨nd, rfl⟩⟩; (try first | exact ⟨rfl, _, World.drewN_drewN _ _ _⟩ | exact ⟨rfl, _, Eq.trans (World.drewN_drewN _ _ _) (congrArg (World.drewN _) (Nat.add_assoc _ _ _))⟩); have p30 : 0 ≤ ((ji8) : Int) := of_decide_eq_true (by first | (with_reducible assumption) | assumption); have q30 : (ji8) < (a0.size : Int) := of_decide_eq_true (by first | (with_reducible assumption) | assumption); have hx30 := bt_at a0 (ji8); replace p30 := eq_true p30; replace q30 := eq_true q30)); try go_wp2_with (first | (go_at_call 76; (with_reducible refine (spec_isDigit.calls (bt a0 (ji8)) false _ A12.out).mono ?_); rintro e w' ⟨rfl, ⟨nd, rfl⟩⟩; (try first | exact ⟨rfl, _, World.drewN_drewN _ _ _⟩ | exact ⟨rfl, _, Eq.trans (World.drewN_drewN _ _ _) (congrArg (World.drewN _) (Nat.add_assoc _ _ _))⟩); have p30 : 0 ≤ ((ji8) : Int) := of_decide_eq_true (by first | (with_reducible assumption) | assumption); have q30 : (ji8) < (a0.size : Int) := of_decide_eq_true (by first | (with_reducible assumption) | assumption); have hx30 := bt_at a0 (ji8); replace p30 := eq_true p30; replace q30 := eq_true q30)))
                refine bodyPost_ret (results_list (rs := [.tmp 4, .tmp 5, .tmp 6, .tmp 7]) rfl (by simp) (.tmp (.tmp (.tmp (.tmp .nil))))) rfl ?_
                exact ⟨by first | rfl | (simp; done) | (simp only [← hji8] <;> (first | rfl | simp)) | (simp [*]; done), by repeat (first | exact Drawn0.refl _ | apply Drawn0.step)⟩
            · rw [if_neg c10] at H
              exact absurd H (by simp)
          · rw [if_neg c9] at H
            exact absurd H (by simp)
      · rw [if_neg c6] at H
        have c6b0 : ((bt a0 a1) == 92) = false := beq_eq_false_iff_ne.mpr c6
        have c6b1 : ((bt a0 a1) != 92) = true := bne_iff_ne.mpr c6
        simp only [Option.some.injEq, Prod.mk.injEq] at H
        obtain ⟨rfl, rfl, rfl, rfl⟩ := H
        have p5 : 0 ≤ (a1 : Int) := of_decide_eq_true (by first | (with_reducible assumption) | assumption)
        have q5 : a1 < (a0.size : Int) := of_decide_eq_true (by first | (with_reducible assumption) | assumption)
        have hx5 := bt_at a0 a1
        replace p5 := eq_true p5
        replace q5 := eq_true q5
        have p31 : 0 ≤ (a1 : Int) := of_decide_eq_true (by first | (with_reducible assumption) | assumption)
        have q31 : a1 < (a0.size : Int) := of_decide_eq_true (by first | (with_reducible assumption) | assumption)
        have hx31 := bt_at a0 a1
        replace p31 := eq_true p31
        replace q31 := eq_true q31
        go_enter Tryd.func49, Tryd.ntmps49
        go_wp2
        repeat (go_quiet (fail); try go_wp2)
        refine bodyPost_ret (results_list (rs := [.tmp 4, .tmp 5, .tmp 6, .tmp 7]) rfl (by simp) (.tmp (.tmp (.tmp (.tmp .nil))))) rfl ?_
        exact ⟨by first | rfl | (simp; done) | (simp [*]; done) | (simp [wrap64]; done), by repeat (first | exact Drawn0.refl _ | apply Drawn0.step)⟩
    · rw [if_neg c4] at H
      exact absurd H (by simp)
  · rw [if_neg c3] at H
    exact absurd H (by simp)

end Go.Proofs.YtiilihafcdmccaaDoor.P
