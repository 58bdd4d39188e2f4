-- Written by a program of this session (wip/tools/pprint.py) out of the translation: it goes by the kit's print and by the contracts of YtiilihafcdmccaaDoorHand. Not trusted: Lean checks it.
import Derived.Test.YtiilihafcdmccaaDoorP0
namespace Go.Proofs.YtiilihafcdmccaaDoor.P
open Go.RowKit Go.Proofs.YtiilihafcdmccaaDoorW.PrintWords Go.Proofs.YtiilihafcdmccaaDoorW.PrintLast Go.Proofs.YtiilihafcdmccaaDoorW.PrintMore
attribute [local go_sem] max2_int min2_int max_two min_two max_three min_three max_four min_four   -- for this text's walks alone
set_option linter.unusedVariables false
set_option linter.unusedSimpArgs false

/-! ### dns_isDomainNameLabelSpecial: function 74 -/
def dns_isDomainNameLabelSpecial.f (a0 : Int) : Option (Bool) := if a0 = 46 then (some true) else (if a0 = 32 then (some true) else (if a0 = 39 then (some true) else (if a0 = 64 then (some true) else (if a0 = 59 then (some true) else (if a0 = 40 then (some true) else (if a0 = 41 then (some true) else (if a0 = 34 then (some true) else (if a0 = 92 then (some true) else (some false)))))))))
set_option maxHeartbeats 8000000 in
set_option maxRecDepth 100000 in
theorem dns_isDomainNameLabelSpecial.calls (a0 : Int) (r : Bool) (w : World) (h : dns_isDomainNameLabelSpecial.f a0 = some r) :
    Calls Tryd.prog 74 #[.int .u8 a0] w fun e w' => e = .returned (.bool r) ∧ Drawn0 w w' := by
  have H : (if a0 = 46 then (some true) else (if a0 = 32 then (some true) else (if a0 = 39 then (some true) else (if a0 = 64 then (some true) else (if a0 = 59 then (some true) else (if a0 = 40 then (some true) else (if a0 = 41 then (some true) else (if a0 = 34 then (some true) else (if a0 = 92 then (some true) else (some false)))))))))) = some r := h
  clear h
  by_cases c2 : a0 = 46
  · rw [if_pos c2] at H
    have c2b0 : (a0 == 46) = true := beq_iff_eq.mpr c2
    have c2b1 : (a0 != 46) = false := bne_eq_false_iff_eq.mpr c2
    clear c2
    obtain rfl := Option.some.inj H
    go_enter Tryd.func74, Tryd.ntmps74
    go_wp2
    go_ret
    exact ⟨by first | rfl | (simp; done) | (simp [*]; done) | (simp [wrap64]; done), by repeat (first | exact Drawn0.refl _ | apply Drawn0.step)⟩
  · rw [if_neg c2] at H
    have c2b0 : (a0 == 46) = false := beq_eq_false_iff_ne.mpr c2
    have c2b1 : (a0 != 46) = true := bne_iff_ne.mpr c2
    by_cases c3 : a0 = 32
    · rw [if_pos c3] at H
      have c3b0 : (a0 == 32) = true := beq_iff_eq.mpr c3
      have c3b1 : (a0 != 32) = false := bne_eq_false_iff_eq.mpr c3
      clear c3
      obtain rfl := Option.some.inj H
      go_enter Tryd.func74, Tryd.ntmps74
      go_wp2
      go_ret
      exact ⟨by first | rfl | (simp; done) | (simp [*]; done) | (simp [wrap64]; done), by repeat (first | exact Drawn0.refl _ | apply Drawn0.step)⟩
    · rw [if_neg c3] at H
      have c3b0 : (a0 == 32) = false := beq_eq_false_iff_ne.mpr c3
      have c3b1 : (a0 != 32) = true := bne_iff_ne.mpr c3
      by_cases c4 : a0 = 39
      · rw [if_pos c4] at H
        have c4b0 : (a0 == 39) = true := beq_iff_eq.mpr c4
        have c4b1 : (a0 != 39) = false := bne_eq_false_iff_eq.mpr c4
        clear c4
        obtain rfl := Option.some.inj H
        go_enter Tryd.func74, Tryd.ntmps74
        go_wp2
        go_ret
        exact ⟨by first | rfl | (simp; done) | (simp [*]; done) | (simp [wrap64]; done), by repeat (first | exact Drawn0.refl _ | apply Drawn0.step)⟩
      · rw [if_neg c4] at H
        have c4b0 : (a0 == 39) = false := beq_eq_false_iff_ne.mpr c4
        have c4b1 : (a0 != 39) = true := bne_iff_ne.mpr c4
        by_cases c5 : a0 = 64
        · rw [if_pos c5] at H
          have c5b0 : (a0 == 64) = true := beq_iff_eq.mpr c5
          have c5b1 : (a0 != 64) = false := bne_eq_false_iff_eq.mpr c5
          clear c5
          obtain rfl := Option.some.inj H
          go_enter Tryd.func74, Tryd.ntmps74
          go_wp2
          go_ret
          exact ⟨by first | rfl | (simp; done) | (simp [*]; done) | (simp [wrap64]; done), by repeat (first | exact Drawn0.refl _ | apply Drawn0.step)⟩
        · rw [if_neg c5] at H
          have c5b0 : (a0 == 64) = false := beq_eq_false_iff_ne.mpr c5
          have c5b1 : (a0 != 64) = true := bne_iff_ne.mpr c5
          by_cases c6 : a0 = 59
          · rw [if_pos c6] at H
            have c6b0 : (a0 == 59) = true := beq_iff_eq.mpr c6
            have c6b1 : (a0 != 59) = false := bne_eq_false_iff_eq.mpr c6
            clear c6
            obtain rfl := Option.some.inj H
            go_enter Tryd.func74, Tryd.ntmps74
            go_wp2
            go_ret
            exact ⟨by first | rfl | (simp; done) | (simp [*]; done) | (simp [wrap64]; done), by repeat (first | exact Drawn0.refl _ | apply Drawn0.step)⟩
          · rw [if_neg c6] at H
            have c6b0 : (a0 == 59) = false := beq_eq_false_iff_ne.mpr c6
            have c6b1 : (a0 != 59) = true := bne_iff_ne.mpr c6
            by_cases c7 : a0 = 40
            · rw [if_pos c7] at H
              have c7b0 : (a0 == 40) = true := beq_iff_eq.mpr c7
              have c7b1 : (a0 != 40) = false := bne_eq_false_iff_eq.mpr c7
              clear c7
              obtain rfl := Option.some.inj H
              go_enter Tryd.func74, Tryd.ntmps74
              go_wp2
              go_ret
              exact ⟨by first | rfl | (simp; done) | (simp [*]; done) | (simp [wrap64]; done), by repeat (first | exact Drawn0.refl _ | apply Drawn0.step)⟩
            · rw [if_neg c7] at H
              have c7b0 : (a0 == 40) = false := beq_eq_false_iff_ne.mpr c7
              have c7b1 : (a0 != 40) = true := bne_iff_ne.mpr c7
              by_cases c8 : a0 = 41
              · rw [if_pos c8] at H
                have c8b0 : (a0 == 41) = true := beq_iff_eq.mpr c8
                have c8b1 : (a0 != 41) = false := bne_eq_false_iff_eq.mpr c8
                clear c8
                obtain rfl := Option.some.inj H
                go_enter Tryd.func74, Tryd.ntmps74
                go_wp2
                go_ret
                exact ⟨by first | rfl | (simp; done) | (simp [*]; done) | (simp [wrap64]; done), by repeat (first | exact Drawn0.refl _ | apply Drawn0.step)⟩
              · rw [if_neg c8] at H
                have c8b0 : (a0 == 41) = false := beq_eq_false_iff_ne.mpr c8
                have c8b1 : (a0 != 41) = true := bne_iff_ne.mpr c8
                by_cases c9 : a0 = 34
                · rw [if_pos c9] at H
                  have c9b0 : (a0 == 34) = true := beq_iff_eq.mpr c9
                  have c9b1 : (a0 != 34) = false := bne_eq_false_iff_eq.mpr c9
                  clear c9
                  obtain rfl := Option.some.inj H
                  go_enter Tryd.func74, Tryd.ntmps74
                  go_wp2
                  go_ret
                  exact ⟨by first | rfl | (simp; done) | (simp [*]; done) | (simp [wrap64]; done), by repeat (first | exact Drawn0.refl _ | apply Drawn0.step)⟩
                · rw [if_neg c9] at H
                  have c9b0 : (a0 == 34) = false := beq_eq_false_iff_ne.mpr c9
                  have c9b1 : (a0 != 34) = true := bne_iff_ne.mpr c9
                  by_cases c10 : a0 = 92
                  · rw [if_pos c10] at H
                    have c10b0 : (a0 == 92) = true := beq_iff_eq.mpr c10
                    have c10b1 : (a0 != 92) = false := bne_eq_false_iff_eq.mpr c10
                    clear c10
                    obtain rfl := Option.some.inj H
                    go_enter Tryd.func74, Tryd.ntmps74
                    go_wp2
                    go_ret
                    exact ⟨by first | rfl | (simp; done) | (simp [*]; done) | (simp [wrap64]; done), by repeat (first | exact Drawn0.refl _ | apply Drawn0.step)⟩
                  · rw [if_neg c10] at H
                    have c10b0 : (a0 == 92) = false := beq_eq_false_iff_ne.mpr c10
                    have c10b1 : (a0 != 92) = true := bne_iff_ne.mpr c10
                    obtain rfl := Option.some.inj H
                    go_enter Tryd.func74, Tryd.ntmps74
                    go_wp2
                    go_ret
                    exact ⟨by first | rfl | (simp; done) | (simp [*]; done) | (simp [wrap64]; done), by repeat (first | exact Drawn0.refl _ | apply Drawn0.step)⟩

end Go.Proofs.YtiilihafcdmccaaDoor.P
