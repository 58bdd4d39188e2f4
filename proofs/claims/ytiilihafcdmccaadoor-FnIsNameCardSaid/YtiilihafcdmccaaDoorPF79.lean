-- Written by a program of this session (wip/tools/pprint.py) out of the translation: it goes by the kit's print and by the contracts of YtiilihafcdmccaaDoorHand. Not trusted: Lean checks it.
import Derived.Test.YtiilihafcdmccaaDoorP0
import Derived.Test.YtiilihafcdmccaaDoorPF101
namespace Go.Proofs.YtiilihafcdmccaaDoor.P
open Go.RowKit Go.Proofs.YtiilihafcdmccaaDoorW.PrintWords Go.Proofs.YtiilihafcdmccaaDoorW.PrintLast Go.Proofs.YtiilihafcdmccaaDoorW.PrintMore
attribute [local go_sem] max2_int min2_int max_two min_two max_three min_three max_four min_four   -- for this text's walks alone
set_option linter.unusedVariables false
set_option linter.unusedSimpArgs false

/-! ### dns_isDDD_string: function 79 -/
def dns_isDDD_string.f (a0 : ByteArray) : Option (Bool) := if (a0.size : Int) ≥ 3 then (if 0 < (a0.size : Int) then ((dns_isDigit.f (bt a0 0)).bind fun t147 => (if t147 = true then (if 1 < (a0.size : Int) then ((dns_isDigit.f (bt a0 1)).bind fun t148 => (if t148 = true then (if 2 < (a0.size : Int) then ((dns_isDigit.f (bt a0 2)).bind fun t149 => (some t149)) else (none)) else (some false))) else (none)) else (some false))) else (none)) else (some false)
set_option maxHeartbeats 8000000 in
set_option maxRecDepth 100000 in
theorem dns_isDDD_string.calls (a0 : ByteArray) (r : Bool) (w : World) (h : dns_isDDD_string.f a0 = some r) :
    Calls Tryd.prog 79 #[.string a0] w fun e w' => e = .returned (.bool r) ∧ Drawn0 w w' := by
  have H : (if (a0.size : Int) ≥ 3 then (if 0 < (a0.size : Int) then ((dns_isDigit.f (bt a0 0)).bind fun t147 => (if t147 = true then (if 1 < (a0.size : Int) then ((dns_isDigit.f (bt a0 1)).bind fun t148 => (if t148 = true then (if 2 < (a0.size : Int) then ((dns_isDigit.f (bt a0 2)).bind fun t149 => (some t149)) else (none)) else (some false))) else (none)) else (some false))) else (none)) else (some false)) = some r := h
  clear h
  by_cases c2 : (a0.size : Int) ≥ 3
  · rw [if_pos c2] at H
    have c2b0 : decide (3 ≤ (a0.size : Int)) = true := decide_eq_true c2
    have c2b1 : decide (3 ≤ a0.size) = true := decide_eq_true (by omega)
    clear c2
    by_cases c3 : 0 < (a0.size : Int)
    · rw [if_pos c3] at H
      have c3b0 : decide (0 < (a0.size : Int)) = true := decide_eq_true c3
      have c3b1 : decide (0 < a0.size) = true := decide_eq_true (by omega)
      clear c3
      replace H := Option.bind_eq_some_iff.mp H
      obtain ⟨t147, A50, H⟩ := H
      replace H : (if t147 = true then (if 1 < (a0.size : Int) then ((dns_isDigit.f (bt a0 1)).bind fun t148 => (if t148 = true then (if 2 < (a0.size : Int) then ((dns_isDigit.f (bt a0 2)).bind fun t149 => (some t149)) else (none)) else (some false))) else (none)) else (some false)) = some r := H
      have A5 := Aside0.mk A50
      clear A50
      by_cases c6 : t147 = true
      · subst c6
        have H1 : (if 1 < (a0.size : Int) then ((dns_isDigit.f (bt a0 1)).bind fun t148 => (if t148 = true then (if 2 < (a0.size : Int) then ((dns_isDigit.f (bt a0 2)).bind fun t149 => (some t149)) else (none)) else (some false))) else (none)) = some r := by rw [if_pos rfl] at H; exact H
        clear H
        have H := H1
        clear H1
        by_cases c7 : 1 < (a0.size : Int)
        · rw [if_pos c7] at H
          have c7b0 : decide (1 < (a0.size : Int)) = true := decide_eq_true c7
          have c7b1 : decide (1 < a0.size) = true := decide_eq_true (by omega)
          clear c7
          replace H := Option.bind_eq_some_iff.mp H
          obtain ⟨t148, A90, H⟩ := H
          replace H : (if t148 = true then (if 2 < (a0.size : Int) then ((dns_isDigit.f (bt a0 2)).bind fun t149 => (some t149)) else (none)) else (some false)) = some r := H
          have A9 := Aside0.mk A90
          clear A90
          by_cases c10 : t148 = true
          · subst c10
            have H1 : (if 2 < (a0.size : Int) then ((dns_isDigit.f (bt a0 2)).bind fun t149 => (some t149)) else (none)) = some r := by rw [if_pos rfl] at H; exact H
            clear H
            have H := H1
            clear H1
            by_cases c11 : 2 < (a0.size : Int)
            · rw [if_pos c11] at H
              have c11b0 : decide (2 < (a0.size : Int)) = true := decide_eq_true c11
              have c11b1 : decide (2 < a0.size) = true := decide_eq_true (by omega)
              clear c11
              replace H := Option.bind_eq_some_iff.mp H
              obtain ⟨t149, A130, H⟩ := H
              replace H : (some t149) = some r := H
              have A13 := Aside0.mk A130
              clear A130
              obtain rfl := Option.some.inj H
              have p4 : 0 ≤ (0 : Int) := (by omega)
              have q4 : 0 < a0.size := (by have : (0 : Int) < (a0.size : Int) := of_decide_eq_true (by first | (with_reducible assumption) | assumption); omega)
              have hx4 : ∀ h : 0 < a0.size, ((a0[0]'h).toNat : Int) = bt a0 0 := bt_at a0 0
              clear p4
              have qi4 : (0 < (a0.size : Int)) = True := eq_true (of_decide_eq_true (by first | (with_reducible assumption) | assumption))
              replace q4 := eq_true q4
              go_enter Tryd.func79, Tryd.ntmps79
              go_wp2_with (first | (go_at_call 101; (with_reducible refine (dns_isDigit.calls (bt a0 0) true _ A5.out).mono ?_); rintro e w' ⟨rfl, ⟨nd, rfl⟩⟩; have p8 : 0 ≤ (1 : Int) := (by omega); have q8 : 1 < a0.size := (by have : (1 : Int) < (a0.size : Int) := of_decide_eq_true (by first | (with_reducible assumption) | assumption); omega); have hx8 : ∀ h : 1 < a0.size, ((a0[1]'h).toNat : Int) = bt a0 1 := bt_at a0 1; clear p8; have qi8 : (1 < (a0.size : Int)) = True := eq_true (of_decide_eq_true (by first | (with_reducible assumption) | assumption)); replace q8 := eq_true q8) | (go_at_call 101; (with_reducible refine (dns_isDigit.calls (bt a0 1) true _ A9.out).mono ?_); rintro e w' ⟨rfl, ⟨nd, rfl⟩⟩; have p12 : 0 ≤ (2 : Int) := (by omega); have q12 : 2 < a0.size := (by have : (2 : Int) < (a0.size : Int) := of_decide_eq_true (by first | (with_reducible assumption) | assumption); omega); have hx12 : ∀ h : 2 < a0.size, ((a0[2]'h).toNat : Int) = bt a0 2 := bt_at a0 2; clear p12; have qi12 : (2 < (a0.size : Int)) = True := eq_true (of_decide_eq_true (by first | (with_reducible assumption) | assumption)); replace q12 := eq_true q12) | (go_at_call 101; (with_reducible refine (dns_isDigit.calls (bt a0 2) t149 _ A13.out).mono ?_); rintro e w' ⟨rfl, ⟨nd, rfl⟩⟩))
              go_ret
              exact ⟨by first | rfl | (simp; done) | (simp [*]; done) | (simp [wrap64]; done), by repeat (first | exact Drawn0.refl _ | apply Drawn0.step)⟩
            · rw [if_neg c11] at H
              exact absurd H (by simp)
          · replace c10 := Bool.eq_false_iff.mpr c10
            subst c10
            have H1 : (some false) = some r := by rw [if_neg (show ¬ (false = true) by decide)] at H; exact H
            clear H
            have H := H1
            clear H1
            obtain rfl := Option.some.inj H
            have p4 : 0 ≤ (0 : Int) := (by omega)
            have q4 : 0 < a0.size := (by have : (0 : Int) < (a0.size : Int) := of_decide_eq_true (by first | (with_reducible assumption) | assumption); omega)
            have hx4 : ∀ h : 0 < a0.size, ((a0[0]'h).toNat : Int) = bt a0 0 := bt_at a0 0
            clear p4
            have qi4 : (0 < (a0.size : Int)) = True := eq_true (of_decide_eq_true (by first | (with_reducible assumption) | assumption))
            replace q4 := eq_true q4
            go_enter Tryd.func79, Tryd.ntmps79
            go_wp2_with (first | (go_at_call 101; (with_reducible refine (dns_isDigit.calls (bt a0 0) true _ A5.out).mono ?_); rintro e w' ⟨rfl, ⟨nd, rfl⟩⟩; have p8 : 0 ≤ (1 : Int) := (by omega); have q8 : 1 < a0.size := (by have : (1 : Int) < (a0.size : Int) := of_decide_eq_true (by first | (with_reducible assumption) | assumption); omega); have hx8 : ∀ h : 1 < a0.size, ((a0[1]'h).toNat : Int) = bt a0 1 := bt_at a0 1; clear p8; have qi8 : (1 < (a0.size : Int)) = True := eq_true (of_decide_eq_true (by first | (with_reducible assumption) | assumption)); replace q8 := eq_true q8) | (go_at_call 101; (with_reducible refine (dns_isDigit.calls (bt a0 1) false _ A9.out).mono ?_); rintro e w' ⟨rfl, ⟨nd, rfl⟩⟩))
            go_ret
            exact ⟨by first | rfl | (simp; done) | (simp [*]; done) | (simp [wrap64]; done), by repeat (first | exact Drawn0.refl _ | apply Drawn0.step)⟩
        · rw [if_neg c7] at H
          exact absurd H (by simp)
      · replace c6 := Bool.eq_false_iff.mpr c6
        subst c6
        have H1 : (some false) = some r := by rw [if_neg (show ¬ (false = true) by decide)] at H; exact H
        clear H
        have H := H1
        clear H1
        obtain rfl := Option.some.inj H
        have p4 : 0 ≤ (0 : Int) := (by omega)
        have q4 : 0 < a0.size := (by have : (0 : Int) < (a0.size : Int) := of_decide_eq_true (by first | (with_reducible assumption) | assumption); omega)
        have hx4 : ∀ h : 0 < a0.size, ((a0[0]'h).toNat : Int) = bt a0 0 := bt_at a0 0
        clear p4
        have qi4 : (0 < (a0.size : Int)) = True := eq_true (of_decide_eq_true (by first | (with_reducible assumption) | assumption))
        replace q4 := eq_true q4
        go_enter Tryd.func79, Tryd.ntmps79
        go_wp2_with (first | (go_at_call 101; (with_reducible refine (dns_isDigit.calls (bt a0 0) false _ A5.out).mono ?_); rintro e w' ⟨rfl, ⟨nd, rfl⟩⟩))
        go_ret
        exact ⟨by first | rfl | (simp; done) | (simp [*]; done) | (simp [wrap64]; done), by repeat (first | exact Drawn0.refl _ | apply Drawn0.step)⟩
    · rw [if_neg c3] at H
      exact absurd H (by simp)
  · rw [if_neg c2] at H
    have c2b0 : decide (3 ≤ (a0.size : Int)) = false := decide_eq_false c2
    have c2b1 : decide (3 ≤ a0.size) = false := decide_eq_false (by omega)
    clear c2
    obtain rfl := Option.some.inj H
    go_enter Tryd.func79, Tryd.ntmps79
    go_wp2
    go_ret
    exact ⟨by first | rfl | (simp; done) | (simp [*]; done) | (simp [wrap64]; done), by repeat (first | exact Drawn0.refl _ | apply Drawn0.step)⟩

end Go.Proofs.YtiilihafcdmccaaDoor.P
