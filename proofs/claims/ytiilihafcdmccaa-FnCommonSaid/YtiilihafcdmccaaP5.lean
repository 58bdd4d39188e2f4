-- Written by a program of this session (wip/tools/pprint.py) out of the translation: it goes by the kit's print and by the contracts of YtiilihafcdmccaaHand. Not trusted: Lean checks it.
import Derived.Test.YtiilihafcdmccaaP0
import Derived.Test.YtiilihafcdmccaaP1
import Derived.Test.YtiilihafcdmccaaP2
import Derived.Test.YtiilihafcdmccaaP4
namespace Go.Proofs.Ytiilihafcdmccaa.P
open Go.RowKit Go.Proofs.YtiilihafcdmccaaW.PrintWords Go.Proofs.YtiilihafcdmccaaW.PrintLast Go.Proofs.YtiilihafcdmccaaW.PrintMore
attribute [local go_sem] max2_int min2_int max_two min_two max_three min_three max_four min_four   -- for this text's walks alone
set_option linter.unusedVariables false
set_option linter.unusedSimpArgs false

/-! ### laws_FnCommon: function 3 -/
mutual
def laws_FnCommon.j0 : Nat → ByteArray → ByteArray → Bool → Option (Bool)
  | 0, _, _, _ => none
  | k + 1, x0, x1, x19 => if x19 = true then (some true) else ((laws_few.f x0).bind fun t169 => (if t169 = true then ((laws_few.f x1).bind fun t170 => (if t170 = true then ((laws_ascii.f k x0).bind fun t171 => (if t171 = true then ((laws_ascii.f k x1).bind fun t172 => (laws_FnCommon.j1 k x0 x1 (!t172))) else (laws_FnCommon.j1 k x0 x1 true))) else (laws_FnCommon.j1 k x0 x1 true))) else (laws_FnCommon.j1 k x0 x1 true)))
def laws_FnCommon.j1 : Nat → ByteArray → ByteArray → Bool → Option (Bool)
  | 0, _, _, _ => none
  | k + 1, x0, x1, x37 => if x37 = true then (some true) else ((laws_plain.f k x0).bind fun bt173 => ((laws_plain.f k x1).bind fun bt178 => (if bt173.2.2 = true then (if bt178.2.2 = true then (if bt173.2.1 = true then (laws_FnCommon.j2 k x0 x1 bt173.1 bt178.1 (!bt178.2.1)) else (laws_FnCommon.j2 k x0 x1 bt173.1 bt178.1 true)) else (laws_FnCommon.j2 k x0 x1 bt173.1 bt178.1 true)) else (laws_FnCommon.j2 k x0 x1 bt173.1 bt178.1 true))))
def laws_FnCommon.j2 : Nat → ByteArray → ByteArray → List ByteArray → List ByteArray → Bool → Option (Bool)
  | 0, _, _, _, _, _ => none
  | k + 1, x0, x1, x5, x8, x63 => if x63 = true then (some true) else ((spec_Common.f k x5 x8).bind fun t183 => ((impl_Common.f k x0 x1).bind fun t184 => (if t184 = t183 then ((impl_Common.f k x1 x0).bind fun t185 => (if t185 = t183 then ((impl_IsSub.f k x0 x1).bind fun t186 => (some (t186 == (t183 == (x5.length : Int))))) else (some false))) else (some false))))
end
def laws_FnCommon.f (k : Nat) (a0 : ByteArray) (a1 : ByteArray) : Option (Bool) := if (a0.size : Int) > 2147483647 then (laws_FnCommon.j0 k a0 a1 true) else (laws_FnCommon.j0 k a0 a1 (decide ((a1.size : Int) > 2147483647)))
theorem laws_FnCommon.mono_l : ∀ k, (∀ y0 y1 y2, LeO (laws_FnCommon.j0 k y0 y1 y2) (laws_FnCommon.j0 (k + 1) y0 y1 y2)) ∧ (∀ y0 y1 y2, LeO (laws_FnCommon.j1 k y0 y1 y2) (laws_FnCommon.j1 (k + 1) y0 y1 y2)) ∧ (∀ y0 y1 y2 y3 y4, LeO (laws_FnCommon.j2 k y0 y1 y2 y3 y4) (laws_FnCommon.j2 (k + 1) y0 y1 y2 y3 y4))
  | 0 => ⟨fun _ _ _ r h => by simp [laws_FnCommon.j0] at h, fun _ _ _ r h => by simp [laws_FnCommon.j1] at h, fun _ _ _ _ _ r h => by simp [laws_FnCommon.j2] at h⟩
  | k + 1 => by
    obtain ⟨ih0, ih1, ih2⟩ := laws_FnCommon.mono_l k
    refine ⟨?_, ?_, ?_⟩
    · intro y0 y1 y2
      unfold laws_FnCommon.j0
      repeat' first
      | (with_reducible exact ih0 _ _ _)
      | (with_reducible exact ih1 _ _ _)
      | (with_reducible exact ih2 _ _ _ _ _)
      | (with_reducible exact impl_Common.mono _ _ _)
      | (with_reducible exact impl_IsSub.mono _ _ _)
      | (with_reducible exact laws_ascii.mono _ _)
      | (with_reducible exact laws_plain.mono _ _)
      | (with_reducible exact spec_Common.mono _ _ _)
      | (with_reducible exact LeO.refl _)
      | (with_reducible exact LeO.none _)
      | (with_reducible refine LeO.ite ?_ ?_)
      | (with_reducible refine LeO.bind ?_ (fun _ => ?_))
      | exact ih0 _ _ _
      | exact ih1 _ _ _
      | exact ih2 _ _ _ _ _
      | exact impl_Common.mono _ _ _
      | exact impl_IsSub.mono _ _ _
      | exact laws_ascii.mono _ _
      | exact laws_plain.mono _ _
      | exact spec_Common.mono _ _ _
      | exact LeO.none _
      | refine LeO.ite ?_ ?_
      | refine LeO.bind ?_ (fun _ => ?_)
    · intro y0 y1 y2
      unfold laws_FnCommon.j1
      repeat' first
      | (with_reducible exact ih0 _ _ _)
      | (with_reducible exact ih1 _ _ _)
      | (with_reducible exact ih2 _ _ _ _ _)
      | (with_reducible exact impl_Common.mono _ _ _)
      | (with_reducible exact impl_IsSub.mono _ _ _)
      | (with_reducible exact laws_ascii.mono _ _)
      | (with_reducible exact laws_plain.mono _ _)
      | (with_reducible exact spec_Common.mono _ _ _)
      | (with_reducible exact LeO.refl _)
      | (with_reducible exact LeO.none _)
      | (with_reducible refine LeO.ite ?_ ?_)
      | (with_reducible refine LeO.bind ?_ (fun _ => ?_))
      | exact ih0 _ _ _
      | exact ih1 _ _ _
      | exact ih2 _ _ _ _ _
      | exact impl_Common.mono _ _ _
      | exact impl_IsSub.mono _ _ _
      | exact laws_ascii.mono _ _
      | exact laws_plain.mono _ _
      | exact spec_Common.mono _ _ _
      | exact LeO.none _
      | refine LeO.ite ?_ ?_
      | refine LeO.bind ?_ (fun _ => ?_)
    · intro y0 y1 y2 y3 y4
      unfold laws_FnCommon.j2
      repeat' first
      | (with_reducible exact ih0 _ _ _)
      | (with_reducible exact ih1 _ _ _)
      | (with_reducible exact ih2 _ _ _ _ _)
      | (with_reducible exact impl_Common.mono _ _ _)
      | (with_reducible exact impl_IsSub.mono _ _ _)
      | (with_reducible exact laws_ascii.mono _ _)
      | (with_reducible exact laws_plain.mono _ _)
      | (with_reducible exact spec_Common.mono _ _ _)
      | (with_reducible exact LeO.refl _)
      | (with_reducible exact LeO.none _)
      | (with_reducible refine LeO.ite ?_ ?_)
      | (with_reducible refine LeO.bind ?_ (fun _ => ?_))
      | exact ih0 _ _ _
      | exact ih1 _ _ _
      | exact ih2 _ _ _ _ _
      | exact impl_Common.mono _ _ _
      | exact impl_IsSub.mono _ _ _
      | exact laws_ascii.mono _ _
      | exact laws_plain.mono _ _
      | exact spec_Common.mono _ _ _
      | exact LeO.none _
      | refine LeO.ite ?_ ?_
      | refine LeO.bind ?_ (fun _ => ?_)
theorem laws_FnCommon.mono : ∀ a0 a1 k, LeO (laws_FnCommon.f k a0 a1) (laws_FnCommon.f (k + 1) a0 a1) := by
  intro a0 a1 k
  obtain ⟨ih0, ih1, ih2⟩ := laws_FnCommon.mono_l k
  unfold laws_FnCommon.f
  repeat' first
      | (with_reducible exact ih0 _ _ _)
      | (with_reducible exact ih1 _ _ _)
      | (with_reducible exact ih2 _ _ _ _ _)
      | (with_reducible exact impl_Common.mono _ _ _)
      | (with_reducible exact impl_IsSub.mono _ _ _)
      | (with_reducible exact laws_ascii.mono _ _)
      | (with_reducible exact laws_plain.mono _ _)
      | (with_reducible exact spec_Common.mono _ _ _)
      | (with_reducible exact LeO.refl _)
      | (with_reducible exact LeO.none _)
      | (with_reducible refine LeO.ite ?_ ?_)
      | (with_reducible refine LeO.bind ?_ (fun _ => ?_))
      | exact ih0 _ _ _
      | exact ih1 _ _ _
      | exact ih2 _ _ _ _ _
      | exact impl_Common.mono _ _ _
      | exact impl_IsSub.mono _ _ _
      | exact laws_ascii.mono _ _
      | exact laws_plain.mono _ _
      | exact spec_Common.mono _ _ _
      | exact LeO.none _
      | refine LeO.ite ?_ ?_
      | refine LeO.bind ?_ (fun _ => ?_)
set_option maxHeartbeats 8000000 in
set_option maxRecDepth 100000 in
theorem laws_FnCommon.calls (k : Nat) (a0 : ByteArray) (a1 : ByteArray) (r : Bool) (w : World) (h : laws_FnCommon.f k a0 a1 = some r) :
    Calls Try.prog 3 #[.string a0, .string a1] w fun e w' => e = .returned (.bool r) ∧ Below w.heap.size w w' := by
  have HB := Aside0.mk (Below.refl w.heap.size w)
  have H : (if (a0.size : Int) > 2147483647 then (laws_FnCommon.j0 k a0 a1 true) else (laws_FnCommon.j0 k a0 a1 (decide ((a1.size : Int) > 2147483647)))) = some r := h
  clear h
  have HC3 := Aside0.mk H
  clear H
  go_enter Try.func3, Try.ntmps3
  go_upto_region 1 with (fail)
  go_cut [19] (fun v19 wc => ∃ (kq : Nat) (x19_2 : Bool), v19 = .bool x19_2 ∧ Aside0 (laws_FnCommon.j0 kq a0 a1 x19_2 = some r) ∧ Aside0 (kq ≤ k) ∧ Aside0 (Below w.heap.size w wc))
  case first =>
    have H := HC3.out
    clear HC3
    by_cases c4 : (a0.size : Int) > 2147483647
    · rw [if_pos c4] at H
      have c4b0 : decide (2147483647 < (a0.size : Int)) = true := decide_eq_true c4
      have c4b1 : decide (2147483647 < a0.size) = true := decide_eq_true (by omega)
      clear c4
      (first | rw [c4b0] | (simp only [i64_w, i32_w]; rw [c4b0]) | skip)
      have H' := Aside0.mk H
      clear H
      go_wp2
      go_meet
      case rel => exact ⟨_, (true), (by first | rfl | (simp; done) | (simp [*]; done) | (simp [wrap64]; done)), H', ⟨by first | omega | exact Nat.le_refl _⟩, ⟨by repeat (first | (with_reducible first | exact HB.out | apply below_alloc | apply pw_below_drewN | apply below_drew1) | exact HB.out)⟩⟩
    · rw [if_neg c4] at H
      have c4b0 : decide (2147483647 < (a0.size : Int)) = false := decide_eq_false c4
      have c4b1 : decide (2147483647 < a0.size) = false := decide_eq_false (by omega)
      clear c4
      (first | rw [c4b0] | (simp only [i64_w, i32_w]; rw [c4b0]) | skip)
      have H' := Aside0.mk H
      clear H
      go_wp2
      go_meet
      case rel => exact ⟨_, (decide ((a1.size : Int) > 2147483647)), (by first | rfl | (simp; done) | (simp [*]; done) | (simp [wrap64]; done)), H', ⟨by first | omega | exact Nat.le_refl _⟩, ⟨by repeat (first | (with_reducible first | exact HB.out | apply below_alloc | apply pw_below_drewN | apply below_drew1) | exact HB.out)⟩⟩
  case rest =>
    clear HC3
    try clear p2
    try clear c3
    try clear c4
    try clear c4b0
    try clear c4b1
    obtain ⟨kq, x19_2, rfl, HA, HJ2, HB⟩ := hcut
    cases kq with
    | zero => exact absurd HA.out (by simp [laws_FnCommon.j0])
    | succ kj2 =>
      have H := HA.out
      clear HA
      simp only [laws_FnCommon.j0] at H
      by_cases c5 : x19_2 = true
      · subst c5
        have H1 : (some true) = some r := by rw [if_pos rfl] at H; exact H
        clear H
        have H := H1
        clear H1
        obtain rfl := Option.some.inj H
        go_wp2
        go_ret
        exact ⟨by first | rfl | (simp [errW_none, errW_some] <;> rfl) | (simp [*, errW_none, errW_some] <;> rfl), by repeat (first | (with_reducible first | exact HB.out | apply below_alloc | apply pw_below_drewN | apply below_drew1) | exact HB.out)⟩
      · replace c5 := Bool.eq_false_iff.mpr c5
        subst c5
        have H1 : ((laws_few.f a0).bind fun t169 => (if t169 = true then ((laws_few.f a1).bind fun t170 => (if t170 = true then ((laws_ascii.f kj2 a0).bind fun t171 => (if t171 = true then ((laws_ascii.f kj2 a1).bind fun t172 => (laws_FnCommon.j1 kj2 a0 a1 (!t172))) else (laws_FnCommon.j1 kj2 a0 a1 true))) else (laws_FnCommon.j1 kj2 a0 a1 true))) else (laws_FnCommon.j1 kj2 a0 a1 true))) = some r := by rw [if_neg (show ¬ (false = true) by decide)] at H; exact H
        clear H
        have H := H1
        clear H1
        have HC6 := Aside0.mk H
        clear H
        go_upto_region 3 with (fail)
        go_cut [37] (fun v37 wc => ∃ (kq : Nat) (x37_5 : Bool), v37 = .bool x37_5 ∧ Aside0 (laws_FnCommon.j1 kq a0 a1 x37_5 = some r) ∧ Aside0 (kq ≤ kj2) ∧ Aside0 (Below w.heap.size w wc))
        case first =>
          have H := HC6.out
          clear HC6
          replace H := Option.bind_eq_some_iff.mp H
          obtain ⟨t169, A70, H⟩ := H
          replace H : (if t169 = true then ((laws_few.f a1).bind fun t170 => (if t170 = true then ((laws_ascii.f kj2 a0).bind fun t171 => (if t171 = true then ((laws_ascii.f kj2 a1).bind fun t172 => (laws_FnCommon.j1 kj2 a0 a1 (!t172))) else (laws_FnCommon.j1 kj2 a0 a1 true))) else (laws_FnCommon.j1 kj2 a0 a1 true))) else (laws_FnCommon.j1 kj2 a0 a1 true)) = some r := H
          have A7 := Aside0.mk A70
          clear A70
          by_cases c8 : t169 = true
          · subst c8
            have H1 : ((laws_few.f a1).bind fun t170 => (if t170 = true then ((laws_ascii.f kj2 a0).bind fun t171 => (if t171 = true then ((laws_ascii.f kj2 a1).bind fun t172 => (laws_FnCommon.j1 kj2 a0 a1 (!t172))) else (laws_FnCommon.j1 kj2 a0 a1 true))) else (laws_FnCommon.j1 kj2 a0 a1 true))) = some r := by rw [if_pos rfl] at H; exact H
            clear H
            have H := H1
            clear H1
            replace H := Option.bind_eq_some_iff.mp H
            obtain ⟨t170, A90, H⟩ := H
            replace H : (if t170 = true then ((laws_ascii.f kj2 a0).bind fun t171 => (if t171 = true then ((laws_ascii.f kj2 a1).bind fun t172 => (laws_FnCommon.j1 kj2 a0 a1 (!t172))) else (laws_FnCommon.j1 kj2 a0 a1 true))) else (laws_FnCommon.j1 kj2 a0 a1 true)) = some r := H
            have A9 := Aside0.mk A90
            clear A90
            by_cases c10 : t170 = true
            · subst c10
              have H1 : ((laws_ascii.f kj2 a0).bind fun t171 => (if t171 = true then ((laws_ascii.f kj2 a1).bind fun t172 => (laws_FnCommon.j1 kj2 a0 a1 (!t172))) else (laws_FnCommon.j1 kj2 a0 a1 true))) = some r := by rw [if_pos rfl] at H; exact H
              clear H
              have H := H1
              clear H1
              replace H := Option.bind_eq_some_iff.mp H
              obtain ⟨t171, A110, H⟩ := H
              replace H : (if t171 = true then ((laws_ascii.f kj2 a1).bind fun t172 => (laws_FnCommon.j1 kj2 a0 a1 (!t172))) else (laws_FnCommon.j1 kj2 a0 a1 true)) = some r := H
              have A11 := Aside0.mk A110
              clear A110
              by_cases c12 : t171 = true
              · subst c12
                have H1 : ((laws_ascii.f kj2 a1).bind fun t172 => (laws_FnCommon.j1 kj2 a0 a1 (!t172))) = some r := by rw [if_pos rfl] at H; exact H
                clear H
                have H := H1
                clear H1
                replace H := Option.bind_eq_some_iff.mp H
                obtain ⟨t172, A130, H⟩ := H
                replace H : (laws_FnCommon.j1 kj2 a0 a1 (!t172)) = some r := H
                have A13 := Aside0.mk A130
                clear A130
                have H' := Aside0.mk H
                clear H
                go_wp2_with (first | ((with_reducible refine gate_callee (f := 4) rfl ?_); refine goesL_ (some 21) rfl rfl Try.func4 (by kernel_rfl) rfl #[.string a0] rfl (by (try simp only [List.map_toArray, List.map_cons, List.map_nil]); first | done | rfl | (simp only [List.length_drop, List.length_take]; rfl)) ?_; (with_reducible refine (laws_few.calls a0 true _ A7.out).mono ?_); rintro e w' ⟨rfl, ⟨nd, rfl⟩⟩; refine ⟨_, rfl, ?_⟩) | (go_at_call 4; (with_reducible refine (laws_few.calls a1 true _ A9.out).mono ?_); rintro e w' ⟨rfl, ⟨nd, rfl⟩⟩) | (go_at_call 5; (with_reducible refine (laws_ascii.calls kj2 a0 true _ A11.out).mono ?_); rintro e w' ⟨rfl, ⟨nd, rfl⟩⟩) | (go_at_call 5; (with_reducible refine (laws_ascii.calls kj2 a1 t172 _ A13.out).mono ?_); rintro e w' ⟨rfl, ⟨nd, rfl⟩⟩))
                go_meet
                case rel => exact ⟨_, (!t172), (by first | rfl | (simp; done) | (simp [*]; done) | (simp [wrap64]; done)), H', ⟨by have := HJ2.out; first | omega | exact Nat.le_refl _⟩, ⟨by repeat (first | (with_reducible first | exact HB.out | apply below_alloc | apply pw_below_drewN | apply below_drew1) | exact HB.out)⟩⟩
              · replace c12 := Bool.eq_false_iff.mpr c12
                subst c12
                have H1 : (laws_FnCommon.j1 kj2 a0 a1 true) = some r := by rw [if_neg (show ¬ (false = true) by decide)] at H; exact H
                clear H
                have H := H1
                clear H1
                have H' := Aside0.mk H
                clear H
                go_wp2_with (first | ((with_reducible refine gate_callee (f := 4) rfl ?_); refine goesL_ (some 21) rfl rfl Try.func4 (by kernel_rfl) rfl #[.string a0] rfl (by (try simp only [List.map_toArray, List.map_cons, List.map_nil]); first | done | rfl | (simp only [List.length_drop, List.length_take]; rfl)) ?_; (with_reducible refine (laws_few.calls a0 true _ A7.out).mono ?_); rintro e w' ⟨rfl, ⟨nd, rfl⟩⟩; refine ⟨_, rfl, ?_⟩) | (go_at_call 4; (with_reducible refine (laws_few.calls a1 true _ A9.out).mono ?_); rintro e w' ⟨rfl, ⟨nd, rfl⟩⟩) | (go_at_call 5; (with_reducible refine (laws_ascii.calls kj2 a0 false _ A11.out).mono ?_); rintro e w' ⟨rfl, ⟨nd, rfl⟩⟩))
                go_meet
                case rel => exact ⟨_, (true), (by first | rfl | (simp; done) | (simp [*]; done) | (simp [wrap64]; done)), H', ⟨by have := HJ2.out; first | omega | exact Nat.le_refl _⟩, ⟨by repeat (first | (with_reducible first | exact HB.out | apply below_alloc | apply pw_below_drewN | apply below_drew1) | exact HB.out)⟩⟩
            · replace c10 := Bool.eq_false_iff.mpr c10
              subst c10
              have H1 : (laws_FnCommon.j1 kj2 a0 a1 true) = some r := by rw [if_neg (show ¬ (false = true) by decide)] at H; exact H
              clear H
              have H := H1
              clear H1
              have H' := Aside0.mk H
              clear H
              go_wp2_with (first | ((with_reducible refine gate_callee (f := 4) rfl ?_); refine goesL_ (some 21) rfl rfl Try.func4 (by kernel_rfl) rfl #[.string a0] rfl (by (try simp only [List.map_toArray, List.map_cons, List.map_nil]); first | done | rfl | (simp only [List.length_drop, List.length_take]; rfl)) ?_; (with_reducible refine (laws_few.calls a0 true _ A7.out).mono ?_); rintro e w' ⟨rfl, ⟨nd, rfl⟩⟩; refine ⟨_, rfl, ?_⟩) | (go_at_call 4; (with_reducible refine (laws_few.calls a1 false _ A9.out).mono ?_); rintro e w' ⟨rfl, ⟨nd, rfl⟩⟩))
              go_meet
              case rel => exact ⟨_, (true), (by first | rfl | (simp; done) | (simp [*]; done) | (simp [wrap64]; done)), H', ⟨by have := HJ2.out; first | omega | exact Nat.le_refl _⟩, ⟨by repeat (first | (with_reducible first | exact HB.out | apply below_alloc | apply pw_below_drewN | apply below_drew1) | exact HB.out)⟩⟩
          · replace c8 := Bool.eq_false_iff.mpr c8
            subst c8
            have H1 : (laws_FnCommon.j1 kj2 a0 a1 true) = some r := by rw [if_neg (show ¬ (false = true) by decide)] at H; exact H
            clear H
            have H := H1
            clear H1
            have H' := Aside0.mk H
            clear H
            go_wp2_with (first | ((with_reducible refine gate_callee (f := 4) rfl ?_); refine goesL_ (some 21) rfl rfl Try.func4 (by kernel_rfl) rfl #[.string a0] rfl (by (try simp only [List.map_toArray, List.map_cons, List.map_nil]); first | done | rfl | (simp only [List.length_drop, List.length_take]; rfl)) ?_; (with_reducible refine (laws_few.calls a0 false _ A7.out).mono ?_); rintro e w' ⟨rfl, ⟨nd, rfl⟩⟩; refine ⟨_, rfl, ?_⟩))
            go_meet
            case rel => exact ⟨_, (true), (by first | rfl | (simp; done) | (simp [*]; done) | (simp [wrap64]; done)), H', ⟨by have := HJ2.out; first | omega | exact Nat.le_refl _⟩, ⟨by repeat (first | (with_reducible first | exact HB.out | apply below_alloc | apply pw_below_drewN | apply below_drew1) | exact HB.out)⟩⟩
        case rest =>
          clear HC6
          try clear c1
          try clear p2
          try clear c3
          try clear c4
          try clear c4b0
          try clear c4b1
          try clear c5
          try clear p6
          try clear c8
          try clear c10
          try clear c12
          try clear p2
          obtain ⟨kq, x37_5, rfl, HA, HJ5, HB⟩ := hcut
          cases kq with
          | zero => exact absurd HA.out (by simp [laws_FnCommon.j1])
          | succ kj5 =>
            have H := HA.out
            clear HA
            simp only [laws_FnCommon.j1] at H
            by_cases c14 : x37_5 = true
            · subst c14
              have H1 : (some true) = some r := by rw [if_pos rfl] at H; exact H
              clear H
              have H := H1
              clear H1
              obtain rfl := Option.some.inj H
              go_wp2
              go_ret
              exact ⟨by first | rfl | (simp [errW_none, errW_some] <;> rfl) | (simp [*, errW_none, errW_some] <;> rfl), by repeat (first | (with_reducible first | exact HB.out | apply below_alloc | apply pw_below_drewN | apply below_drew1) | exact HB.out)⟩
            · replace c14 := Bool.eq_false_iff.mpr c14
              subst c14
              have H1 : ((laws_plain.f kj5 a0).bind fun bt173 => ((laws_plain.f kj5 a1).bind fun bt178 => (if bt173.2.2 = true then (if bt178.2.2 = true then (if bt173.2.1 = true then (laws_FnCommon.j2 kj5 a0 a1 bt173.1 bt178.1 (!bt178.2.1)) else (laws_FnCommon.j2 kj5 a0 a1 bt173.1 bt178.1 true)) else (laws_FnCommon.j2 kj5 a0 a1 bt173.1 bt178.1 true)) else (laws_FnCommon.j2 kj5 a0 a1 bt173.1 bt178.1 true)))) = some r := by rw [if_neg (show ¬ (false = true) by decide)] at H; exact H
              clear H
              have H := H1
              clear H1
              replace H := Option.bind_eq_some_iff.mp H
              obtain ⟨⟨t173, t174, t175⟩, A150, H⟩ := H
              replace H : ((laws_plain.f kj5 a1).bind fun bt178 => (if t175 = true then (if bt178.2.2 = true then (if t174 = true then (laws_FnCommon.j2 kj5 a0 a1 t173 bt178.1 (!bt178.2.1)) else (laws_FnCommon.j2 kj5 a0 a1 t173 bt178.1 true)) else (laws_FnCommon.j2 kj5 a0 a1 t173 bt178.1 true)) else (laws_FnCommon.j2 kj5 a0 a1 t173 bt178.1 true))) = some r := H
              have A15 := Aside0.mk A150
              clear A150
              replace H := Option.bind_eq_some_iff.mp H
              obtain ⟨⟨t178, t179, t180⟩, A160, H⟩ := H
              replace H : (if t175 = true then (if t180 = true then (if t174 = true then (laws_FnCommon.j2 kj5 a0 a1 t173 t178 (!t179)) else (laws_FnCommon.j2 kj5 a0 a1 t173 t178 true)) else (laws_FnCommon.j2 kj5 a0 a1 t173 t178 true)) else (laws_FnCommon.j2 kj5 a0 a1 t173 t178 true)) = some r := H
              have A16 := Aside0.mk A160
              clear A160
              have HC17 := Aside0.mk H
              clear H
              go_upto_region 7 with (first | ((with_reducible refine gate_callee (f := 6) rfl ?_); refine goesL_ (some 40) rfl rfl Try.func6 (by kernel_rfl) rfl #[.string a0] rfl (by (try simp only [List.map_toArray, List.map_cons, List.map_nil]); first | done | rfl | (simp only [List.length_drop, List.length_take]; rfl)) ?_; (with_reducible refine (laws_plain.calls kj5 a0 t173 t174 t175 _ A15.out).mono ?_); rintro e w18 ⟨v176, rfl, ho0, hb⟩; refine ⟨_, rfl, ?_⟩; have n0_ := Aside0.mk (Kd.R_lower ho0 (below_size (by repeat (first | (with_reducible first | exact HB.out | apply below_alloc | apply pw_below_drewN | apply below_drew1) | exact HB.out)))); have n1_ := Aside0.mk (below_step (by repeat (first | (with_reducible first | exact HB.out | apply below_alloc | apply pw_below_drewN | apply below_drew1) | exact HB.out)) hb); clear HB; have HO177 := n0_; have HB := n1_; clear n0_ n1_; (try clear hb); (try clear hb2); (try clear hk); (try clear hi); (try clear ho0)) | ((with_reducible refine gate_callee (f := 6) rfl ?_); refine goesL_ (some 46) rfl rfl Try.func6 (by kernel_rfl) rfl #[.string a1] rfl (by (try simp only [List.map_toArray, List.map_cons, List.map_nil]); first | done | rfl | (simp only [List.length_drop, List.length_take]; rfl)) ?_; (with_reducible refine (laws_plain.calls kj5 a1 t178 t179 t180 _ A16.out).mono ?_); rintro e w19 ⟨v181, rfl, ho0, hb⟩; refine ⟨_, rfl, ?_⟩; have n0_ := Aside0.mk (Kd.R_elder' (by (with_reducible repeat (first | apply Kd.R_alloc | apply Kd.R_drewN | apply Kd.R_drew)); exact HO177.out) (Kd.R_base ho0) hb); have n1_ := Aside0.mk (Kd.R_lower (Kd.R_new' ho0 (Kd.R_lt (by (with_reducible repeat (first | apply Kd.R_alloc | apply Kd.R_drewN | apply Kd.R_drew)); exact HO177.out))) (below_size (by repeat (first | (with_reducible first | exact HB.out | apply below_alloc | apply pw_below_drewN | apply below_drew1) | exact HB.out)))); have n2_ := Aside0.mk (below_step (by repeat (first | (with_reducible first | exact HB.out | apply below_alloc | apply pw_below_drewN | apply below_drew1) | exact HB.out)) hb); clear HO177; clear HB; have HO177 := n0_; have HO182 := n1_; have HB := n2_; clear n0_ n1_ n2_; (try clear hb); (try clear hb2); (try clear hk); (try clear hi); (try clear ho0)))
              (try simp only [Act.put, List.setIfInBounds_toArray, List.set_cons_zero, List.set_cons_succ])
              go_cut [63] (fun v63 wc => ∃ (kq : Nat) (x63_16 : Bool), v63 = .bool x63_16 ∧ Aside0 (laws_FnCommon.j2 kq a0 a1 t173 t178 x63_16 = some r) ∧ Aside0 (kq ≤ kj5) ∧ Aside0 (Kd.R Kd.string 9 wc w.heap.size (fun k_ => some k_ ≠ (v181 : Value).ownBlock) v176 t173) ∧ Aside0 (Kd.R Kd.string 9 wc w.heap.size (fun k_ => some k_ ≠ (v176 : Value).ownBlock) v181 t178) ∧ Aside0 (Below w.heap.size w wc))
              case first =>
                have H := HC17.out
                clear HC17
                by_cases c20 : t175 = true
                · subst c20
                  have H1 : (if t180 = true then (if t174 = true then (laws_FnCommon.j2 kj5 a0 a1 t173 t178 (!t179)) else (laws_FnCommon.j2 kj5 a0 a1 t173 t178 true)) else (laws_FnCommon.j2 kj5 a0 a1 t173 t178 true)) = some r := by rw [if_pos rfl] at H; exact H
                  clear H
                  have H := H1
                  clear H1
                  by_cases c21 : t180 = true
                  · subst c21
                    have H1 : (if t174 = true then (laws_FnCommon.j2 kj5 a0 a1 t173 t178 (!t179)) else (laws_FnCommon.j2 kj5 a0 a1 t173 t178 true)) = some r := by rw [if_pos rfl] at H; exact H
                    clear H
                    have H := H1
                    clear H1
                    by_cases c22 : t174 = true
                    · subst c22
                      have H1 : (laws_FnCommon.j2 kj5 a0 a1 t173 t178 (!t179)) = some r := by rw [if_pos rfl] at H; exact H
                      clear H
                      have H := H1
                      clear H1
                      have H' := Aside0.mk H
                      clear H
                      go_wp2
                      go_meet
                      case rel => exact ⟨_, (!t179), (by first | rfl | (simp; done) | (simp [*]; done) | (simp [wrap64]; done)), H', ⟨by have := HJ2.out; have := HJ5.out; first | omega | exact Nat.le_refl _⟩, ⟨by (with_reducible repeat (first | apply Kd.R_alloc | apply Kd.R_drewN | apply Kd.R_drew)); exact Kd.R_mono HO177.out (fun _ hk => hk.2)⟩, ⟨by (with_reducible repeat (first | apply Kd.R_alloc | apply Kd.R_drewN | apply Kd.R_drew)); exact Kd.R_mono HO182.out (fun _ hk => hk.2)⟩, ⟨by repeat (first | (with_reducible first | exact HB.out | apply below_alloc | apply pw_below_drewN | apply below_drew1) | exact HB.out)⟩⟩
                    · replace c22 := Bool.eq_false_iff.mpr c22
                      subst c22
                      have H1 : (laws_FnCommon.j2 kj5 a0 a1 t173 t178 true) = some r := by rw [if_neg (show ¬ (false = true) by decide)] at H; exact H
                      clear H
                      have H := H1
                      clear H1
                      have H' := Aside0.mk H
                      clear H
                      go_wp2
                      go_meet
                      case rel => exact ⟨_, (true), (by first | rfl | (simp; done) | (simp [*]; done) | (simp [wrap64]; done)), H', ⟨by have := HJ2.out; have := HJ5.out; first | omega | exact Nat.le_refl _⟩, ⟨by (with_reducible repeat (first | apply Kd.R_alloc | apply Kd.R_drewN | apply Kd.R_drew)); exact Kd.R_mono HO177.out (fun _ hk => hk.2)⟩, ⟨by (with_reducible repeat (first | apply Kd.R_alloc | apply Kd.R_drewN | apply Kd.R_drew)); exact Kd.R_mono HO182.out (fun _ hk => hk.2)⟩, ⟨by repeat (first | (with_reducible first | exact HB.out | apply below_alloc | apply pw_below_drewN | apply below_drew1) | exact HB.out)⟩⟩
                  · replace c21 := Bool.eq_false_iff.mpr c21
                    subst c21
                    have H1 : (laws_FnCommon.j2 kj5 a0 a1 t173 t178 true) = some r := by rw [if_neg (show ¬ (false = true) by decide)] at H; exact H
                    clear H
                    have H := H1
                    clear H1
                    have H' := Aside0.mk H
                    clear H
                    go_wp2
                    go_meet
                    case rel => exact ⟨_, (true), (by first | rfl | (simp; done) | (simp [*]; done) | (simp [wrap64]; done)), H', ⟨by have := HJ2.out; have := HJ5.out; first | omega | exact Nat.le_refl _⟩, ⟨by (with_reducible repeat (first | apply Kd.R_alloc | apply Kd.R_drewN | apply Kd.R_drew)); exact Kd.R_mono HO177.out (fun _ hk => hk.2)⟩, ⟨by (with_reducible repeat (first | apply Kd.R_alloc | apply Kd.R_drewN | apply Kd.R_drew)); exact Kd.R_mono HO182.out (fun _ hk => hk.2)⟩, ⟨by repeat (first | (with_reducible first | exact HB.out | apply below_alloc | apply pw_below_drewN | apply below_drew1) | exact HB.out)⟩⟩
                · replace c20 := Bool.eq_false_iff.mpr c20
                  subst c20
                  have H1 : (laws_FnCommon.j2 kj5 a0 a1 t173 t178 true) = some r := by rw [if_neg (show ¬ (false = true) by decide)] at H; exact H
                  clear H
                  have H := H1
                  clear H1
                  have H' := Aside0.mk H
                  clear H
                  go_wp2
                  go_meet
                  case rel => exact ⟨_, (true), (by first | rfl | (simp; done) | (simp [*]; done) | (simp [wrap64]; done)), H', ⟨by have := HJ2.out; have := HJ5.out; first | omega | exact Nat.le_refl _⟩, ⟨by (with_reducible repeat (first | apply Kd.R_alloc | apply Kd.R_drewN | apply Kd.R_drew)); exact Kd.R_mono HO177.out (fun _ hk => hk.2)⟩, ⟨by (with_reducible repeat (first | apply Kd.R_alloc | apply Kd.R_drewN | apply Kd.R_drew)); exact Kd.R_mono HO182.out (fun _ hk => hk.2)⟩, ⟨by repeat (first | (with_reducible first | exact HB.out | apply below_alloc | apply pw_below_drewN | apply below_drew1) | exact HB.out)⟩⟩
              case rest =>
                clear HC17
                try clear c1
                try clear c2
                try clear p2
                try clear c3
                try clear c4
                try clear c4b0
                try clear c4b1
                try clear c5
                try clear c6
                try clear p6
                try clear c8
                try clear c10
                try clear c12
                try clear c14
                try clear c20
                try clear c21
                try clear c22
                try clear p2
                try clear p6
                obtain ⟨kq, x63_16, rfl, HA, HJ16, HO_5, HO_8, HB⟩ := hcut
                cases kq with
                | zero => exact absurd HA.out (by simp [laws_FnCommon.j2])
                | succ kj16 =>
                  have H := HA.out
                  clear HA
                  simp only [laws_FnCommon.j2] at H
                  by_cases c23 : x63_16 = true
                  · subst c23
                    have H1 : (some true) = some r := by rw [if_pos rfl] at H; exact H
                    clear H
                    have H := H1
                    clear H1
                    obtain rfl := Option.some.inj H
                    go_wp2
                    go_ret
                    exact ⟨by first | rfl | (simp [errW_none, errW_some] <;> rfl) | (simp [*, errW_none, errW_some] <;> rfl), by repeat (first | (with_reducible first | exact HB.out | apply below_alloc | apply pw_below_drewN | apply below_drew1) | exact HB.out)⟩
                  · replace c23 := Bool.eq_false_iff.mpr c23
                    subst c23
                    have H1 : ((spec_Common.f kj16 t173 t178).bind fun t183 => ((impl_Common.f kj16 a0 a1).bind fun t184 => (if t184 = t183 then ((impl_Common.f kj16 a1 a0).bind fun t185 => (if t185 = t183 then ((impl_IsSub.f kj16 a0 a1).bind fun t186 => (some (t186 == (t183 == (t173.length : Int))))) else (some false))) else (some false)))) = some r := by rw [if_neg (show ¬ (false = true) by decide)] at H; exact H
                    clear H
                    have H := H1
                    clear H1
                    replace H := Option.bind_eq_some_iff.mp H
                    obtain ⟨t183, A240, H⟩ := H
                    replace H : ((impl_Common.f kj16 a0 a1).bind fun t184 => (if t184 = t183 then ((impl_Common.f kj16 a1 a0).bind fun t185 => (if t185 = t183 then ((impl_IsSub.f kj16 a0 a1).bind fun t186 => (some (t186 == (t183 == (t173.length : Int))))) else (some false))) else (some false))) = some r := H
                    have A24 := Aside0.mk A240
                    clear A240
                    replace H := Option.bind_eq_some_iff.mp H
                    obtain ⟨t184, A250, H⟩ := H
                    replace H : (if t184 = t183 then ((impl_Common.f kj16 a1 a0).bind fun t185 => (if t185 = t183 then ((impl_IsSub.f kj16 a0 a1).bind fun t186 => (some (t186 == (t183 == (t173.length : Int))))) else (some false))) else (some false)) = some r := H
                    have A25 := Aside0.mk A250
                    clear A250
                    by_cases c26 : t184 = t183
                    · rw [if_pos c26] at H
                      have c26b0 : (t184 == t183) = true := beq_iff_eq.mpr c26
                      have c26b1 : (t184 != t183) = false := bne_eq_false_iff_eq.mpr c26
                      clear c26
                      replace H := Option.bind_eq_some_iff.mp H
                      obtain ⟨t185, A270, H⟩ := H
                      replace H : (if t185 = t183 then ((impl_IsSub.f kj16 a0 a1).bind fun t186 => (some (t186 == (t183 == (t173.length : Int))))) else (some false)) = some r := H
                      have A27 := Aside0.mk A270
                      clear A270
                      by_cases c28 : t185 = t183
                      · rw [if_pos c28] at H
                        have c28b0 : (t185 == t183) = true := beq_iff_eq.mpr c28
                        have c28b1 : (t185 != t183) = false := bne_eq_false_iff_eq.mpr c28
                        clear c28
                        replace H := Option.bind_eq_some_iff.mp H
                        obtain ⟨t186, A290, H⟩ := H
                        replace H : (some (t186 == (t183 == (t173.length : Int)))) = some r := H
                        have A29 := Aside0.mk A290
                        clear A290
                        obtain rfl := Option.some.inj H
                        obtain ⟨Ao30, co30, eo30⟩ := Kd.R_slice HO_5.out
                        subst eo30
                        obtain ⟨Ao31, co31, eo31⟩ := Kd.R_slice HO_8.out
                        subst eo31
                        go_wp2_with (first | ((with_reducible refine gate_callee (f := 7) rfl ?_); refine goesL_ (some 66) rfl rfl Try.func7 (by kernel_rfl) rfl #[.slice Ao30 t173.length co30, .slice Ao31 t178.length co31] rfl (by (try simp only [List.map_toArray, List.map_cons, List.map_nil]); first | done | rfl | (simp only [List.length_drop, List.length_take]; rfl)) ?_; (with_reducible refine (spec_Common.calls kj16 _ _ t173 _ _ t178 t183 _ ?side1 ?side2 ?side3 ?side4 A24.out).mono ?_); (case side1 => repeat (first | exact (Kd.R_reads' HO_5.out).2.2 | (with_reducible refine Kd.C_alloc ?_ _) | (with_reducible refine Kd.C_drewN ?_ _) | (with_reducible refine Kd.C_drew ?_))); (case side2 => exact (Kd.R_reads' HO_5.out).2.1); (case side3 => repeat (first | exact (Kd.R_reads' HO_8.out).2.2 | (with_reducible refine Kd.C_alloc ?_ _) | (with_reducible refine Kd.C_drewN ?_ _) | (with_reducible refine Kd.C_drew ?_))); (case side4 => exact (Kd.R_reads' HO_8.out).2.1); rintro e w32 ⟨rfl, hb⟩; refine ⟨_, rfl, ?_⟩; have n0_ := Aside0.mk (Kd.R_below (by (with_reducible repeat (first | apply Kd.R_alloc | apply Kd.R_drewN | apply Kd.R_drew)); exact HO_5.out) hb); have n1_ := Aside0.mk (Kd.R_below (by (with_reducible repeat (first | apply Kd.R_alloc | apply Kd.R_drewN | apply Kd.R_drew)); exact HO_8.out) hb); have n2_ := Aside0.mk (below_step (by repeat (first | (with_reducible first | exact HB.out | apply below_alloc | apply pw_below_drewN | apply below_drew1) | exact HB.out)) hb); clear HO_5; clear HO_8; clear HB; have HO_5 := n0_; have HO_8 := n1_; have HB := n2_; clear n0_ n1_ n2_; (try clear hb); (try clear hb2); (try clear hk); (try clear hi)) | ((with_reducible refine gate_callee (f := 8) rfl ?_); refine goesL_ (some 69) rfl rfl Try.func8 (by kernel_rfl) rfl #[.string a0, .string a1] rfl (by (try simp only [List.map_toArray, List.map_cons, List.map_nil]); first | done | rfl | (simp only [List.length_drop, List.length_take]; rfl)) ?_; (with_reducible refine (impl_Common.calls kj16 a0 a1 t184 _ A25.out).mono ?_); rintro e w33 ⟨rfl, hb⟩; refine ⟨_, rfl, ?_⟩; have n0_ := Aside0.mk (Kd.R_below (by (with_reducible repeat (first | apply Kd.R_alloc | apply Kd.R_drewN | apply Kd.R_drew)); exact HO_5.out) hb); have n1_ := Aside0.mk (Kd.R_below (by (with_reducible repeat (first | apply Kd.R_alloc | apply Kd.R_drewN | apply Kd.R_drew)); exact HO_8.out) hb); have n2_ := Aside0.mk (below_step (by repeat (first | (with_reducible first | exact HB.out | apply below_alloc | apply pw_below_drewN | apply below_drew1) | exact HB.out)) hb); clear HO_5; clear HO_8; clear HB; have HO_5 := n0_; have HO_8 := n1_; have HB := n2_; clear n0_ n1_ n2_; (try clear hb); (try clear hb2); (try clear hk); (try clear hi)) | (go_at_call 8; (with_reducible refine (impl_Common.calls kj16 a1 a0 t185 _ A27.out).mono ?_); rintro e w34 ⟨rfl, hb⟩; have n0_ := Aside0.mk (Kd.R_below (by (with_reducible repeat (first | apply Kd.R_alloc | apply Kd.R_drewN | apply Kd.R_drew)); exact HO_5.out) hb); have n1_ := Aside0.mk (Kd.R_below (by (with_reducible repeat (first | apply Kd.R_alloc | apply Kd.R_drewN | apply Kd.R_drew)); exact HO_8.out) hb); have n2_ := Aside0.mk (below_step (by repeat (first | (with_reducible first | exact HB.out | apply below_alloc | apply pw_below_drewN | apply below_drew1) | exact HB.out)) hb); clear HO_5; clear HO_8; clear HB; have HO_5 := n0_; have HO_8 := n1_; have HB := n2_; clear n0_ n1_ n2_; (try clear hb); (try clear hb2); (try clear hk); (try clear hi)) | (go_at_call 9; (with_reducible refine (impl_IsSub.calls kj16 a0 a1 t186 _ A29.out).mono ?_); rintro e w35 ⟨rfl, hb⟩; have n0_ := Aside0.mk (Kd.R_below (by (with_reducible repeat (first | apply Kd.R_alloc | apply Kd.R_drewN | apply Kd.R_drew)); exact HO_5.out) hb); have n1_ := Aside0.mk (Kd.R_below (by (with_reducible repeat (first | apply Kd.R_alloc | apply Kd.R_drewN | apply Kd.R_drew)); exact HO_8.out) hb); have n2_ := Aside0.mk (below_step (by repeat (first | (with_reducible first | exact HB.out | apply below_alloc | apply pw_below_drewN | apply below_drew1) | exact HB.out)) hb); clear HO_5; clear HO_8; clear HB; have HO_5 := n0_; have HO_8 := n1_; have HB := n2_; clear n0_ n1_ n2_; (try clear hb); (try clear hb2); (try clear hk); (try clear hi)))
                        go_ret
                        exact ⟨by first | rfl | (simp [errW_none, errW_some] <;> rfl) | (simp [*, errW_none, errW_some] <;> rfl), by repeat (first | (with_reducible first | exact HB.out | apply below_alloc | apply pw_below_drewN | apply below_drew1) | exact HB.out)⟩
                      · rw [if_neg c28] at H
                        have c28b0 : (t185 == t183) = false := beq_eq_false_iff_ne.mpr c28
                        have c28b1 : (t185 != t183) = true := bne_iff_ne.mpr c28
                        obtain rfl := Option.some.inj H
                        obtain ⟨Ao36, co36, eo36⟩ := Kd.R_slice HO_5.out
                        subst eo36
                        obtain ⟨Ao37, co37, eo37⟩ := Kd.R_slice HO_8.out
                        subst eo37
                        go_wp2_with (first | ((with_reducible refine gate_callee (f := 7) rfl ?_); refine goesL_ (some 66) rfl rfl Try.func7 (by kernel_rfl) rfl #[.slice Ao36 t173.length co36, .slice Ao37 t178.length co37] rfl (by (try simp only [List.map_toArray, List.map_cons, List.map_nil]); first | done | rfl | (simp only [List.length_drop, List.length_take]; rfl)) ?_; (with_reducible refine (spec_Common.calls kj16 _ _ t173 _ _ t178 t183 _ ?side1 ?side2 ?side3 ?side4 A24.out).mono ?_); (case side1 => repeat (first | exact (Kd.R_reads' HO_5.out).2.2 | (with_reducible refine Kd.C_alloc ?_ _) | (with_reducible refine Kd.C_drewN ?_ _) | (with_reducible refine Kd.C_drew ?_))); (case side2 => exact (Kd.R_reads' HO_5.out).2.1); (case side3 => repeat (first | exact (Kd.R_reads' HO_8.out).2.2 | (with_reducible refine Kd.C_alloc ?_ _) | (with_reducible refine Kd.C_drewN ?_ _) | (with_reducible refine Kd.C_drew ?_))); (case side4 => exact (Kd.R_reads' HO_8.out).2.1); rintro e w38 ⟨rfl, hb⟩; refine ⟨_, rfl, ?_⟩; have n0_ := Aside0.mk (Kd.R_below (by (with_reducible repeat (first | apply Kd.R_alloc | apply Kd.R_drewN | apply Kd.R_drew)); exact HO_5.out) hb); have n1_ := Aside0.mk (Kd.R_below (by (with_reducible repeat (first | apply Kd.R_alloc | apply Kd.R_drewN | apply Kd.R_drew)); exact HO_8.out) hb); have n2_ := Aside0.mk (below_step (by repeat (first | (with_reducible first | exact HB.out | apply below_alloc | apply pw_below_drewN | apply below_drew1) | exact HB.out)) hb); clear HO_5; clear HO_8; clear HB; have HO_5 := n0_; have HO_8 := n1_; have HB := n2_; clear n0_ n1_ n2_; (try clear hb); (try clear hb2); (try clear hk); (try clear hi)) | ((with_reducible refine gate_callee (f := 8) rfl ?_); refine goesL_ (some 69) rfl rfl Try.func8 (by kernel_rfl) rfl #[.string a0, .string a1] rfl (by (try simp only [List.map_toArray, List.map_cons, List.map_nil]); first | done | rfl | (simp only [List.length_drop, List.length_take]; rfl)) ?_; (with_reducible refine (impl_Common.calls kj16 a0 a1 t184 _ A25.out).mono ?_); rintro e w39 ⟨rfl, hb⟩; refine ⟨_, rfl, ?_⟩; have n0_ := Aside0.mk (Kd.R_below (by (with_reducible repeat (first | apply Kd.R_alloc | apply Kd.R_drewN | apply Kd.R_drew)); exact HO_5.out) hb); have n1_ := Aside0.mk (Kd.R_below (by (with_reducible repeat (first | apply Kd.R_alloc | apply Kd.R_drewN | apply Kd.R_drew)); exact HO_8.out) hb); have n2_ := Aside0.mk (below_step (by repeat (first | (with_reducible first | exact HB.out | apply below_alloc | apply pw_below_drewN | apply below_drew1) | exact HB.out)) hb); clear HO_5; clear HO_8; clear HB; have HO_5 := n0_; have HO_8 := n1_; have HB := n2_; clear n0_ n1_ n2_; (try clear hb); (try clear hb2); (try clear hk); (try clear hi)) | (go_at_call 8; (with_reducible refine (impl_Common.calls kj16 a1 a0 t185 _ A27.out).mono ?_); rintro e w40 ⟨rfl, hb⟩; have n0_ := Aside0.mk (Kd.R_below (by (with_reducible repeat (first | apply Kd.R_alloc | apply Kd.R_drewN | apply Kd.R_drew)); exact HO_5.out) hb); have n1_ := Aside0.mk (Kd.R_below (by (with_reducible repeat (first | apply Kd.R_alloc | apply Kd.R_drewN | apply Kd.R_drew)); exact HO_8.out) hb); have n2_ := Aside0.mk (below_step (by repeat (first | (with_reducible first | exact HB.out | apply below_alloc | apply pw_below_drewN | apply below_drew1) | exact HB.out)) hb); clear HO_5; clear HO_8; clear HB; have HO_5 := n0_; have HO_8 := n1_; have HB := n2_; clear n0_ n1_ n2_; (try clear hb); (try clear hb2); (try clear hk); (try clear hi)))
                        go_ret
                        exact ⟨by first | rfl | (simp [errW_none, errW_some] <;> rfl) | (simp [*, errW_none, errW_some] <;> rfl), by repeat (first | (with_reducible first | exact HB.out | apply below_alloc | apply pw_below_drewN | apply below_drew1) | exact HB.out)⟩
                    · rw [if_neg c26] at H
                      have c26b0 : (t184 == t183) = false := beq_eq_false_iff_ne.mpr c26
                      have c26b1 : (t184 != t183) = true := bne_iff_ne.mpr c26
                      obtain rfl := Option.some.inj H
                      obtain ⟨Ao41, co41, eo41⟩ := Kd.R_slice HO_5.out
                      subst eo41
                      obtain ⟨Ao42, co42, eo42⟩ := Kd.R_slice HO_8.out
                      subst eo42
                      go_wp2_with (first | ((with_reducible refine gate_callee (f := 7) rfl ?_); refine goesL_ (some 66) rfl rfl Try.func7 (by kernel_rfl) rfl #[.slice Ao41 t173.length co41, .slice Ao42 t178.length co42] rfl (by (try simp only [List.map_toArray, List.map_cons, List.map_nil]); first | done | rfl | (simp only [List.length_drop, List.length_take]; rfl)) ?_; (with_reducible refine (spec_Common.calls kj16 _ _ t173 _ _ t178 t183 _ ?side1 ?side2 ?side3 ?side4 A24.out).mono ?_); (case side1 => repeat (first | exact (Kd.R_reads' HO_5.out).2.2 | (with_reducible refine Kd.C_alloc ?_ _) | (with_reducible refine Kd.C_drewN ?_ _) | (with_reducible refine Kd.C_drew ?_))); (case side2 => exact (Kd.R_reads' HO_5.out).2.1); (case side3 => repeat (first | exact (Kd.R_reads' HO_8.out).2.2 | (with_reducible refine Kd.C_alloc ?_ _) | (with_reducible refine Kd.C_drewN ?_ _) | (with_reducible refine Kd.C_drew ?_))); (case side4 => exact (Kd.R_reads' HO_8.out).2.1); rintro e w43 ⟨rfl, hb⟩; refine ⟨_, rfl, ?_⟩; have n0_ := Aside0.mk (Kd.R_below (by (with_reducible repeat (first | apply Kd.R_alloc | apply Kd.R_drewN | apply Kd.R_drew)); exact HO_5.out) hb); have n1_ := Aside0.mk (Kd.R_below (by (with_reducible repeat (first | apply Kd.R_alloc | apply Kd.R_drewN | apply Kd.R_drew)); exact HO_8.out) hb); have n2_ := Aside0.mk (below_step (by repeat (first | (with_reducible first | exact HB.out | apply below_alloc | apply pw_below_drewN | apply below_drew1) | exact HB.out)) hb); clear HO_5; clear HO_8; clear HB; have HO_5 := n0_; have HO_8 := n1_; have HB := n2_; clear n0_ n1_ n2_; (try clear hb); (try clear hb2); (try clear hk); (try clear hi)) | ((with_reducible refine gate_callee (f := 8) rfl ?_); refine goesL_ (some 69) rfl rfl Try.func8 (by kernel_rfl) rfl #[.string a0, .string a1] rfl (by (try simp only [List.map_toArray, List.map_cons, List.map_nil]); first | done | rfl | (simp only [List.length_drop, List.length_take]; rfl)) ?_; (with_reducible refine (impl_Common.calls kj16 a0 a1 t184 _ A25.out).mono ?_); rintro e w44 ⟨rfl, hb⟩; refine ⟨_, rfl, ?_⟩; have n0_ := Aside0.mk (Kd.R_below (by (with_reducible repeat (first | apply Kd.R_alloc | apply Kd.R_drewN | apply Kd.R_drew)); exact HO_5.out) hb); have n1_ := Aside0.mk (Kd.R_below (by (with_reducible repeat (first | apply Kd.R_alloc | apply Kd.R_drewN | apply Kd.R_drew)); exact HO_8.out) hb); have n2_ := Aside0.mk (below_step (by repeat (first | (with_reducible first | exact HB.out | apply below_alloc | apply pw_below_drewN | apply below_drew1) | exact HB.out)) hb); clear HO_5; clear HO_8; clear HB; have HO_5 := n0_; have HO_8 := n1_; have HB := n2_; clear n0_ n1_ n2_; (try clear hb); (try clear hb2); (try clear hk); (try clear hi)))
                      go_ret
                      exact ⟨by first | rfl | (simp [errW_none, errW_some] <;> rfl) | (simp [*, errW_none, errW_some] <;> rfl), by repeat (first | (with_reducible first | exact HB.out | apply below_alloc | apply pw_below_drewN | apply below_drew1) | exact HB.out)⟩

/-- THE ONE PURE STATEMENT of laws_FnCommon: yours. -/
def laws_FnCommon.Pure : Prop := ∀ (a0 : ByteArray) (a1 : ByteArray), a0.size ≤ 140737488351232 → a1.size ≤ 140737488351232 → ∃ k, laws_FnCommon.f k a0 a1 = some true
theorem laws_FnCommon.walk (P : laws_FnCommon.Pure) (a0 : ByteArray) (a1 : ByteArray) (w : World) (w0 : a0.size ≤ 140737488351232) (w1 : a1.size ≤ 140737488351232) :
    Calls Try.prog 3 #[.string a0, .string a1] w fun e w' => e = .returned (.bool true) ∧ Below w.heap.size w w' := by
  obtain ⟨k, h⟩ := P a0 a1 w0 w1
  refine (laws_FnCommon.calls k a0 a1 true w h).mono ?_
  rintro e w' ⟨rfl, hd⟩
  exact ⟨rfl, hd⟩

end Go.Proofs.Ytiilihafcdmccaa.P
