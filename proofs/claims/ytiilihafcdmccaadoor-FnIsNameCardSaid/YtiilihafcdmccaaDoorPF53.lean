-- Written by a program of this session (wip/tools/pprint.py) out of the translation: it goes by the kit's print and by the contracts of YtiilihafcdmccaaDoorHand. Not trusted: Lean checks it.
import Derived.Test.YtiilihafcdmccaaDoorP0
import Derived.Test.YtiilihafcdmccaaDoorPF50
import Derived.Test.YtiilihafcdmccaaDoorPF79
namespace Go.Proofs.YtiilihafcdmccaaDoor.P
open Go.RowKit Go.Proofs.YtiilihafcdmccaaDoorW.PrintWords Go.Proofs.YtiilihafcdmccaaDoorW.PrintLast Go.Proofs.YtiilihafcdmccaaDoorW.PrintMore
attribute [local go_sem] max2_int min2_int max_two min_two max_three min_three max_four min_four   -- for this text's walks alone
set_option linter.unusedVariables false
set_option linter.unusedSimpArgs false

/-! ### dns_IsDomainName: function 53 -/
mutual
def dns_IsDomainName.l0 : Nat → ByteArray → Int → Int → Int → Bool → Bool → Int → Option (Int × Bool)
  | 0, _, _, _, _, _, _, _ => none
  | k + 1, x0, x2, x4, x5, x6, x7, x8 => if x8 < (x0.size : Int) then (if 0 ≤ x8 then (if (bt x0 x8) = 92 then (if (wrap64 (x4 + 1)) > 256 then (some (x2, false)) else (if 0 ≤ (wrap64 (x8 + 1)) then (if (wrap64 (x8 + 1)) ≤ (x0.size : Int) then ((dns_isDDD_string.f (x0.extract ((wrap64 (x8 + 1)) : Int).toNat x0.size)).bind fun t151 => (if t151 = true then (dns_IsDomainName.l0 k x0 x2 x4 (wrap64 (x5 + 3)) false (!x7) (wrap64 ((wrap64 (x8 + 3)) + 1))) else (dns_IsDomainName.l0 k x0 x2 x4 (wrap64 (x5 + 1)) false (!x7) (wrap64 ((wrap64 (x8 + 1)) + 1))))) else (none)) else (none))) else (if (bt x0 x8) = 46 then (if x8 = 0 then (dns_IsDomainName.j1 k x0 x2 x4 x5 x6 false x8 (decide ((x0.size : Int) > 1))) else (dns_IsDomainName.j1 k x0 x2 x4 x5 x6 false x8 false)) else (dns_IsDomainName.l0 k x0 x2 x4 x5 false false (wrap64 (x8 + 1))))) else (none)) else (if x7 = true then (some (x2, false)) else (some (x2, true)))
def dns_IsDomainName.j1 : Nat → ByteArray → Int → Int → Int → Bool → Bool → Int → Bool → Option (Int × Bool)
  | 0, _, _, _, _, _, _, _, _ => none
  | k + 1, x0, x2, x4, x5, x6, x7, x8, x53 => if x53 = true then (some (x2, false)) else (if x6 = true then (some (x2, false)) else (if (wrap64 (x8 - x5)) ≥ 64 then (some (x2, false)) else (if (wrap64 (x4 + (wrap64 (1 + (wrap64 (x8 - x5)))))) > 256 then (some (x2, false)) else (dns_IsDomainName.l0 k x0 (wrap64 (x2 + 1)) (wrap64 (x4 + (wrap64 (1 + (wrap64 (x8 - x5)))))) (wrap64 (x8 + 1)) true x7 (wrap64 (x8 + 1))))))
end
def dns_IsDomainName.f (k : Nat) (a0 : ByteArray) : Option (Int × Bool) := if (a0.size : Int) = 0 then (some (0, false)) else ((dns_Fqdn.f a0).bind fun t150 => (dns_IsDomainName.l0 k t150 0 0 0 false false 0))
theorem dns_IsDomainName.mono_l : ∀ k, (∀ y0 y1 y2 y3 y4 y5 y6, LeO (dns_IsDomainName.l0 k y0 y1 y2 y3 y4 y5 y6) (dns_IsDomainName.l0 (k + 1) y0 y1 y2 y3 y4 y5 y6)) ∧ (∀ y0 y1 y2 y3 y4 y5 y6 y7, LeO (dns_IsDomainName.j1 k y0 y1 y2 y3 y4 y5 y6 y7) (dns_IsDomainName.j1 (k + 1) y0 y1 y2 y3 y4 y5 y6 y7))
  | 0 => ⟨fun _ _ _ _ _ _ _ r h => by simp [dns_IsDomainName.l0] at h, fun _ _ _ _ _ _ _ _ r h => by simp [dns_IsDomainName.j1] at h⟩
  | k + 1 => by
    obtain ⟨ih0, ih1⟩ := dns_IsDomainName.mono_l k
    refine ⟨?_, ?_⟩
    · intro y0 y1 y2 y3 y4 y5 y6
      unfold dns_IsDomainName.l0
      repeat' first
      | (with_reducible exact ih0 _ _ _ _ _ _ _)
      | (with_reducible exact ih1 _ _ _ _ _ _ _ _)
      | (with_reducible exact LeO.refl _)
      | (with_reducible exact LeO.none _)
      | (with_reducible refine LeO.ite ?_ ?_)
      | (with_reducible refine LeO.bind ?_ (fun _ => ?_))
      | exact ih0 _ _ _ _ _ _ _
      | exact ih1 _ _ _ _ _ _ _ _
      | exact LeO.none _
      | refine LeO.ite ?_ ?_
      | refine LeO.bind ?_ (fun _ => ?_)
    · intro y0 y1 y2 y3 y4 y5 y6 y7
      unfold dns_IsDomainName.j1
      repeat' first
      | (with_reducible exact ih0 _ _ _ _ _ _ _)
      | (with_reducible exact ih1 _ _ _ _ _ _ _ _)
      | (with_reducible exact LeO.refl _)
      | (with_reducible exact LeO.none _)
      | (with_reducible refine LeO.ite ?_ ?_)
      | (with_reducible refine LeO.bind ?_ (fun _ => ?_))
      | exact ih0 _ _ _ _ _ _ _
      | exact ih1 _ _ _ _ _ _ _ _
      | exact LeO.none _
      | refine LeO.ite ?_ ?_
      | refine LeO.bind ?_ (fun _ => ?_)
theorem dns_IsDomainName.mono : ∀ a0 k, LeO (dns_IsDomainName.f k a0) (dns_IsDomainName.f (k + 1) a0) := by
  intro a0 k
  obtain ⟨ih0, ih1⟩ := dns_IsDomainName.mono_l k
  unfold dns_IsDomainName.f
  repeat' first
      | (with_reducible exact ih0 _ _ _ _ _ _ _)
      | (with_reducible exact ih1 _ _ _ _ _ _ _ _)
      | (with_reducible exact LeO.refl _)
      | (with_reducible exact LeO.none _)
      | (with_reducible refine LeO.ite ?_ ?_)
      | (with_reducible refine LeO.bind ?_ (fun _ => ?_))
      | exact ih0 _ _ _ _ _ _ _
      | exact ih1 _ _ _ _ _ _ _ _
      | exact LeO.none _
      | refine LeO.ite ?_ ?_
      | refine LeO.bind ?_ (fun _ => ?_)
set_option maxHeartbeats 8000000 in
set_option maxRecDepth 100000 in
theorem dns_IsDomainName.calls (k : Nat) (a0 : ByteArray) (r1 : Int) (r2 : Bool) (w : World) (h : dns_IsDomainName.f k a0 = some (r1, r2)) :
    Calls Tryd.prog 53 #[.string a0] w fun e w' => e = .returned (.tuple #[.int .i64 r1, .bool r2]) ∧ Drawn0 w w' := by
  have H : (if (a0.size : Int) = 0 then (some (0, false)) else ((dns_Fqdn.f a0).bind fun t150 => (dns_IsDomainName.l0 k t150 0 0 0 false false 0))) = some (r1, r2) := h
  clear h
  by_cases c2 : (a0.size : Int) = 0
  · rw [if_pos c2] at H
    have c2b0 : ((a0.size : Int) == 0) = true := beq_iff_eq.mpr c2
    have c2b1 : ((a0.size : Int) != 0) = false := bne_eq_false_iff_eq.mpr c2
    clear c2
    simp only [Option.some.injEq, Prod.mk.injEq] at H
    obtain ⟨rfl, rfl⟩ := H
    go_enter Tryd.func53, Tryd.ntmps53
    go_wp2
    go_ret2
    exact ⟨by first | rfl | (simp; done) | (simp [*]; done) | (simp [wrap64]; done), by repeat (first | exact Drawn0.refl _ | apply Drawn0.step)⟩
  · rw [if_neg c2] at H
    have c2b0 : ((a0.size : Int) == 0) = false := beq_eq_false_iff_ne.mpr c2
    have c2b1 : ((a0.size : Int) != 0) = true := bne_iff_ne.mpr c2
    replace H := Option.bind_eq_some_iff.mp H
    obtain ⟨t150, A30, H⟩ := H
    replace H : (dns_IsDomainName.l0 k t150 0 0 0 false false 0) = some (r1, r2) := H
    have A3 := Aside0.mk A30
    clear A30
    have H' := Aside0.mk H
    clear H
    go_enter Tryd.func53, Tryd.ntmps53
    go_wp2_with (first | ((with_reducible refine gate_callee (f := 50) rfl ?_); refine goesL_ (some 14) rfl rfl Tryd.func50 (by kernel_rfl) rfl #[.string a0] rfl (by (try simp only [List.map_toArray, List.map_cons, List.map_nil]); first | done | rfl | (simp only [List.length_drop, List.length_take]; rfl)) ?_; (with_reducible refine (dns_Fqdn.calls a0 t150 _ A3.out).mono ?_); rintro e w' ⟨rfl, ⟨nd, rfl⟩⟩; refine ⟨_, rfl, ?_⟩))
    go_loopg [2, 4, 5, 6, 7, 8] k (fun kq v2 v4 v5 v6 v7 v8 w' => ∃ (x2_1 : Int) (x4_1 : Int) (x5_1 : Int) (x6_1 : Bool) (x7_1 : Bool) (x8_1 : Int), v2 = .int .i64 x2_1 ∧ v4 = .int .i64 x4_1 ∧ v5 = .int .i64 x5_1 ∧ v6 = .bool x6_1 ∧ v7 = .bool x7_1 ∧ v8 = .int .i64 x8_1 ∧ Aside0 (dns_IsDomainName.l0 kq t150 x2_1 x4_1 x5_1 x6_1 x7_1 x8_1 = some (r1, r2)) ∧ Aside0 (kq ≤ k) ∧ Drawn0 w w')
    case atStart => exact ⟨(0), (0), (0), (false), (false), (0), (by first | rfl | (simp; done) | (simp [*]; done) | (simp [wrap64]; done)), (by first | rfl | (simp; done) | (simp [*]; done) | (simp [wrap64]; done)), (by first | rfl | (simp; done) | (simp [*]; done) | (simp [wrap64]; done)), (by first | rfl | (simp; done) | (simp [*]; done) | (simp [wrap64]; done)), (by first | rfl | (simp; done) | (simp [*]; done) | (simp [wrap64]; done)), (by first | rfl | (simp; done) | (simp [*]; done) | (simp [wrap64]; done)), H', ⟨Nat.le_refl _⟩, by repeat (first | exact Drawn0.refl _ | apply Drawn0.step)⟩
    case round =>
      clear H'
      try clear c2
      try clear c2b0
      try clear c2b1
      try clear p2
      obtain ⟨x2_1, x4_1, x5_1, x6_1, x7_1, x8_1, rfl, rfl, rfl, rfl, rfl, rfl, HA, HK1, ⟨m1, rfl⟩⟩ := hrel
      cases gk with
      | zero => exact absurd HA.out (by simp [dns_IsDomainName.l0])
      | succ k1 =>
        have H := HA.out
        clear HA
        simp only [dns_IsDomainName.l0] at H
        by_cases c4 : x8_1 < (t150.size : Int)
        · rw [if_pos c4] at H
          have c4b0 : decide (x8_1 < (t150.size : Int)) = true := decide_eq_true c4
          clear c4
          by_cases c5 : 0 ≤ x8_1
          · rw [if_pos c5] at H
            have c5b0 : decide (0 ≤ x8_1) = true := decide_eq_true c5
            clear c5
            by_cases c7 : (bt t150 x8_1) = 92
            · rw [if_pos c7] at H
              have c7b0 : ((bt t150 x8_1) == 92) = true := beq_iff_eq.mpr c7
              have c7b1 : ((bt t150 x8_1) != 92) = false := bne_eq_false_iff_eq.mpr c7
              clear c7
              by_cases c8 : (wrap64 (x4_1 + 1)) > 256
              · rw [if_pos c8] at H
                have c8b0 : decide (256 < (wrap64 (x4_1 + 1))) = true := decide_eq_true c8
                clear c8
                simp only [Option.some.injEq, Prod.mk.injEq] at H
                obtain ⟨rfl, rfl⟩ := H
                have p6 : 0 ≤ (x8_1 : Int) := of_decide_eq_true (by first | (with_reducible assumption) | assumption)
                have q6 : x8_1 < (t150.size : Int) := of_decide_eq_true (by first | (with_reducible assumption) | assumption)
                have hx6 := bt_at t150 x8_1
                replace p6 := eq_true p6
                replace q6 := eq_true q6
                go_wp2
                go_ret2
                exact ⟨by first | rfl | (simp; done) | (simp [*]; done) | (simp [wrap64]; done), by repeat (first | exact Drawn0.refl _ | apply Drawn0.step)⟩
              · rw [if_neg c8] at H
                have c8b0 : decide (256 < (wrap64 (x4_1 + 1))) = false := decide_eq_false c8
                clear c8
                obtain ⟨ji9, hji9⟩ : ∃ j_ : Int, (wrap64 (x8_1 + 1)) = j_ := ⟨_, rfl⟩
                replace H : (if 0 ≤ (ji9) then (if (ji9) ≤ (t150.size : Int) then ((dns_isDDD_string.f (t150.extract ((ji9) : Int).toNat t150.size)).bind fun t151 => (if t151 = true then (dns_IsDomainName.l0 k1 t150 x2_1 x4_1 (wrap64 (x5_1 + 3)) false (!x7_1) (wrap64 ((wrap64 (x8_1 + 3)) + 1))) else (dns_IsDomainName.l0 k1 t150 x2_1 x4_1 (wrap64 (x5_1 + 1)) false (!x7_1) (wrap64 ((ji9) + 1))))) else (none)) else (none)) = some (r1, r2) := by first | (rw [hji9] at H; exact H) | (simp only [hji9] at H ⊢; exact H)
                have hji9w : (IntKind.i64.wrap (x8_1 + 1)) = ji9 := (i64_w _).trans hji9
                by_cases c10 : 0 ≤ (ji9)
                · rw [if_pos c10] at H
                  have c10b0 := eq_true c10
                  have c10b1 : decide (0 ≤ (ji9)) = true := decide_eq_true c10
                  clear c10
                  by_cases c11 : (ji9) ≤ (t150.size : Int)
                  · rw [if_pos c11] at H
                    have c11b0 := eq_true c11
                    have c11b1 : decide ((ji9) ≤ (t150.size : Int)) = true := decide_eq_true c11
                    clear c11
                    replace H := Option.bind_eq_some_iff.mp H
                    obtain ⟨t151, A120, H⟩ := H
                    replace H : (if t151 = true then (dns_IsDomainName.l0 k1 t150 x2_1 x4_1 (wrap64 (x5_1 + 3)) false (!x7_1) (wrap64 ((wrap64 (x8_1 + 3)) + 1))) else (dns_IsDomainName.l0 k1 t150 x2_1 x4_1 (wrap64 (x5_1 + 1)) false (!x7_1) (wrap64 ((ji9) + 1)))) = some (r1, r2) := H
                    have A12 := Aside0.mk A120
                    clear A120
                    by_cases c13 : t151 = true
                    · subst c13
                      have H1 : (dns_IsDomainName.l0 k1 t150 x2_1 x4_1 (wrap64 (x5_1 + 3)) false (!x7_1) (wrap64 ((wrap64 (x8_1 + 3)) + 1))) = some (r1, r2) := by rw [if_pos rfl] at H; exact H
                      clear H
                      have H := H1
                      clear H1
                      have H' := Aside0.mk H
                      clear H
                      have p6 : 0 ≤ (x8_1 : Int) := of_decide_eq_true (by first | (with_reducible assumption) | assumption)
                      have q6 : x8_1 < (t150.size : Int) := of_decide_eq_true (by first | (with_reducible assumption) | assumption)
                      have hx6 := bt_at t150 x8_1
                      replace p6 := eq_true p6
                      replace q6 := eq_true q6
                      go_wp2_with (first | ((with_reducible refine gate_callee (f := 79) rfl ?_); refine goesL_ (some 36) rfl rfl Tryd.func79 (by kernel_rfl) rfl #[.string (t150.extract ((ji9) : Int).toNat t150.size)] rfl (by (try simp only [List.map_toArray, List.map_cons, List.map_nil]); first | done | (simp only [hji9]; rfl) | rfl | (simp only [List.length_drop, List.length_take]; rfl)) ?_; (with_reducible refine (dns_isDDD_string.calls (t150.extract ((ji9) : Int).toNat t150.size) true _ A12.out).mono ?_); rintro e w' ⟨rfl, ⟨nd, rfl⟩⟩; refine ⟨_, rfl, ?_⟩))
                      go_roundg k1
                      case measure => have := HK1.out; omega
                      case rel => exact ⟨(x2_1), (x4_1), (wrap64 (x5_1 + 3)), (false), (!x7_1), (wrap64 ((wrap64 (x8_1 + 3)) + 1)), (by first | rfl | (simp; done) | (simp [*]; done) | (simp [wrap64]; done)), (by first | rfl | (simp; done) | (simp [*]; done) | (simp [wrap64]; done)), (by first | rfl | (simp; done) | (simp [*]; done) | (simp [wrap64]; done)), (by first | rfl | (simp; done) | (simp [*]; done) | (simp [wrap64]; done)), (by first | rfl | (simp; done) | (simp [*]; done) | (simp [wrap64]; done)), (by first | rfl | (simp; done) | (simp [*]; done) | (simp [wrap64]; done)), H', ⟨by have := HK1.out; omega⟩, by repeat (first | exact Drawn0.refl _ | apply Drawn0.step)⟩
                    · replace c13 := Bool.eq_false_iff.mpr c13
                      subst c13
                      have H1 : (dns_IsDomainName.l0 k1 t150 x2_1 x4_1 (wrap64 (x5_1 + 1)) false (!x7_1) (wrap64 ((ji9) + 1))) = some (r1, r2) := by rw [if_neg (show ¬ (false = true) by decide)] at H; exact H
                      clear H
                      have H := H1
                      clear H1
                      have H' := Aside0.mk H
                      clear H
                      have p6 : 0 ≤ (x8_1 : Int) := of_decide_eq_true (by first | (with_reducible assumption) | assumption)
                      have q6 : x8_1 < (t150.size : Int) := of_decide_eq_true (by first | (with_reducible assumption) | assumption)
                      have hx6 := bt_at t150 x8_1
                      replace p6 := eq_true p6
                      replace q6 := eq_true q6
                      go_wp2_with (first | ((with_reducible refine gate_callee (f := 79) rfl ?_); refine goesL_ (some 36) rfl rfl Tryd.func79 (by kernel_rfl) rfl #[.string (t150.extract ((ji9) : Int).toNat t150.size)] rfl (by (try simp only [List.map_toArray, List.map_cons, List.map_nil]); first | done | (simp only [hji9]; rfl) | rfl | (simp only [List.length_drop, List.length_take]; rfl)) ?_; (with_reducible refine (dns_isDDD_string.calls (t150.extract ((ji9) : Int).toNat t150.size) false _ A12.out).mono ?_); rintro e w' ⟨rfl, ⟨nd, rfl⟩⟩; refine ⟨_, rfl, ?_⟩))
                      go_roundg k1
                      case measure => have := HK1.out; omega
                      case rel => exact ⟨(x2_1), (x4_1), (wrap64 (x5_1 + 1)), (false), (!x7_1), (wrap64 ((ji9) + 1)), (by first | rfl | (simp; done) | (simp [*]; done) | (simp [wrap64]; done)), (by first | rfl | (simp; done) | (simp [*]; done) | (simp [wrap64]; done)), (by first | rfl | (simp; done) | (simp [*]; done) | (simp [wrap64]; done)), (by first | rfl | (simp; done) | (simp [*]; done) | (simp [wrap64]; done)), (by first | rfl | (simp; done) | (simp [*]; done) | (simp [wrap64]; done)), (by first | rfl | (simp; done) | (simp only [← hji9] <;> (first | rfl | simp)) | (simp [*]; done)), H', ⟨by have := HK1.out; omega⟩, by repeat (first | exact Drawn0.refl _ | apply Drawn0.step)⟩
                  · rw [if_neg c11] at H
                    exact absurd H (by simp)
                · rw [if_neg c10] at H
                  exact absurd H (by simp)
            · rw [if_neg c7] at H
              have c7b0 : ((bt t150 x8_1) == 92) = false := beq_eq_false_iff_ne.mpr c7
              have c7b1 : ((bt t150 x8_1) != 92) = true := bne_iff_ne.mpr c7
              by_cases c14 : (bt t150 x8_1) = 46
              · rw [if_pos c14] at H
                have c14b0 : ((bt t150 x8_1) == 46) = true := beq_iff_eq.mpr c14
                have c14b1 : ((bt t150 x8_1) != 46) = false := bne_eq_false_iff_eq.mpr c14
                clear c14
                have HC15 := Aside0.mk H
                clear H
                have p6 : 0 ≤ (x8_1 : Int) := of_decide_eq_true (by first | (with_reducible assumption) | assumption)
                have q6 : x8_1 < (t150.size : Int) := of_decide_eq_true (by first | (with_reducible assumption) | assumption)
                have hx6 := bt_at t150 x8_1
                replace p6 := eq_true p6
                replace q6 := eq_true q6
                go_upto_region 26 with (fail)
                go_cut [53] (fun v53 wc => ∃ (kq : Nat) (x53_14 : Bool), v53 = .bool x53_14 ∧ Aside0 (dns_IsDomainName.j1 kq t150 x2_1 x4_1 x5_1 x6_1 false x8_1 x53_14 = some (r1, r2)) ∧ Aside0 (kq ≤ k1) ∧ Drawn0 w wc)
                case first =>
                  have H := HC15.out
                  clear HC15
                  by_cases c16 : x8_1 = 0
                  · rw [if_pos c16] at H
                    have c16b0 : (x8_1 == 0) = true := beq_iff_eq.mpr c16
                    have c16b1 : (x8_1 != 0) = false := bne_eq_false_iff_eq.mpr c16
                    clear c16
                    (first | rw [c16b0] | (simp only [i64_w, i32_w]; rw [c16b0]) | skip)
                    have H' := Aside0.mk H
                    clear H
                    go_wp2
                    go_meet
                    case rel => exact ⟨_, (decide ((t150.size : Int) > 1)), (by first | rfl | (simp; done) | (simp [*]; done) | (simp [wrap64]; done)), H', ⟨by have := HK1.out; first | omega | exact Nat.le_refl _⟩, by repeat (first | exact Drawn0.refl _ | apply Drawn0.step)⟩
                  · rw [if_neg c16] at H
                    have c16b0 : (x8_1 == 0) = false := beq_eq_false_iff_ne.mpr c16
                    have c16b1 : (x8_1 != 0) = true := bne_iff_ne.mpr c16
                    (first | rw [c16b0] | (simp only [i64_w, i32_w]; rw [c16b0]) | skip)
                    have H' := Aside0.mk H
                    clear H
                    go_wp2
                    go_meet
                    case rel => exact ⟨_, (false), (by first | rfl | (simp; done) | (simp [*]; done) | (simp [wrap64]; done)), H', ⟨by have := HK1.out; first | omega | exact Nat.le_refl _⟩, by repeat (first | exact Drawn0.refl _ | apply Drawn0.step)⟩
                case rest =>
                  clear HC15
                  try clear c1
                  try clear c2
                  try clear c2b0
                  try clear c2b1
                  try clear p2
                  try clear c4
                  try clear c4b0
                  try clear c5
                  try clear c5b0
                  try clear p6
                  try clear q6
                  try clear hx6
                  try clear c7
                  try clear c7b0
                  try clear c7b1
                  try clear c8
                  try clear c8b0
                  try clear c10
                  try clear c10b0
                  try clear c10b1
                  try clear c11
                  try clear c11b0
                  try clear c11b1
                  try clear c13
                  try clear c14
                  try clear c14b0
                  try clear c14b1
                  try clear c16
                  try clear c16b0
                  try clear c16b1
                  try clear p2
                  try clear p6
                  try clear q6
                  obtain ⟨kq, x53_14, rfl, HA, HJ14, ⟨mc14, rfl⟩⟩ := hcut
                  cases kq with
                  | zero => exact absurd HA.out (by simp [dns_IsDomainName.j1])
                  | succ kj14 =>
                    have H := HA.out
                    clear HA
                    simp only [dns_IsDomainName.j1] at H
                    by_cases c17 : x53_14 = true
                    · subst c17
                      have H1 : (some (x2_1, false)) = some (r1, r2) := by rw [if_pos rfl] at H; exact H
                      clear H
                      have H := H1
                      clear H1
                      simp only [Option.some.injEq, Prod.mk.injEq] at H
                      obtain ⟨rfl, rfl⟩ := H
                      go_wp2
                      go_ret2
                      exact ⟨by first | rfl | (simp; done) | (simp [*]; done) | (simp [wrap64]; done), by repeat (first | exact Drawn0.refl _ | apply Drawn0.step)⟩
                    · replace c17 := Bool.eq_false_iff.mpr c17
                      subst c17
                      have H1 : (if x6_1 = true then (some (x2_1, false)) else (if (wrap64 (x8_1 - x5_1)) ≥ 64 then (some (x2_1, false)) else (if (wrap64 (x4_1 + (wrap64 (1 + (wrap64 (x8_1 - x5_1)))))) > 256 then (some (x2_1, false)) else (dns_IsDomainName.l0 kj14 t150 (wrap64 (x2_1 + 1)) (wrap64 (x4_1 + (wrap64 (1 + (wrap64 (x8_1 - x5_1)))))) (wrap64 (x8_1 + 1)) true false (wrap64 (x8_1 + 1)))))) = some (r1, r2) := by rw [if_neg (show ¬ (false = true) by decide)] at H; exact H
                      clear H
                      have H := H1
                      clear H1
                      by_cases c18 : x6_1 = true
                      · subst c18
                        have H1 : (some (x2_1, false)) = some (r1, r2) := by rw [if_pos rfl] at H; exact H
                        clear H
                        have H := H1
                        clear H1
                        simp only [Option.some.injEq, Prod.mk.injEq] at H
                        obtain ⟨rfl, rfl⟩ := H
                        go_wp2
                        go_ret2
                        exact ⟨by first | rfl | (simp; done) | (simp [*]; done) | (simp [wrap64]; done), by repeat (first | exact Drawn0.refl _ | apply Drawn0.step)⟩
                      · replace c18 := Bool.eq_false_iff.mpr c18
                        subst c18
                        have H1 : (if (wrap64 (x8_1 - x5_1)) ≥ 64 then (some (x2_1, false)) else (if (wrap64 (x4_1 + (wrap64 (1 + (wrap64 (x8_1 - x5_1)))))) > 256 then (some (x2_1, false)) else (dns_IsDomainName.l0 kj14 t150 (wrap64 (x2_1 + 1)) (wrap64 (x4_1 + (wrap64 (1 + (wrap64 (x8_1 - x5_1)))))) (wrap64 (x8_1 + 1)) true false (wrap64 (x8_1 + 1))))) = some (r1, r2) := by rw [if_neg (show ¬ (false = true) by decide)] at H; exact H
                        clear H
                        have H := H1
                        clear H1
                        by_cases c19 : (wrap64 (x8_1 - x5_1)) ≥ 64
                        · rw [if_pos c19] at H
                          have c19b0 : decide (64 ≤ (wrap64 (x8_1 - x5_1))) = true := decide_eq_true c19
                          clear c19
                          simp only [Option.some.injEq, Prod.mk.injEq] at H
                          obtain ⟨rfl, rfl⟩ := H
                          go_wp2
                          go_ret2
                          exact ⟨by first | rfl | (simp; done) | (simp [*]; done) | (simp [wrap64]; done), by repeat (first | exact Drawn0.refl _ | apply Drawn0.step)⟩
                        · rw [if_neg c19] at H
                          have c19b0 : decide (64 ≤ (wrap64 (x8_1 - x5_1))) = false := decide_eq_false c19
                          clear c19
                          by_cases c20 : (wrap64 (x4_1 + (wrap64 (1 + (wrap64 (x8_1 - x5_1)))))) > 256
                          · rw [if_pos c20] at H
                            have c20b0 : decide (256 < (wrap64 (x4_1 + (wrap64 (1 + (wrap64 (x8_1 - x5_1))))))) = true := decide_eq_true c20
                            clear c20
                            simp only [Option.some.injEq, Prod.mk.injEq] at H
                            obtain ⟨rfl, rfl⟩ := H
                            go_wp2
                            go_ret2
                            exact ⟨by first | rfl | (simp; done) | (simp [*]; done) | (simp [wrap64]; done), by repeat (first | exact Drawn0.refl _ | apply Drawn0.step)⟩
                          · rw [if_neg c20] at H
                            have c20b0 : decide (256 < (wrap64 (x4_1 + (wrap64 (1 + (wrap64 (x8_1 - x5_1))))))) = false := decide_eq_false c20
                            clear c20
                            have H' := Aside0.mk H
                            clear H
                            go_wp2
                            go_roundg kj14
                            case measure => have := HK1.out; have := HJ14.out; omega
                            case rel => exact ⟨(wrap64 (x2_1 + 1)), (wrap64 (x4_1 + (wrap64 (1 + (wrap64 (x8_1 - x5_1)))))), (wrap64 (x8_1 + 1)), (true), (false), (wrap64 (x8_1 + 1)), (by first | rfl | (simp; done) | (simp [*]; done) | (simp [wrap64]; done)), (by first | rfl | (simp; done) | (simp [*]; done) | (simp [wrap64]; done)), (by first | rfl | (simp; done) | (simp [*]; done) | (simp [wrap64]; done)), (by first | rfl | (simp; done) | (simp [*]; done) | (simp [wrap64]; done)), (by first | rfl | (simp; done) | (simp [*]; done) | (simp [wrap64]; done)), (by first | rfl | (simp; done) | (simp [*]; done) | (simp [wrap64]; done)), H', ⟨by have := HK1.out; have := HJ14.out; omega⟩, by repeat (first | exact Drawn0.refl _ | apply Drawn0.step)⟩
              · rw [if_neg c14] at H
                have c14b0 : ((bt t150 x8_1) == 46) = false := beq_eq_false_iff_ne.mpr c14
                have c14b1 : ((bt t150 x8_1) != 46) = true := bne_iff_ne.mpr c14
                have H' := Aside0.mk H
                clear H
                have p6 : 0 ≤ (x8_1 : Int) := of_decide_eq_true (by first | (with_reducible assumption) | assumption)
                have q6 : x8_1 < (t150.size : Int) := of_decide_eq_true (by first | (with_reducible assumption) | assumption)
                have hx6 := bt_at t150 x8_1
                replace p6 := eq_true p6
                replace q6 := eq_true q6
                go_wp2
                go_roundg k1
                case measure => have := HK1.out; omega
                case rel => exact ⟨(x2_1), (x4_1), (x5_1), (false), (false), (wrap64 (x8_1 + 1)), (by first | rfl | (simp; done) | (simp [*]; done) | (simp [wrap64]; done)), (by first | rfl | (simp; done) | (simp [*]; done) | (simp [wrap64]; done)), (by first | rfl | (simp; done) | (simp [*]; done) | (simp [wrap64]; done)), (by first | rfl | (simp; done) | (simp [*]; done) | (simp [wrap64]; done)), (by first | rfl | (simp; done) | (simp [*]; done) | (simp [wrap64]; done)), (by first | rfl | (simp; done) | (simp [*]; done) | (simp [wrap64]; done)), H', ⟨by have := HK1.out; omega⟩, by repeat (first | exact Drawn0.refl _ | apply Drawn0.step)⟩
          · rw [if_neg c5] at H
            exact absurd H (by simp)
        · rw [if_neg c4] at H
          have c4b0 : decide (x8_1 < (t150.size : Int)) = false := decide_eq_false c4
          clear c4
          by_cases c21 : x7_1 = true
          · subst c21
            have H1 : (some (x2_1, false)) = some (r1, r2) := by rw [if_pos rfl] at H; exact H
            clear H
            have H := H1
            clear H1
            simp only [Option.some.injEq, Prod.mk.injEq] at H
            obtain ⟨rfl, rfl⟩ := H
            go_wp2
            go_ret2
            exact ⟨by first | rfl | (simp; done) | (simp [*]; done) | (simp [wrap64]; done), by repeat (first | exact Drawn0.refl _ | apply Drawn0.step)⟩
          · replace c21 := Bool.eq_false_iff.mpr c21
            subst c21
            have H1 : (some (x2_1, true)) = some (r1, r2) := by rw [if_neg (show ¬ (false = true) by decide)] at H; exact H
            clear H
            have H := H1
            clear H1
            simp only [Option.some.injEq, Prod.mk.injEq] at H
            obtain ⟨rfl, rfl⟩ := H
            go_wp2
            go_ret2
            exact ⟨by first | rfl | (simp; done) | (simp [*]; done) | (simp [wrap64]; done), by repeat (first | exact Drawn0.refl _ | apply Drawn0.step)⟩

end Go.Proofs.YtiilihafcdmccaaDoor.P
