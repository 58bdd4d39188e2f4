-- Written by a program of this session (wip/tools/pprint.py) out of the translation: it goes by the kit's print and by the contracts of YtiilihafcdmccaaHand. Not trusted: Lean checks it.
import Derived.Test.YtiilihafcdmccaaP0
import Derived.Test.YtiilihafcdmccaaP3
namespace Go.Proofs.Ytiilihafcdmccaa.P
open Go.RowKit Go.Proofs.YtiilihafcdmccaaW.PrintWords Go.Proofs.YtiilihafcdmccaaW.PrintLast Go.Proofs.YtiilihafcdmccaaW.PrintMore
attribute [local go_sem] max2_int min2_int max_two min_two max_three min_three max_four min_four   -- for this text's walks alone
set_option linter.unusedVariables false
set_option linter.unusedSimpArgs false

/-! ### dns_CompareDomainName: function 13 -/
mutual
def dns_CompareDomainName.j0 : Nat → ByteArray → ByteArray → Int → Bool → Option (Int)
  | 0, _, _, _, _ => none
  | k + 1, x0, x1, x4, x16 => if x16 = true then (some 0) else ((dns_Split.f k x0).bind fun t149 => ((dns_Split.f k x1).bind fun t152 => (if 0 ≤ (wrap64 ((t149.length : Int) - 1)) then (if (wrap64 ((t149.length : Int) - 1)) < (t149.length : Int) then (if 0 ≤ (rd t149 (wrap64 ((t149.length : Int) - 1))) then (if (rd t149 (wrap64 ((t149.length : Int) - 1))) ≤ (x0.size : Int) then (if 0 ≤ (wrap64 ((t152.length : Int) - 1)) then (if (wrap64 ((t152.length : Int) - 1)) < (t152.length : Int) then (if 0 ≤ (rd t152 (wrap64 ((t152.length : Int) - 1))) then (if (rd t152 (wrap64 ((t152.length : Int) - 1))) ≤ (x1.size : Int) then ((dns_equal.f k (x0.extract ((rd t149 (wrap64 ((t149.length : Int) - 1))) : Int).toNat x0.size) (x1.extract ((rd t152 (wrap64 ((t152.length : Int) - 1))) : Int).toNat x1.size)).bind fun t157 => (if t157 = true then (dns_CompareDomainName.l0 k x0 x1 (wrap64 (x4 + 1)) t149 t152 (wrap64 ((t149.length : Int) - 1)) (wrap64 ((t149.length : Int) - 2)) (wrap64 ((t152.length : Int) - 1)) (wrap64 ((t152.length : Int) - 2))) else (some x4))) else (none)) else (none)) else (none)) else (none)) else (none)) else (none)) else (none)) else (none))))
def dns_CompareDomainName.l0 : Nat → ByteArray → ByteArray → Int → List Int → List Int → Int → Int → Int → Int → Option (Int)
  | 0, _, _, _, _, _, _, _, _, _ => none
  | k + 1, x0, x1, x4, x5, x6, x7, x8, x9, x10 => if x8 < 0 then (dns_CompareDomainName.j2 k x0 x1 x4 x5 x6 x7 x8 x9 x10 true) else (dns_CompareDomainName.j2 k x0 x1 x4 x5 x6 x7 x8 x9 x10 (decide (x10 < 0)))
def dns_CompareDomainName.j2 : Nat → ByteArray → ByteArray → Int → List Int → List Int → Int → Int → Int → Int → Bool → Option (Int)
  | 0, _, _, _, _, _, _, _, _, _, _ => none
  | k + 1, x0, x1, x4, x5, x6, x7, x8, x9, x10, x53 => if x53 = true then (some x4) else (if 0 ≤ x8 then (if x8 < (x5.length : Int) then (if 0 ≤ x7 then (if x7 < (x5.length : Int) then (if 0 ≤ (rd x5 x8) then (if (rd x5 x8) ≤ (rd x5 x7) then (if (rd x5 x7) ≤ (x0.size : Int) then (if 0 ≤ x10 then (if x10 < (x6.length : Int) then (if 0 ≤ x9 then (if x9 < (x6.length : Int) then (if 0 ≤ (rd x6 x10) then (if (rd x6 x10) ≤ (rd x6 x9) then (if (rd x6 x9) ≤ (x1.size : Int) then ((dns_equal.f k (x0.extract ((rd x5 x8) : Int).toNat ((rd x5 x7) : Int).toNat) (x1.extract ((rd x6 x10) : Int).toNat ((rd x6 x9) : Int).toNat)).bind fun t162 => (if t162 = true then (dns_CompareDomainName.l0 k x0 x1 (wrap64 (x4 + 1)) x5 x6 (wrap64 (x7 - 1)) (wrap64 (x8 - 1)) (wrap64 (x9 - 1)) (wrap64 (x10 - 1))) else (some x4))) else (none)) else (none)) else (none)) else (none)) else (none)) else (none)) else (none)) else (none)) else (none)) else (none)) else (none)) else (none)) else (none)) else (none))
end
def dns_CompareDomainName.f (k : Nat) (a0 : ByteArray) (a1 : ByteArray) : Option (Int) := if a0.toList = ([46] : List UInt8) then (dns_CompareDomainName.j0 k a0 a1 0 true) else (dns_CompareDomainName.j0 k a0 a1 0 (a1.toList == ([46] : List UInt8)))
theorem dns_CompareDomainName.mono_l : ∀ k, (∀ y0 y1 y2 y3, LeO (dns_CompareDomainName.j0 k y0 y1 y2 y3) (dns_CompareDomainName.j0 (k + 1) y0 y1 y2 y3)) ∧ (∀ y0 y1 y2 y3 y4 y5 y6 y7 y8, LeO (dns_CompareDomainName.l0 k y0 y1 y2 y3 y4 y5 y6 y7 y8) (dns_CompareDomainName.l0 (k + 1) y0 y1 y2 y3 y4 y5 y6 y7 y8)) ∧ (∀ y0 y1 y2 y3 y4 y5 y6 y7 y8 y9, LeO (dns_CompareDomainName.j2 k y0 y1 y2 y3 y4 y5 y6 y7 y8 y9) (dns_CompareDomainName.j2 (k + 1) y0 y1 y2 y3 y4 y5 y6 y7 y8 y9))
  | 0 => ⟨fun _ _ _ _ r h => by simp [dns_CompareDomainName.j0] at h, fun _ _ _ _ _ _ _ _ _ r h => by simp [dns_CompareDomainName.l0] at h, fun _ _ _ _ _ _ _ _ _ _ r h => by simp [dns_CompareDomainName.j2] at h⟩
  | k + 1 => by
    obtain ⟨ih0, ih1, ih2⟩ := dns_CompareDomainName.mono_l k
    refine ⟨?_, ?_, ?_⟩
    · intro y0 y1 y2 y3
      unfold dns_CompareDomainName.j0
      repeat' first
      | (with_reducible exact ih0 _ _ _ _)
      | (with_reducible exact ih1 _ _ _ _ _ _ _ _ _)
      | (with_reducible exact ih2 _ _ _ _ _ _ _ _ _ _)
      | (with_reducible exact dns_Split.mono _ _)
      | (with_reducible exact dns_equal.mono _ _ _)
      | (with_reducible exact LeO.refl _)
      | (with_reducible exact LeO.none _)
      | (with_reducible refine LeO.ite ?_ ?_)
      | (with_reducible refine LeO.bind ?_ (fun _ => ?_))
      | exact ih0 _ _ _ _
      | exact ih1 _ _ _ _ _ _ _ _ _
      | exact ih2 _ _ _ _ _ _ _ _ _ _
      | exact dns_Split.mono _ _
      | exact dns_equal.mono _ _ _
      | exact LeO.none _
      | refine LeO.ite ?_ ?_
      | refine LeO.bind ?_ (fun _ => ?_)
    · intro y0 y1 y2 y3 y4 y5 y6 y7 y8
      unfold dns_CompareDomainName.l0
      repeat' first
      | (with_reducible exact ih0 _ _ _ _)
      | (with_reducible exact ih1 _ _ _ _ _ _ _ _ _)
      | (with_reducible exact ih2 _ _ _ _ _ _ _ _ _ _)
      | (with_reducible exact dns_Split.mono _ _)
      | (with_reducible exact dns_equal.mono _ _ _)
      | (with_reducible exact LeO.refl _)
      | (with_reducible exact LeO.none _)
      | (with_reducible refine LeO.ite ?_ ?_)
      | (with_reducible refine LeO.bind ?_ (fun _ => ?_))
      | exact ih0 _ _ _ _
      | exact ih1 _ _ _ _ _ _ _ _ _
      | exact ih2 _ _ _ _ _ _ _ _ _ _
      | exact dns_Split.mono _ _
      | exact dns_equal.mono _ _ _
      | exact LeO.none _
      | refine LeO.ite ?_ ?_
      | refine LeO.bind ?_ (fun _ => ?_)
    · intro y0 y1 y2 y3 y4 y5 y6 y7 y8 y9
      unfold dns_CompareDomainName.j2
      repeat' first
      | (with_reducible exact ih0 _ _ _ _)
      | (with_reducible exact ih1 _ _ _ _ _ _ _ _ _)
      | (with_reducible exact ih2 _ _ _ _ _ _ _ _ _ _)
      | (with_reducible exact dns_Split.mono _ _)
      | (with_reducible exact dns_equal.mono _ _ _)
      | (with_reducible exact LeO.refl _)
      | (with_reducible exact LeO.none _)
      | (with_reducible refine LeO.ite ?_ ?_)
      | (with_reducible refine LeO.bind ?_ (fun _ => ?_))
      | exact ih0 _ _ _ _
      | exact ih1 _ _ _ _ _ _ _ _ _
      | exact ih2 _ _ _ _ _ _ _ _ _ _
      | exact dns_Split.mono _ _
      | exact dns_equal.mono _ _ _
      | exact LeO.none _
      | refine LeO.ite ?_ ?_
      | refine LeO.bind ?_ (fun _ => ?_)
theorem dns_CompareDomainName.mono : ∀ a0 a1 k, LeO (dns_CompareDomainName.f k a0 a1) (dns_CompareDomainName.f (k + 1) a0 a1) := by
  intro a0 a1 k
  obtain ⟨ih0, ih1, ih2⟩ := dns_CompareDomainName.mono_l k
  unfold dns_CompareDomainName.f
  repeat' first
      | (with_reducible exact ih0 _ _ _ _)
      | (with_reducible exact ih1 _ _ _ _ _ _ _ _ _)
      | (with_reducible exact ih2 _ _ _ _ _ _ _ _ _ _)
      | (with_reducible exact dns_Split.mono _ _)
      | (with_reducible exact dns_equal.mono _ _ _)
      | (with_reducible exact LeO.refl _)
      | (with_reducible exact LeO.none _)
      | (with_reducible refine LeO.ite ?_ ?_)
      | (with_reducible refine LeO.bind ?_ (fun _ => ?_))
      | exact ih0 _ _ _ _
      | exact ih1 _ _ _ _ _ _ _ _ _
      | exact ih2 _ _ _ _ _ _ _ _ _ _
      | exact dns_Split.mono _ _
      | exact dns_equal.mono _ _ _
      | exact LeO.none _
      | refine LeO.ite ?_ ?_
      | refine LeO.bind ?_ (fun _ => ?_)
set_option maxHeartbeats 8000000 in
set_option maxRecDepth 100000 in
theorem dns_CompareDomainName.calls (k : Nat) (a0 : ByteArray) (a1 : ByteArray) (r : Int) (w : World) (h : dns_CompareDomainName.f k a0 a1 = some r) :
    Calls Try.prog 13 #[.string a0, .string a1] w fun e w' => e = .returned (.int .i64 r) ∧ Below w.heap.size w w' := by
  have HB := Aside0.mk (Below.refl w.heap.size w)
  have H : (if a0.toList = ([46] : List UInt8) then (dns_CompareDomainName.j0 k a0 a1 0 true) else (dns_CompareDomainName.j0 k a0 a1 0 (a1.toList == ([46] : List UInt8)))) = some r := h
  clear h
  have HC3 := Aside0.mk H
  clear H
  go_enter Try.func13, Try.ntmps13
  go_upto_region 1 with (fail)
  repeat (go_quiet (fail); go_upto_region 1 with (fail))
  go_cut [16] (fun v16 wc => ∃ (kq : Nat) (x16_2 : Bool), v16 = .bool x16_2 ∧ Aside0 (dns_CompareDomainName.j0 kq a0 a1 0 x16_2 = some r) ∧ Aside0 (kq ≤ k) ∧ Aside0 (Below w.heap.size w wc))
  case first =>
    have H := HC3.out
    clear HC3
    by_cases c4 : a0.toList = ([46] : List UInt8)
    · rw [if_pos c4] at H
      have c4b0 : (a0.toList == ([46] : List UInt8)) = true := beq_iff_eq.mpr c4
      have c4b1 : (a0.toList != ([46] : List UInt8)) = false := bne_eq_false_iff_eq.mpr c4
      clear c4
      (first | rw [c4b0] | (simp only [i64_w, i32_w]; rw [c4b0]) | skip)
      have H' := Aside0.mk H
      clear H
      go_wp2
      repeat (go_quiet (fail); try go_wp2)
      go_meet
      case rel => exact ⟨_, (true), (by first | rfl | (simp; done) | (simp [*]; done) | (simp [wrap64]; done)), H', ⟨by first | omega | exact Nat.le_refl _⟩, ⟨by repeat (first | (with_reducible first | exact HB.out | apply below_alloc | apply pw_below_drewN | apply below_drew1) | exact HB.out)⟩⟩
    · rw [if_neg c4] at H
      have c4b0 : (a0.toList == ([46] : List UInt8)) = false := beq_eq_false_iff_ne.mpr c4
      have c4b1 : (a0.toList != ([46] : List UInt8)) = true := bne_iff_ne.mpr c4
      (first | rw [c4b0] | (simp only [i64_w, i32_w]; rw [c4b0]) | skip)
      have H' := Aside0.mk H
      clear H
      go_wp2
      repeat (go_quiet (fail); try go_wp2)
      go_meet
      case rel => exact ⟨_, ((a1.toList == ([46] : List UInt8))), (by first | rfl | (simp; done) | (simp [*]; done) | (simp [wrap64]; done)), H', ⟨by first | omega | exact Nat.le_refl _⟩, ⟨by repeat (first | (with_reducible first | exact HB.out | apply below_alloc | apply pw_below_drewN | apply below_drew1) | exact HB.out)⟩⟩
  case rest =>
    clear HC3
    try clear c1
    try clear p2
    try clear c4
    try clear c4b0
    try clear c4b1
    obtain ⟨kq, x16_2, rfl, HA, HJ2, HB⟩ := hcut
    cases kq with
    | zero => exact absurd HA.out (by simp [dns_CompareDomainName.j0])
    | succ kj2 =>
      have H := HA.out
      clear HA
      simp only [dns_CompareDomainName.j0] at H
      by_cases c5 : x16_2 = true
      · subst c5
        have H1 : (some 0) = some r := by rw [if_pos rfl] at H; exact H
        clear H
        have H := H1
        clear H1
        obtain rfl := Option.some.inj H
        go_wp2
        repeat (go_quiet (fail); try go_wp2)
        go_ret
        exact ⟨by first | rfl | (simp [errW_none, errW_some] <;> rfl) | (simp [*, errW_none, errW_some] <;> rfl), by repeat (first | (with_reducible first | exact HB.out | apply below_alloc | apply pw_below_drewN | apply below_drew1) | exact HB.out)⟩
      · replace c5 := Bool.eq_false_iff.mpr c5
        subst c5
        have H1 : ((dns_Split.f kj2 a0).bind fun t149 => ((dns_Split.f kj2 a1).bind fun t152 => (if 0 ≤ (wrap64 ((t149.length : Int) - 1)) then (if (wrap64 ((t149.length : Int) - 1)) < (t149.length : Int) then (if 0 ≤ (rd t149 (wrap64 ((t149.length : Int) - 1))) then (if (rd t149 (wrap64 ((t149.length : Int) - 1))) ≤ (a0.size : Int) then (if 0 ≤ (wrap64 ((t152.length : Int) - 1)) then (if (wrap64 ((t152.length : Int) - 1)) < (t152.length : Int) then (if 0 ≤ (rd t152 (wrap64 ((t152.length : Int) - 1))) then (if (rd t152 (wrap64 ((t152.length : Int) - 1))) ≤ (a1.size : Int) then ((dns_equal.f kj2 (a0.extract ((rd t149 (wrap64 ((t149.length : Int) - 1))) : Int).toNat a0.size) (a1.extract ((rd t152 (wrap64 ((t152.length : Int) - 1))) : Int).toNat a1.size)).bind fun t157 => (if t157 = true then (dns_CompareDomainName.l0 kj2 a0 a1 (wrap64 (0 + 1)) t149 t152 (wrap64 ((t149.length : Int) - 1)) (wrap64 ((t149.length : Int) - 2)) (wrap64 ((t152.length : Int) - 1)) (wrap64 ((t152.length : Int) - 2))) else (some 0))) else (none)) else (none)) else (none)) else (none)) else (none)) else (none)) else (none)) else (none)))) = some r := by rw [if_neg (show ¬ (false = true) by decide)] at H; exact H
        clear H
        have H := H1
        clear H1
        replace H := Option.bind_eq_some_iff.mp H
        obtain ⟨t149, A60, H⟩ := H
        replace H : ((dns_Split.f kj2 a1).bind fun t152 => (if 0 ≤ (wrap64 ((t149.length : Int) - 1)) then (if (wrap64 ((t149.length : Int) - 1)) < (t149.length : Int) then (if 0 ≤ (rd t149 (wrap64 ((t149.length : Int) - 1))) then (if (rd t149 (wrap64 ((t149.length : Int) - 1))) ≤ (a0.size : Int) then (if 0 ≤ (wrap64 ((t152.length : Int) - 1)) then (if (wrap64 ((t152.length : Int) - 1)) < (t152.length : Int) then (if 0 ≤ (rd t152 (wrap64 ((t152.length : Int) - 1))) then (if (rd t152 (wrap64 ((t152.length : Int) - 1))) ≤ (a1.size : Int) then ((dns_equal.f kj2 (a0.extract ((rd t149 (wrap64 ((t149.length : Int) - 1))) : Int).toNat a0.size) (a1.extract ((rd t152 (wrap64 ((t152.length : Int) - 1))) : Int).toNat a1.size)).bind fun t157 => (if t157 = true then (dns_CompareDomainName.l0 kj2 a0 a1 (wrap64 (0 + 1)) t149 t152 (wrap64 ((t149.length : Int) - 1)) (wrap64 ((t149.length : Int) - 2)) (wrap64 ((t152.length : Int) - 1)) (wrap64 ((t152.length : Int) - 2))) else (some 0))) else (none)) else (none)) else (none)) else (none)) else (none)) else (none)) else (none)) else (none))) = some r := H
        have A6 := Aside0.mk A60
        clear A60
        replace H := Option.bind_eq_some_iff.mp H
        obtain ⟨t152, A70, H⟩ := H
        replace H : (if 0 ≤ (wrap64 ((t149.length : Int) - 1)) then (if (wrap64 ((t149.length : Int) - 1)) < (t149.length : Int) then (if 0 ≤ (rd t149 (wrap64 ((t149.length : Int) - 1))) then (if (rd t149 (wrap64 ((t149.length : Int) - 1))) ≤ (a0.size : Int) then (if 0 ≤ (wrap64 ((t152.length : Int) - 1)) then (if (wrap64 ((t152.length : Int) - 1)) < (t152.length : Int) then (if 0 ≤ (rd t152 (wrap64 ((t152.length : Int) - 1))) then (if (rd t152 (wrap64 ((t152.length : Int) - 1))) ≤ (a1.size : Int) then ((dns_equal.f kj2 (a0.extract ((rd t149 (wrap64 ((t149.length : Int) - 1))) : Int).toNat a0.size) (a1.extract ((rd t152 (wrap64 ((t152.length : Int) - 1))) : Int).toNat a1.size)).bind fun t157 => (if t157 = true then (dns_CompareDomainName.l0 kj2 a0 a1 (wrap64 (0 + 1)) t149 t152 (wrap64 ((t149.length : Int) - 1)) (wrap64 ((t149.length : Int) - 2)) (wrap64 ((t152.length : Int) - 1)) (wrap64 ((t152.length : Int) - 2))) else (some 0))) else (none)) else (none)) else (none)) else (none)) else (none)) else (none)) else (none)) else (none)) = some r := H
        have A7 := Aside0.mk A70
        clear A70
        obtain ⟨ji8, hji8⟩ : ∃ j_ : Int, (wrap64 ((t149.length : Int) - 1)) = j_ := ⟨_, rfl⟩
        replace H : (if 0 ≤ (ji8) then (if (ji8) < (t149.length : Int) then (if 0 ≤ (rd t149 (ji8)) then (if (rd t149 (ji8)) ≤ (a0.size : Int) then (if 0 ≤ (wrap64 ((t152.length : Int) - 1)) then (if (wrap64 ((t152.length : Int) - 1)) < (t152.length : Int) then (if 0 ≤ (rd t152 (wrap64 ((t152.length : Int) - 1))) then (if (rd t152 (wrap64 ((t152.length : Int) - 1))) ≤ (a1.size : Int) then ((dns_equal.f kj2 (a0.extract ((rd t149 (ji8)) : Int).toNat a0.size) (a1.extract ((rd t152 (wrap64 ((t152.length : Int) - 1))) : Int).toNat a1.size)).bind fun t157 => (if t157 = true then (dns_CompareDomainName.l0 kj2 a0 a1 (wrap64 (0 + 1)) t149 t152 ji8 (wrap64 ((t149.length : Int) - 2)) (wrap64 ((t152.length : Int) - 1)) (wrap64 ((t152.length : Int) - 2))) else (some 0))) else (none)) else (none)) else (none)) else (none)) else (none)) else (none)) else (none)) else (none)) = some r := by first | (rw [hji8] at H; exact H) | (simp only [hji8] at H ⊢; exact H)
        (try rw [hji8] at A6)
        (try rw [hji8] at A7)
        have hji8w : (IntKind.i64.wrap ((t149.length : Int) - 1)) = ji8 := (i64_w _).trans hji8
        by_cases c9 : 0 ≤ (ji8)
        · rw [if_pos c9] at H
          have c9b0 : decide (0 ≤ (ji8)) = true := decide_eq_true c9
          clear c9
          by_cases c10 : (ji8) < (t149.length : Int)
          · rw [if_pos c10] at H
            have c10b0 : decide ((ji8) < (t149.length : Int)) = true := decide_eq_true c10
            clear c10
            by_cases c11 : 0 ≤ (rd t149 (ji8))
            · rw [if_pos c11] at H
              have c11b0 := eq_true c11
              have c11b1 : decide (0 ≤ (rd t149 (ji8))) = true := decide_eq_true c11
              clear c11
              by_cases c12 : (rd t149 (ji8)) ≤ (a0.size : Int)
              · rw [if_pos c12] at H
                have c12b0 := eq_true c12
                have c12b1 : decide ((rd t149 (ji8)) ≤ (a0.size : Int)) = true := decide_eq_true c12
                clear c12
                obtain ⟨ji13, hji13⟩ : ∃ j_ : Int, (wrap64 ((t152.length : Int) - 1)) = j_ := ⟨_, rfl⟩
                replace H : (if 0 ≤ (ji13) then (if (ji13) < (t152.length : Int) then (if 0 ≤ (rd t152 (ji13)) then (if (rd t152 (ji13)) ≤ (a1.size : Int) then ((dns_equal.f kj2 (a0.extract ((rd t149 (ji8)) : Int).toNat a0.size) (a1.extract ((rd t152 (ji13)) : Int).toNat a1.size)).bind fun t157 => (if t157 = true then (dns_CompareDomainName.l0 kj2 a0 a1 (wrap64 (0 + 1)) t149 t152 ji8 (wrap64 ((t149.length : Int) - 2)) ji13 (wrap64 ((t152.length : Int) - 2))) else (some 0))) else (none)) else (none)) else (none)) else (none)) = some r := by first | (rw [hji13] at H; exact H) | (simp only [hji13] at H ⊢; exact H)
                (try rw [hji13] at A6)
                (try rw [hji13] at A7)
                have hji13w : (IntKind.i64.wrap ((t152.length : Int) - 1)) = ji13 := (i64_w _).trans hji13
                by_cases c14 : 0 ≤ (ji13)
                · rw [if_pos c14] at H
                  have c14b0 : decide (0 ≤ (ji13)) = true := decide_eq_true c14
                  clear c14
                  by_cases c15 : (ji13) < (t152.length : Int)
                  · rw [if_pos c15] at H
                    have c15b0 : decide ((ji13) < (t152.length : Int)) = true := decide_eq_true c15
                    clear c15
                    by_cases c16 : 0 ≤ (rd t152 (ji13))
                    · rw [if_pos c16] at H
                      have c16b0 := eq_true c16
                      have c16b1 : decide (0 ≤ (rd t152 (ji13))) = true := decide_eq_true c16
                      clear c16
                      by_cases c17 : (rd t152 (ji13)) ≤ (a1.size : Int)
                      · rw [if_pos c17] at H
                        have c17b0 := eq_true c17
                        have c17b1 : decide ((rd t152 (ji13)) ≤ (a1.size : Int)) = true := decide_eq_true c17
                        clear c17
                        replace H := Option.bind_eq_some_iff.mp H
                        obtain ⟨t157, A180, H⟩ := H
                        replace H : (if t157 = true then (dns_CompareDomainName.l0 kj2 a0 a1 (wrap64 (0 + 1)) t149 t152 ji8 (wrap64 ((t149.length : Int) - 2)) ji13 (wrap64 ((t152.length : Int) - 2))) else (some 0)) = some r := H
                        have A18 := Aside0.mk A180
                        clear A180
                        by_cases c19 : t157 = true
                        · subst c19
                          have H1 : (dns_CompareDomainName.l0 kj2 a0 a1 (wrap64 (0 + 1)) t149 t152 ji8 (wrap64 ((t149.length : Int) - 2)) ji13 (wrap64 ((t152.length : Int) - 2))) = some r := by rw [if_pos rfl] at H; exact H
                          clear H
                          have H := H1
                          clear H1
                          have H' := Aside0.mk H
                          clear H
                          go_wp2_with (first | (go_at_call 18; (with_reducible refine (dns_Split.calls kj2 a0 t149 _ A6.out).mono ?_); rintro e w20 ⟨v150, rfl, ho0, hb⟩; have n0_ := Aside0.mk (Kd.R_lower ho0 (below_size (by repeat (first | (with_reducible first | exact HB.out | apply below_alloc | apply pw_below_drewN | apply below_drew1) | exact HB.out)))); have n1_ := Aside0.mk (below_step (by repeat (first | (with_reducible first | exact HB.out | apply below_alloc | apply pw_below_drewN | apply below_drew1) | exact HB.out)) hb); clear HB; have HO151 := n0_; have HB := n1_; clear n0_ n1_; (try clear hb); (try clear hb2); (try clear hk); (try clear hi); (try clear ho0)) | (go_at_call 18; (with_reducible refine (dns_Split.calls kj2 a1 t152 _ A7.out).mono ?_); rintro e w21 ⟨v153, rfl, ho0, hb⟩; have n0_ := Aside0.mk (Kd.R_elder' (by (with_reducible repeat (first | apply Kd.R_alloc | apply Kd.R_drewN | apply Kd.R_drew)); exact HO151.out) (Kd.R_base ho0) hb); have n1_ := Aside0.mk (Kd.R_lower (Kd.R_new' ho0 (Kd.R_lt (by (with_reducible repeat (first | apply Kd.R_alloc | apply Kd.R_drewN | apply Kd.R_drew)); exact HO151.out))) (below_size (by repeat (first | (with_reducible first | exact HB.out | apply below_alloc | apply pw_below_drewN | apply below_drew1) | exact HB.out)))); have n2_ := Aside0.mk (below_step (by repeat (first | (with_reducible first | exact HB.out | apply below_alloc | apply pw_below_drewN | apply below_drew1) | exact HB.out)) hb); clear HO151; clear HB; have HO151 := n0_; have HO154 := n1_; have HB := n2_; clear n0_ n1_ n2_; (try clear hb); (try clear hb2); (try clear hk); (try clear hi); (try clear ho0); obtain ⟨Ao22, co22, eo22⟩ := Kd.R_slice HO151.out; subst eo22; obtain ⟨Ao23, co23, eo23⟩ := Kd.R_slice HO154.out; subst eo23; have p155 : 0 ≤ ((ji8) : Int) := of_decide_eq_true (by first | (with_reducible assumption) | assumption); have q155 : (ji8) < (t149.length : Int) := of_decide_eq_true (by first | (with_reducible assumption) | assumption); obtain ⟨ad155, e155, hx155_0⟩ := Kd.at_int (Kd.R_reads' HO151.out).2.2 (ji8) p155 q155; cases e155; replace p155 := eq_true p155; replace q155 := eq_true q155; have p156 : 0 ≤ ((ji13) : Int) := of_decide_eq_true (by first | (with_reducible assumption) | assumption); have q156 : (ji13) < (t152.length : Int) := of_decide_eq_true (by first | (with_reducible assumption) | assumption); obtain ⟨ad156, e156, hx156_0⟩ := Kd.at_int (Kd.R_reads' HO154.out).2.2 (ji13) p156 q156; cases e156; replace p156 := eq_true p156; replace q156 := eq_true q156) | (go_at_call 19; (with_reducible refine (dns_equal.calls kj2 (a0.extract ((rd t149 (ji8)) : Int).toNat a0.size) (a1.extract ((rd t152 (ji13)) : Int).toNat a1.size) true _ A18.out).mono ?_); rintro e w' ⟨rfl, ⟨nd, rfl⟩⟩; (try first | exact ⟨rfl, _, World.drewN_drewN _ _ _⟩ | exact ⟨rfl, _, Eq.trans (World.drewN_drewN _ _ _) (congrArg (World.drewN _) (Nat.add_assoc _ _ _))⟩)))
                          repeat (go_quiet (first | (go_at_call 18; (with_reducible refine (dns_Split.calls kj2 a0 t149 _ A6.out).mono ?_); rintro e w20 ⟨v150, rfl, ho0, hb⟩; have n0_ := Aside0.mk (Kd.R_lower ho0 (below_size (by repeat (first | (with_reducible first | exact HB.out | apply below_alloc | apply pw_below_drewN | apply below_drew1) | exact HB.out)))); have n1_ := Aside0.mk (below_step (by repeat (first | (with_reducible first | exact HB.out | apply below_alloc | apply pw_below_drewN | apply below_drew1) | exact HB.out)) hb); clear HB; have HO151 := n0_; have HB := n1_; clear n0_ n1_; (try clear hb); (try clear hb2); (try clear hk); (try clear hi); (try clear ho0)) | (go_at_call 18; (with_reducible refine (dns_Split.calls kj2 a1 t152 _ A7.out).mono ?_); rintro e w21 ⟨v153, rfl, ho0, hb⟩; have n0_ := Aside0.mk (Kd.R_elder' (by (with_reducible repeat (first | apply Kd.R_alloc | apply Kd.R_drewN | apply Kd.R_drew)); exact HO151.out) (Kd.R_base ho0) hb); have n1_ := Aside0.mk (Kd.R_lower (Kd.R_new' ho0 (Kd.R_lt (by (with_reducible repeat (first | apply Kd.R_alloc | apply Kd.R_drewN | apply Kd.R_drew)); exact HO151.out))) (below_size (by repeat (first | (with_reducible first | exact HB.out | apply below_alloc | apply pw_below_drewN | apply below_drew1) | exact HB.out)))); have n2_ := Aside0.mk (below_step (by repeat (first | (with_reducible first | exact HB.out | apply below_alloc | apply pw_below_drewN | apply below_drew1) | exact HB.out)) hb); clear HO151; clear HB; have HO151 := n0_; have HO154 := n1_; have HB := n2_; clear n0_ n1_ n2_; (try clear hb); (try clear hb2); (try clear hk); (try clear hi); (try clear ho0); obtain ⟨Ao22, co22, eo22⟩ := Kd.R_slice HO151.out; subst eo22; obtain ⟨Ao23, co23, eo23⟩ := Kd.R_slice HO154.out; subst eo23; have p155 : 0 ≤ ((ji8) : Int) := of_decide_eq_true (by first | (with_reducible assumption) | assumption); have q155 : (ji8) < (t149.length : Int) := of_decide_eq_true (by first | (with_reducible assumption) | assumption); obtain ⟨ad155, e155, hx155_0⟩ := Kd.at_int (Kd.R_reads' HO151.out).2.2 (ji8) p155 q155; cases e155; replace p155 := eq_true p155; replace q155 := eq_true q155; have p156 : 0 ≤ ((ji13) : Int) := of_decide_eq_true (by first | (with_reducible assumption) | assumption); have q156 : (ji13) < (t152.length : Int) := of_decide_eq_true (by first | (with_reducible assumption) | assumption); obtain ⟨ad156, e156, hx156_0⟩ := Kd.at_int (Kd.R_reads' HO154.out).2.2 (ji13) p156 q156; cases e156; replace p156 := eq_true p156; replace q156 := eq_true q156) | (go_at_call 19; (with_reducible refine (dns_equal.calls kj2 (a0.extract ((rd t149 (ji8)) : Int).toNat a0.size) (a1.extract ((rd t152 (ji13)) : Int).toNat a1.size) true _ A18.out).mono ?_); rintro e w' ⟨rfl, ⟨nd, rfl⟩⟩; (try first | exact ⟨rfl, _, World.drewN_drewN _ _ _⟩ | exact ⟨rfl, _, Eq.trans (World.drewN_drewN _ _ _) (congrArg (World.drewN _) (Nat.add_assoc _ _ _))⟩))); try go_wp2_with (first | (go_at_call 18; (with_reducible refine (dns_Split.calls kj2 a0 t149 _ A6.out).mono ?_); rintro e w20 ⟨v150, rfl, ho0, hb⟩; have n0_ := Aside0.mk (Kd.R_lower ho0 (below_size (by repeat (first | (with_reducible first | exact HB.out | apply below_alloc | apply pw_below_drewN | apply below_drew1) | exact HB.out)))); have n1_ := Aside0.mk (below_step (by repeat (first | (with_reducible first | exact HB.out | apply below_alloc | apply pw_below_drewN | apply below_drew1) | exact HB.out)) hb); clear HB; have HO151 := n0_; have HB := n1_; clear n0_ n1_; (try clear hb); (try clear hb2); (try clear hk); (try clear hi); (try clear ho0)) | (go_at_call 18; (with_reducible refine (dns_Split.calls kj2 a1 t152 _ A7.out).mono ?_); rintro e w21 ⟨v153, rfl, ho0, hb⟩; have n0_ := Aside0.mk (Kd.R_elder' (by (with_reducible repeat (first | apply Kd.R_alloc | apply Kd.R_drewN | apply Kd.R_drew)); exact HO151.out) (Kd.R_base ho0) hb); have n1_ := Aside0.mk (Kd.R_lower (Kd.R_new' ho0 (Kd.R_lt (by (with_reducible repeat (first | apply Kd.R_alloc | apply Kd.R_drewN | apply Kd.R_drew)); exact HO151.out))) (below_size (by repeat (first | (with_reducible first | exact HB.out | apply below_alloc | apply pw_below_drewN | apply below_drew1) | exact HB.out)))); have n2_ := Aside0.mk (below_step (by repeat (first | (with_reducible first | exact HB.out | apply below_alloc | apply pw_below_drewN | apply below_drew1) | exact HB.out)) hb); clear HO151; clear HB; have HO151 := n0_; have HO154 := n1_; have HB := n2_; clear n0_ n1_ n2_; (try clear hb); (try clear hb2); (try clear hk); (try clear hi); (try clear ho0); obtain ⟨Ao22, co22, eo22⟩ := Kd.R_slice HO151.out; subst eo22; obtain ⟨Ao23, co23, eo23⟩ := Kd.R_slice HO154.out; subst eo23; have p155 : 0 ≤ ((ji8) : Int) := of_decide_eq_true (by first | (with_reducible assumption) | assumption); have q155 : (ji8) < (t149.length : Int) := of_decide_eq_true (by first | (with_reducible assumption) | assumption); obtain ⟨ad155, e155, hx155_0⟩ := Kd.at_int (Kd.R_reads' HO151.out).2.2 (ji8) p155 q155; cases e155; replace p155 := eq_true p155; replace q155 := eq_true q155; have p156 : 0 ≤ ((ji13) : Int) := of_decide_eq_true (by first | (with_reducible assumption) | assumption); have q156 : (ji13) < (t152.length : Int) := of_decide_eq_true (by first | (with_reducible assumption) | assumption); obtain ⟨ad156, e156, hx156_0⟩ := Kd.at_int (Kd.R_reads' HO154.out).2.2 (ji13) p156 q156; cases e156; replace p156 := eq_true p156; replace q156 := eq_true q156) | (go_at_call 19; (with_reducible refine (dns_equal.calls kj2 (a0.extract ((rd t149 (ji8)) : Int).toNat a0.size) (a1.extract ((rd t152 (ji13)) : Int).toNat a1.size) true _ A18.out).mono ?_); rintro e w' ⟨rfl, ⟨nd, rfl⟩⟩; (try first | exact ⟨rfl, _, World.drewN_drewN _ _ _⟩ | exact ⟨rfl, _, Eq.trans (World.drewN_drewN _ _ _) (congrArg (World.drewN _) (Nat.add_assoc _ _ _))⟩))))
                          go_loopg [4, 7, 8, 9, 10] kj2 (fun kq v4 v7 v8 v9 v10 w' => ∃ (x4_2 : Int) (x7_2 : Int) (x8_2 : Int) (x9_2 : Int) (x10_2 : Int), v4 = .int .i64 x4_2 ∧ v7 = .int .i64 x7_2 ∧ v8 = .int .i64 x8_2 ∧ v9 = .int .i64 x9_2 ∧ v10 = .int .i64 x10_2 ∧ Aside0 (dns_CompareDomainName.l0 kq a0 a1 x4_2 t149 t152 x7_2 x8_2 x9_2 x10_2 = some r) ∧ Aside0 (kq ≤ kj2) ∧ Aside0 (Kd.R (Kd.int .i64) 3 w' w.heap.size (fun k_ => some k_ ≠ ((.slice (some ad156) t152.length co23) : Value).ownBlock) (.slice (some ad155) t149.length co22) t149) ∧ Aside0 (Kd.R (Kd.int .i64) 3 w' w.heap.size (fun k_ => some k_ ≠ ((.slice (some ad155) t149.length co22) : Value).ownBlock) (.slice (some ad156) t152.length co23) t152) ∧ Aside0 (Below w.heap.size w w'))
                          case atStart => exact ⟨(wrap64 (0 + 1)), (ji8), (wrap64 ((t149.length : Int) - 2)), (ji13), (wrap64 ((t152.length : Int) - 2)), (by first | rfl | (simp; done) | (simp [*]; done) | (simp [wrap64]; done)), (by first | rfl | (simp; done) | (simp only [← hji8] <;> (first | rfl | simp)) | (simp [*]; done)), (by first | rfl | (simp; done) | (simp [*]; done) | (simp [wrap64]; done)), (by first | rfl | (simp; done) | (simp only [← hji13] <;> (first | rfl | simp)) | (simp [*]; done)), (by first | rfl | (simp; done) | (simp [*]; done) | (simp [wrap64]; done)), H', ⟨Nat.le_refl _⟩, ⟨by (with_reducible repeat (first | apply Kd.R_alloc | apply Kd.R_drewN | apply Kd.R_drew)); exact Kd.R_mono HO151.out (fun _ hk => hk.2)⟩, ⟨by (with_reducible repeat (first | apply Kd.R_alloc | apply Kd.R_drewN | apply Kd.R_drew)); exact Kd.R_mono HO154.out (fun _ hk => hk.2)⟩, ⟨by repeat (first | (with_reducible first | exact HB.out | apply below_alloc | apply pw_below_drewN | apply below_drew1) | exact HB.out)⟩⟩
                          case round =>
                            clear H'
                            try clear c1
                            try clear p1
                            try clear q1
                            try clear hx1
                            try clear p2
                            try clear c4
                            try clear c4b0
                            try clear c4b1
                            try clear c5
                            try clear p6
                            try clear c9
                            try clear c9b0
                            try clear c10
                            try clear c10b0
                            try clear c11
                            try clear c11b0
                            try clear c11b1
                            try clear c12
                            try clear c12b0
                            try clear c12b1
                            try clear c13
                            try clear c14
                            try clear c14b0
                            try clear c15
                            try clear c15b0
                            try clear p15
                            try clear q15
                            try clear hx15
                            try clear c16
                            try clear c16b0
                            try clear c16b1
                            try clear c17
                            try clear c17b0
                            try clear c17b1
                            try clear c19
                            try clear hx155_0
                            try clear hx156_0
                            try clear p155
                            try clear p156
                            try clear p2
                            try clear q155
                            try clear q156
                            obtain ⟨x4_2, x7_2, x8_2, x9_2, x10_2, rfl, rfl, rfl, rfl, rfl, HA, HK2, HO_5, HO_6, HB⟩ := hrel
                            cases gk with
                            | zero => exact absurd HA.out (by simp [dns_CompareDomainName.l0])
                            | succ k2 =>
                              have H := HA.out
                              clear HA
                              simp only [dns_CompareDomainName.l0] at H
                              have HC24 := Aside0.mk H
                              clear H
                              go_upto_region 11 with (fail)
                              repeat (go_quiet (fail); go_upto_region 11 with (fail))
                              go_cut [53] (fun v53 wc => ∃ (kq : Nat) (x53_23 : Bool), v53 = .bool x53_23 ∧ Aside0 (dns_CompareDomainName.j2 kq a0 a1 x4_2 t149 t152 x7_2 x8_2 x9_2 x10_2 x53_23 = some r) ∧ Aside0 (kq ≤ k2) ∧ Aside0 (Kd.R (Kd.int .i64) 3 wc w.heap.size (fun k_ => some k_ ≠ ((.slice (some ad156) t152.length co23) : Value).ownBlock) (.slice (some ad155) t149.length co22) t149) ∧ Aside0 (Kd.R (Kd.int .i64) 3 wc w.heap.size (fun k_ => some k_ ≠ ((.slice (some ad155) t149.length co22) : Value).ownBlock) (.slice (some ad156) t152.length co23) t152) ∧ Aside0 (Below w.heap.size w wc))
                              case first =>
                                have H := HC24.out
                                clear HC24
                                by_cases c25 : x8_2 < 0
                                · rw [if_pos c25] at H
                                  have c25b0 : decide (x8_2 < 0) = true := decide_eq_true c25
                                  clear c25
                                  (first | rw [c25b0] | (simp only [i64_w, i32_w]; rw [c25b0]) | skip)
                                  have H' := Aside0.mk H
                                  clear H
                                  go_wp2
                                  repeat (go_quiet (fail); try go_wp2)
                                  go_meet
                                  case rel => exact ⟨_, (true), (by first | rfl | (simp; done) | (simp [*]; done) | (simp [wrap64]; done)), H', ⟨by have := HJ2.out; have := HK2.out; first | omega | exact Nat.le_refl _⟩, ⟨by (with_reducible repeat (first | apply Kd.R_alloc | apply Kd.R_drewN | apply Kd.R_drew)); exact HO_5.out⟩, ⟨by (with_reducible repeat (first | apply Kd.R_alloc | apply Kd.R_drewN | apply Kd.R_drew)); exact HO_6.out⟩, ⟨by repeat (first | (with_reducible first | exact HB.out | apply below_alloc | apply pw_below_drewN | apply below_drew1) | exact HB.out)⟩⟩
                                · rw [if_neg c25] at H
                                  have c25b0 : decide (x8_2 < 0) = false := decide_eq_false c25
                                  clear c25
                                  (first | rw [c25b0] | (simp only [i64_w, i32_w]; rw [c25b0]) | skip)
                                  have H' := Aside0.mk H
                                  clear H
                                  go_wp2
                                  repeat (go_quiet (fail); try go_wp2)
                                  go_meet
                                  case rel => exact ⟨_, (decide (x10_2 < 0)), (by first | rfl | (simp; done) | (simp [*]; done) | (simp [wrap64]; done)), H', ⟨by have := HJ2.out; have := HK2.out; first | omega | exact Nat.le_refl _⟩, ⟨by (with_reducible repeat (first | apply Kd.R_alloc | apply Kd.R_drewN | apply Kd.R_drew)); exact HO_5.out⟩, ⟨by (with_reducible repeat (first | apply Kd.R_alloc | apply Kd.R_drewN | apply Kd.R_drew)); exact HO_6.out⟩, ⟨by repeat (first | (with_reducible first | exact HB.out | apply below_alloc | apply pw_below_drewN | apply below_drew1) | exact HB.out)⟩⟩
                              case rest =>
                                clear HC24
                                try clear c1
                                try clear p1
                                try clear q1
                                try clear hx1
                                try clear c2
                                try clear p2
                                try clear c4
                                try clear c4b0
                                try clear c4b1
                                try clear c5
                                try clear p6
                                try clear c9
                                try clear c9b0
                                try clear c10
                                try clear c10b0
                                try clear c11
                                try clear c11b0
                                try clear c11b1
                                try clear c12
                                try clear c12b0
                                try clear c12b1
                                try clear c13
                                try clear c14
                                try clear c14b0
                                try clear c15
                                try clear c15b0
                                try clear p15
                                try clear q15
                                try clear hx15
                                try clear c16
                                try clear c16b0
                                try clear c16b1
                                try clear c17
                                try clear c17b0
                                try clear c17b1
                                try clear c19
                                try clear c25
                                try clear c25b0
                                try clear hx155_0
                                try clear hx156_0
                                try clear p1
                                try clear p15
                                try clear p155
                                try clear p156
                                try clear p2
                                try clear p6
                                try clear q1
                                try clear q15
                                try clear q155
                                try clear q156
                                obtain ⟨kq, x53_23, rfl, HA, HJ23, HO_5, HO_6, HB⟩ := hcut
                                cases kq with
                                | zero => exact absurd HA.out (by simp [dns_CompareDomainName.j2])
                                | succ kj23 =>
                                  have H := HA.out
                                  clear HA
                                  simp only [dns_CompareDomainName.j2] at H
                                  by_cases c26 : x53_23 = true
                                  · subst c26
                                    have H1 : (some x4_2) = some r := by rw [if_pos rfl] at H; exact H
                                    clear H
                                    have H := H1
                                    clear H1
                                    obtain rfl := Option.some.inj H
                                    go_wp2
                                    repeat (go_quiet (fail); try go_wp2)
                                    go_ret
                                    exact ⟨by first | rfl | (simp [errW_none, errW_some] <;> rfl) | (simp only [← hji8, ← hji13]; first | rfl | (simp [errW_none, errW_some] <;> rfl)) | (simp [*, errW_none, errW_some] <;> rfl), by repeat (first | (with_reducible first | exact HB.out | apply below_alloc | apply pw_below_drewN | apply below_drew1) | exact HB.out)⟩
                                  · replace c26 := Bool.eq_false_iff.mpr c26
                                    subst c26
                                    have H1 : (if 0 ≤ x8_2 then (if x8_2 < (t149.length : Int) then (if 0 ≤ x7_2 then (if x7_2 < (t149.length : Int) then (if 0 ≤ (rd t149 x8_2) then (if (rd t149 x8_2) ≤ (rd t149 x7_2) then (if (rd t149 x7_2) ≤ (a0.size : Int) then (if 0 ≤ x10_2 then (if x10_2 < (t152.length : Int) then (if 0 ≤ x9_2 then (if x9_2 < (t152.length : Int) then (if 0 ≤ (rd t152 x10_2) then (if (rd t152 x10_2) ≤ (rd t152 x9_2) then (if (rd t152 x9_2) ≤ (a1.size : Int) then ((dns_equal.f kj23 (a0.extract ((rd t149 x8_2) : Int).toNat ((rd t149 x7_2) : Int).toNat) (a1.extract ((rd t152 x10_2) : Int).toNat ((rd t152 x9_2) : Int).toNat)).bind fun t162 => (if t162 = true then (dns_CompareDomainName.l0 kj23 a0 a1 (wrap64 (x4_2 + 1)) t149 t152 (wrap64 (x7_2 - 1)) (wrap64 (x8_2 - 1)) (wrap64 (x9_2 - 1)) (wrap64 (x10_2 - 1))) else (some x4_2))) else (none)) else (none)) else (none)) else (none)) else (none)) else (none)) else (none)) else (none)) else (none)) else (none)) else (none)) else (none)) else (none)) else (none)) = some r := by rw [if_neg (show ¬ (false = true) by decide)] at H; exact H
                                    clear H
                                    have H := H1
                                    clear H1
                                    by_cases c27 : 0 ≤ x8_2
                                    · rw [if_pos c27] at H
                                      have c27b0 : decide (0 ≤ x8_2) = true := decide_eq_true c27
                                      clear c27
                                      by_cases c28 : x8_2 < (t149.length : Int)
                                      · rw [if_pos c28] at H
                                        have c28b0 : decide (x8_2 < (t149.length : Int)) = true := decide_eq_true c28
                                        clear c28
                                        by_cases c29 : 0 ≤ x7_2
                                        · rw [if_pos c29] at H
                                          have c29b0 : decide (0 ≤ x7_2) = true := decide_eq_true c29
                                          clear c29
                                          by_cases c30 : x7_2 < (t149.length : Int)
                                          · rw [if_pos c30] at H
                                            have c30b0 : decide (x7_2 < (t149.length : Int)) = true := decide_eq_true c30
                                            clear c30
                                            by_cases c31 : 0 ≤ (rd t149 x8_2)
                                            · rw [if_pos c31] at H
                                              have c31b0 := eq_true c31
                                              have c31b1 : decide (0 ≤ (rd t149 x8_2)) = true := decide_eq_true c31
                                              clear c31
                                              by_cases c32 : (rd t149 x8_2) ≤ (rd t149 x7_2)
                                              · rw [if_pos c32] at H
                                                have c32b0 := eq_true c32
                                                have c32b1 : decide ((rd t149 x8_2) ≤ (rd t149 x7_2)) = true := decide_eq_true c32
                                                clear c32
                                                by_cases c33 : (rd t149 x7_2) ≤ (a0.size : Int)
                                                · rw [if_pos c33] at H
                                                  have c33b0 := eq_true c33
                                                  have c33b1 : decide ((rd t149 x7_2) ≤ (a0.size : Int)) = true := decide_eq_true c33
                                                  clear c33
                                                  by_cases c34 : 0 ≤ x10_2
                                                  · rw [if_pos c34] at H
                                                    have c34b0 : decide (0 ≤ x10_2) = true := decide_eq_true c34
                                                    clear c34
                                                    by_cases c35 : x10_2 < (t152.length : Int)
                                                    · rw [if_pos c35] at H
                                                      have c35b0 : decide (x10_2 < (t152.length : Int)) = true := decide_eq_true c35
                                                      clear c35
                                                      by_cases c36 : 0 ≤ x9_2
                                                      · rw [if_pos c36] at H
                                                        have c36b0 : decide (0 ≤ x9_2) = true := decide_eq_true c36
                                                        clear c36
                                                        by_cases c37 : x9_2 < (t152.length : Int)
                                                        · rw [if_pos c37] at H
                                                          have c37b0 : decide (x9_2 < (t152.length : Int)) = true := decide_eq_true c37
                                                          clear c37
                                                          by_cases c38 : 0 ≤ (rd t152 x10_2)
                                                          · rw [if_pos c38] at H
                                                            have c38b0 := eq_true c38
                                                            have c38b1 : decide (0 ≤ (rd t152 x10_2)) = true := decide_eq_true c38
                                                            clear c38
                                                            by_cases c39 : (rd t152 x10_2) ≤ (rd t152 x9_2)
                                                            · rw [if_pos c39] at H
                                                              have c39b0 := eq_true c39
                                                              have c39b1 : decide ((rd t152 x10_2) ≤ (rd t152 x9_2)) = true := decide_eq_true c39
                                                              clear c39
                                                              by_cases c40 : (rd t152 x9_2) ≤ (a1.size : Int)
                                                              · rw [if_pos c40] at H
                                                                have c40b0 := eq_true c40
                                                                have c40b1 : decide ((rd t152 x9_2) ≤ (a1.size : Int)) = true := decide_eq_true c40
                                                                clear c40
                                                                replace H := Option.bind_eq_some_iff.mp H
                                                                obtain ⟨t162, A410, H⟩ := H
                                                                replace H : (if t162 = true then (dns_CompareDomainName.l0 kj23 a0 a1 (wrap64 (x4_2 + 1)) t149 t152 (wrap64 (x7_2 - 1)) (wrap64 (x8_2 - 1)) (wrap64 (x9_2 - 1)) (wrap64 (x10_2 - 1))) else (some x4_2)) = some r := H
                                                                have A41 := Aside0.mk A410
                                                                clear A410
                                                                by_cases c42 : t162 = true
                                                                · subst c42
                                                                  have H1 : (dns_CompareDomainName.l0 kj23 a0 a1 (wrap64 (x4_2 + 1)) t149 t152 (wrap64 (x7_2 - 1)) (wrap64 (x8_2 - 1)) (wrap64 (x9_2 - 1)) (wrap64 (x10_2 - 1))) = some r := by rw [if_pos rfl] at H; exact H
                                                                  clear H
                                                                  have H := H1
                                                                  clear H1
                                                                  have H' := Aside0.mk H
                                                                  clear H
                                                                  have p158 : 0 ≤ (x8_2 : Int) := of_decide_eq_true (by first | (with_reducible assumption) | assumption)
                                                                  have q158 : x8_2 < (t149.length : Int) := of_decide_eq_true (by first | (with_reducible assumption) | assumption)
                                                                  obtain ⟨ad158, e158, hx158_0⟩ := Kd.at_int (Kd.R_reads' HO_5.out).2.2 x8_2 p158 q158
                                                                  obtain rfl : ad155 = ad158 := (by injection e158)
                                                                  replace p158 := eq_true p158
                                                                  replace q158 := eq_true q158
                                                                  have p159 : 0 ≤ (x7_2 : Int) := of_decide_eq_true (by first | (with_reducible assumption) | assumption)
                                                                  have q159 : x7_2 < (t149.length : Int) := of_decide_eq_true (by first | (with_reducible assumption) | assumption)
                                                                  obtain ⟨ad159, e159, hx159_0⟩ := Kd.at_int (Kd.R_reads' HO_5.out).2.2 x7_2 p159 q159
                                                                  obtain rfl : ad155 = ad159 := (by injection e159)
                                                                  replace p159 := eq_true p159
                                                                  replace q159 := eq_true q159
                                                                  have p160 : 0 ≤ (x10_2 : Int) := of_decide_eq_true (by first | (with_reducible assumption) | assumption)
                                                                  have q160 : x10_2 < (t152.length : Int) := of_decide_eq_true (by first | (with_reducible assumption) | assumption)
                                                                  obtain ⟨ad160, e160, hx160_0⟩ := Kd.at_int (Kd.R_reads' HO_6.out).2.2 x10_2 p160 q160
                                                                  obtain rfl : ad156 = ad160 := (by injection e160)
                                                                  replace p160 := eq_true p160
                                                                  replace q160 := eq_true q160
                                                                  have p161 : 0 ≤ (x9_2 : Int) := of_decide_eq_true (by first | (with_reducible assumption) | assumption)
                                                                  have q161 : x9_2 < (t152.length : Int) := of_decide_eq_true (by first | (with_reducible assumption) | assumption)
                                                                  obtain ⟨ad161, e161, hx161_0⟩ := Kd.at_int (Kd.R_reads' HO_6.out).2.2 x9_2 p161 q161
                                                                  obtain rfl : ad156 = ad161 := (by injection e161)
                                                                  replace p161 := eq_true p161
                                                                  replace q161 := eq_true q161
                                                                  go_wp2_with (first | (go_at_call 19; (with_reducible refine (dns_equal.calls kj23 (a0.extract ((rd t149 x8_2) : Int).toNat ((rd t149 x7_2) : Int).toNat) (a1.extract ((rd t152 x10_2) : Int).toNat ((rd t152 x9_2) : Int).toNat) true _ A41.out).mono ?_); rintro e w' ⟨rfl, ⟨nd, rfl⟩⟩; (try first | exact ⟨rfl, _, World.drewN_drewN _ _ _⟩ | exact ⟨rfl, _, Eq.trans (World.drewN_drewN _ _ _) (congrArg (World.drewN _) (Nat.add_assoc _ _ _))⟩)))
                                                                  repeat (go_quiet (first | (go_at_call 19; (with_reducible refine (dns_equal.calls kj23 (a0.extract ((rd t149 x8_2) : Int).toNat ((rd t149 x7_2) : Int).toNat) (a1.extract ((rd t152 x10_2) : Int).toNat ((rd t152 x9_2) : Int).toNat) true _ A41.out).mono ?_); rintro e w' ⟨rfl, ⟨nd, rfl⟩⟩; (try first | exact ⟨rfl, _, World.drewN_drewN _ _ _⟩ | exact ⟨rfl, _, Eq.trans (World.drewN_drewN _ _ _) (congrArg (World.drewN _) (Nat.add_assoc _ _ _))⟩))); try go_wp2_with (first | (go_at_call 19; (with_reducible refine (dns_equal.calls kj23 (a0.extract ((rd t149 x8_2) : Int).toNat ((rd t149 x7_2) : Int).toNat) (a1.extract ((rd t152 x10_2) : Int).toNat ((rd t152 x9_2) : Int).toNat) true _ A41.out).mono ?_); rintro e w' ⟨rfl, ⟨nd, rfl⟩⟩; (try first | exact ⟨rfl, _, World.drewN_drewN _ _ _⟩ | exact ⟨rfl, _, Eq.trans (World.drewN_drewN _ _ _) (congrArg (World.drewN _) (Nat.add_assoc _ _ _))⟩))))
                                                                  go_roundg kj23
                                                                  case measure => have := HJ2.out; have := HK2.out; have := HJ23.out; omega
                                                                  case rel => exact ⟨(wrap64 (x4_2 + 1)), (wrap64 (x7_2 - 1)), (wrap64 (x8_2 - 1)), (wrap64 (x9_2 - 1)), (wrap64 (x10_2 - 1)), (by first | rfl | (simp; done) | (simp [*]; done) | (simp [wrap64]; done)), (by first | rfl | (simp; done) | (simp [*]; done) | (simp [wrap64]; done)), (by first | rfl | (simp; done) | (simp [*]; done) | (simp [wrap64]; done)), (by first | rfl | (simp; done) | (simp [*]; done) | (simp [wrap64]; done)), (by first | rfl | (simp; done) | (simp [*]; done) | (simp [wrap64]; done)), H', ⟨by have := HJ2.out; have := HK2.out; have := HJ23.out; omega⟩, ⟨by (with_reducible repeat (first | apply Kd.R_alloc | apply Kd.R_drewN | apply Kd.R_drew)); exact HO_5.out⟩, ⟨by (with_reducible repeat (first | apply Kd.R_alloc | apply Kd.R_drewN | apply Kd.R_drew)); exact HO_6.out⟩, ⟨by repeat (first | (with_reducible first | exact HB.out | apply below_alloc | apply pw_below_drewN | apply below_drew1) | exact HB.out)⟩⟩
                                                                · replace c42 := Bool.eq_false_iff.mpr c42
                                                                  subst c42
                                                                  have H1 : (some x4_2) = some r := by rw [if_neg (show ¬ (false = true) by decide)] at H; exact H
                                                                  clear H
                                                                  have H := H1
                                                                  clear H1
                                                                  obtain rfl := Option.some.inj H
                                                                  have p158 : 0 ≤ (x8_2 : Int) := of_decide_eq_true (by first | (with_reducible assumption) | assumption)
                                                                  have q158 : x8_2 < (t149.length : Int) := of_decide_eq_true (by first | (with_reducible assumption) | assumption)
                                                                  obtain ⟨ad158, e158, hx158_0⟩ := Kd.at_int (Kd.R_reads' HO_5.out).2.2 x8_2 p158 q158
                                                                  obtain rfl : ad155 = ad158 := (by injection e158)
                                                                  replace p158 := eq_true p158
                                                                  replace q158 := eq_true q158
                                                                  have p159 : 0 ≤ (x7_2 : Int) := of_decide_eq_true (by first | (with_reducible assumption) | assumption)
                                                                  have q159 : x7_2 < (t149.length : Int) := of_decide_eq_true (by first | (with_reducible assumption) | assumption)
                                                                  obtain ⟨ad159, e159, hx159_0⟩ := Kd.at_int (Kd.R_reads' HO_5.out).2.2 x7_2 p159 q159
                                                                  obtain rfl : ad155 = ad159 := (by injection e159)
                                                                  replace p159 := eq_true p159
                                                                  replace q159 := eq_true q159
                                                                  have p160 : 0 ≤ (x10_2 : Int) := of_decide_eq_true (by first | (with_reducible assumption) | assumption)
                                                                  have q160 : x10_2 < (t152.length : Int) := of_decide_eq_true (by first | (with_reducible assumption) | assumption)
                                                                  obtain ⟨ad160, e160, hx160_0⟩ := Kd.at_int (Kd.R_reads' HO_6.out).2.2 x10_2 p160 q160
                                                                  obtain rfl : ad156 = ad160 := (by injection e160)
                                                                  replace p160 := eq_true p160
                                                                  replace q160 := eq_true q160
                                                                  have p161 : 0 ≤ (x9_2 : Int) := of_decide_eq_true (by first | (with_reducible assumption) | assumption)
                                                                  have q161 : x9_2 < (t152.length : Int) := of_decide_eq_true (by first | (with_reducible assumption) | assumption)
                                                                  obtain ⟨ad161, e161, hx161_0⟩ := Kd.at_int (Kd.R_reads' HO_6.out).2.2 x9_2 p161 q161
                                                                  obtain rfl : ad156 = ad161 := (by injection e161)
                                                                  replace p161 := eq_true p161
                                                                  replace q161 := eq_true q161
                                                                  go_wp2_with (first | (go_at_call 19; (with_reducible refine (dns_equal.calls kj23 (a0.extract ((rd t149 x8_2) : Int).toNat ((rd t149 x7_2) : Int).toNat) (a1.extract ((rd t152 x10_2) : Int).toNat ((rd t152 x9_2) : Int).toNat) false _ A41.out).mono ?_); rintro e w' ⟨rfl, ⟨nd, rfl⟩⟩; (try first | exact ⟨rfl, _, World.drewN_drewN _ _ _⟩ | exact ⟨rfl, _, Eq.trans (World.drewN_drewN _ _ _) (congrArg (World.drewN _) (Nat.add_assoc _ _ _))⟩)))
                                                                  repeat (go_quiet (first | (go_at_call 19; (with_reducible refine (dns_equal.calls kj23 (a0.extract ((rd t149 x8_2) : Int).toNat ((rd t149 x7_2) : Int).toNat) (a1.extract ((rd t152 x10_2) : Int).toNat ((rd t152 x9_2) : Int).toNat) false _ A41.out).mono ?_); rintro e w' ⟨rfl, ⟨nd, rfl⟩⟩; (try first | exact ⟨rfl, _, World.drewN_drewN _ _ _⟩ | exact ⟨rfl, _, Eq.trans (World.drewN_drewN _ _ _) (congrArg (World.drewN _) (Nat.add_assoc _ _ _))⟩))); try go_wp2_with (first | (go_at_call 19; (with_reducible refine (dns_equal.calls kj23 (a0.extract ((rd t149 x8_2) : Int).toNat ((rd t149 x7_2) : Int).toNat) (a1.extract ((rd t152 x10_2) : Int).toNat ((rd t152 x9_2) : Int).toNat) false _ A41.out).mono ?_); rintro e w' ⟨rfl, ⟨nd, rfl⟩⟩; (try first | exact ⟨rfl, _, World.drewN_drewN _ _ _⟩ | exact ⟨rfl, _, Eq.trans (World.drewN_drewN _ _ _) (congrArg (World.drewN _) (Nat.add_assoc _ _ _))⟩))))
                                                                  go_ret
                                                                  exact ⟨by first | rfl | (simp [errW_none, errW_some] <;> rfl) | (simp only [← hji8, ← hji13]; first | rfl | (simp [errW_none, errW_some] <;> rfl)) | (simp [*, errW_none, errW_some] <;> rfl), by repeat (first | (with_reducible first | exact HB.out | apply below_alloc | apply pw_below_drewN | apply below_drew1) | exact HB.out)⟩
                                                              · rw [if_neg c40] at H
                                                                exact absurd H (by simp)
                                                            · rw [if_neg c39] at H
                                                              exact absurd H (by simp)
                                                          · rw [if_neg c38] at H
                                                            exact absurd H (by simp)
                                                        · rw [if_neg c37] at H
                                                          exact absurd H (by simp)
                                                      · rw [if_neg c36] at H
                                                        exact absurd H (by simp)
                                                    · rw [if_neg c35] at H
                                                      exact absurd H (by simp)
                                                  · rw [if_neg c34] at H
                                                    exact absurd H (by simp)
                                                · rw [if_neg c33] at H
                                                  exact absurd H (by simp)
                                              · rw [if_neg c32] at H
                                                exact absurd H (by simp)
                                            · rw [if_neg c31] at H
                                              exact absurd H (by simp)
                                          · rw [if_neg c30] at H
                                            exact absurd H (by simp)
                                        · rw [if_neg c29] at H
                                          exact absurd H (by simp)
                                      · rw [if_neg c28] at H
                                        exact absurd H (by simp)
                                    · rw [if_neg c27] at H
                                      exact absurd H (by simp)
                        · replace c19 := Bool.eq_false_iff.mpr c19
                          subst c19
                          have H1 : (some 0) = some r := by rw [if_neg (show ¬ (false = true) by decide)] at H; exact H
                          clear H
                          have H := H1
                          clear H1
                          obtain rfl := Option.some.inj H
                          go_wp2_with (first | (go_at_call 18; (with_reducible refine (dns_Split.calls kj2 a0 t149 _ A6.out).mono ?_); rintro e w43 ⟨v150, rfl, ho0, hb⟩; have n0_ := Aside0.mk (Kd.R_lower ho0 (below_size (by repeat (first | (with_reducible first | exact HB.out | apply below_alloc | apply pw_below_drewN | apply below_drew1) | exact HB.out)))); have n1_ := Aside0.mk (below_step (by repeat (first | (with_reducible first | exact HB.out | apply below_alloc | apply pw_below_drewN | apply below_drew1) | exact HB.out)) hb); clear HB; have HO151 := n0_; have HB := n1_; clear n0_ n1_; (try clear hb); (try clear hb2); (try clear hk); (try clear hi); (try clear ho0)) | (go_at_call 18; (with_reducible refine (dns_Split.calls kj2 a1 t152 _ A7.out).mono ?_); rintro e w44 ⟨v153, rfl, ho0, hb⟩; have n0_ := Aside0.mk (Kd.R_elder' (by (with_reducible repeat (first | apply Kd.R_alloc | apply Kd.R_drewN | apply Kd.R_drew)); exact HO151.out) (Kd.R_base ho0) hb); have n1_ := Aside0.mk (Kd.R_lower (Kd.R_new' ho0 (Kd.R_lt (by (with_reducible repeat (first | apply Kd.R_alloc | apply Kd.R_drewN | apply Kd.R_drew)); exact HO151.out))) (below_size (by repeat (first | (with_reducible first | exact HB.out | apply below_alloc | apply pw_below_drewN | apply below_drew1) | exact HB.out)))); have n2_ := Aside0.mk (below_step (by repeat (first | (with_reducible first | exact HB.out | apply below_alloc | apply pw_below_drewN | apply below_drew1) | exact HB.out)) hb); clear HO151; clear HB; have HO151 := n0_; have HO154 := n1_; have HB := n2_; clear n0_ n1_ n2_; (try clear hb); (try clear hb2); (try clear hk); (try clear hi); (try clear ho0); obtain ⟨Ao45, co45, eo45⟩ := Kd.R_slice HO151.out; subst eo45; obtain ⟨Ao46, co46, eo46⟩ := Kd.R_slice HO154.out; subst eo46; have p155 : 0 ≤ ((ji8) : Int) := of_decide_eq_true (by first | (with_reducible assumption) | assumption); have q155 : (ji8) < (t149.length : Int) := of_decide_eq_true (by first | (with_reducible assumption) | assumption); obtain ⟨ad155, e155, hx155_0⟩ := Kd.at_int (Kd.R_reads' HO151.out).2.2 (ji8) p155 q155; cases e155; replace p155 := eq_true p155; replace q155 := eq_true q155; have p156 : 0 ≤ ((ji13) : Int) := of_decide_eq_true (by first | (with_reducible assumption) | assumption); have q156 : (ji13) < (t152.length : Int) := of_decide_eq_true (by first | (with_reducible assumption) | assumption); obtain ⟨ad156, e156, hx156_0⟩ := Kd.at_int (Kd.R_reads' HO154.out).2.2 (ji13) p156 q156; cases e156; replace p156 := eq_true p156; replace q156 := eq_true q156) | (go_at_call 19; (with_reducible refine (dns_equal.calls kj2 (a0.extract ((rd t149 (ji8)) : Int).toNat a0.size) (a1.extract ((rd t152 (ji13)) : Int).toNat a1.size) false _ A18.out).mono ?_); rintro e w' ⟨rfl, ⟨nd, rfl⟩⟩; (try first | exact ⟨rfl, _, World.drewN_drewN _ _ _⟩ | exact ⟨rfl, _, Eq.trans (World.drewN_drewN _ _ _) (congrArg (World.drewN _) (Nat.add_assoc _ _ _))⟩)))
                          repeat (go_quiet (first | (go_at_call 18; (with_reducible refine (dns_Split.calls kj2 a0 t149 _ A6.out).mono ?_); rintro e w43 ⟨v150, rfl, ho0, hb⟩; have n0_ := Aside0.mk (Kd.R_lower ho0 (below_size (by repeat (first | (with_reducible first | exact HB.out | apply below_alloc | apply pw_below_drewN | apply below_drew1) | exact HB.out)))); have n1_ := Aside0.mk (below_step (by repeat (first | (with_reducible first | exact HB.out | apply below_alloc | apply pw_below_drewN | apply below_drew1) | exact HB.out)) hb); clear HB; have HO151 := n0_; have HB := n1_; clear n0_ n1_; (try clear hb); (try clear hb2); (try clear hk); (try clear hi); (try clear ho0)) | (go_at_call 18; (with_reducible refine (dns_Split.calls kj2 a1 t152 _ A7.out).mono ?_); rintro e w44 ⟨v153, rfl, ho0, hb⟩; have n0_ := Aside0.mk (Kd.R_elder' (by (with_reducible repeat (first | apply Kd.R_alloc | apply Kd.R_drewN | apply Kd.R_drew)); exact HO151.out) (Kd.R_base ho0) hb); have n1_ := Aside0.mk (Kd.R_lower (Kd.R_new' ho0 (Kd.R_lt (by (with_reducible repeat (first | apply Kd.R_alloc | apply Kd.R_drewN | apply Kd.R_drew)); exact HO151.out))) (below_size (by repeat (first | (with_reducible first | exact HB.out | apply below_alloc | apply pw_below_drewN | apply below_drew1) | exact HB.out)))); have n2_ := Aside0.mk (below_step (by repeat (first | (with_reducible first | exact HB.out | apply below_alloc | apply pw_below_drewN | apply below_drew1) | exact HB.out)) hb); clear HO151; clear HB; have HO151 := n0_; have HO154 := n1_; have HB := n2_; clear n0_ n1_ n2_; (try clear hb); (try clear hb2); (try clear hk); (try clear hi); (try clear ho0); obtain ⟨Ao45, co45, eo45⟩ := Kd.R_slice HO151.out; subst eo45; obtain ⟨Ao46, co46, eo46⟩ := Kd.R_slice HO154.out; subst eo46; have p155 : 0 ≤ ((ji8) : Int) := of_decide_eq_true (by first | (with_reducible assumption) | assumption); have q155 : (ji8) < (t149.length : Int) := of_decide_eq_true (by first | (with_reducible assumption) | assumption); obtain ⟨ad155, e155, hx155_0⟩ := Kd.at_int (Kd.R_reads' HO151.out).2.2 (ji8) p155 q155; cases e155; replace p155 := eq_true p155; replace q155 := eq_true q155; have p156 : 0 ≤ ((ji13) : Int) := of_decide_eq_true (by first | (with_reducible assumption) | assumption); have q156 : (ji13) < (t152.length : Int) := of_decide_eq_true (by first | (with_reducible assumption) | assumption); obtain ⟨ad156, e156, hx156_0⟩ := Kd.at_int (Kd.R_reads' HO154.out).2.2 (ji13) p156 q156; cases e156; replace p156 := eq_true p156; replace q156 := eq_true q156) | (go_at_call 19; (with_reducible refine (dns_equal.calls kj2 (a0.extract ((rd t149 (ji8)) : Int).toNat a0.size) (a1.extract ((rd t152 (ji13)) : Int).toNat a1.size) false _ A18.out).mono ?_); rintro e w' ⟨rfl, ⟨nd, rfl⟩⟩; (try first | exact ⟨rfl, _, World.drewN_drewN _ _ _⟩ | exact ⟨rfl, _, Eq.trans (World.drewN_drewN _ _ _) (congrArg (World.drewN _) (Nat.add_assoc _ _ _))⟩))); try go_wp2_with (first | (go_at_call 18; (with_reducible refine (dns_Split.calls kj2 a0 t149 _ A6.out).mono ?_); rintro e w43 ⟨v150, rfl, ho0, hb⟩; have n0_ := Aside0.mk (Kd.R_lower ho0 (below_size (by repeat (first | (with_reducible first | exact HB.out | apply below_alloc | apply pw_below_drewN | apply below_drew1) | exact HB.out)))); have n1_ := Aside0.mk (below_step (by repeat (first | (with_reducible first | exact HB.out | apply below_alloc | apply pw_below_drewN | apply below_drew1) | exact HB.out)) hb); clear HB; have HO151 := n0_; have HB := n1_; clear n0_ n1_; (try clear hb); (try clear hb2); (try clear hk); (try clear hi); (try clear ho0)) | (go_at_call 18; (with_reducible refine (dns_Split.calls kj2 a1 t152 _ A7.out).mono ?_); rintro e w44 ⟨v153, rfl, ho0, hb⟩; have n0_ := Aside0.mk (Kd.R_elder' (by (with_reducible repeat (first | apply Kd.R_alloc | apply Kd.R_drewN | apply Kd.R_drew)); exact HO151.out) (Kd.R_base ho0) hb); have n1_ := Aside0.mk (Kd.R_lower (Kd.R_new' ho0 (Kd.R_lt (by (with_reducible repeat (first | apply Kd.R_alloc | apply Kd.R_drewN | apply Kd.R_drew)); exact HO151.out))) (below_size (by repeat (first | (with_reducible first | exact HB.out | apply below_alloc | apply pw_below_drewN | apply below_drew1) | exact HB.out)))); have n2_ := Aside0.mk (below_step (by repeat (first | (with_reducible first | exact HB.out | apply below_alloc | apply pw_below_drewN | apply below_drew1) | exact HB.out)) hb); clear HO151; clear HB; have HO151 := n0_; have HO154 := n1_; have HB := n2_; clear n0_ n1_ n2_; (try clear hb); (try clear hb2); (try clear hk); (try clear hi); (try clear ho0); obtain ⟨Ao45, co45, eo45⟩ := Kd.R_slice HO151.out; subst eo45; obtain ⟨Ao46, co46, eo46⟩ := Kd.R_slice HO154.out; subst eo46; have p155 : 0 ≤ ((ji8) : Int) := of_decide_eq_true (by first | (with_reducible assumption) | assumption); have q155 : (ji8) < (t149.length : Int) := of_decide_eq_true (by first | (with_reducible assumption) | assumption); obtain ⟨ad155, e155, hx155_0⟩ := Kd.at_int (Kd.R_reads' HO151.out).2.2 (ji8) p155 q155; cases e155; replace p155 := eq_true p155; replace q155 := eq_true q155; have p156 : 0 ≤ ((ji13) : Int) := of_decide_eq_true (by first | (with_reducible assumption) | assumption); have q156 : (ji13) < (t152.length : Int) := of_decide_eq_true (by first | (with_reducible assumption) | assumption); obtain ⟨ad156, e156, hx156_0⟩ := Kd.at_int (Kd.R_reads' HO154.out).2.2 (ji13) p156 q156; cases e156; replace p156 := eq_true p156; replace q156 := eq_true q156) | (go_at_call 19; (with_reducible refine (dns_equal.calls kj2 (a0.extract ((rd t149 (ji8)) : Int).toNat a0.size) (a1.extract ((rd t152 (ji13)) : Int).toNat a1.size) false _ A18.out).mono ?_); rintro e w' ⟨rfl, ⟨nd, rfl⟩⟩; (try first | exact ⟨rfl, _, World.drewN_drewN _ _ _⟩ | exact ⟨rfl, _, Eq.trans (World.drewN_drewN _ _ _) (congrArg (World.drewN _) (Nat.add_assoc _ _ _))⟩))))
                          go_ret
                          exact ⟨by first | rfl | (simp [errW_none, errW_some] <;> rfl) | (simp only [← hji8, ← hji13]; first | rfl | (simp [errW_none, errW_some] <;> rfl)) | (simp [*, errW_none, errW_some] <;> rfl), by repeat (first | (with_reducible first | exact HB.out | apply below_alloc | apply pw_below_drewN | apply below_drew1) | exact HB.out)⟩
                      · rw [if_neg c17] at H
                        exact absurd H (by simp)
                    · rw [if_neg c16] at H
                      exact absurd H (by simp)
                  · rw [if_neg c15] at H
                    exact absurd H (by simp)
                · rw [if_neg c14] at H
                  exact absurd H (by simp)
              · rw [if_neg c12] at H
                exact absurd H (by simp)
            · rw [if_neg c11] at H
              exact absurd H (by simp)
          · rw [if_neg c10] at H
            exact absurd H (by simp)
        · rw [if_neg c9] at H
          exact absurd H (by simp)

/-! ### impl_Common: function 8 -/
def impl_Common.f (k : Nat) (a0 : ByteArray) (a1 : ByteArray) : Option (Int) := (dns_CompareDomainName.f k a0 a1).bind fun t163 => (some t163)
theorem impl_Common.mono : ∀ a0 a1 k, LeO (impl_Common.f k a0 a1) (impl_Common.f (k + 1) a0 a1) := by
  intro a0 a1 k
  unfold impl_Common.f
  repeat' first
      | (with_reducible exact dns_CompareDomainName.mono _ _ _)
      | (with_reducible exact LeO.refl _)
      | (with_reducible exact LeO.none _)
      | (with_reducible refine LeO.ite ?_ ?_)
      | (with_reducible refine LeO.bind ?_ (fun _ => ?_))
      | exact dns_CompareDomainName.mono _ _ _
      | exact LeO.none _
      | refine LeO.ite ?_ ?_
      | refine LeO.bind ?_ (fun _ => ?_)
set_option maxHeartbeats 8000000 in
set_option maxRecDepth 100000 in
theorem impl_Common.calls (k : Nat) (a0 : ByteArray) (a1 : ByteArray) (r : Int) (w : World) (h : impl_Common.f k a0 a1 = some r) :
    Calls Try.prog 8 #[.string a0, .string a1] w fun e w' => e = .returned (.int .i64 r) ∧ Below w.heap.size w w' := by
  have HB := Aside0.mk (Below.refl w.heap.size w)
  have H : ((dns_CompareDomainName.f k a0 a1).bind fun t163 => (some t163)) = some r := h
  clear h
  replace H := Option.bind_eq_some_iff.mp H
  obtain ⟨t163, A30, H⟩ := H
  replace H : (some t163) = some r := H
  have A3 := Aside0.mk A30
  clear A30
  obtain rfl := Option.some.inj H
  go_enter Try.func8, Try.ntmps8
  go_wp2_with (first | ((with_reducible refine gate_callee (f := 13) rfl ?_); refine goesL_ (some 7) rfl rfl Try.func13 (by kernel_rfl) rfl #[.string a0, .string a1] rfl (by (try simp only [List.map_toArray, List.map_cons, List.map_nil]); first | done | rfl | (simp only [List.length_drop, List.length_take]; rfl)) ?_; (with_reducible refine (dns_CompareDomainName.calls k a0 a1 t163 _ A3.out).mono ?_); rintro e w4 ⟨rfl, hb⟩; refine ⟨_, rfl, ?_⟩; have n0_ := Aside0.mk (below_step (by repeat (first | (with_reducible first | exact HB.out | apply below_alloc | apply pw_below_drewN | apply below_drew1) | exact HB.out)) hb); clear HB; have HB := n0_; clear n0_; (try clear hb); (try clear hb2); (try clear hk); (try clear hi)))
  go_ret
  exact ⟨by first | rfl | (simp [errW_none, errW_some] <;> rfl) | (simp [*, errW_none, errW_some] <;> rfl), by repeat (first | (with_reducible first | exact HB.out | apply below_alloc | apply pw_below_drewN | apply below_drew1) | exact HB.out)⟩

/-! ### dns_CountLabel: function 20 -/
def dns_CountLabel.l0 : Nat → ByteArray → Int → Int → Option (Int)
  | 0, _, _, _ => none
  | k + 1, x0, x2, x3 => (dns_NextLabel.f k x0 x3).bind fun bt164 => (if bt164.2 = true then (some (wrap64 (x2 + 1))) else (dns_CountLabel.l0 k x0 (wrap64 (x2 + 1)) bt164.1))
def dns_CountLabel.f (k : Nat) (a0 : ByteArray) : Option (Int) := if a0.toList = ([46] : List UInt8) then (some 0) else (dns_CountLabel.l0 k a0 0 0)
theorem dns_CountLabel.mono_l : ∀ k, (∀ y0 y1 y2, LeO (dns_CountLabel.l0 k y0 y1 y2) (dns_CountLabel.l0 (k + 1) y0 y1 y2))
  | 0 => fun _ _ _ r h => by simp [dns_CountLabel.l0] at h
  | k + 1 => by
    have ih0 := dns_CountLabel.mono_l k
    · intro y0 y1 y2
      unfold dns_CountLabel.l0
      repeat' first
      | (with_reducible exact ih0 _ _ _)
      | (with_reducible exact dns_NextLabel.mono _ _ _)
      | (with_reducible exact LeO.refl _)
      | (with_reducible exact LeO.none _)
      | (with_reducible refine LeO.ite ?_ ?_)
      | (with_reducible refine LeO.bind ?_ (fun _ => ?_))
      | exact ih0 _ _ _
      | exact dns_NextLabel.mono _ _ _
      | exact LeO.none _
      | refine LeO.ite ?_ ?_
      | refine LeO.bind ?_ (fun _ => ?_)
theorem dns_CountLabel.mono : ∀ a0 k, LeO (dns_CountLabel.f k a0) (dns_CountLabel.f (k + 1) a0) := by
  intro a0 k
  have ih0 := dns_CountLabel.mono_l k
  unfold dns_CountLabel.f
  repeat' first
      | (with_reducible exact ih0 _ _ _)
      | (with_reducible exact dns_NextLabel.mono _ _ _)
      | (with_reducible exact LeO.refl _)
      | (with_reducible exact LeO.none _)
      | (with_reducible refine LeO.ite ?_ ?_)
      | (with_reducible refine LeO.bind ?_ (fun _ => ?_))
      | exact ih0 _ _ _
      | exact dns_NextLabel.mono _ _ _
      | exact LeO.none _
      | refine LeO.ite ?_ ?_
      | refine LeO.bind ?_ (fun _ => ?_)
set_option maxHeartbeats 8000000 in
set_option maxRecDepth 100000 in
theorem dns_CountLabel.calls (k : Nat) (a0 : ByteArray) (r : Int) (w : World) (h : dns_CountLabel.f k a0 = some r) :
    Calls Try.prog 20 #[.string a0] w fun e w' => e = .returned (.int .i64 r) ∧ Drawn0 w w' := by
  have H : (if a0.toList = ([46] : List UInt8) then (some 0) else (dns_CountLabel.l0 k a0 0 0)) = some r := h
  clear h
  by_cases c2 : a0.toList = ([46] : List UInt8)
  · rw [if_pos c2] at H
    have c2b0 : (a0.toList == ([46] : List UInt8)) = true := beq_iff_eq.mpr c2
    have c2b1 : (a0.toList != ([46] : List UInt8)) = false := bne_eq_false_iff_eq.mpr c2
    clear c2
    obtain rfl := Option.some.inj H
    go_enter Try.func20, Try.ntmps20
    go_wp2
    go_ret
    exact ⟨by first | rfl | (simp; done) | (simp [*]; done) | (simp [wrap64]; done), by repeat (first | exact Drawn0.refl _ | apply Drawn0.step)⟩
  · rw [if_neg c2] at H
    have c2b0 : (a0.toList == ([46] : List UInt8)) = false := beq_eq_false_iff_ne.mpr c2
    have c2b1 : (a0.toList != ([46] : List UInt8)) = true := bne_iff_ne.mpr c2
    have H' := Aside0.mk H
    clear H
    go_enter Try.func20, Try.ntmps20
    go_wp2
    go_loopg [2, 3] k (fun kq v2 v3 w' => ∃ (x2_1 : Int) (x3_1 : Int), v2 = .int .i64 x2_1 ∧ v3 = .int .i64 x3_1 ∧ Aside0 (dns_CountLabel.l0 kq a0 x2_1 x3_1 = some r) ∧ Aside0 (kq ≤ k) ∧ Drawn0 w w')
    case atStart => exact ⟨(0), (0), (by first | rfl | (simp; done) | (simp [*]; done) | (simp [wrap64]; done)), (by first | rfl | (simp; done) | (simp [*]; done) | (simp [wrap64]; done)), H', ⟨Nat.le_refl _⟩, by repeat (first | exact Drawn0.refl _ | apply Drawn0.step)⟩
    case round =>
      clear H'
      try clear c2
      try clear c2b0
      try clear c2b1
      try clear p2
      obtain ⟨x2_1, x3_1, rfl, rfl, HA, HK1, ⟨m1, rfl⟩⟩ := hrel
      cases gk with
      | zero => exact absurd HA.out (by simp [dns_CountLabel.l0])
      | succ k1 =>
        have H := HA.out
        clear HA
        simp only [dns_CountLabel.l0] at H
        replace H := Option.bind_eq_some_iff.mp H
        obtain ⟨⟨t164, t165⟩, A30, H⟩ := H
        replace H : (if t165 = true then (some (wrap64 (x2_1 + 1))) else (dns_CountLabel.l0 k1 a0 (wrap64 (x2_1 + 1)) t164)) = some r := H
        have A3 := Aside0.mk A30
        clear A30
        by_cases c4 : t165 = true
        · subst c4
          have H1 : (some (wrap64 (x2_1 + 1))) = some r := by rw [if_pos rfl] at H; exact H
          clear H
          have H := H1
          clear H1
          obtain rfl := Option.some.inj H
          go_wp2_with (first | ((with_reducible refine gate_callee (f := 23) rfl ?_); refine goesL_ (some 10) rfl rfl Try.func23 (by kernel_rfl) rfl #[.string a0, .int .i64 x3_1] rfl (by (try simp only [List.map_toArray, List.map_cons, List.map_nil]); first | done | rfl | (simp only [List.length_drop, List.length_take]; rfl)) ?_; (with_reducible refine (dns_NextLabel.calls k1 a0 x3_1 t164 true _ A3.out).mono ?_); rintro e w' ⟨rfl, ⟨nd, rfl⟩⟩; refine ⟨_, rfl, ?_⟩))
          go_ret
          exact ⟨by first | rfl | (simp; done) | (simp [*]; done) | (simp [wrap64]; done), by repeat (first | exact Drawn0.refl _ | apply Drawn0.step)⟩
        · replace c4 := Bool.eq_false_iff.mpr c4
          subst c4
          have H1 : (dns_CountLabel.l0 k1 a0 (wrap64 (x2_1 + 1)) t164) = some r := by rw [if_neg (show ¬ (false = true) by decide)] at H; exact H
          clear H
          have H := H1
          clear H1
          have H' := Aside0.mk H
          clear H
          go_wp2_with (first | ((with_reducible refine gate_callee (f := 23) rfl ?_); refine goesL_ (some 10) rfl rfl Try.func23 (by kernel_rfl) rfl #[.string a0, .int .i64 x3_1] rfl (by (try simp only [List.map_toArray, List.map_cons, List.map_nil]); first | done | rfl | (simp only [List.length_drop, List.length_take]; rfl)) ?_; (with_reducible refine (dns_NextLabel.calls k1 a0 x3_1 t164 false _ A3.out).mono ?_); rintro e w' ⟨rfl, ⟨nd, rfl⟩⟩; refine ⟨_, rfl, ?_⟩))
          go_roundg k1
          case measure => have := HK1.out; omega
          case rel => exact ⟨(wrap64 (x2_1 + 1)), (t164), (by first | rfl | (simp; done) | (simp [*]; done) | (simp [wrap64]; done)), (by first | rfl | (simp; done) | (simp [*]; done) | (simp [wrap64]; done)), H', ⟨by have := HK1.out; omega⟩, by repeat (first | exact Drawn0.refl _ | apply Drawn0.step)⟩

/-! ### dns_IsSubDomain: function 14 -/
def dns_IsSubDomain.f (k : Nat) (a0 : ByteArray) (a1 : ByteArray) : Option (Bool) := (dns_CompareDomainName.f k a0 a1).bind fun t166 => ((dns_CountLabel.f k a0).bind fun t167 => (some (t166 == t167)))
theorem dns_IsSubDomain.mono : ∀ a0 a1 k, LeO (dns_IsSubDomain.f k a0 a1) (dns_IsSubDomain.f (k + 1) a0 a1) := by
  intro a0 a1 k
  unfold dns_IsSubDomain.f
  repeat' first
      | (with_reducible exact dns_CompareDomainName.mono _ _ _)
      | (with_reducible exact dns_CountLabel.mono _ _)
      | (with_reducible exact LeO.refl _)
      | (with_reducible exact LeO.none _)
      | (with_reducible refine LeO.ite ?_ ?_)
      | (with_reducible refine LeO.bind ?_ (fun _ => ?_))
      | exact dns_CompareDomainName.mono _ _ _
      | exact dns_CountLabel.mono _ _
      | exact LeO.none _
      | refine LeO.ite ?_ ?_
      | refine LeO.bind ?_ (fun _ => ?_)
set_option maxHeartbeats 8000000 in
set_option maxRecDepth 100000 in
theorem dns_IsSubDomain.calls (k : Nat) (a0 : ByteArray) (a1 : ByteArray) (r : Bool) (w : World) (h : dns_IsSubDomain.f k a0 a1 = some r) :
    Calls Try.prog 14 #[.string a0, .string a1] w fun e w' => e = .returned (.bool r) ∧ Below w.heap.size w w' := by
  have HB := Aside0.mk (Below.refl w.heap.size w)
  have H : ((dns_CompareDomainName.f k a0 a1).bind fun t166 => ((dns_CountLabel.f k a0).bind fun t167 => (some (t166 == t167)))) = some r := h
  clear h
  replace H := Option.bind_eq_some_iff.mp H
  obtain ⟨t166, A30, H⟩ := H
  replace H : ((dns_CountLabel.f k a0).bind fun t167 => (some (t166 == t167))) = some r := H
  have A3 := Aside0.mk A30
  clear A30
  replace H := Option.bind_eq_some_iff.mp H
  obtain ⟨t167, A40, H⟩ := H
  replace H : (some (t166 == t167)) = some r := H
  have A4 := Aside0.mk A40
  clear A40
  obtain rfl := Option.some.inj H
  go_enter Try.func14, Try.ntmps14
  go_wp2_with (first | ((with_reducible refine gate_callee (f := 13) rfl ?_); refine goesL_ (some 7) rfl rfl Try.func13 (by kernel_rfl) rfl #[.string a0, .string a1] rfl (by (try simp only [List.map_toArray, List.map_cons, List.map_nil]); first | done | rfl | (simp only [List.length_drop, List.length_take]; rfl)) ?_; (with_reducible refine (dns_CompareDomainName.calls k a0 a1 t166 _ A3.out).mono ?_); rintro e w5 ⟨rfl, hb⟩; refine ⟨_, rfl, ?_⟩; have n0_ := Aside0.mk (below_step (by repeat (first | (with_reducible first | exact HB.out | apply below_alloc | apply pw_below_drewN | apply below_drew1) | exact HB.out)) hb); clear HB; have HB := n0_; clear n0_; (try clear hb); (try clear hb2); (try clear hk); (try clear hi)) | ((with_reducible refine gate_callee (f := 20) rfl ?_); refine goesL_ (some 9) rfl rfl Try.func20 (by kernel_rfl) rfl #[.string a0] rfl (by (try simp only [List.map_toArray, List.map_cons, List.map_nil]); first | done | rfl | (simp only [List.length_drop, List.length_take]; rfl)) ?_; (with_reducible refine (dns_CountLabel.calls k a0 t167 _ A4.out).mono ?_); rintro e w' ⟨rfl, ⟨nd, rfl⟩⟩; refine ⟨_, rfl, ?_⟩))
  go_ret
  exact ⟨by first | rfl | (simp [errW_none, errW_some] <;> rfl) | (simp [*, errW_none, errW_some] <;> rfl), by repeat (first | (with_reducible first | exact HB.out | apply below_alloc | apply pw_below_drewN | apply below_drew1) | exact HB.out)⟩

/-! ### impl_IsSub: function 9 -/
def impl_IsSub.f (k : Nat) (a0 : ByteArray) (a1 : ByteArray) : Option (Bool) := (dns_IsSubDomain.f k a0 a1).bind fun t168 => (some t168)
theorem impl_IsSub.mono : ∀ a0 a1 k, LeO (impl_IsSub.f k a0 a1) (impl_IsSub.f (k + 1) a0 a1) := by
  intro a0 a1 k
  unfold impl_IsSub.f
  repeat' first
      | (with_reducible exact dns_IsSubDomain.mono _ _ _)
      | (with_reducible exact LeO.refl _)
      | (with_reducible exact LeO.none _)
      | (with_reducible refine LeO.ite ?_ ?_)
      | (with_reducible refine LeO.bind ?_ (fun _ => ?_))
      | exact dns_IsSubDomain.mono _ _ _
      | exact LeO.none _
      | refine LeO.ite ?_ ?_
      | refine LeO.bind ?_ (fun _ => ?_)
set_option maxHeartbeats 8000000 in
set_option maxRecDepth 100000 in
theorem impl_IsSub.calls (k : Nat) (a0 : ByteArray) (a1 : ByteArray) (r : Bool) (w : World) (h : impl_IsSub.f k a0 a1 = some r) :
    Calls Try.prog 9 #[.string a0, .string a1] w fun e w' => e = .returned (.bool r) ∧ Below w.heap.size w w' := by
  have HB := Aside0.mk (Below.refl w.heap.size w)
  have H : ((dns_IsSubDomain.f k a0 a1).bind fun t168 => (some t168)) = some r := h
  clear h
  replace H := Option.bind_eq_some_iff.mp H
  obtain ⟨t168, A30, H⟩ := H
  replace H : (some t168) = some r := H
  have A3 := Aside0.mk A30
  clear A30
  obtain rfl := Option.some.inj H
  go_enter Try.func9, Try.ntmps9
  go_wp2_with (first | ((with_reducible refine gate_callee (f := 14) rfl ?_); refine goesL_ (some 7) rfl rfl Try.func14 (by kernel_rfl) rfl #[.string a0, .string a1] rfl (by (try simp only [List.map_toArray, List.map_cons, List.map_nil]); first | done | rfl | (simp only [List.length_drop, List.length_take]; rfl)) ?_; (with_reducible refine (dns_IsSubDomain.calls k a0 a1 t168 _ A3.out).mono ?_); rintro e w4 ⟨rfl, hb⟩; refine ⟨_, rfl, ?_⟩; have n0_ := Aside0.mk (below_step (by repeat (first | (with_reducible first | exact HB.out | apply below_alloc | apply pw_below_drewN | apply below_drew1) | exact HB.out)) hb); clear HB; have HB := n0_; clear n0_; (try clear hb); (try clear hb2); (try clear hk); (try clear hi)))
  go_ret
  exact ⟨by first | rfl | (simp [errW_none, errW_some] <;> rfl) | (simp [*, errW_none, errW_some] <;> rfl), by repeat (first | (with_reducible first | exact HB.out | apply below_alloc | apply pw_below_drewN | apply below_drew1) | exact HB.out)⟩

end Go.Proofs.Ytiilihafcdmccaa.P
