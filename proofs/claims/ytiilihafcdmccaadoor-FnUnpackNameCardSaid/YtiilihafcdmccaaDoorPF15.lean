-- Written by a program of this session (wip/tools/pprint.py) out of the translation: it goes by the kit's print and by the contracts of YtiilihafcdmccaaDoorHand. Not trusted: Lean checks it.
import Derived.Test.YtiilihafcdmccaaDoorP0
import Derived.Test.YtiilihafcdmccaaDoorPF24
import Derived.Test.YtiilihafcdmccaaDoorPF47
namespace Go.Proofs.YtiilihafcdmccaaDoor.P
open Go.RowKit Go.Proofs.YtiilihafcdmccaaDoorW.PrintWords Go.Proofs.YtiilihafcdmccaaDoorW.PrintLast Go.Proofs.YtiilihafcdmccaaDoorW.PrintMore
attribute [local go_sem] max2_int min2_int max_two min_two max_three min_three max_four min_four   -- for this text's walks alone
set_option linter.unusedVariables false
set_option linter.unusedSimpArgs false

/-! ### spec_ReadName: function 15 -/
mutual
def spec_ReadName.l0 : Nat → List Int → Int → List ByteArray → Int → Int → Int → Option (List ByteArray × Int × Bool)
  | 0, _, _, _, _, _, _ => none
  | k + 1, x0, x1, x4, x5, x7, x8 => if x1 < 0 then (spec_ReadName.j1 k x0 x1 x4 x5 x7 x8 true) else (spec_ReadName.j1 k x0 x1 x4 x5 x7 x8 (decide (x1 ≥ (x0.length : Int))))
def spec_ReadName.j1 : Nat → List Int → Int → List ByteArray → Int → Int → Int → Bool → Option (List ByteArray × Int × Bool)
  | 0, _, _, _, _, _, _, _ => none
  | k + 1, x0, x1, x4, x5, x7, x8, x19 => if x19 = true then (some (([] : List ByteArray), 0, false)) else (if 0 ≤ x1 then (if x1 < (x0.length : Int) then (if ((wrap64 (rd x0 x1)) / 64) = 0 then (if (wrap64 (rd x0 x1)) = 0 then (if x5 < 0 then ((spec_Name_Valid.f k x4).bind fun t223 => (some (x4, wrap64 (x1 + 1), t223))) else ((spec_Name_Valid.f k x4).bind fun t224 => (some (x4, x5, t224)))) else (if (wrap64 ((wrap64 (x1 + 1)) + (wrap64 (rd x0 x1)))) > (x0.length : Int) then (some (([] : List ByteArray), 0, false)) else (if 0 ≤ (wrap64 (x1 + 1)) then (if (wrap64 (x1 + 1)) ≤ (wrap64 ((wrap64 (x1 + 1)) + (wrap64 (rd x0 x1)))) then (if (wrap64 ((wrap64 (x1 + 1)) + (wrap64 (rd x0 x1)))) ≤ (x0.length : Int) then (if x4.length < 8796093022208 then ((some (x4 ++ [strOfNums ((x0.take ((wrap64 ((wrap64 (x1 + 1)) + (wrap64 (rd x0 x1)))) : Int).toNat).drop ((wrap64 (x1 + 1)) : Int).toNat)] : List ByteArray)).bind fun y226 => ((spec_Name_Size.f k y226).bind fun t229 => (if t229 > 255 then (some (([] : List ByteArray), 0, false)) else (spec_ReadName.l0 k x0 (wrap64 (x1 + (wrap64 (1 + (wrap64 (rd x0 x1)))))) y226 x5 x7 x8)))) else (none)) else (none)) else (none)) else (none)))) else (if ((wrap64 (rd x0 x1)) / 64) = 3 then (if (wrap64 (x1 + 1)) ≥ (x0.length : Int) then (some (([] : List ByteArray), 0, false)) else (if x5 < 0 then (if 0 ≤ (wrap64 (x1 + 1)) then (if (wrap64 (x1 + 1)) < (x0.length : Int) then (if (Go.bits .or .i64 (wrap64 ((Go.bits .and .i64 (wrap64 (rd x0 x1)) 63) * 256)) (wrap64 (rd x0 (wrap64 (x1 + 1))))) ≥ x7 then (some (([] : List ByteArray), 0, false)) else (if (wrap64 (x8 + 1)) > 126 then (some (([] : List ByteArray), 0, false)) else (spec_ReadName.l0 k x0 (Go.bits .or .i64 (wrap64 ((Go.bits .and .i64 (wrap64 (rd x0 x1)) 63) * 256)) (wrap64 (rd x0 (wrap64 (x1 + 1))))) x4 (wrap64 (x1 + 2)) (Go.bits .or .i64 (wrap64 ((Go.bits .and .i64 (wrap64 (rd x0 x1)) 63) * 256)) (wrap64 (rd x0 (wrap64 (x1 + 1))))) (wrap64 (x8 + 1))))) else (none)) else (none)) else (if 0 ≤ (wrap64 (x1 + 1)) then (if (wrap64 (x1 + 1)) < (x0.length : Int) then (if (Go.bits .or .i64 (wrap64 ((Go.bits .and .i64 (wrap64 (rd x0 x1)) 63) * 256)) (wrap64 (rd x0 (wrap64 (x1 + 1))))) ≥ x7 then (some (([] : List ByteArray), 0, false)) else (if (wrap64 (x8 + 1)) > 126 then (some (([] : List ByteArray), 0, false)) else (spec_ReadName.l0 k x0 (Go.bits .or .i64 (wrap64 ((Go.bits .and .i64 (wrap64 (rd x0 x1)) 63) * 256)) (wrap64 (rd x0 (wrap64 (x1 + 1))))) x4 x5 (Go.bits .or .i64 (wrap64 ((Go.bits .and .i64 (wrap64 (rd x0 x1)) 63) * 256)) (wrap64 (rd x0 (wrap64 (x1 + 1))))) (wrap64 (x8 + 1))))) else (none)) else (none)))) else (some (([] : List ByteArray), 0, false)))) else (none)) else (none))
end
def spec_ReadName.f (k : Nat) (l0 : List Int) (a1 : Int) : Option (List ByteArray × Int × Bool) := spec_ReadName.l0 k l0 a1 ([] : List ByteArray) (-1) a1 0
theorem spec_ReadName.mono_l : ∀ k, (∀ y0 y1 y2 y3 y4 y5, LeO (spec_ReadName.l0 k y0 y1 y2 y3 y4 y5) (spec_ReadName.l0 (k + 1) y0 y1 y2 y3 y4 y5)) ∧ (∀ y0 y1 y2 y3 y4 y5 y6, LeO (spec_ReadName.j1 k y0 y1 y2 y3 y4 y5 y6) (spec_ReadName.j1 (k + 1) y0 y1 y2 y3 y4 y5 y6))
  | 0 => ⟨fun _ _ _ _ _ _ r h => by simp [spec_ReadName.l0] at h, fun _ _ _ _ _ _ _ r h => by simp [spec_ReadName.j1] at h⟩
  | k + 1 => by
    obtain ⟨ih0, ih1⟩ := spec_ReadName.mono_l k
    refine ⟨?_, ?_⟩
    · intro y0 y1 y2 y3 y4 y5
      unfold spec_ReadName.l0
      repeat' first
      | (with_reducible exact ih0 _ _ _ _ _ _)
      | (with_reducible exact ih1 _ _ _ _ _ _ _)
      | (with_reducible exact spec_Name_Size.mono _ _)
      | (with_reducible exact spec_Name_Valid.mono _ _)
      | (with_reducible exact LeO.refl _)
      | (with_reducible exact LeO.none _)
      | (with_reducible refine LeO.ite ?_ ?_)
      | (with_reducible refine LeO.bind ?_ (fun _ => ?_))
      | exact ih0 _ _ _ _ _ _
      | exact ih1 _ _ _ _ _ _ _
      | exact spec_Name_Size.mono _ _
      | exact spec_Name_Valid.mono _ _
      | exact LeO.none _
      | refine LeO.ite ?_ ?_
      | refine LeO.bind ?_ (fun _ => ?_)
    · intro y0 y1 y2 y3 y4 y5 y6
      unfold spec_ReadName.j1
      repeat' first
      | (with_reducible exact ih0 _ _ _ _ _ _)
      | (with_reducible exact ih1 _ _ _ _ _ _ _)
      | (with_reducible exact spec_Name_Size.mono _ _)
      | (with_reducible exact spec_Name_Valid.mono _ _)
      | (with_reducible exact LeO.refl _)
      | (with_reducible exact LeO.none _)
      | (with_reducible refine LeO.ite ?_ ?_)
      | (with_reducible refine LeO.bind ?_ (fun _ => ?_))
      | exact ih0 _ _ _ _ _ _
      | exact ih1 _ _ _ _ _ _ _
      | exact spec_Name_Size.mono _ _
      | exact spec_Name_Valid.mono _ _
      | exact LeO.none _
      | refine LeO.ite ?_ ?_
      | refine LeO.bind ?_ (fun _ => ?_)
theorem spec_ReadName.mono : ∀ a0 a1 k, LeO (spec_ReadName.f k a0 a1) (spec_ReadName.f (k + 1) a0 a1) := by
  intro a0 a1 k
  obtain ⟨ih0, ih1⟩ := spec_ReadName.mono_l k
  unfold spec_ReadName.f
  repeat' first
      | (with_reducible exact ih0 _ _ _ _ _ _)
      | (with_reducible exact ih1 _ _ _ _ _ _ _)
      | (with_reducible exact spec_Name_Size.mono _ _)
      | (with_reducible exact spec_Name_Valid.mono _ _)
      | (with_reducible exact LeO.refl _)
      | (with_reducible exact LeO.none _)
      | (with_reducible refine LeO.ite ?_ ?_)
      | (with_reducible refine LeO.bind ?_ (fun _ => ?_))
      | exact ih0 _ _ _ _ _ _
      | exact ih1 _ _ _ _ _ _ _
      | exact spec_Name_Size.mono _ _
      | exact spec_Name_Valid.mono _ _
      | exact LeO.none _
      | refine LeO.ite ?_ ?_
      | refine LeO.bind ?_ (fun _ => ?_)
set_option maxHeartbeats 8000000 in
set_option maxRecDepth 100000 in
theorem spec_ReadName.calls (k : Nat) (A0 : Option Addr) (c0 : Nat) (l0 : List Int) (a1 : Int) (r1 : List ByteArray) (r2 : Int) (r3 : Bool) (w : World) (hr0 : Kd.C (Kd.int .u8) w A0 l0.length l0) (hc0 : l0.length ≤ c0) (h : spec_ReadName.f k l0 a1 = some (r1, r2, r3)) :
    Calls Tryd.prog 15 #[.slice A0 l0.length c0, .int .i64 a1] w fun e w' => ∃ v0_ : Value, e = .returned (.tuple #[v0_, .int .i64 r2, .bool r3]) ∧ Kd.R Kd.string 9 w' w.heap.size (fun _ => True) v0_ r1 ∧ Below w.heap.size w w' := by
  have HR0 := Aside0.mk hr0
  have HC0 := Aside0.mk hc0
  clear hr0 hc0
  have HB := Aside0.mk (Below.refl w.heap.size w)
  have H : (spec_ReadName.l0 k l0 a1 ([] : List ByteArray) (-1) a1 0) = some (r1, r2, r3) := h
  clear h
  have H' := Aside0.mk H
  clear H
  go_enter Tryd.func15, Tryd.ntmps15
  go_wp2
  go_loopg [1, 4, 5, 7, 8] k (fun kq v1 v4 v5 v7 v8 w' => ∃ (x1_1 : Int) (x4_1 : List ByteArray) (x5_1 : Int) (x7_1 : Int) (x8_1 : Int), v1 = .int .i64 x1_1 ∧ v5 = .int .i64 x5_1 ∧ v7 = .int .i64 x7_1 ∧ v8 = .int .i64 x8_1 ∧ Aside0 (spec_ReadName.l0 kq l0 x1_1 x4_1 x5_1 x7_1 x8_1 = some (r1, r2, r3)) ∧ Aside0 (kq ≤ k) ∧ Aside0 (Kd.R Kd.string 9 w' w.heap.size (fun _ => True) v4 x4_1) ∧ Aside0 (Below w.heap.size w w'))
  case atStart => exact ⟨(a1), (([] : List ByteArray)), ((-1)), (a1), (0), (by first | rfl | (simp; done) | (simp [*]; done) | (simp [wrap64]; done)), (by first | rfl | (simp; done) | (simp [*]; done) | (simp [wrap64]; done)), (by first | rfl | (simp; done) | (simp [*]; done) | (simp [wrap64]; done)), (by first | rfl | (simp; done) | (simp [*]; done) | (simp [wrap64]; done)), H', ⟨Nat.le_refl _⟩, ⟨by first | exact Kd.R_nil _ _ _ _ _ | exact Kd.N_nil _ _ _ _ _ | exact Kd.V_nil _ _ _ _ _ | exact Kd.Q_nil _ _ _ _ _ | exact Kd.S_nil _ _ _ _ _⟩, ⟨by repeat (first | (with_reducible first | exact HB.out | apply below_alloc | apply pw_below_drewN | apply below_drew1) | exact HB.out)⟩⟩
  case round =>
    clear H'
    try clear c1
    try clear p2
    obtain ⟨x1_1, x4_1, x5_1, x7_1, x8_1, rfl, rfl, rfl, rfl, HA, HK1, HO_4, HB⟩ := hrel
    cases gk with
    | zero => exact absurd HA.out (by simp [spec_ReadName.l0])
    | succ k1 =>
      have H := HA.out
      clear HA
      simp only [spec_ReadName.l0] at H
      have HC3 := Aside0.mk H
      clear H
      go_upto_region 3 with (fail)
      go_cut [19] (fun v19 wc => ∃ (kq : Nat) (x19_2 : Bool), v19 = .bool x19_2 ∧ Aside0 (spec_ReadName.j1 kq l0 x1_1 x4_1 x5_1 x7_1 x8_1 x19_2 = some (r1, r2, r3)) ∧ Aside0 (kq ≤ k1) ∧ Aside0 (Kd.R Kd.string 9 wc w.heap.size (fun _ => True) u4 x4_1) ∧ Aside0 (Below w.heap.size w wc))
      case first =>
        have H := HC3.out
        clear HC3
        by_cases c4 : x1_1 < 0
        · rw [if_pos c4] at H
          have c4b0 : decide (x1_1 < 0) = true := decide_eq_true c4
          clear c4
          (first | rw [c4b0] | (simp only [i64_w, i32_w]; rw [c4b0]) | skip)
          have H' := Aside0.mk H
          clear H
          go_wp2
          go_meet
          case rel => exact ⟨_, (true), (by first | rfl | (simp; done) | (simp [*]; done) | (simp [wrap64]; done)), H', ⟨by have := HK1.out; first | omega | exact Nat.le_refl _⟩, ⟨by (with_reducible repeat (first | apply Kd.R_alloc | apply Kd.R_drewN | apply Kd.R_drew)); exact HO_4.out⟩, ⟨by repeat (first | (with_reducible first | exact HB.out | apply below_alloc | apply pw_below_drewN | apply below_drew1) | exact HB.out)⟩⟩
        · rw [if_neg c4] at H
          have c4b0 : decide (x1_1 < 0) = false := decide_eq_false c4
          clear c4
          (first | rw [c4b0] | (simp only [i64_w, i32_w]; rw [c4b0]) | skip)
          have H' := Aside0.mk H
          clear H
          go_wp2
          go_meet
          case rel => exact ⟨_, (decide (x1_1 ≥ (l0.length : Int))), (by first | rfl | (simp; done) | (simp [*]; done) | (simp [wrap64]; done)), H', ⟨by have := HK1.out; first | omega | exact Nat.le_refl _⟩, ⟨by (with_reducible repeat (first | apply Kd.R_alloc | apply Kd.R_drewN | apply Kd.R_drew)); exact HO_4.out⟩, ⟨by repeat (first | (with_reducible first | exact HB.out | apply below_alloc | apply pw_below_drewN | apply below_drew1) | exact HB.out)⟩⟩
      case rest =>
        clear HC3
        try clear c1
        try clear p2
        try clear c4
        try clear c4b0
        try clear p2
        obtain ⟨kq, x19_2, rfl, HA, HJ2, HO_4, HB⟩ := hcut
        cases kq with
        | zero => exact absurd HA.out (by simp [spec_ReadName.j1])
        | succ kj2 =>
          have H := HA.out
          clear HA
          simp only [spec_ReadName.j1] at H
          by_cases c5 : x19_2 = true
          · subst c5
            have H1 : (some (([] : List ByteArray), 0, false)) = some (r1, r2, r3) := by rw [if_pos rfl] at H; exact H
            clear H
            have H := H1
            clear H1
            simp only [Option.some.injEq, Prod.mk.injEq] at H
            obtain ⟨rfl, rfl, rfl⟩ := H
            go_wp2
            go_ret3
            exact ⟨_, by first | rfl | (simp [errW_none, errW_some] <;> rfl) | (simp [*, errW_none, errW_some] <;> rfl), by first | exact Kd.R_nil _ _ _ _ _ | exact Kd.N_nil _ _ _ _ _ | exact Kd.V_nil _ _ _ _ _ | exact Kd.Q_nil _ _ _ _ _ | exact Kd.S_nil _ _ _ _ _, by repeat (first | (with_reducible first | exact HB.out | apply below_alloc | apply pw_below_drewN | apply below_drew1) | exact HB.out)⟩
          · replace c5 := Bool.eq_false_iff.mpr c5
            subst c5
            have H1 : (if 0 ≤ x1_1 then (if x1_1 < (l0.length : Int) then (if ((wrap64 (rd l0 x1_1)) / 64) = 0 then (if (wrap64 (rd l0 x1_1)) = 0 then (if x5_1 < 0 then ((spec_Name_Valid.f kj2 x4_1).bind fun t223 => (some (x4_1, wrap64 (x1_1 + 1), t223))) else ((spec_Name_Valid.f kj2 x4_1).bind fun t224 => (some (x4_1, x5_1, t224)))) else (if (wrap64 ((wrap64 (x1_1 + 1)) + (wrap64 (rd l0 x1_1)))) > (l0.length : Int) then (some (([] : List ByteArray), 0, false)) else (if 0 ≤ (wrap64 (x1_1 + 1)) then (if (wrap64 (x1_1 + 1)) ≤ (wrap64 ((wrap64 (x1_1 + 1)) + (wrap64 (rd l0 x1_1)))) then (if (wrap64 ((wrap64 (x1_1 + 1)) + (wrap64 (rd l0 x1_1)))) ≤ (l0.length : Int) then (if x4_1.length < 8796093022208 then ((some (x4_1 ++ [strOfNums ((l0.take ((wrap64 ((wrap64 (x1_1 + 1)) + (wrap64 (rd l0 x1_1)))) : Int).toNat).drop ((wrap64 (x1_1 + 1)) : Int).toNat)] : List ByteArray)).bind fun y226 => ((spec_Name_Size.f kj2 y226).bind fun t229 => (if t229 > 255 then (some (([] : List ByteArray), 0, false)) else (spec_ReadName.l0 kj2 l0 (wrap64 (x1_1 + (wrap64 (1 + (wrap64 (rd l0 x1_1)))))) y226 x5_1 x7_1 x8_1)))) else (none)) else (none)) else (none)) else (none)))) else (if ((wrap64 (rd l0 x1_1)) / 64) = 3 then (if (wrap64 (x1_1 + 1)) ≥ (l0.length : Int) then (some (([] : List ByteArray), 0, false)) else (if x5_1 < 0 then (if 0 ≤ (wrap64 (x1_1 + 1)) then (if (wrap64 (x1_1 + 1)) < (l0.length : Int) then (if (Go.bits .or .i64 (wrap64 ((Go.bits .and .i64 (wrap64 (rd l0 x1_1)) 63) * 256)) (wrap64 (rd l0 (wrap64 (x1_1 + 1))))) ≥ x7_1 then (some (([] : List ByteArray), 0, false)) else (if (wrap64 (x8_1 + 1)) > 126 then (some (([] : List ByteArray), 0, false)) else (spec_ReadName.l0 kj2 l0 (Go.bits .or .i64 (wrap64 ((Go.bits .and .i64 (wrap64 (rd l0 x1_1)) 63) * 256)) (wrap64 (rd l0 (wrap64 (x1_1 + 1))))) x4_1 (wrap64 (x1_1 + 2)) (Go.bits .or .i64 (wrap64 ((Go.bits .and .i64 (wrap64 (rd l0 x1_1)) 63) * 256)) (wrap64 (rd l0 (wrap64 (x1_1 + 1))))) (wrap64 (x8_1 + 1))))) else (none)) else (none)) else (if 0 ≤ (wrap64 (x1_1 + 1)) then (if (wrap64 (x1_1 + 1)) < (l0.length : Int) then (if (Go.bits .or .i64 (wrap64 ((Go.bits .and .i64 (wrap64 (rd l0 x1_1)) 63) * 256)) (wrap64 (rd l0 (wrap64 (x1_1 + 1))))) ≥ x7_1 then (some (([] : List ByteArray), 0, false)) else (if (wrap64 (x8_1 + 1)) > 126 then (some (([] : List ByteArray), 0, false)) else (spec_ReadName.l0 kj2 l0 (Go.bits .or .i64 (wrap64 ((Go.bits .and .i64 (wrap64 (rd l0 x1_1)) 63) * 256)) (wrap64 (rd l0 (wrap64 (x1_1 + 1))))) x4_1 x5_1 (Go.bits .or .i64 (wrap64 ((Go.bits .and .i64 (wrap64 (rd l0 x1_1)) 63) * 256)) (wrap64 (rd l0 (wrap64 (x1_1 + 1))))) (wrap64 (x8_1 + 1))))) else (none)) else (none)))) else (some (([] : List ByteArray), 0, false)))) else (none)) else (none)) = some (r1, r2, r3) := by rw [if_neg (show ¬ (false = true) by decide)] at H; exact H
            clear H
            have H := H1
            clear H1
            by_cases c6 : 0 ≤ x1_1
            · rw [if_pos c6] at H
              have c6b0 : decide (0 ≤ x1_1) = true := decide_eq_true c6
              clear c6
              by_cases c7 : x1_1 < (l0.length : Int)
              · rw [if_pos c7] at H
                have c7b0 : decide (x1_1 < (l0.length : Int)) = true := decide_eq_true c7
                clear c7
                by_cases c8 : ((wrap64 (rd l0 x1_1)) / 64) = 0
                · rw [if_pos c8] at H
                  have c8b0 : (((wrap64 (rd l0 x1_1)) / 64) == 0) = true := beq_iff_eq.mpr c8
                  have c8b1 : (((wrap64 (rd l0 x1_1)) / 64) != 0) = false := bne_eq_false_iff_eq.mpr c8
                  clear c8
                  by_cases c9 : (wrap64 (rd l0 x1_1)) = 0
                  · rw [if_pos c9] at H
                    have c9b0 : ((wrap64 (rd l0 x1_1)) == 0) = true := beq_iff_eq.mpr c9
                    have c9b1 : ((wrap64 (rd l0 x1_1)) != 0) = false := bne_eq_false_iff_eq.mpr c9
                    clear c9
                    by_cases c10 : x5_1 < 0
                    · rw [if_pos c10] at H
                      have c10b0 : decide (x5_1 < 0) = true := decide_eq_true c10
                      clear c10
                      replace H := Option.bind_eq_some_iff.mp H
                      obtain ⟨t223, A110, H⟩ := H
                      replace H : (some (x4_1, wrap64 (x1_1 + 1), t223)) = some (r1, r2, r3) := H
                      have A11 := Aside0.mk A110
                      clear A110
                      simp only [Option.some.injEq, Prod.mk.injEq] at H
                      obtain ⟨rfl, rfl, rfl⟩ := H
                      have p222 : 0 ≤ (x1_1 : Int) := of_decide_eq_true (by first | (with_reducible assumption) | assumption)
                      have q222 : x1_1 < (l0.length : Int) := of_decide_eq_true (by first | (with_reducible assumption) | assumption)
                      obtain ⟨ad222, e222, hx222_0⟩ := Kd.at_int HR0.out x1_1 p222 q222
                      cases e222
                      replace hx222_0 := (HB.out.cell (World.block_lt_of_cell? w _ hx222_0)).trans hx222_0
                      replace p222 := eq_true p222
                      replace q222 := eq_true q222
                      obtain ⟨Ao12, co12, eo12⟩ := Kd.R_slice HO_4.out
                      subst eo12
                      go_wp2_with (first | ((with_reducible refine gate_callee (f := 47) rfl ?_); refine goesL_ (some 38) rfl rfl Tryd.func47 (by kernel_rfl) rfl #[.slice Ao12 x4_1.length co12] rfl (by (try simp only [List.map_toArray, List.map_cons, List.map_nil]); first | done | rfl | (simp only [List.length_drop, List.length_take]; rfl)) ?_; (with_reducible refine (spec_Name_Valid.calls kj2 _ _ x4_1 t223 _ ?side1 ?side2 A11.out).mono ?_); (case side1 => repeat (first | exact (Kd.R_reads' HO_4.out).2.2 | (with_reducible refine Kd.C_alloc ?_ _) | (with_reducible refine Kd.C_drewN ?_ _) | (with_reducible refine Kd.C_drew ?_))); (case side2 => exact (Kd.R_reads' HO_4.out).2.1); rintro e w' ⟨rfl, ⟨nd, rfl⟩⟩; refine ⟨_, rfl, ?_⟩))
                      go_ret3
                      exact ⟨_, by first | rfl | (simp [errW_none, errW_some] <;> rfl) | (simp [*, errW_none, errW_some] <;> rfl), by (with_reducible repeat (first | apply Kd.R_alloc | apply Kd.R_drewN | apply Kd.R_drew)); exact HO_4.out, by repeat (first | (with_reducible first | exact HB.out | apply below_alloc | apply pw_below_drewN | apply below_drew1) | exact HB.out)⟩
                    · rw [if_neg c10] at H
                      have c10b0 : decide (x5_1 < 0) = false := decide_eq_false c10
                      clear c10
                      replace H := Option.bind_eq_some_iff.mp H
                      obtain ⟨t224, A130, H⟩ := H
                      replace H : (some (x4_1, x5_1, t224)) = some (r1, r2, r3) := H
                      have A13 := Aside0.mk A130
                      clear A130
                      simp only [Option.some.injEq, Prod.mk.injEq] at H
                      obtain ⟨rfl, rfl, rfl⟩ := H
                      have p222 : 0 ≤ (x1_1 : Int) := of_decide_eq_true (by first | (with_reducible assumption) | assumption)
                      have q222 : x1_1 < (l0.length : Int) := of_decide_eq_true (by first | (with_reducible assumption) | assumption)
                      obtain ⟨ad222, e222, hx222_0⟩ := Kd.at_int HR0.out x1_1 p222 q222
                      cases e222
                      replace hx222_0 := (HB.out.cell (World.block_lt_of_cell? w _ hx222_0)).trans hx222_0
                      replace p222 := eq_true p222
                      replace q222 := eq_true q222
                      obtain ⟨Ao14, co14, eo14⟩ := Kd.R_slice HO_4.out
                      subst eo14
                      go_wp2_with (first | ((with_reducible refine gate_callee (f := 47) rfl ?_); refine goesL_ (some 38) rfl rfl Tryd.func47 (by kernel_rfl) rfl #[.slice Ao14 x4_1.length co14] rfl (by (try simp only [List.map_toArray, List.map_cons, List.map_nil]); first | done | rfl | (simp only [List.length_drop, List.length_take]; rfl)) ?_; (with_reducible refine (spec_Name_Valid.calls kj2 _ _ x4_1 t224 _ ?side1 ?side2 A13.out).mono ?_); (case side1 => repeat (first | exact (Kd.R_reads' HO_4.out).2.2 | (with_reducible refine Kd.C_alloc ?_ _) | (with_reducible refine Kd.C_drewN ?_ _) | (with_reducible refine Kd.C_drew ?_))); (case side2 => exact (Kd.R_reads' HO_4.out).2.1); rintro e w' ⟨rfl, ⟨nd, rfl⟩⟩; refine ⟨_, rfl, ?_⟩))
                      go_ret3
                      exact ⟨_, by first | rfl | (simp [errW_none, errW_some] <;> rfl) | (simp [*, errW_none, errW_some] <;> rfl), by (with_reducible repeat (first | apply Kd.R_alloc | apply Kd.R_drewN | apply Kd.R_drew)); exact HO_4.out, by repeat (first | (with_reducible first | exact HB.out | apply below_alloc | apply pw_below_drewN | apply below_drew1) | exact HB.out)⟩
                  · rw [if_neg c9] at H
                    have c9b0 : ((wrap64 (rd l0 x1_1)) == 0) = false := beq_eq_false_iff_ne.mpr c9
                    have c9b1 : ((wrap64 (rd l0 x1_1)) != 0) = true := bne_iff_ne.mpr c9
                    by_cases c15 : (wrap64 ((wrap64 (x1_1 + 1)) + (wrap64 (rd l0 x1_1)))) > (l0.length : Int)
                    · rw [if_pos c15] at H
                      have c15b0 : decide ((l0.length : Int) < (wrap64 ((wrap64 (x1_1 + 1)) + (wrap64 (rd l0 x1_1))))) = true := decide_eq_true c15
                      clear c15
                      simp only [Option.some.injEq, Prod.mk.injEq] at H
                      obtain ⟨rfl, rfl, rfl⟩ := H
                      have p222 : 0 ≤ (x1_1 : Int) := of_decide_eq_true (by first | (with_reducible assumption) | assumption)
                      have q222 : x1_1 < (l0.length : Int) := of_decide_eq_true (by first | (with_reducible assumption) | assumption)
                      obtain ⟨ad222, e222, hx222_0⟩ := Kd.at_int HR0.out x1_1 p222 q222
                      cases e222
                      replace hx222_0 := (HB.out.cell (World.block_lt_of_cell? w _ hx222_0)).trans hx222_0
                      replace p222 := eq_true p222
                      replace q222 := eq_true q222
                      go_wp2
                      go_ret3
                      exact ⟨_, by first | rfl | (simp [errW_none, errW_some] <;> rfl) | (simp [*, errW_none, errW_some] <;> rfl), by first | exact Kd.R_nil _ _ _ _ _ | exact Kd.N_nil _ _ _ _ _ | exact Kd.V_nil _ _ _ _ _ | exact Kd.Q_nil _ _ _ _ _ | exact Kd.S_nil _ _ _ _ _, by repeat (first | (with_reducible first | exact HB.out | apply below_alloc | apply pw_below_drewN | apply below_drew1) | exact HB.out)⟩
                    · rw [if_neg c15] at H
                      have c15b0 : decide ((l0.length : Int) < (wrap64 ((wrap64 (x1_1 + 1)) + (wrap64 (rd l0 x1_1))))) = false := decide_eq_false c15
                      clear c15
                      obtain ⟨ji16, hji16⟩ : ∃ j_ : Int, (wrap64 (x1_1 + 1)) = j_ := ⟨_, rfl⟩
                      replace H : (if 0 ≤ (ji16) then (if (ji16) ≤ (wrap64 ((ji16) + (wrap64 (rd l0 x1_1)))) then (if (wrap64 ((ji16) + (wrap64 (rd l0 x1_1)))) ≤ (l0.length : Int) then (if x4_1.length < 8796093022208 then ((some (x4_1 ++ [strOfNums ((l0.take ((wrap64 ((ji16) + (wrap64 (rd l0 x1_1)))) : Int).toNat).drop ((ji16) : Int).toNat)] : List ByteArray)).bind fun y226 => ((spec_Name_Size.f kj2 y226).bind fun t229 => (if t229 > 255 then (some (([] : List ByteArray), 0, false)) else (spec_ReadName.l0 kj2 l0 (wrap64 (x1_1 + (wrap64 (1 + (wrap64 (rd l0 x1_1)))))) y226 x5_1 x7_1 x8_1)))) else (none)) else (none)) else (none)) else (none)) = some (r1, r2, r3) := by first | (rw [hji16] at H; exact H) | (simp only [hji16] at H ⊢; exact H)
                      (try rw [hji16] at c15b0)
                      have hji16w : (IntKind.i64.wrap (x1_1 + 1)) = ji16 := (i64_w _).trans hji16
                      by_cases c17 : 0 ≤ (ji16)
                      · rw [if_pos c17] at H
                        have c17b0 := eq_true c17
                        have c17b1 : decide (0 ≤ (ji16)) = true := decide_eq_true c17
                        clear c17
                        by_cases c18 : (ji16) ≤ (wrap64 ((ji16) + (wrap64 (rd l0 x1_1))))
                        · rw [if_pos c18] at H
                          have c18b0 := eq_true c18
                          have c18b1 : decide ((ji16) ≤ (wrap64 ((ji16) + (wrap64 (rd l0 x1_1))))) = true := decide_eq_true c18
                          by_cases c19 : (wrap64 ((ji16) + (wrap64 (rd l0 x1_1)))) ≤ (l0.length : Int)
                          · rw [if_pos c19] at H
                            have c19b0 := eq_true c19
                            have c19b1 : decide ((wrap64 ((ji16) + (wrap64 (rd l0 x1_1)))) ≤ (l0.length : Int)) = true := decide_eq_true c19
                            by_cases c20 : x4_1.length < 8796093022208
                            · rw [if_pos c20] at H
                              have LMc20 := Aside0.mk c20
                              clear c20
                              obtain ⟨y226, hy226⟩ : ∃ y_ : List ByteArray, y_ = (x4_1 ++ [strOfNums ((l0.take ((wrap64 ((ji16) + (wrap64 (rd l0 x1_1)))) : Int).toNat).drop ((ji16) : Int).toNat)]) := ⟨_, rfl⟩
                              replace H : ((spec_Name_Size.f kj2 y226).bind fun t229 => (if t229 > 255 then (some (([] : List ByteArray), 0, false)) else (spec_ReadName.l0 kj2 l0 (wrap64 (x1_1 + (wrap64 (1 + (wrap64 (rd l0 x1_1)))))) y226 x5_1 x7_1 x8_1))) = some (r1, r2, r3) := by first | (rw [hy226]; with_reducible exact H) | (have H2_ := (Option.bind_some _ _).symm.trans H; rw [hy226]; with_reducible exact H2_) | (have H2_ := (Option.bind_some _ _).symm.trans H; with_reducible exact H2_) | with_reducible exact H | (rw [hy226]; exact H) | exact H
                              have Ny226 := Aside0.mk hy226
                              clear hy226
                              replace H := Option.bind_eq_some_iff.mp H
                              obtain ⟨t229, A210, H⟩ := H
                              replace H : (if t229 > 255 then (some (([] : List ByteArray), 0, false)) else (spec_ReadName.l0 kj2 l0 (wrap64 (x1_1 + (wrap64 (1 + (wrap64 (rd l0 x1_1)))))) y226 x5_1 x7_1 x8_1)) = some (r1, r2, r3) := H
                              have A21 := Aside0.mk A210
                              clear A210
                              by_cases c22 : t229 > 255
                              · rw [if_pos c22] at H
                                have c22b0 : decide (255 < t229) = true := decide_eq_true c22
                                clear c22
                                simp only [Option.some.injEq, Prod.mk.injEq] at H
                                obtain ⟨rfl, rfl, rfl⟩ := H
                                have p222 : 0 ≤ (x1_1 : Int) := of_decide_eq_true (by first | (with_reducible assumption) | assumption)
                                have q222 : x1_1 < (l0.length : Int) := of_decide_eq_true (by first | (with_reducible assumption) | assumption)
                                obtain ⟨ad222, e222, hx222_0⟩ := Kd.at_int HR0.out x1_1 p222 q222
                                cases e222
                                replace hx222_0 := (HB.out.cell (World.block_lt_of_cell? w _ hx222_0)).trans hx222_0
                                replace p222 := eq_true p222
                                replace q222 := eq_true q222
                                obtain ⟨i023, hi023, _, hsz23, _⟩ := info_parts info5
                                obtain ⟨A23, hcut23, hA23, hC23⟩ := print_mid_of (P := Tryd.prog) (Value.int .u8) 0 22 5 .i64 .i64 Tryd.underlying22 hi023 hsz23 (some ad222) c0 l0 (ji16) (wrap64 ((ji16) + (wrap64 (rd l0 x1_1)))) (of_decide_eq_true (by first | (with_reducible assumption) | assumption)) (by first | omega | exact of_decide_eq_true (by first | (with_reducible assumption) | assumption)) (of_decide_eq_true (by first | (with_reducible assumption) | assumption)) HC0.out
                                have HR225 := Aside0.mk (Kd.C_of_reads (h1 := fun _ => rfl) (hA23 _ (Kd.reads_of_C HR0.out)))
                                have HC225 := Aside0.mk hC23
                                clear hA23 hC23 hi023 hsz23
                                have hcv24 := Kd.C_string (P := Tryd.prog) (A := A23) (c := (c0 - (ji16).toNat)) Tryd.underlying22 Tryd.underlying5 Tryd.underlying9 (Kd.C_below HR225.out HB.out)
                                have hcv24b := hcv24
                                rw [show ((l0.take ((wrap64 ((ji16) + (wrap64 (rd l0 x1_1)))) : Int).toNat).drop ((ji16) : Int).toNat).length = ((wrap64 ((ji16) + (wrap64 (rd l0 x1_1)))) : Int).toNat - ((ji16) : Int).toNat from by rw [List.length_drop, List.length_take, Nat.min_eq_left (by have h_ := of_eq_true c19b0; omega)]] at hcv24b
                                go_wp2_with (first | ((with_reducible refine gate_builtin (b := .append) (xs := #[.tmp 46, .tmp 56]) rfl ?_); (try (refine gate_guard (by rfl) ?_; dsimp only)); at_builtin; refine Kd.R_append Kd.string (w0 := w) w.heap.size rfl (.tmp 46) (.tmp 56) 25 9 (.string ⟨#[]⟩) 16 rfl Tryd.underlying25 info9 rfl (by decide) (by omega) u4 x4_1 (strOfNums ((l0.take ((wrap64 ((ji16) + (wrap64 (rd l0 x1_1)))) : Int).toNat).drop ((ji16) : Int).toNat)) [.string (strOfNums ((l0.take ((wrap64 ((ji16) + (wrap64 (rd l0 x1_1)))) : Int).toNat).drop ((ji16) : Int).toNat))] (fun _ => True) (fun _ => False) rfl rfl ?aP (fun _ hk => hk.elim) ?aF ?aO ?aB ?aS ?aL ?_; (case aP => exact rfl); (case aB => exact (by repeat (first | (with_reducible first | exact HB.out | apply below_alloc | apply pw_below_drewN | apply below_drew1) | exact HB.out))); (case aF => exact (fun _ _ => trivial)); (case aO => exact (by (with_reducible repeat (first | apply Kd.R_alloc | apply Kd.R_drewN | apply Kd.R_drew)); exact HO_4.out)); (case aS => exact (below_size (by repeat (first | (with_reducible first | exact HB.out | apply below_alloc | apply pw_below_drewN | apply below_drew1) | exact HB.out)))); (case aL => have := LMc20.out; omega); intro v227 w25 ho hb hg hat; rw [← Ny226.out] at ho; have n0_ := Aside0.mk (hb); have n1_ := Aside0.mk (ho); clear HB; clear HO_4; have HB := n0_; have HO228 := n1_; clear n0_ n1_; clear ho hb hg hat; obtain ⟨Ao26, co26, eo26⟩ := Kd.R_slice HO228.out; subst eo26) | ((with_reducible refine gate_callee (f := 24) rfl ?_); refine goesL_ (some 63) rfl rfl Tryd.func24 (by kernel_rfl) rfl #[.slice Ao26 y226.length co26] rfl (by (try simp only [List.map_toArray, List.map_cons, List.map_nil]); first | done | rfl | (simp only [List.length_drop, List.length_take]; rfl)) ?_; (with_reducible refine (spec_Name_Size.calls kj2 _ _ y226 t229 _ ?side1 ?side2 A21.out).mono ?_); (case side1 => repeat (first | exact (Kd.R_reads' HO228.out).2.2 | (with_reducible refine Kd.C_alloc ?_ _) | (with_reducible refine Kd.C_drewN ?_ _) | (with_reducible refine Kd.C_drew ?_))); (case side2 => exact (Kd.R_reads' HO228.out).2.1); rintro e w' ⟨rfl, ⟨nd, rfl⟩⟩; refine ⟨_, rfl, ?_⟩))
                                go_ret3
                                exact ⟨_, by first | rfl | (simp [errW_none, errW_some] <;> rfl) | (simp only [← hji16]; first | rfl | (simp [errW_none, errW_some] <;> rfl)) | (simp [*, errW_none, errW_some] <;> rfl), by first | exact Kd.R_nil _ _ _ _ _ | exact Kd.N_nil _ _ _ _ _ | exact Kd.V_nil _ _ _ _ _ | exact Kd.Q_nil _ _ _ _ _ | exact Kd.S_nil _ _ _ _ _, by repeat (first | (with_reducible first | exact HB.out | apply below_alloc | apply pw_below_drewN | apply below_drew1) | exact HB.out)⟩
                              · rw [if_neg c22] at H
                                have c22b0 : decide (255 < t229) = false := decide_eq_false c22
                                clear c22
                                have H' := Aside0.mk H
                                clear H
                                have p222 : 0 ≤ (x1_1 : Int) := of_decide_eq_true (by first | (with_reducible assumption) | assumption)
                                have q222 : x1_1 < (l0.length : Int) := of_decide_eq_true (by first | (with_reducible assumption) | assumption)
                                obtain ⟨ad222, e222, hx222_0⟩ := Kd.at_int HR0.out x1_1 p222 q222
                                cases e222
                                replace hx222_0 := (HB.out.cell (World.block_lt_of_cell? w _ hx222_0)).trans hx222_0
                                replace p222 := eq_true p222
                                replace q222 := eq_true q222
                                obtain ⟨i027, hi027, _, hsz27, _⟩ := info_parts info5
                                obtain ⟨A27, hcut27, hA27, hC27⟩ := print_mid_of (P := Tryd.prog) (Value.int .u8) 0 22 5 .i64 .i64 Tryd.underlying22 hi027 hsz27 (some ad222) c0 l0 (ji16) (wrap64 ((ji16) + (wrap64 (rd l0 x1_1)))) (of_decide_eq_true (by first | (with_reducible assumption) | assumption)) (by first | omega | exact of_decide_eq_true (by first | (with_reducible assumption) | assumption)) (of_decide_eq_true (by first | (with_reducible assumption) | assumption)) HC0.out
                                have HR225 := Aside0.mk (Kd.C_of_reads (h1 := fun _ => rfl) (hA27 _ (Kd.reads_of_C HR0.out)))
                                have HC225 := Aside0.mk hC27
                                clear hA27 hC27 hi027 hsz27
                                have hcv28 := Kd.C_string (P := Tryd.prog) (A := A27) (c := (c0 - (ji16).toNat)) Tryd.underlying22 Tryd.underlying5 Tryd.underlying9 (Kd.C_below HR225.out HB.out)
                                have hcv28b := hcv28
                                rw [show ((l0.take ((wrap64 ((ji16) + (wrap64 (rd l0 x1_1)))) : Int).toNat).drop ((ji16) : Int).toNat).length = ((wrap64 ((ji16) + (wrap64 (rd l0 x1_1)))) : Int).toNat - ((ji16) : Int).toNat from by rw [List.length_drop, List.length_take, Nat.min_eq_left (by have h_ := of_eq_true c19b0; omega)]] at hcv28b
                                go_wp2_with (first | ((with_reducible refine gate_builtin (b := .append) (xs := #[.tmp 46, .tmp 56]) rfl ?_); (try (refine gate_guard (by rfl) ?_; dsimp only)); at_builtin; refine Kd.R_append Kd.string (w0 := w) w.heap.size rfl (.tmp 46) (.tmp 56) 25 9 (.string ⟨#[]⟩) 16 rfl Tryd.underlying25 info9 rfl (by decide) (by omega) u4 x4_1 (strOfNums ((l0.take ((wrap64 ((ji16) + (wrap64 (rd l0 x1_1)))) : Int).toNat).drop ((ji16) : Int).toNat)) [.string (strOfNums ((l0.take ((wrap64 ((ji16) + (wrap64 (rd l0 x1_1)))) : Int).toNat).drop ((ji16) : Int).toNat))] (fun _ => True) (fun _ => False) rfl rfl ?aP (fun _ hk => hk.elim) ?aF ?aO ?aB ?aS ?aL ?_; (case aP => exact rfl); (case aB => exact (by repeat (first | (with_reducible first | exact HB.out | apply below_alloc | apply pw_below_drewN | apply below_drew1) | exact HB.out))); (case aF => exact (fun _ _ => trivial)); (case aO => exact (by (with_reducible repeat (first | apply Kd.R_alloc | apply Kd.R_drewN | apply Kd.R_drew)); exact HO_4.out)); (case aS => exact (below_size (by repeat (first | (with_reducible first | exact HB.out | apply below_alloc | apply pw_below_drewN | apply below_drew1) | exact HB.out)))); (case aL => have := LMc20.out; omega); intro v227 w29 ho hb hg hat; rw [← Ny226.out] at ho; have n0_ := Aside0.mk (hb); have n1_ := Aside0.mk (ho); clear HB; clear HO_4; have HB := n0_; have HO228 := n1_; clear n0_ n1_; clear ho hb hg hat; obtain ⟨Ao30, co30, eo30⟩ := Kd.R_slice HO228.out; subst eo30) | ((with_reducible refine gate_callee (f := 24) rfl ?_); refine goesL_ (some 63) rfl rfl Tryd.func24 (by kernel_rfl) rfl #[.slice Ao30 y226.length co30] rfl (by (try simp only [List.map_toArray, List.map_cons, List.map_nil]); first | done | rfl | (simp only [List.length_drop, List.length_take]; rfl)) ?_; (with_reducible refine (spec_Name_Size.calls kj2 _ _ y226 t229 _ ?side1 ?side2 A21.out).mono ?_); (case side1 => repeat (first | exact (Kd.R_reads' HO228.out).2.2 | (with_reducible refine Kd.C_alloc ?_ _) | (with_reducible refine Kd.C_drewN ?_ _) | (with_reducible refine Kd.C_drew ?_))); (case side2 => exact (Kd.R_reads' HO228.out).2.1); rintro e w' ⟨rfl, ⟨nd, rfl⟩⟩; refine ⟨_, rfl, ?_⟩))
                                go_roundg kj2
                                case measure => have := HK1.out; have := HJ2.out; omega
                                case rel => exact ⟨(wrap64 (x1_1 + (wrap64 (1 + (wrap64 (rd l0 x1_1)))))), (y226), (x5_1), (x7_1), (x8_1), (by first | rfl | (simp; done) | (simp [*]; done) | (simp [wrap64]; done)), (by first | rfl | (simp; done) | (simp [*]; done) | (simp [wrap64]; done)), (by first | rfl | (simp; done) | (simp [*]; done) | (simp [wrap64]; done)), (by first | rfl | (simp; done) | (simp [*]; done) | (simp [wrap64]; done)), H', ⟨by have := HK1.out; have := HJ2.out; omega⟩, ⟨by (with_reducible repeat (first | apply Kd.R_alloc | apply Kd.R_drewN | apply Kd.R_drew)); exact HO228.out⟩, ⟨by repeat (first | (with_reducible first | exact HB.out | apply below_alloc | apply pw_below_drewN | apply below_drew1) | exact HB.out)⟩⟩
                            · rw [if_neg c20] at H
                              exact absurd H (by simp)
                          · rw [if_neg c19] at H
                            exact absurd H (by simp)
                        · rw [if_neg c18] at H
                          exact absurd H (by simp)
                      · rw [if_neg c17] at H
                        exact absurd H (by simp)
                · rw [if_neg c8] at H
                  have c8b0 : (((wrap64 (rd l0 x1_1)) / 64) == 0) = false := beq_eq_false_iff_ne.mpr c8
                  have c8b1 : (((wrap64 (rd l0 x1_1)) / 64) != 0) = true := bne_iff_ne.mpr c8
                  by_cases c31 : ((wrap64 (rd l0 x1_1)) / 64) = 3
                  · rw [if_pos c31] at H
                    have c31b0 : (((wrap64 (rd l0 x1_1)) / 64) == 3) = true := beq_iff_eq.mpr c31
                    have c31b1 : (((wrap64 (rd l0 x1_1)) / 64) != 3) = false := bne_eq_false_iff_eq.mpr c31
                    clear c31
                    by_cases c32 : (wrap64 (x1_1 + 1)) ≥ (l0.length : Int)
                    · rw [if_pos c32] at H
                      have c32b0 : decide ((l0.length : Int) ≤ (wrap64 (x1_1 + 1))) = true := decide_eq_true c32
                      clear c32
                      simp only [Option.some.injEq, Prod.mk.injEq] at H
                      obtain ⟨rfl, rfl, rfl⟩ := H
                      have p222 : 0 ≤ (x1_1 : Int) := of_decide_eq_true (by first | (with_reducible assumption) | assumption)
                      have q222 : x1_1 < (l0.length : Int) := of_decide_eq_true (by first | (with_reducible assumption) | assumption)
                      obtain ⟨ad222, e222, hx222_0⟩ := Kd.at_int HR0.out x1_1 p222 q222
                      cases e222
                      replace hx222_0 := (HB.out.cell (World.block_lt_of_cell? w _ hx222_0)).trans hx222_0
                      replace p222 := eq_true p222
                      replace q222 := eq_true q222
                      go_wp2
                      go_ret3
                      exact ⟨_, by first | rfl | (simp [errW_none, errW_some] <;> rfl) | (simp [*, errW_none, errW_some] <;> rfl), by first | exact Kd.R_nil _ _ _ _ _ | exact Kd.N_nil _ _ _ _ _ | exact Kd.V_nil _ _ _ _ _ | exact Kd.Q_nil _ _ _ _ _ | exact Kd.S_nil _ _ _ _ _, by repeat (first | (with_reducible first | exact HB.out | apply below_alloc | apply pw_below_drewN | apply below_drew1) | exact HB.out)⟩
                    · rw [if_neg c32] at H
                      have c32b0 : decide ((l0.length : Int) ≤ (wrap64 (x1_1 + 1))) = false := decide_eq_false c32
                      clear c32
                      by_cases c33 : x5_1 < 0
                      · rw [if_pos c33] at H
                        have c33b0 : decide (x5_1 < 0) = true := decide_eq_true c33
                        clear c33
                        obtain ⟨ji34, hji34⟩ : ∃ j_ : Int, (wrap64 (x1_1 + 1)) = j_ := ⟨_, rfl⟩
                        replace H : (if 0 ≤ (ji34) then (if (ji34) < (l0.length : Int) then (if (Go.bits .or .i64 (wrap64 ((Go.bits .and .i64 (wrap64 (rd l0 x1_1)) 63) * 256)) (wrap64 (rd l0 (ji34)))) ≥ x7_1 then (some (([] : List ByteArray), 0, false)) else (if (wrap64 (x8_1 + 1)) > 126 then (some (([] : List ByteArray), 0, false)) else (spec_ReadName.l0 kj2 l0 (Go.bits .or .i64 (wrap64 ((Go.bits .and .i64 (wrap64 (rd l0 x1_1)) 63) * 256)) (wrap64 (rd l0 (ji34)))) x4_1 (wrap64 (x1_1 + 2)) (Go.bits .or .i64 (wrap64 ((Go.bits .and .i64 (wrap64 (rd l0 x1_1)) 63) * 256)) (wrap64 (rd l0 (ji34)))) (wrap64 (x8_1 + 1))))) else (none)) else (none)) = some (r1, r2, r3) := by first | (rw [hji34] at H; exact H) | (simp only [hji34] at H ⊢; exact H)
                        (try rw [hji34] at c32b0)
                        have hji34w : (IntKind.i64.wrap (x1_1 + 1)) = ji34 := (i64_w _).trans hji34
                        by_cases c35 : 0 ≤ (ji34)
                        · rw [if_pos c35] at H
                          have c35b0 : decide (0 ≤ (ji34)) = true := decide_eq_true c35
                          clear c35
                          by_cases c36 : (ji34) < (l0.length : Int)
                          · rw [if_pos c36] at H
                            have c36b0 : decide ((ji34) < (l0.length : Int)) = true := decide_eq_true c36
                            clear c36
                            by_cases c37 : (Go.bits .or .i64 (wrap64 ((Go.bits .and .i64 (wrap64 (rd l0 x1_1)) 63) * 256)) (wrap64 (rd l0 (ji34)))) ≥ x7_1
                            · rw [if_pos c37] at H
                              have c37b0 : decide (x7_1 ≤ (Go.bits .or .i64 (wrap64 ((Go.bits .and .i64 (wrap64 (rd l0 x1_1)) 63) * 256)) (wrap64 (rd l0 (ji34))))) = true := decide_eq_true c37
                              clear c37
                              simp only [Option.some.injEq, Prod.mk.injEq] at H
                              obtain ⟨rfl, rfl, rfl⟩ := H
                              have p222 : 0 ≤ (x1_1 : Int) := of_decide_eq_true (by first | (with_reducible assumption) | assumption)
                              have q222 : x1_1 < (l0.length : Int) := of_decide_eq_true (by first | (with_reducible assumption) | assumption)
                              obtain ⟨ad222, e222, hx222_0⟩ := Kd.at_int HR0.out x1_1 p222 q222
                              cases e222
                              replace hx222_0 := (HB.out.cell (World.block_lt_of_cell? w _ hx222_0)).trans hx222_0
                              replace p222 := eq_true p222
                              replace q222 := eq_true q222
                              have p230 : 0 ≤ ((ji34) : Int) := of_decide_eq_true (by first | (with_reducible assumption) | assumption)
                              have q230 : (ji34) < (l0.length : Int) := of_decide_eq_true (by first | (with_reducible assumption) | assumption)
                              obtain ⟨ad230, e230, hx230_0⟩ := Kd.at_int HR0.out (ji34) p230 q230
                              obtain rfl : ad222 = ad230 := (by injection e230)
                              replace hx230_0 := (HB.out.cell (World.block_lt_of_cell? w _ hx230_0)).trans hx230_0
                              replace p230 := eq_true p230
                              replace q230 := eq_true q230
                              go_wp2
                              go_ret3
                              exact ⟨_, by first | rfl | (simp [errW_none, errW_some] <;> rfl) | (simp only [← hji34]; first | rfl | (simp [errW_none, errW_some] <;> rfl)) | (simp [*, errW_none, errW_some] <;> rfl), by first | exact Kd.R_nil _ _ _ _ _ | exact Kd.N_nil _ _ _ _ _ | exact Kd.V_nil _ _ _ _ _ | exact Kd.Q_nil _ _ _ _ _ | exact Kd.S_nil _ _ _ _ _, by repeat (first | (with_reducible first | exact HB.out | apply below_alloc | apply pw_below_drewN | apply below_drew1) | exact HB.out)⟩
                            · rw [if_neg c37] at H
                              have c37b0 : decide (x7_1 ≤ (Go.bits .or .i64 (wrap64 ((Go.bits .and .i64 (wrap64 (rd l0 x1_1)) 63) * 256)) (wrap64 (rd l0 (ji34))))) = false := decide_eq_false c37
                              clear c37
                              by_cases c38 : (wrap64 (x8_1 + 1)) > 126
                              · rw [if_pos c38] at H
                                have c38b0 : decide (126 < (wrap64 (x8_1 + 1))) = true := decide_eq_true c38
                                clear c38
                                simp only [Option.some.injEq, Prod.mk.injEq] at H
                                obtain ⟨rfl, rfl, rfl⟩ := H
                                have p222 : 0 ≤ (x1_1 : Int) := of_decide_eq_true (by first | (with_reducible assumption) | assumption)
                                have q222 : x1_1 < (l0.length : Int) := of_decide_eq_true (by first | (with_reducible assumption) | assumption)
                                obtain ⟨ad222, e222, hx222_0⟩ := Kd.at_int HR0.out x1_1 p222 q222
                                cases e222
                                replace hx222_0 := (HB.out.cell (World.block_lt_of_cell? w _ hx222_0)).trans hx222_0
                                replace p222 := eq_true p222
                                replace q222 := eq_true q222
                                have p230 : 0 ≤ ((ji34) : Int) := of_decide_eq_true (by first | (with_reducible assumption) | assumption)
                                have q230 : (ji34) < (l0.length : Int) := of_decide_eq_true (by first | (with_reducible assumption) | assumption)
                                obtain ⟨ad230, e230, hx230_0⟩ := Kd.at_int HR0.out (ji34) p230 q230
                                obtain rfl : ad222 = ad230 := (by injection e230)
                                replace hx230_0 := (HB.out.cell (World.block_lt_of_cell? w _ hx230_0)).trans hx230_0
                                replace p230 := eq_true p230
                                replace q230 := eq_true q230
                                go_wp2
                                go_ret3
                                exact ⟨_, by first | rfl | (simp [errW_none, errW_some] <;> rfl) | (simp only [← hji34]; first | rfl | (simp [errW_none, errW_some] <;> rfl)) | (simp [*, errW_none, errW_some] <;> rfl), by first | exact Kd.R_nil _ _ _ _ _ | exact Kd.N_nil _ _ _ _ _ | exact Kd.V_nil _ _ _ _ _ | exact Kd.Q_nil _ _ _ _ _ | exact Kd.S_nil _ _ _ _ _, by repeat (first | (with_reducible first | exact HB.out | apply below_alloc | apply pw_below_drewN | apply below_drew1) | exact HB.out)⟩
                              · rw [if_neg c38] at H
                                have c38b0 : decide (126 < (wrap64 (x8_1 + 1))) = false := decide_eq_false c38
                                clear c38
                                have H' := Aside0.mk H
                                clear H
                                have p222 : 0 ≤ (x1_1 : Int) := of_decide_eq_true (by first | (with_reducible assumption) | assumption)
                                have q222 : x1_1 < (l0.length : Int) := of_decide_eq_true (by first | (with_reducible assumption) | assumption)
                                obtain ⟨ad222, e222, hx222_0⟩ := Kd.at_int HR0.out x1_1 p222 q222
                                cases e222
                                replace hx222_0 := (HB.out.cell (World.block_lt_of_cell? w _ hx222_0)).trans hx222_0
                                replace p222 := eq_true p222
                                replace q222 := eq_true q222
                                have p230 : 0 ≤ ((ji34) : Int) := of_decide_eq_true (by first | (with_reducible assumption) | assumption)
                                have q230 : (ji34) < (l0.length : Int) := of_decide_eq_true (by first | (with_reducible assumption) | assumption)
                                obtain ⟨ad230, e230, hx230_0⟩ := Kd.at_int HR0.out (ji34) p230 q230
                                obtain rfl : ad222 = ad230 := (by injection e230)
                                replace hx230_0 := (HB.out.cell (World.block_lt_of_cell? w _ hx230_0)).trans hx230_0
                                replace p230 := eq_true p230
                                replace q230 := eq_true q230
                                go_wp2
                                go_roundg kj2
                                case measure => have := HK1.out; have := HJ2.out; omega
                                case rel => exact ⟨(Go.bits .or .i64 (wrap64 ((Go.bits .and .i64 (wrap64 (rd l0 x1_1)) 63) * 256)) (wrap64 (rd l0 (ji34)))), (x4_1), (wrap64 (x1_1 + 2)), (Go.bits .or .i64 (wrap64 ((Go.bits .and .i64 (wrap64 (rd l0 x1_1)) 63) * 256)) (wrap64 (rd l0 (ji34)))), (wrap64 (x8_1 + 1)), (by first | rfl | (simp; done) | (simp only [← hji34] <;> (first | rfl | simp)) | (simp [*]; done)), (by first | rfl | (simp; done) | (simp [*]; done) | (simp [wrap64]; done)), (by first | rfl | (simp; done) | (simp only [← hji34] <;> (first | rfl | simp)) | (simp [*]; done)), (by first | rfl | (simp; done) | (simp [*]; done) | (simp [wrap64]; done)), H', ⟨by have := HK1.out; have := HJ2.out; omega⟩, ⟨by (with_reducible repeat (first | apply Kd.R_alloc | apply Kd.R_drewN | apply Kd.R_drew)); exact HO_4.out⟩, ⟨by repeat (first | (with_reducible first | exact HB.out | apply below_alloc | apply pw_below_drewN | apply below_drew1) | exact HB.out)⟩⟩
                          · rw [if_neg c36] at H
                            exact absurd H (by simp)
                        · rw [if_neg c35] at H
                          exact absurd H (by simp)
                      · rw [if_neg c33] at H
                        have c33b0 : decide (x5_1 < 0) = false := decide_eq_false c33
                        clear c33
                        obtain ⟨ji39, hji39⟩ : ∃ j_ : Int, (wrap64 (x1_1 + 1)) = j_ := ⟨_, rfl⟩
                        replace H : (if 0 ≤ (ji39) then (if (ji39) < (l0.length : Int) then (if (Go.bits .or .i64 (wrap64 ((Go.bits .and .i64 (wrap64 (rd l0 x1_1)) 63) * 256)) (wrap64 (rd l0 (ji39)))) ≥ x7_1 then (some (([] : List ByteArray), 0, false)) else (if (wrap64 (x8_1 + 1)) > 126 then (some (([] : List ByteArray), 0, false)) else (spec_ReadName.l0 kj2 l0 (Go.bits .or .i64 (wrap64 ((Go.bits .and .i64 (wrap64 (rd l0 x1_1)) 63) * 256)) (wrap64 (rd l0 (ji39)))) x4_1 x5_1 (Go.bits .or .i64 (wrap64 ((Go.bits .and .i64 (wrap64 (rd l0 x1_1)) 63) * 256)) (wrap64 (rd l0 (ji39)))) (wrap64 (x8_1 + 1))))) else (none)) else (none)) = some (r1, r2, r3) := by first | (rw [hji39] at H; exact H) | (simp only [hji39] at H ⊢; exact H)
                        (try rw [hji39] at c32b0)
                        have hji39w : (IntKind.i64.wrap (x1_1 + 1)) = ji39 := (i64_w _).trans hji39
                        by_cases c40 : 0 ≤ (ji39)
                        · rw [if_pos c40] at H
                          have c40b0 : decide (0 ≤ (ji39)) = true := decide_eq_true c40
                          clear c40
                          by_cases c41 : (ji39) < (l0.length : Int)
                          · rw [if_pos c41] at H
                            have c41b0 : decide ((ji39) < (l0.length : Int)) = true := decide_eq_true c41
                            clear c41
                            by_cases c42 : (Go.bits .or .i64 (wrap64 ((Go.bits .and .i64 (wrap64 (rd l0 x1_1)) 63) * 256)) (wrap64 (rd l0 (ji39)))) ≥ x7_1
                            · rw [if_pos c42] at H
                              have c42b0 : decide (x7_1 ≤ (Go.bits .or .i64 (wrap64 ((Go.bits .and .i64 (wrap64 (rd l0 x1_1)) 63) * 256)) (wrap64 (rd l0 (ji39))))) = true := decide_eq_true c42
                              clear c42
                              simp only [Option.some.injEq, Prod.mk.injEq] at H
                              obtain ⟨rfl, rfl, rfl⟩ := H
                              have p222 : 0 ≤ (x1_1 : Int) := of_decide_eq_true (by first | (with_reducible assumption) | assumption)
                              have q222 : x1_1 < (l0.length : Int) := of_decide_eq_true (by first | (with_reducible assumption) | assumption)
                              obtain ⟨ad222, e222, hx222_0⟩ := Kd.at_int HR0.out x1_1 p222 q222
                              cases e222
                              replace hx222_0 := (HB.out.cell (World.block_lt_of_cell? w _ hx222_0)).trans hx222_0
                              replace p222 := eq_true p222
                              replace q222 := eq_true q222
                              have p231 : 0 ≤ ((ji39) : Int) := of_decide_eq_true (by first | (with_reducible assumption) | assumption)
                              have q231 : (ji39) < (l0.length : Int) := of_decide_eq_true (by first | (with_reducible assumption) | assumption)
                              obtain ⟨ad231, e231, hx231_0⟩ := Kd.at_int HR0.out (ji39) p231 q231
                              obtain rfl : ad222 = ad231 := (by injection e231)
                              replace hx231_0 := (HB.out.cell (World.block_lt_of_cell? w _ hx231_0)).trans hx231_0
                              replace p231 := eq_true p231
                              replace q231 := eq_true q231
                              go_wp2
                              go_ret3
                              exact ⟨_, by first | rfl | (simp [errW_none, errW_some] <;> rfl) | (simp only [← hji39]; first | rfl | (simp [errW_none, errW_some] <;> rfl)) | (simp [*, errW_none, errW_some] <;> rfl), by first | exact Kd.R_nil _ _ _ _ _ | exact Kd.N_nil _ _ _ _ _ | exact Kd.V_nil _ _ _ _ _ | exact Kd.Q_nil _ _ _ _ _ | exact Kd.S_nil _ _ _ _ _, by repeat (first | (with_reducible first | exact HB.out | apply below_alloc | apply pw_below_drewN | apply below_drew1) | exact HB.out)⟩
                            · rw [if_neg c42] at H
                              have c42b0 : decide (x7_1 ≤ (Go.bits .or .i64 (wrap64 ((Go.bits .and .i64 (wrap64 (rd l0 x1_1)) 63) * 256)) (wrap64 (rd l0 (ji39))))) = false := decide_eq_false c42
                              clear c42
                              by_cases c43 : (wrap64 (x8_1 + 1)) > 126
                              · rw [if_pos c43] at H
                                have c43b0 : decide (126 < (wrap64 (x8_1 + 1))) = true := decide_eq_true c43
                                clear c43
                                simp only [Option.some.injEq, Prod.mk.injEq] at H
                                obtain ⟨rfl, rfl, rfl⟩ := H
                                have p222 : 0 ≤ (x1_1 : Int) := of_decide_eq_true (by first | (with_reducible assumption) | assumption)
                                have q222 : x1_1 < (l0.length : Int) := of_decide_eq_true (by first | (with_reducible assumption) | assumption)
                                obtain ⟨ad222, e222, hx222_0⟩ := Kd.at_int HR0.out x1_1 p222 q222
                                cases e222
                                replace hx222_0 := (HB.out.cell (World.block_lt_of_cell? w _ hx222_0)).trans hx222_0
                                replace p222 := eq_true p222
                                replace q222 := eq_true q222
                                have p231 : 0 ≤ ((ji39) : Int) := of_decide_eq_true (by first | (with_reducible assumption) | assumption)
                                have q231 : (ji39) < (l0.length : Int) := of_decide_eq_true (by first | (with_reducible assumption) | assumption)
                                obtain ⟨ad231, e231, hx231_0⟩ := Kd.at_int HR0.out (ji39) p231 q231
                                obtain rfl : ad222 = ad231 := (by injection e231)
                                replace hx231_0 := (HB.out.cell (World.block_lt_of_cell? w _ hx231_0)).trans hx231_0
                                replace p231 := eq_true p231
                                replace q231 := eq_true q231
                                go_wp2
                                go_ret3
                                exact ⟨_, by first | rfl | (simp [errW_none, errW_some] <;> rfl) | (simp only [← hji39]; first | rfl | (simp [errW_none, errW_some] <;> rfl)) | (simp [*, errW_none, errW_some] <;> rfl), by first | exact Kd.R_nil _ _ _ _ _ | exact Kd.N_nil _ _ _ _ _ | exact Kd.V_nil _ _ _ _ _ | exact Kd.Q_nil _ _ _ _ _ | exact Kd.S_nil _ _ _ _ _, by repeat (first | (with_reducible first | exact HB.out | apply below_alloc | apply pw_below_drewN | apply below_drew1) | exact HB.out)⟩
                              · rw [if_neg c43] at H
                                have c43b0 : decide (126 < (wrap64 (x8_1 + 1))) = false := decide_eq_false c43
                                clear c43
                                have H' := Aside0.mk H
                                clear H
                                have p222 : 0 ≤ (x1_1 : Int) := of_decide_eq_true (by first | (with_reducible assumption) | assumption)
                                have q222 : x1_1 < (l0.length : Int) := of_decide_eq_true (by first | (with_reducible assumption) | assumption)
                                obtain ⟨ad222, e222, hx222_0⟩ := Kd.at_int HR0.out x1_1 p222 q222
                                cases e222
                                replace hx222_0 := (HB.out.cell (World.block_lt_of_cell? w _ hx222_0)).trans hx222_0
                                replace p222 := eq_true p222
                                replace q222 := eq_true q222
                                have p231 : 0 ≤ ((ji39) : Int) := of_decide_eq_true (by first | (with_reducible assumption) | assumption)
                                have q231 : (ji39) < (l0.length : Int) := of_decide_eq_true (by first | (with_reducible assumption) | assumption)
                                obtain ⟨ad231, e231, hx231_0⟩ := Kd.at_int HR0.out (ji39) p231 q231
                                obtain rfl : ad222 = ad231 := (by injection e231)
                                replace hx231_0 := (HB.out.cell (World.block_lt_of_cell? w _ hx231_0)).trans hx231_0
                                replace p231 := eq_true p231
                                replace q231 := eq_true q231
                                go_wp2
                                go_roundg kj2
                                case measure => have := HK1.out; have := HJ2.out; omega
                                case rel => exact ⟨(Go.bits .or .i64 (wrap64 ((Go.bits .and .i64 (wrap64 (rd l0 x1_1)) 63) * 256)) (wrap64 (rd l0 (ji39)))), (x4_1), (x5_1), (Go.bits .or .i64 (wrap64 ((Go.bits .and .i64 (wrap64 (rd l0 x1_1)) 63) * 256)) (wrap64 (rd l0 (ji39)))), (wrap64 (x8_1 + 1)), (by first | rfl | (simp; done) | (simp only [← hji39] <;> (first | rfl | simp)) | (simp [*]; done)), (by first | rfl | (simp; done) | (simp [*]; done) | (simp [wrap64]; done)), (by first | rfl | (simp; done) | (simp only [← hji39] <;> (first | rfl | simp)) | (simp [*]; done)), (by first | rfl | (simp; done) | (simp [*]; done) | (simp [wrap64]; done)), H', ⟨by have := HK1.out; have := HJ2.out; omega⟩, ⟨by (with_reducible repeat (first | apply Kd.R_alloc | apply Kd.R_drewN | apply Kd.R_drew)); exact HO_4.out⟩, ⟨by repeat (first | (with_reducible first | exact HB.out | apply below_alloc | apply pw_below_drewN | apply below_drew1) | exact HB.out)⟩⟩
                          · rw [if_neg c41] at H
                            exact absurd H (by simp)
                        · rw [if_neg c40] at H
                          exact absurd H (by simp)
                  · rw [if_neg c31] at H
                    have c31b0 : (((wrap64 (rd l0 x1_1)) / 64) == 3) = false := beq_eq_false_iff_ne.mpr c31
                    have c31b1 : (((wrap64 (rd l0 x1_1)) / 64) != 3) = true := bne_iff_ne.mpr c31
                    simp only [Option.some.injEq, Prod.mk.injEq] at H
                    obtain ⟨rfl, rfl, rfl⟩ := H
                    have p222 : 0 ≤ (x1_1 : Int) := of_decide_eq_true (by first | (with_reducible assumption) | assumption)
                    have q222 : x1_1 < (l0.length : Int) := of_decide_eq_true (by first | (with_reducible assumption) | assumption)
                    obtain ⟨ad222, e222, hx222_0⟩ := Kd.at_int HR0.out x1_1 p222 q222
                    cases e222
                    replace hx222_0 := (HB.out.cell (World.block_lt_of_cell? w _ hx222_0)).trans hx222_0
                    replace p222 := eq_true p222
                    replace q222 := eq_true q222
                    go_wp2
                    go_ret3
                    exact ⟨_, by first | rfl | (simp [errW_none, errW_some] <;> rfl) | (simp [*, errW_none, errW_some] <;> rfl), by first | exact Kd.R_nil _ _ _ _ _ | exact Kd.N_nil _ _ _ _ _ | exact Kd.V_nil _ _ _ _ _ | exact Kd.Q_nil _ _ _ _ _ | exact Kd.S_nil _ _ _ _ _, by repeat (first | (with_reducible first | exact HB.out | apply below_alloc | apply pw_below_drewN | apply below_drew1) | exact HB.out)⟩
              · rw [if_neg c7] at H
                exact absurd H (by simp)
            · rw [if_neg c6] at H
              exact absurd H (by simp)

end Go.Proofs.YtiilihafcdmccaaDoor.P
