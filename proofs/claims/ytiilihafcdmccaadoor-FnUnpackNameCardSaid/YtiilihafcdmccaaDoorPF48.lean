-- Written by a program of this session (wip/tools/pprint.py) out of the translation: it goes by the kit's print and by the contracts of YtiilihafcdmccaaDoorHand. Not trusted: Lean checks it.
import Derived.Test.YtiilihafcdmccaaDoorP0
import Derived.Test.YtiilihafcdmccaaDoorPF74
import Derived.Test.YtiilihafcdmccaaDoorEsc
import Derived.Test.YtiilihafcdmccaaDoorGood
import Derived.WalkMore
namespace Go.Proofs.YtiilihafcdmccaaDoor.P
open Go.RowKit Go.Proofs.YtiilihafcdmccaaDoorW.PrintWords Go.Proofs.YtiilihafcdmccaaDoorW.PrintLast Go.Proofs.YtiilihafcdmccaaDoorW.PrintMore
attribute [local go_sem] max2_int min2_int max_two min_two max_three min_three max_four min_four   -- for this text's walks alone
set_option linter.unusedVariables false
set_option linter.unusedSimpArgs false

/-! ### dns_UnpackDomainName: function 48 -/
mutual
def dns_UnpackDomainName.l0 : Nat → List Int → Int → List Int → Int → Int → Int → Int → Option (ByteArray × Int × Option Int)
  | 0, _, _, _, _, _, _, _ => none
  | k + 1, x0, x1, x7, x8, x9, x10, x11 => if x1 ≥ x9 then (some ((⟨#[]⟩ : ByteArray), x9, some 0)) else (if 0 ≤ x1 then (if x1 < (x0.length : Int) then (if (Go.bits .and .i64 (wrap64 (rd x0 x1)) 192) = 0 then (if (wrap64 (rd x0 x1)) = 0 then (if x11 = 0 then (if (x7.length : Int) = 0 then (some ((⟨#[46]⟩ : ByteArray), wrap64 (x1 + 1), none)) else (some (strOfNums x7, wrap64 (x1 + 1), none))) else (if (x7.length : Int) = 0 then (some ((⟨#[46]⟩ : ByteArray), x8, none)) else (some (strOfNums x7, x8, none)))) else (if (wrap64 ((wrap64 (x1 + 1)) + (wrap64 (rd x0 x1)))) > x9 then (some ((⟨#[]⟩ : ByteArray), x9, some 0)) else (if (wrap64 (x10 - (wrap64 ((wrap64 (rd x0 x1)) + 1)))) ≤ 0 then (some ((⟨#[]⟩ : ByteArray), x9, some 1)) else (if 0 ≤ (wrap64 (x1 + 1)) then (if (wrap64 (x1 + 1)) ≤ (wrap64 ((wrap64 (x1 + 1)) + (wrap64 (rd x0 x1)))) then (if (wrap64 ((wrap64 (x1 + 1)) + (wrap64 (rd x0 x1)))) ≤ (x0.length : Int) then (dns_UnpackDomainName.l1 k x0 (wrap64 (x1 + 1)) x7 x8 x9 (wrap64 (x10 - (wrap64 ((wrap64 (rd x0 x1)) + 1)))) x11 (wrap64 (rd x0 x1)) ((x0.take ((wrap64 ((wrap64 (x1 + 1)) + (wrap64 (rd x0 x1)))) : Int).toNat).drop ((wrap64 (x1 + 1)) : Int).toNat) (((x0.take ((wrap64 ((wrap64 (x1 + 1)) + (wrap64 (rd x0 x1)))) : Int).toNat).drop ((wrap64 (x1 + 1)) : Int).toNat).length : Int) 0) else (none)) else (none)) else (none))))) else (if (Go.bits .and .i64 (wrap64 (rd x0 x1)) 192) = 192 then (if (wrap64 (x1 + 1)) ≥ x9 then (some ((⟨#[]⟩ : ByteArray), x9, some 0)) else (if 0 ≤ (wrap64 (x1 + 1)) then (if (wrap64 (x1 + 1)) < (x0.length : Int) then (if x11 = 0 then (if (wrap64 (x11 + 1)) > 126 then (some ((⟨#[]⟩ : ByteArray), x9, some 100)) else (dns_UnpackDomainName.l0 k x0 (Go.bits .or .i64 (wrap64 ((Go.bits .xor .i64 (wrap64 (rd x0 x1)) 192) * 256)) (wrap64 (rd x0 (wrap64 (x1 + 1))))) x7 (wrap64 ((wrap64 (x1 + 1)) + 1)) x9 x10 (wrap64 (x11 + 1)))) else (if (wrap64 (x11 + 1)) > 126 then (some ((⟨#[]⟩ : ByteArray), x9, some 100)) else (dns_UnpackDomainName.l0 k x0 (Go.bits .or .i64 (wrap64 ((Go.bits .xor .i64 (wrap64 (rd x0 x1)) 192) * 256)) (wrap64 (rd x0 (wrap64 (x1 + 1))))) x7 x8 x9 x10 (wrap64 (x11 + 1))))) else (none)) else (none))) else (some ((⟨#[]⟩ : ByteArray), x9, some 2)))) else (none)) else (none))
def dns_UnpackDomainName.l1 : Nat → List Int → Int → List Int → Int → Int → Int → Int → Int → List Int → Int → Int → Option (ByteArray × Int × Option Int)
  | 0, _, _, _, _, _, _, _, _, _, _, _ => none
  | k + 1, x0, x1, x7, x8, x9, x10, x11, x12, x59, x60, x61 => if x61 < x60 then (if 0 ≤ x61 then (if x61 < (x59.length : Int) then ((dns_isDomainNameLabelSpecial.f (rd x59 x61)).bind fun t241 => (if t241 = true then ((some (([92, rd x59 x61] : List Int) : List Int)).bind fun y242 => (if x7.length + y242.length < 140737488355328 then (dns_UnpackDomainName.l1 k x0 x1 (x7 ++ y242) x8 x9 x10 x11 x12 x59 x60 (wrap64 (x61 + 1))) else (none))) else (if (rd x59 x61) < 32 then ((dns_escapeByte.f (rd x59 x61)).bind fun t248 => (if x7.length + t248.size < 140737488355328 then (dns_UnpackDomainName.l1 k x0 x1 (x7 ++ bytesOf t248) x8 x9 x10 x11 x12 x59 x60 (wrap64 (x61 + 1))) else (none))) else (if (rd x59 x61) > 126 then ((dns_escapeByte.f (rd x59 x61)).bind fun t252 => (if x7.length + t252.size < 140737488355328 then (dns_UnpackDomainName.l1 k x0 x1 (x7 ++ bytesOf t252) x8 x9 x10 x11 x12 x59 x60 (wrap64 (x61 + 1))) else (none))) else (if x7.length < 140737488355328 then (dns_UnpackDomainName.l1 k x0 x1 (x7 ++ [rd x59 x61]) x8 x9 x10 x11 x12 x59 x60 (wrap64 (x61 + 1))) else (none)))))) else (none)) else (none)) else (if x7.length < 140737488355328 then (dns_UnpackDomainName.l0 k x0 (wrap64 (x1 + x12)) (x7 ++ [46]) x8 x9 x10 x11) else (none))
end
def dns_UnpackDomainName.f (k : Nat) (l0 : List Int) (a1 : Int) : Option (ByteArray × Int × Option Int) := if 0 ≤ 281474976710656 then (dns_UnpackDomainName.l0 k l0 a1 (List.replicate 0 0) 0 (l0.length : Int) 255 0) else (none)
theorem dns_UnpackDomainName.mono_l : ∀ k, (∀ y0 y1 y2 y3 y4 y5 y6, LeO (dns_UnpackDomainName.l0 k y0 y1 y2 y3 y4 y5 y6) (dns_UnpackDomainName.l0 (k + 1) y0 y1 y2 y3 y4 y5 y6)) ∧ (∀ y0 y1 y2 y3 y4 y5 y6 y7 y8 y9 y10, LeO (dns_UnpackDomainName.l1 k y0 y1 y2 y3 y4 y5 y6 y7 y8 y9 y10) (dns_UnpackDomainName.l1 (k + 1) y0 y1 y2 y3 y4 y5 y6 y7 y8 y9 y10))
  | 0 => ⟨fun _ _ _ _ _ _ _ r h => by simp [dns_UnpackDomainName.l0] at h, fun _ _ _ _ _ _ _ _ _ _ _ r h => by simp [dns_UnpackDomainName.l1] at h⟩
  | k + 1 => by
    obtain ⟨ih0, ih1⟩ := dns_UnpackDomainName.mono_l k
    refine ⟨?_, ?_⟩
    · intro y0 y1 y2 y3 y4 y5 y6
      unfold dns_UnpackDomainName.l0
      repeat' first
      | (with_reducible exact ih0 _ _ _ _ _ _ _)
      | (with_reducible exact ih1 _ _ _ _ _ _ _ _ _ _ _)
      | (with_reducible exact LeO.refl _)
      | (with_reducible exact LeO.none _)
      | (with_reducible refine LeO.ite ?_ ?_)
      | (with_reducible refine LeO.bind ?_ (fun _ => ?_))
      | exact ih0 _ _ _ _ _ _ _
      | exact ih1 _ _ _ _ _ _ _ _ _ _ _
      | exact LeO.none _
      | refine LeO.ite ?_ ?_
      | refine LeO.bind ?_ (fun _ => ?_)
    · intro y0 y1 y2 y3 y4 y5 y6 y7 y8 y9 y10
      unfold dns_UnpackDomainName.l1
      repeat' first
      | (with_reducible exact ih0 _ _ _ _ _ _ _)
      | (with_reducible exact ih1 _ _ _ _ _ _ _ _ _ _ _)
      | (with_reducible exact LeO.refl _)
      | (with_reducible exact LeO.none _)
      | (with_reducible refine LeO.ite ?_ ?_)
      | (with_reducible refine LeO.bind ?_ (fun _ => ?_))
      | exact ih0 _ _ _ _ _ _ _
      | exact ih1 _ _ _ _ _ _ _ _ _ _ _
      | exact LeO.none _
      | refine LeO.ite ?_ ?_
      | refine LeO.bind ?_ (fun _ => ?_)
theorem dns_UnpackDomainName.mono : ∀ a0 a1 k, LeO (dns_UnpackDomainName.f k a0 a1) (dns_UnpackDomainName.f (k + 1) a0 a1) := by
  intro a0 a1 k
  obtain ⟨ih0, ih1⟩ := dns_UnpackDomainName.mono_l k
  unfold dns_UnpackDomainName.f
  repeat' first
      | (with_reducible exact ih0 _ _ _ _ _ _ _)
      | (with_reducible exact ih1 _ _ _ _ _ _ _ _ _ _ _)
      | (with_reducible exact LeO.refl _)
      | (with_reducible exact LeO.none _)
      | (with_reducible refine LeO.ite ?_ ?_)
      | (with_reducible refine LeO.bind ?_ (fun _ => ?_))
      | exact ih0 _ _ _ _ _ _ _
      | exact ih1 _ _ _ _ _ _ _ _ _ _ _
      | exact LeO.none _
      | refine LeO.ite ?_ ?_
      | refine LeO.bind ?_ (fun _ => ?_)
set_option maxHeartbeats 8000000 in
set_option maxRecDepth 100000 in
theorem dns_UnpackDomainName.calls (k : Nat) (A0 : Option Addr) (c0 : Nat) (l0 : List Int) (a1 : Int) (r1 : ByteArray) (r2 : Int) (r3 : Option Int) (w : World) (hr0 : Kd.C (Kd.int .u8) w A0 l0.length l0) (hc0 : l0.length ≤ c0) (hG : GoodU w) (h : dns_UnpackDomainName.f k l0 a1 = some (r1, r2, r3)) :
    Calls Tryd.prog 48 #[.slice A0 l0.length c0, .int .i64 a1] w fun e w' => ∃ v3_ : Value, e = .returned (.tuple #[.string r1, .int .i64 r2, v3_]) ∧ ErrV r3 v3_ ∧ Below w.heap.size w w' := by
  have HG := Aside0.mk hG
  clear hG
  have HR0 := Aside0.mk hr0
  have HC0 := Aside0.mk hc0
  clear hr0 hc0
  have HB := Aside0.mk (Below.refl w.heap.size w)
  have H : (if 0 ≤ 281474976710656 then (dns_UnpackDomainName.l0 k l0 a1 (List.replicate 0 0) 0 (l0.length : Int) 255 0) else (none)) = some (r1, r2, r3) := h
  clear h
  by_cases c3 : 0 ≤ 281474976710656
  · rw [if_pos c3] at H
    have c3b0 := eq_true c3
    have c3b1 : decide (0 ≤ 281474976710656) = true := decide_eq_true c3
    clear c3
    obtain ⟨y232, hy232⟩ : ∃ y_ : List Int, y_ = (List.replicate 0 0) := ⟨_, rfl⟩
    replace H : (dns_UnpackDomainName.l0 k l0 a1 y232 0 (l0.length : Int) 255 0) = some (r1, r2, r3) := by first | (rw [hy232]; with_reducible exact H) | (have H2_ := (Option.bind_some _ _).symm.trans H; rw [hy232]; with_reducible exact H2_) | (have H2_ := (Option.bind_some _ _).symm.trans H; with_reducible exact H2_) | with_reducible exact H | (rw [hy232]; exact H) | exact H
    have Ny232 := Aside0.mk hy232
    clear hy232
    have H' := Aside0.mk H
    clear H
    go_enter Tryd.func48, Tryd.ntmps48
    go_wp2
    apply wp_scope_straight
    go_wp2_with (first | ((with_reducible refine gate_dst (N := 16) rfl ?_); refine R_makec (Kd.int .u8) _ 5 rfl (N := 16) rfl 22 _ _ rfl 0 1004 rfl rfl (by omega) Tryd.underlying22 (.int .u8 0) 1 info5 rfl (by decide) (by omega) 0 (ok := fun _ => True) (okp := fun _ => True) rfl (fun _ hk => hk) trivial (by omega) (by omega) (Below.refl _ _) (Nat.le_refl _) ?_; intro v233 w4 ho5 hb hg_ hnew_; clear hg_ hnew_; (first | rw [← Ny232.out] at ho5 | (simp only [Int.reduceToNat] at ho5; rw [← Ny232.out] at ho5)); have n0_ := Aside0.mk (Kd.R_lower ho5 (below_size (by repeat (first | (with_reducible first | exact HB.out | apply below_alloc | apply pw_below_drewN | apply below_drew1) | exact HB.out)))); have n1_ := Aside0.mk (below_step (by repeat (first | (with_reducible first | exact HB.out | apply below_alloc | apply pw_below_drewN | apply below_drew1) | exact HB.out)) hb); clear HB; have HO234 := n0_; have HB := n1_; clear n0_ n1_; clear hb ho5))
    repeat (go_quiet (first | ((with_reducible refine gate_dst (N := 16) rfl ?_); refine R_makec (Kd.int .u8) _ 5 rfl (N := 16) rfl 22 _ _ rfl 0 1004 rfl rfl (by omega) Tryd.underlying22 (.int .u8 0) 1 info5 rfl (by decide) (by omega) 0 (ok := fun _ => True) (okp := fun _ => True) rfl (fun _ hk => hk) trivial (by omega) (by omega) (Below.refl _ _) (Nat.le_refl _) ?_; intro v233 w4 ho5 hb hg_ hnew_; clear hg_ hnew_; (first | rw [← Ny232.out] at ho5 | (simp only [Int.reduceToNat] at ho5; rw [← Ny232.out] at ho5)); have n0_ := Aside0.mk (Kd.R_lower ho5 (below_size (by repeat (first | (with_reducible first | exact HB.out | apply below_alloc | apply pw_below_drewN | apply below_drew1) | exact HB.out)))); have n1_ := Aside0.mk (below_step (by repeat (first | (with_reducible first | exact HB.out | apply below_alloc | apply pw_below_drewN | apply below_drew1) | exact HB.out)) hb); clear HB; have HO234 := n0_; have HB := n1_; clear n0_ n1_; clear hb ho5)); try go_wp2_with (first | ((with_reducible refine gate_dst (N := 16) rfl ?_); refine R_makec (Kd.int .u8) _ 5 rfl (N := 16) rfl 22 _ _ rfl 0 1004 rfl rfl (by omega) Tryd.underlying22 (.int .u8 0) 1 info5 rfl (by decide) (by omega) 0 (ok := fun _ => True) (okp := fun _ => True) rfl (fun _ hk => hk) trivial (by omega) (by omega) (Below.refl _ _) (Nat.le_refl _) ?_; intro v233 w4 ho5 hb hg_ hnew_; clear hg_ hnew_; (first | rw [← Ny232.out] at ho5 | (simp only [Int.reduceToNat] at ho5; rw [← Ny232.out] at ho5)); have n0_ := Aside0.mk (Kd.R_lower ho5 (below_size (by repeat (first | (with_reducible first | exact HB.out | apply below_alloc | apply pw_below_drewN | apply below_drew1) | exact HB.out)))); have n1_ := Aside0.mk (below_step (by repeat (first | (with_reducible first | exact HB.out | apply below_alloc | apply pw_below_drewN | apply below_drew1) | exact HB.out)) hb); clear HB; have HO234 := n0_; have HB := n1_; clear n0_ n1_; clear hb ho5)))
    go_step3
    go_wp2
    go_loopg [1, 7, 8, 10, 11] k (fun kq v1 v7 v8 v10 v11 w' => ∃ (x1_1 : Int) (x7_1 : List Int) (x8_1 : Int) (x10_1 : Int) (x11_1 : Int), v1 = .int .i64 x1_1 ∧ v8 = .int .i64 x8_1 ∧ v10 = .int .i64 x10_1 ∧ v11 = .int .i64 x11_1 ∧ Aside0 (dns_UnpackDomainName.l0 kq l0 x1_1 x7_1 x8_1 (l0.length : Int) x10_1 x11_1 = some (r1, r2, r3)) ∧ Aside0 (kq ≤ k) ∧ Aside0 (Kd.R (Kd.int .u8) 5 w' w.heap.size (fun _ => True) v7 x7_1) ∧ Aside0 (Below w.heap.size w w'))
    case atStart => exact ⟨(a1), (y232), (0), (255), (0), (by first | rfl | (simp; done) | (simp [*]; done) | (simp [wrap64]; done)), (by first | rfl | (simp; done) | (simp [*]; done) | (simp [wrap64]; done)), (by first | rfl | (simp; done) | (simp [*]; done) | (simp [wrap64]; done)), (by first | rfl | (simp; done) | (simp [*]; done) | (simp [wrap64]; done)), H', ⟨Nat.le_refl _⟩, ⟨by (with_reducible repeat (first | apply Kd.R_alloc | apply Kd.R_drewN | apply Kd.R_drew)); exact HO234.out⟩, ⟨by repeat (first | (with_reducible first | exact HB.out | apply below_alloc | apply pw_below_drewN | apply below_drew1) | exact HB.out)⟩⟩
    case round =>
      clear H'
      try clear p2
      try clear c3
      try clear c3b0
      try clear c3b1
      try clear c4
      obtain ⟨x1_1, x7_1, x8_1, x10_1, x11_1, rfl, rfl, rfl, rfl, HA, HK1, HO_7, HB⟩ := hrel
      cases gk with
      | zero => exact absurd HA.out (by simp [dns_UnpackDomainName.l0])
      | succ k1 =>
        have H := HA.out
        clear HA
        simp only [dns_UnpackDomainName.l0] at H
        by_cases c6 : x1_1 ≥ (l0.length : Int)
        · rw [if_pos c6] at H
          have c6b0 : decide ((l0.length : Int) ≤ x1_1) = true := decide_eq_true c6
          clear c6
          simp only [Option.some.injEq, Prod.mk.injEq] at H
          obtain ⟨rfl, rfl, rfl⟩ := H
          obtain ⟨tg0_, xg0_, tg1_, xg1_, tg2_, xg2_, hg0_, hg1_, hg2_⟩ := GoodU.below HG.out HB.out
          go_wp2
          repeat (go_quiet (fail); try go_wp2)
          try simp only [Exit.noGoto_ret]
          go_ret3
          exact ⟨_, by first | rfl | (simp [errW_none, errW_some] <;> rfl) | (simp [*, errW_none, errW_some] <;> rfl), by first | exact rfl | exact ⟨_, _, rfl⟩, by repeat (first | (with_reducible first | exact HB.out | apply below_alloc | apply pw_below_drewN | apply below_drew1) | exact HB.out)⟩
        · rw [if_neg c6] at H
          have c6b0 : decide ((l0.length : Int) ≤ x1_1) = false := decide_eq_false c6
          clear c6
          by_cases c7 : 0 ≤ x1_1
          · rw [if_pos c7] at H
            have c7b0 : decide (0 ≤ x1_1) = true := decide_eq_true c7
            clear c7
            by_cases c8 : x1_1 < (l0.length : Int)
            · rw [if_pos c8] at H
              have c8b0 : decide (x1_1 < (l0.length : Int)) = true := decide_eq_true c8
              clear c8
              by_cases c9 : (Go.bits .and .i64 (wrap64 (rd l0 x1_1)) 192) = 0
              · rw [if_pos c9] at H
                have c9b0 : ((Go.bits .and .i64 (wrap64 (rd l0 x1_1)) 192) == 0) = true := beq_iff_eq.mpr c9
                have c9b1 : ((Go.bits .and .i64 (wrap64 (rd l0 x1_1)) 192) != 0) = false := bne_eq_false_iff_eq.mpr c9
                clear c9
                by_cases c10 : (wrap64 (rd l0 x1_1)) = 0
                · rw [if_pos c10] at H
                  have c10b0 : ((wrap64 (rd l0 x1_1)) == 0) = true := beq_iff_eq.mpr c10
                  have c10b1 : ((wrap64 (rd l0 x1_1)) != 0) = false := bne_eq_false_iff_eq.mpr c10
                  clear c10
                  by_cases c11 : x11_1 = 0
                  · rw [if_pos c11] at H
                    have c11b0 : (x11_1 == 0) = true := beq_iff_eq.mpr c11
                    have c11b1 : (x11_1 != 0) = false := bne_eq_false_iff_eq.mpr c11
                    clear c11
                    by_cases c12 : (x7_1.length : Int) = 0
                    · rw [if_pos c12] at H
                      have c12b0 : ((x7_1.length : Int) == 0) = true := beq_iff_eq.mpr c12
                      have c12b1 : ((x7_1.length : Int) != 0) = false := bne_eq_false_iff_eq.mpr c12
                      clear c12
                      simp only [Option.some.injEq, Prod.mk.injEq] at H
                      obtain ⟨rfl, rfl, rfl⟩ := H
                      obtain ⟨tg0_, xg0_, tg1_, xg1_, tg2_, xg2_, hg0_, hg1_, hg2_⟩ := GoodU.below HG.out HB.out
                      have p235 : 0 ≤ (x1_1 : Int) := of_decide_eq_true (by first | (with_reducible assumption) | assumption)
                      have q235 : x1_1 < (l0.length : Int) := of_decide_eq_true (by first | (with_reducible assumption) | assumption)
                      obtain ⟨ad235, e235, hx235_0⟩ := Kd.at_int HR0.out x1_1 p235 q235
                      cases e235
                      replace hx235_0 := (HB.out.cell (World.block_lt_of_cell? w _ hx235_0)).trans hx235_0
                      replace p235 := eq_true p235
                      replace q235 := eq_true q235
                      obtain ⟨Ao13, co13, eo13⟩ := Kd.R_slice HO_7.out
                      subst eo13
                      go_wp2
                      repeat (go_quiet (fail); try go_wp2)
                      try simp only [Exit.noGoto_ret]
                      go_ret3
                      exact ⟨_, by first | rfl | (simp [errW_none, errW_some] <;> rfl) | (simp [*, errW_none, errW_some] <;> rfl), by first | exact rfl | exact ⟨_, _, rfl⟩, by repeat (first | (with_reducible first | exact HB.out | apply below_alloc | apply pw_below_drewN | apply below_drew1) | exact HB.out)⟩
                    · rw [if_neg c12] at H
                      have c12b0 : ((x7_1.length : Int) == 0) = false := beq_eq_false_iff_ne.mpr c12
                      have c12b1 : ((x7_1.length : Int) != 0) = true := bne_iff_ne.mpr c12
                      have c12b2 : ¬ (x7_1 = []) := fun h_ => c12 (by rw [h_]; rfl)
                      simp only [Option.some.injEq, Prod.mk.injEq] at H
                      obtain ⟨rfl, rfl, rfl⟩ := H
                      obtain ⟨tg0_, xg0_, tg1_, xg1_, tg2_, xg2_, hg0_, hg1_, hg2_⟩ := GoodU.below HG.out HB.out
                      have p235 : 0 ≤ (x1_1 : Int) := of_decide_eq_true (by first | (with_reducible assumption) | assumption)
                      have q235 : x1_1 < (l0.length : Int) := of_decide_eq_true (by first | (with_reducible assumption) | assumption)
                      obtain ⟨ad235, e235, hx235_0⟩ := Kd.at_int HR0.out x1_1 p235 q235
                      cases e235
                      replace hx235_0 := (HB.out.cell (World.block_lt_of_cell? w _ hx235_0)).trans hx235_0
                      replace p235 := eq_true p235
                      replace q235 := eq_true q235
                      obtain ⟨Ao14, co14, eo14⟩ := Kd.R_slice HO_7.out
                      subst eo14
                      have hcv15 := own_string (P := Tryd.prog) Tryd.underlying22 Tryd.underlying5 Tryd.underlying9 (Kd.own_of_R HO_7.out)
                      go_wp2
                      repeat (go_quiet (fail); try go_wp2)
                      try simp only [Exit.noGoto_ret]
                      go_ret3
                      exact ⟨_, by first | rfl | (simp [errW_none, errW_some] <;> rfl) | (simp [*, errW_none, errW_some] <;> rfl), by first | exact rfl | exact ⟨_, _, rfl⟩, by repeat (first | (with_reducible first | exact HB.out | apply below_alloc | apply pw_below_drewN | apply below_drew1) | exact HB.out)⟩
                  · rw [if_neg c11] at H
                    have c11b0 : (x11_1 == 0) = false := beq_eq_false_iff_ne.mpr c11
                    have c11b1 : (x11_1 != 0) = true := bne_iff_ne.mpr c11
                    by_cases c16 : (x7_1.length : Int) = 0
                    · rw [if_pos c16] at H
                      have c16b0 : ((x7_1.length : Int) == 0) = true := beq_iff_eq.mpr c16
                      have c16b1 : ((x7_1.length : Int) != 0) = false := bne_eq_false_iff_eq.mpr c16
                      clear c16
                      simp only [Option.some.injEq, Prod.mk.injEq] at H
                      obtain ⟨rfl, rfl, rfl⟩ := H
                      obtain ⟨tg0_, xg0_, tg1_, xg1_, tg2_, xg2_, hg0_, hg1_, hg2_⟩ := GoodU.below HG.out HB.out
                      have p235 : 0 ≤ (x1_1 : Int) := of_decide_eq_true (by first | (with_reducible assumption) | assumption)
                      have q235 : x1_1 < (l0.length : Int) := of_decide_eq_true (by first | (with_reducible assumption) | assumption)
                      obtain ⟨ad235, e235, hx235_0⟩ := Kd.at_int HR0.out x1_1 p235 q235
                      cases e235
                      replace hx235_0 := (HB.out.cell (World.block_lt_of_cell? w _ hx235_0)).trans hx235_0
                      replace p235 := eq_true p235
                      replace q235 := eq_true q235
                      obtain ⟨Ao17, co17, eo17⟩ := Kd.R_slice HO_7.out
                      subst eo17
                      go_wp2
                      repeat (go_quiet (fail); try go_wp2)
                      try simp only [Exit.noGoto_ret]
                      go_ret3
                      exact ⟨_, by first | rfl | (simp [errW_none, errW_some] <;> rfl) | (simp [*, errW_none, errW_some] <;> rfl), by first | exact rfl | exact ⟨_, _, rfl⟩, by repeat (first | (with_reducible first | exact HB.out | apply below_alloc | apply pw_below_drewN | apply below_drew1) | exact HB.out)⟩
                    · rw [if_neg c16] at H
                      have c16b0 : ((x7_1.length : Int) == 0) = false := beq_eq_false_iff_ne.mpr c16
                      have c16b1 : ((x7_1.length : Int) != 0) = true := bne_iff_ne.mpr c16
                      have c16b2 : ¬ (x7_1 = []) := fun h_ => c16 (by rw [h_]; rfl)
                      simp only [Option.some.injEq, Prod.mk.injEq] at H
                      obtain ⟨rfl, rfl, rfl⟩ := H
                      obtain ⟨tg0_, xg0_, tg1_, xg1_, tg2_, xg2_, hg0_, hg1_, hg2_⟩ := GoodU.below HG.out HB.out
                      have p235 : 0 ≤ (x1_1 : Int) := of_decide_eq_true (by first | (with_reducible assumption) | assumption)
                      have q235 : x1_1 < (l0.length : Int) := of_decide_eq_true (by first | (with_reducible assumption) | assumption)
                      obtain ⟨ad235, e235, hx235_0⟩ := Kd.at_int HR0.out x1_1 p235 q235
                      cases e235
                      replace hx235_0 := (HB.out.cell (World.block_lt_of_cell? w _ hx235_0)).trans hx235_0
                      replace p235 := eq_true p235
                      replace q235 := eq_true q235
                      obtain ⟨Ao18, co18, eo18⟩ := Kd.R_slice HO_7.out
                      subst eo18
                      have hcv19 := own_string (P := Tryd.prog) Tryd.underlying22 Tryd.underlying5 Tryd.underlying9 (Kd.own_of_R HO_7.out)
                      go_wp2
                      repeat (go_quiet (fail); try go_wp2)
                      try simp only [Exit.noGoto_ret]
                      go_ret3
                      exact ⟨_, by first | rfl | (simp [errW_none, errW_some] <;> rfl) | (simp [*, errW_none, errW_some] <;> rfl), by first | exact rfl | exact ⟨_, _, rfl⟩, by repeat (first | (with_reducible first | exact HB.out | apply below_alloc | apply pw_below_drewN | apply below_drew1) | exact HB.out)⟩
                · rw [if_neg c10] at H
                  have c10b0 : ((wrap64 (rd l0 x1_1)) == 0) = false := beq_eq_false_iff_ne.mpr c10
                  have c10b1 : ((wrap64 (rd l0 x1_1)) != 0) = true := bne_iff_ne.mpr c10
                  by_cases c20 : (wrap64 ((wrap64 (x1_1 + 1)) + (wrap64 (rd l0 x1_1)))) > (l0.length : Int)
                  · rw [if_pos c20] at H
                    have c20b0 : decide ((l0.length : Int) < (wrap64 ((wrap64 (x1_1 + 1)) + (wrap64 (rd l0 x1_1))))) = true := decide_eq_true c20
                    clear c20
                    simp only [Option.some.injEq, Prod.mk.injEq] at H
                    obtain ⟨rfl, rfl, rfl⟩ := H
                    obtain ⟨tg0_, xg0_, tg1_, xg1_, tg2_, xg2_, hg0_, hg1_, hg2_⟩ := GoodU.below HG.out HB.out
                    have p235 : 0 ≤ (x1_1 : Int) := of_decide_eq_true (by first | (with_reducible assumption) | assumption)
                    have q235 : x1_1 < (l0.length : Int) := of_decide_eq_true (by first | (with_reducible assumption) | assumption)
                    obtain ⟨ad235, e235, hx235_0⟩ := Kd.at_int HR0.out x1_1 p235 q235
                    cases e235
                    replace hx235_0 := (HB.out.cell (World.block_lt_of_cell? w _ hx235_0)).trans hx235_0
                    replace p235 := eq_true p235
                    replace q235 := eq_true q235
                    go_wp2
                    repeat (go_quiet (fail); try go_wp2)
                    try simp only [Exit.noGoto_ret]
                    go_ret3
                    exact ⟨_, by first | rfl | (simp [errW_none, errW_some] <;> rfl) | (simp [*, errW_none, errW_some] <;> rfl), by first | exact rfl | exact ⟨_, _, rfl⟩, by repeat (first | (with_reducible first | exact HB.out | apply below_alloc | apply pw_below_drewN | apply below_drew1) | exact HB.out)⟩
                  · rw [if_neg c20] at H
                    have c20b0 : decide ((l0.length : Int) < (wrap64 ((wrap64 (x1_1 + 1)) + (wrap64 (rd l0 x1_1))))) = false := decide_eq_false c20
                    clear c20
                    by_cases c21 : (wrap64 (x10_1 - (wrap64 ((wrap64 (rd l0 x1_1)) + 1)))) ≤ 0
                    · rw [if_pos c21] at H
                      have c21b0 : decide ((wrap64 (x10_1 - (wrap64 ((wrap64 (rd l0 x1_1)) + 1)))) ≤ 0) = true := decide_eq_true c21
                      clear c21
                      simp only [Option.some.injEq, Prod.mk.injEq] at H
                      obtain ⟨rfl, rfl, rfl⟩ := H
                      obtain ⟨tg0_, xg0_, tg1_, xg1_, tg2_, xg2_, hg0_, hg1_, hg2_⟩ := GoodU.below HG.out HB.out
                      have p235 : 0 ≤ (x1_1 : Int) := of_decide_eq_true (by first | (with_reducible assumption) | assumption)
                      have q235 : x1_1 < (l0.length : Int) := of_decide_eq_true (by first | (with_reducible assumption) | assumption)
                      obtain ⟨ad235, e235, hx235_0⟩ := Kd.at_int HR0.out x1_1 p235 q235
                      cases e235
                      replace hx235_0 := (HB.out.cell (World.block_lt_of_cell? w _ hx235_0)).trans hx235_0
                      replace p235 := eq_true p235
                      replace q235 := eq_true q235
                      go_wp2
                      repeat (go_quiet (fail); try go_wp2)
                      try simp only [Exit.noGoto_ret]
                      go_ret3
                      exact ⟨_, by first | rfl | (simp [errW_none, errW_some] <;> rfl) | (simp [*, errW_none, errW_some] <;> rfl), by first | exact rfl | exact ⟨_, _, rfl⟩, by repeat (first | (with_reducible first | exact HB.out | apply below_alloc | apply pw_below_drewN | apply below_drew1) | exact HB.out)⟩
                    · rw [if_neg c21] at H
                      have c21b0 : decide ((wrap64 (x10_1 - (wrap64 ((wrap64 (rd l0 x1_1)) + 1)))) ≤ 0) = false := decide_eq_false c21
                      clear c21
                      obtain ⟨ji22, hji22⟩ : ∃ j_ : Int, (wrap64 (x1_1 + 1)) = j_ := ⟨_, rfl⟩
                      replace H : (if 0 ≤ (ji22) then (if (ji22) ≤ (wrap64 ((ji22) + (wrap64 (rd l0 x1_1)))) then (if (wrap64 ((ji22) + (wrap64 (rd l0 x1_1)))) ≤ (l0.length : Int) then (dns_UnpackDomainName.l1 k1 l0 ji22 x7_1 x8_1 (l0.length : Int) (wrap64 (x10_1 - (wrap64 ((wrap64 (rd l0 x1_1)) + 1)))) x11_1 (wrap64 (rd l0 x1_1)) ((l0.take ((wrap64 ((ji22) + (wrap64 (rd l0 x1_1)))) : Int).toNat).drop ((ji22) : Int).toNat) (((l0.take ((wrap64 ((ji22) + (wrap64 (rd l0 x1_1)))) : Int).toNat).drop ((ji22) : Int).toNat).length : Int) 0) else (none)) else (none)) else (none)) = some (r1, r2, r3) := by first | (rw [hji22] at H; exact H) | (simp only [hji22] at H ⊢; exact H)
                      (try rw [hji22] at c20b0)
                      have hji22w : (IntKind.i64.wrap (x1_1 + 1)) = ji22 := (i64_w _).trans hji22
                      by_cases c23 : 0 ≤ (ji22)
                      · rw [if_pos c23] at H
                        have c23b0 := eq_true c23
                        have c23b1 : decide (0 ≤ (ji22)) = true := decide_eq_true c23
                        clear c23
                        by_cases c24 : (ji22) ≤ (wrap64 ((ji22) + (wrap64 (rd l0 x1_1))))
                        · rw [if_pos c24] at H
                          have c24b0 := eq_true c24
                          have c24b1 : decide ((ji22) ≤ (wrap64 ((ji22) + (wrap64 (rd l0 x1_1))))) = true := decide_eq_true c24
                          by_cases c25 : (wrap64 ((ji22) + (wrap64 (rd l0 x1_1)))) ≤ (l0.length : Int)
                          · rw [if_pos c25] at H
                            have c25b0 := eq_true c25
                            have c25b1 : decide ((wrap64 ((ji22) + (wrap64 (rd l0 x1_1)))) ≤ (l0.length : Int)) = true := decide_eq_true c25
                            have H' := Aside0.mk H
                            clear H
                            have p235 : 0 ≤ (x1_1 : Int) := of_decide_eq_true (by first | (with_reducible assumption) | assumption)
                            have q235 : x1_1 < (l0.length : Int) := of_decide_eq_true (by first | (with_reducible assumption) | assumption)
                            obtain ⟨ad235, e235, hx235_0⟩ := Kd.at_int HR0.out x1_1 p235 q235
                            cases e235
                            replace hx235_0 := (HB.out.cell (World.block_lt_of_cell? w _ hx235_0)).trans hx235_0
                            replace p235 := eq_true p235
                            replace q235 := eq_true q235
                            obtain ⟨i026, hi026, _, hsz26, _⟩ := info_parts info5
                            obtain ⟨A26, hcut26, hA26, hC26⟩ := print_mid_of (P := Tryd.prog) (Value.int .u8) 0 22 5 .i64 .i64 Tryd.underlying22 hi026 hsz26 (some ad235) c0 l0 (ji22) (wrap64 ((ji22) + (wrap64 (rd l0 x1_1)))) (of_decide_eq_true (by first | (with_reducible assumption) | assumption)) (by first | omega | exact of_decide_eq_true (by first | (with_reducible assumption) | assumption)) (of_decide_eq_true (by first | (with_reducible assumption) | assumption)) HC0.out
                            have HR236 := Aside0.mk (Kd.C_of_reads (h1 := fun _ => rfl) (hA26 _ (Kd.reads_of_C HR0.out)))
                            have HC236 := Aside0.mk hC26
                            clear hA26 hC26 hi026 hsz26
                            obtain ⟨LL26, hLL26⟩ : ∃ l_ : List Int, ((l0.take ((wrap64 ((ji22) + (wrap64 (rd l0 x1_1)))) : Int).toNat).drop ((ji22) : Int).toNat) = l_ := ⟨_, rfl⟩
                            rw [hLL26] at hcut26 HR236 HC236 H'
                            clear hLL26
                            go_wp2
                            repeat (go_quiet (fail); try go_wp2)
                            go_loopg [7, 61] k1 (fun kq v7 v61 w' => ∃ (x7_2 : List Int) (x61_2 : Int), v61 = .int .i64 x61_2 ∧ Aside0 (dns_UnpackDomainName.l1 kq l0 ji22 x7_2 x8_1 (l0.length : Int) (wrap64 (x10_1 - (wrap64 ((wrap64 (rd l0 x1_1)) + 1)))) x11_1 (wrap64 (rd l0 x1_1)) LL26 (LL26.length : Int) x61_2 = some (r1, r2, r3)) ∧ Aside0 (kq ≤ k1) ∧ Aside0 (Kd.R (Kd.int .u8) 5 w' w.heap.size (fun _ => True) v7 x7_2) ∧ Aside0 (Below w.heap.size w w'))
                            case atStart => exact ⟨(x7_1), (0), (by first | rfl | (simp; done) | (simp [*]; done) | (simp [wrap64]; done)), H', ⟨Nat.le_refl _⟩, ⟨by (with_reducible repeat (first | apply Kd.R_alloc | apply Kd.R_drewN | apply Kd.R_drew)); exact HO_7.out⟩, ⟨by repeat (first | (with_reducible first | exact HB.out | apply below_alloc | apply pw_below_drewN | apply below_drew1) | exact HB.out)⟩⟩
                            case round =>
                              clear H'
                              try clear c1
                              try clear hcv1
                              try clear c2
                              try clear p2
                              try clear q2
                              try clear hx2
                              try clear c3
                              try clear c3b0
                              try clear c3b1
                              try clear c4
                              try clear c6
                              try clear c6b0
                              try clear p6
                              try clear c7
                              try clear c7b0
                              try clear c8
                              try clear c8b0
                              try clear c9
                              try clear c9b0
                              try clear c9b1
                              try clear c10
                              try clear c10b0
                              try clear c10b1
                              try clear c11
                              try clear c11b0
                              try clear c11b1
                              try clear c12
                              try clear c12b0
                              try clear c12b1
                              try clear c12b2
                              try clear hcv15
                              try clear c16
                              try clear c16b0
                              try clear c16b1
                              try clear c16b2
                              try clear hcv19
                              try clear c20
                              try clear c20b0
                              try clear c21
                              try clear c21b0
                              try clear c23
                              try clear c23b0
                              try clear c23b1
                              try clear p23
                              try clear q23
                              try clear hx23
                              try clear c24
                              try clear c24b0
                              try clear c24b1
                              try clear c25
                              try clear c25b0
                              try clear c25b1
                              try clear hx235_0
                              try clear p2
                              try clear p235
                              try clear q235
                              obtain ⟨x7_2, x61_2, rfl, HA, HK2, HO_7, HB⟩ := hrel
                              cases gk with
                              | zero => exact absurd HA.out (by simp [dns_UnpackDomainName.l1])
                              | succ k2 =>
                                have H := HA.out
                                clear HA
                                simp only [dns_UnpackDomainName.l1] at H
                                by_cases c27 : x61_2 < (LL26.length : Int)
                                · rw [if_pos c27] at H
                                  have c27b0 : decide (x61_2 < (LL26.length : Int)) = true := decide_eq_true c27
                                  clear c27
                                  by_cases c28 : 0 ≤ x61_2
                                  · rw [if_pos c28] at H
                                    have c28b0 : decide (0 ≤ x61_2) = true := decide_eq_true c28
                                    clear c28
                                    by_cases c29 : x61_2 < (LL26.length : Int)
                                    · rw [if_pos c29] at H
                                      have c29b0 : decide (x61_2 < (LL26.length : Int)) = true := decide_eq_true c29
                                      clear c29
                                      replace H := Option.bind_eq_some_iff.mp H
                                      obtain ⟨t241, A300, H⟩ := H
                                      replace H : (if t241 = true then ((some (([92, rd LL26 x61_2] : List Int) : List Int)).bind fun y242 => (if x7_2.length + y242.length < 140737488355328 then (dns_UnpackDomainName.l1 k2 l0 ji22 (x7_2 ++ y242) x8_1 (l0.length : Int) (wrap64 (x10_1 - (wrap64 ((wrap64 (rd l0 x1_1)) + 1)))) x11_1 (wrap64 (rd l0 x1_1)) LL26 (LL26.length : Int) (wrap64 (x61_2 + 1))) else (none))) else (if (rd LL26 x61_2) < 32 then ((dns_escapeByte.f (rd LL26 x61_2)).bind fun t248 => (if x7_2.length + t248.size < 140737488355328 then (dns_UnpackDomainName.l1 k2 l0 ji22 (x7_2 ++ bytesOf t248) x8_1 (l0.length : Int) (wrap64 (x10_1 - (wrap64 ((wrap64 (rd l0 x1_1)) + 1)))) x11_1 (wrap64 (rd l0 x1_1)) LL26 (LL26.length : Int) (wrap64 (x61_2 + 1))) else (none))) else (if (rd LL26 x61_2) > 126 then ((dns_escapeByte.f (rd LL26 x61_2)).bind fun t252 => (if x7_2.length + t252.size < 140737488355328 then (dns_UnpackDomainName.l1 k2 l0 ji22 (x7_2 ++ bytesOf t252) x8_1 (l0.length : Int) (wrap64 (x10_1 - (wrap64 ((wrap64 (rd l0 x1_1)) + 1)))) x11_1 (wrap64 (rd l0 x1_1)) LL26 (LL26.length : Int) (wrap64 (x61_2 + 1))) else (none))) else (if x7_2.length < 140737488355328 then (dns_UnpackDomainName.l1 k2 l0 ji22 (x7_2 ++ [rd LL26 x61_2]) x8_1 (l0.length : Int) (wrap64 (x10_1 - (wrap64 ((wrap64 (rd l0 x1_1)) + 1)))) x11_1 (wrap64 (rd l0 x1_1)) LL26 (LL26.length : Int) (wrap64 (x61_2 + 1))) else (none))))) = some (r1, r2, r3) := H
                                      have A30 := Aside0.mk A300
                                      clear A300
                                      by_cases c31 : t241 = true
                                      · subst c31
                                        have H1 : ((some (([92, rd LL26 x61_2] : List Int) : List Int)).bind fun y242 => (if x7_2.length + y242.length < 140737488355328 then (dns_UnpackDomainName.l1 k2 l0 ji22 (x7_2 ++ y242) x8_1 (l0.length : Int) (wrap64 (x10_1 - (wrap64 ((wrap64 (rd l0 x1_1)) + 1)))) x11_1 (wrap64 (rd l0 x1_1)) LL26 (LL26.length : Int) (wrap64 (x61_2 + 1))) else (none))) = some (r1, r2, r3) := by rw [if_pos rfl] at H; exact H
                                        clear H
                                        have H := H1
                                        clear H1
                                        obtain ⟨y242, hy242⟩ : ∃ y_ : List Int, y_ = (([92, rd LL26 x61_2] : List Int)) := ⟨_, rfl⟩
                                        replace H : (if x7_2.length + y242.length < 140737488355328 then (dns_UnpackDomainName.l1 k2 l0 ji22 (x7_2 ++ y242) x8_1 (l0.length : Int) (wrap64 (x10_1 - (wrap64 ((wrap64 (rd l0 x1_1)) + 1)))) x11_1 (wrap64 (rd l0 x1_1)) LL26 (LL26.length : Int) (wrap64 (x61_2 + 1))) else (none)) = some (r1, r2, r3) := by first | (rw [hy242]; with_reducible exact H) | (have H2_ := (Option.bind_some _ _).symm.trans H; rw [hy242]; with_reducible exact H2_) | (have H2_ := (Option.bind_some _ _).symm.trans H; with_reducible exact H2_) | with_reducible exact H | (rw [hy242]; exact H) | exact H
                                        have Ny242 := Aside0.mk hy242
                                        clear hy242
                                        by_cases c32 : x7_2.length + y242.length < 140737488355328
                                        · rw [if_pos c32] at H
                                          have LMc32 := Aside0.mk c32
                                          clear c32
                                          obtain ⟨y245, hy245⟩ : ∃ y_ : List Int, y_ = (x7_2 ++ y242) := ⟨_, rfl⟩
                                          replace H : (dns_UnpackDomainName.l1 k2 l0 ji22 y245 x8_1 (l0.length : Int) (wrap64 (x10_1 - (wrap64 ((wrap64 (rd l0 x1_1)) + 1)))) x11_1 (wrap64 (rd l0 x1_1)) LL26 (LL26.length : Int) (wrap64 (x61_2 + 1))) = some (r1, r2, r3) := by first | (rw [hy245]; with_reducible exact H) | (have H2_ := (Option.bind_some _ _).symm.trans H; rw [hy245]; with_reducible exact H2_) | (have H2_ := (Option.bind_some _ _).symm.trans H; with_reducible exact H2_) | with_reducible exact H | (rw [hy245]; exact H) | exact H
                                          have Ny245 := Aside0.mk hy245
                                          clear hy245
                                          have H' := Aside0.mk H
                                          clear H
                                          have p240 : 0 ≤ (x61_2 : Int) := of_decide_eq_true (by first | (with_reducible assumption) | assumption)
                                          have q240 : x61_2 < (LL26.length : Int) := of_decide_eq_true (by first | (with_reducible assumption) | assumption)
                                          obtain ⟨ad240, e240, hx240_0⟩ := Kd.at_int HR236.out x61_2 p240 q240
                                          cases e240
                                          replace hx240_0 := (HB.out.cell (World.block_lt_of_cell? w _ hx240_0)).trans hx240_0
                                          replace p240 := eq_true p240
                                          replace q240 := eq_true q240
                                          go_wp2_with (first | (go_at_call 74; (with_reducible refine (dns_isDomainNameLabelSpecial.calls (rd LL26 x61_2) true _ A30.out).mono ?_); rintro e w' ⟨rfl, ⟨nd, rfl⟩⟩; (try first | exact ⟨rfl, _, World.drewN_drewN _ _ _⟩ | exact ⟨rfl, _, Eq.trans (World.drewN_drewN _ _ _) (congrArg (World.drewN _) (Nat.add_assoc _ _ _))⟩)) | ((with_reducible refine gate_dst (N := 69) rfl ?_); refine Kd.R_lit (Kd.int .u8) _ 5 ?hg (N := 69) ?hd (xs := ([92, rd LL26 x61_2] : List Int)) (inner := [.int .u8 92, .int .u8 (rd LL26 x61_2)]) (ok := fun _ => True) (okp := fun _ => True) ?hr ?hp (fun _ hk => hk) trivial (Below.refl _ _) (Nat.le_refl _) (by simp) ?_; (case hd => rfl); (case hg => rfl); (case hr => first | (go_simp; done) | (go_simp; rfl)); (case hp => exact (Reps.one (show Kd.M (Kd.int .u8) _ _ _ 92 [.int .u8 92] from rfl) (Reps.one (show Kd.M (Kd.int .u8) _ _ _ (rd LL26 x61_2) [.int .u8 (rd LL26 x61_2)] from rfl) (Reps.none _ _)))); intro v243 w33 ho34 hb hg_ hnew_; clear hg_ hnew_; (first | rw [← Ny242.out] at ho34 | (simp only [Int.reduceToNat] at ho34; rw [← Ny242.out] at ho34)); have n0_ := Aside0.mk (Kd.R_elder' (by (with_reducible repeat (first | apply Kd.R_alloc | apply Kd.R_drewN | apply Kd.R_drew)); exact HO_7.out) (Kd.R_base ho34) hb); have n1_ := Aside0.mk (Kd.R_lower (Kd.R_new' ho34 (Kd.R_lt (by (with_reducible repeat (first | apply Kd.R_alloc | apply Kd.R_drewN | apply Kd.R_drew)); exact HO_7.out))) (below_size (by repeat (first | (with_reducible first | exact HB.out | apply below_alloc | apply pw_below_drewN | apply below_drew1) | exact HB.out)))); have n2_ := Aside0.mk (below_step (by repeat (first | (with_reducible first | exact HB.out | apply below_alloc | apply pw_below_drewN | apply below_drew1) | exact HB.out)) hb); clear HO_7; clear HB; have HO_7 := n0_; have HO244 := n1_; have HB := n2_; clear n0_ n1_ n2_; clear hb ho34; obtain ⟨Ao36, co36, eo36⟩ := Kd.R_slice HO244.out; subst eo36) | ((with_reducible refine gate_builtin (b := .append) (xs := #[.tmp 67, .tmp 69]) rfl ?_); at_builtin; refine Kd.R_append_rows (Kd.int .u8) (w0 := w) w.heap.size rfl (.tmp 67) (.tmp 69) 22 5 (.int .u8 0) 1 rfl Tryd.underlying22 info5 rfl (by decide) (by omega) u7 x7_2 y242 _ _ _ (fun k_ => some k_ ≠ (.slice Ao36 y242.length co36 : Value).ownBlock) (fun _ => False) rfl rfl ?aO ?aR (fun _ _ h => h) (fun _ h => h.elim) ?aF ?aB ?aS ?aL ?_; (case aR => repeat (first | exact (Kd.R_reads' HO244.out).2.2 | (with_reducible refine Kd.C_alloc ?_ _) | (with_reducible refine Kd.C_drewN ?_ _) | (with_reducible refine Kd.C_drew ?_))); (case aB => exact (by repeat (first | (with_reducible first | exact HB.out | apply below_alloc | apply pw_below_drewN | apply below_drew1) | exact HB.out))); (case aF => exact (fun k_ hk => Kd.fresh' (Kd.R_lt (by (with_reducible repeat (first | apply Kd.R_alloc | apply Kd.R_drewN | apply Kd.R_drew)); exact HO244.out)) k_ hk)); (case aO => exact (by (with_reducible repeat (first | apply Kd.R_alloc | apply Kd.R_drewN | apply Kd.R_drew)); exact Kd.R_mono HO_7.out (fun _ hk => hk.2))); (case aS => exact (below_size (by repeat (first | (with_reducible first | exact HB.out | apply below_alloc | apply pw_below_drewN | apply below_drew1) | exact HB.out)))); (case aL => have := LMc32.out; omega); intro v246 w35 ho hb hg hat; rw [← Ny245.out] at ho; have n0_ := Aside0.mk (Kd.R_after (ok := (fun _ => True)) (by (with_reducible repeat (first | apply Kd.R_alloc | apply Kd.R_drewN | apply Kd.R_drew)); exact HO244.out) hg hat); have n1_ := Aside0.mk (hb); have n2_ := Aside0.mk (ho); clear HO244; clear HB; clear HO_7; have HO244 := n0_; have HB := n1_; have HO247 := n2_; clear n0_ n1_ n2_; clear ho hb hg hat))
                                          repeat (go_quiet (first | (go_at_call 74; (with_reducible refine (dns_isDomainNameLabelSpecial.calls (rd LL26 x61_2) true _ A30.out).mono ?_); rintro e w' ⟨rfl, ⟨nd, rfl⟩⟩; (try first | exact ⟨rfl, _, World.drewN_drewN _ _ _⟩ | exact ⟨rfl, _, Eq.trans (World.drewN_drewN _ _ _) (congrArg (World.drewN _) (Nat.add_assoc _ _ _))⟩)) | ((with_reducible refine gate_dst (N := 69) rfl ?_); refine Kd.R_lit (Kd.int .u8) _ 5 ?hg (N := 69) ?hd (xs := ([92, rd LL26 x61_2] : List Int)) (inner := [.int .u8 92, .int .u8 (rd LL26 x61_2)]) (ok := fun _ => True) (okp := fun _ => True) ?hr ?hp (fun _ hk => hk) trivial (Below.refl _ _) (Nat.le_refl _) (by simp) ?_; (case hd => rfl); (case hg => rfl); (case hr => first | (go_simp; done) | (go_simp; rfl)); (case hp => exact (Reps.one (show Kd.M (Kd.int .u8) _ _ _ 92 [.int .u8 92] from rfl) (Reps.one (show Kd.M (Kd.int .u8) _ _ _ (rd LL26 x61_2) [.int .u8 (rd LL26 x61_2)] from rfl) (Reps.none _ _)))); intro v243 w33 ho34 hb hg_ hnew_; clear hg_ hnew_; (first | rw [← Ny242.out] at ho34 | (simp only [Int.reduceToNat] at ho34; rw [← Ny242.out] at ho34)); have n0_ := Aside0.mk (Kd.R_elder' (by (with_reducible repeat (first | apply Kd.R_alloc | apply Kd.R_drewN | apply Kd.R_drew)); exact HO_7.out) (Kd.R_base ho34) hb); have n1_ := Aside0.mk (Kd.R_lower (Kd.R_new' ho34 (Kd.R_lt (by (with_reducible repeat (first | apply Kd.R_alloc | apply Kd.R_drewN | apply Kd.R_drew)); exact HO_7.out))) (below_size (by repeat (first | (with_reducible first | exact HB.out | apply below_alloc | apply pw_below_drewN | apply below_drew1) | exact HB.out)))); have n2_ := Aside0.mk (below_step (by repeat (first | (with_reducible first | exact HB.out | apply below_alloc | apply pw_below_drewN | apply below_drew1) | exact HB.out)) hb); clear HO_7; clear HB; have HO_7 := n0_; have HO244 := n1_; have HB := n2_; clear n0_ n1_ n2_; clear hb ho34; obtain ⟨Ao36, co36, eo36⟩ := Kd.R_slice HO244.out; subst eo36) | ((with_reducible refine gate_builtin (b := .append) (xs := #[.tmp 67, .tmp 69]) rfl ?_); at_builtin; refine Kd.R_append_rows (Kd.int .u8) (w0 := w) w.heap.size rfl (.tmp 67) (.tmp 69) 22 5 (.int .u8 0) 1 rfl Tryd.underlying22 info5 rfl (by decide) (by omega) u7 x7_2 y242 _ _ _ (fun k_ => some k_ ≠ (.slice Ao36 y242.length co36 : Value).ownBlock) (fun _ => False) rfl rfl ?aO ?aR (fun _ _ h => h) (fun _ h => h.elim) ?aF ?aB ?aS ?aL ?_; (case aR => repeat (first | exact (Kd.R_reads' HO244.out).2.2 | (with_reducible refine Kd.C_alloc ?_ _) | (with_reducible refine Kd.C_drewN ?_ _) | (with_reducible refine Kd.C_drew ?_))); (case aB => exact (by repeat (first | (with_reducible first | exact HB.out | apply below_alloc | apply pw_below_drewN | apply below_drew1) | exact HB.out))); (case aF => exact (fun k_ hk => Kd.fresh' (Kd.R_lt (by (with_reducible repeat (first | apply Kd.R_alloc | apply Kd.R_drewN | apply Kd.R_drew)); exact HO244.out)) k_ hk)); (case aO => exact (by (with_reducible repeat (first | apply Kd.R_alloc | apply Kd.R_drewN | apply Kd.R_drew)); exact Kd.R_mono HO_7.out (fun _ hk => hk.2))); (case aS => exact (below_size (by repeat (first | (with_reducible first | exact HB.out | apply below_alloc | apply pw_below_drewN | apply below_drew1) | exact HB.out)))); (case aL => have := LMc32.out; omega); intro v246 w35 ho hb hg hat; rw [← Ny245.out] at ho; have n0_ := Aside0.mk (Kd.R_after (ok := (fun _ => True)) (by (with_reducible repeat (first | apply Kd.R_alloc | apply Kd.R_drewN | apply Kd.R_drew)); exact HO244.out) hg hat); have n1_ := Aside0.mk (hb); have n2_ := Aside0.mk (ho); clear HO244; clear HB; clear HO_7; have HO244 := n0_; have HB := n1_; have HO247 := n2_; clear n0_ n1_ n2_; clear ho hb hg hat)); try go_wp2_with (first | (go_at_call 74; (with_reducible refine (dns_isDomainNameLabelSpecial.calls (rd LL26 x61_2) true _ A30.out).mono ?_); rintro e w' ⟨rfl, ⟨nd, rfl⟩⟩; (try first | exact ⟨rfl, _, World.drewN_drewN _ _ _⟩ | exact ⟨rfl, _, Eq.trans (World.drewN_drewN _ _ _) (congrArg (World.drewN _) (Nat.add_assoc _ _ _))⟩)) | ((with_reducible refine gate_dst (N := 69) rfl ?_); refine Kd.R_lit (Kd.int .u8) _ 5 ?hg (N := 69) ?hd (xs := ([92, rd LL26 x61_2] : List Int)) (inner := [.int .u8 92, .int .u8 (rd LL26 x61_2)]) (ok := fun _ => True) (okp := fun _ => True) ?hr ?hp (fun _ hk => hk) trivial (Below.refl _ _) (Nat.le_refl _) (by simp) ?_; (case hd => rfl); (case hg => rfl); (case hr => first | (go_simp; done) | (go_simp; rfl)); (case hp => exact (Reps.one (show Kd.M (Kd.int .u8) _ _ _ 92 [.int .u8 92] from rfl) (Reps.one (show Kd.M (Kd.int .u8) _ _ _ (rd LL26 x61_2) [.int .u8 (rd LL26 x61_2)] from rfl) (Reps.none _ _)))); intro v243 w33 ho34 hb hg_ hnew_; clear hg_ hnew_; (first | rw [← Ny242.out] at ho34 | (simp only [Int.reduceToNat] at ho34; rw [← Ny242.out] at ho34)); have n0_ := Aside0.mk (Kd.R_elder' (by (with_reducible repeat (first | apply Kd.R_alloc | apply Kd.R_drewN | apply Kd.R_drew)); exact HO_7.out) (Kd.R_base ho34) hb); have n1_ := Aside0.mk (Kd.R_lower (Kd.R_new' ho34 (Kd.R_lt (by (with_reducible repeat (first | apply Kd.R_alloc | apply Kd.R_drewN | apply Kd.R_drew)); exact HO_7.out))) (below_size (by repeat (first | (with_reducible first | exact HB.out | apply below_alloc | apply pw_below_drewN | apply below_drew1) | exact HB.out)))); have n2_ := Aside0.mk (below_step (by repeat (first | (with_reducible first | exact HB.out | apply below_alloc | apply pw_below_drewN | apply below_drew1) | exact HB.out)) hb); clear HO_7; clear HB; have HO_7 := n0_; have HO244 := n1_; have HB := n2_; clear n0_ n1_ n2_; clear hb ho34; obtain ⟨Ao36, co36, eo36⟩ := Kd.R_slice HO244.out; subst eo36) | ((with_reducible refine gate_builtin (b := .append) (xs := #[.tmp 67, .tmp 69]) rfl ?_); at_builtin; refine Kd.R_append_rows (Kd.int .u8) (w0 := w) w.heap.size rfl (.tmp 67) (.tmp 69) 22 5 (.int .u8 0) 1 rfl Tryd.underlying22 info5 rfl (by decide) (by omega) u7 x7_2 y242 _ _ _ (fun k_ => some k_ ≠ (.slice Ao36 y242.length co36 : Value).ownBlock) (fun _ => False) rfl rfl ?aO ?aR (fun _ _ h => h) (fun _ h => h.elim) ?aF ?aB ?aS ?aL ?_; (case aR => repeat (first | exact (Kd.R_reads' HO244.out).2.2 | (with_reducible refine Kd.C_alloc ?_ _) | (with_reducible refine Kd.C_drewN ?_ _) | (with_reducible refine Kd.C_drew ?_))); (case aB => exact (by repeat (first | (with_reducible first | exact HB.out | apply below_alloc | apply pw_below_drewN | apply below_drew1) | exact HB.out))); (case aF => exact (fun k_ hk => Kd.fresh' (Kd.R_lt (by (with_reducible repeat (first | apply Kd.R_alloc | apply Kd.R_drewN | apply Kd.R_drew)); exact HO244.out)) k_ hk)); (case aO => exact (by (with_reducible repeat (first | apply Kd.R_alloc | apply Kd.R_drewN | apply Kd.R_drew)); exact Kd.R_mono HO_7.out (fun _ hk => hk.2))); (case aS => exact (below_size (by repeat (first | (with_reducible first | exact HB.out | apply below_alloc | apply pw_below_drewN | apply below_drew1) | exact HB.out)))); (case aL => have := LMc32.out; omega); intro v246 w35 ho hb hg hat; rw [← Ny245.out] at ho; have n0_ := Aside0.mk (Kd.R_after (ok := (fun _ => True)) (by (with_reducible repeat (first | apply Kd.R_alloc | apply Kd.R_drewN | apply Kd.R_drew)); exact HO244.out) hg hat); have n1_ := Aside0.mk (hb); have n2_ := Aside0.mk (ho); clear HO244; clear HB; clear HO_7; have HO244 := n0_; have HB := n1_; have HO247 := n2_; clear n0_ n1_ n2_; clear ho hb hg hat)))
                                          go_roundg k2
                                          case measure => have := HK1.out; have := HK2.out; omega
                                          case rel => exact ⟨(y245), (wrap64 (x61_2 + 1)), (by first | rfl | (simp; done) | (simp [*]; done) | (simp [wrap64]; done)), H', ⟨by have := HK1.out; have := HK2.out; omega⟩, ⟨by (with_reducible repeat (first | apply Kd.R_alloc | apply Kd.R_drewN | apply Kd.R_drew)); exact Kd.R_mono HO247.out (fun _ hk => trivial)⟩, ⟨by repeat (first | (with_reducible first | exact HB.out | apply below_alloc | apply pw_below_drewN | apply below_drew1) | exact HB.out)⟩⟩
                                        · rw [if_neg c32] at H
                                          exact absurd H (by simp)
                                      · replace c31 := Bool.eq_false_iff.mpr c31
                                        subst c31
                                        have H1 : (if (rd LL26 x61_2) < 32 then ((dns_escapeByte.f (rd LL26 x61_2)).bind fun t248 => (if x7_2.length + t248.size < 140737488355328 then (dns_UnpackDomainName.l1 k2 l0 ji22 (x7_2 ++ bytesOf t248) x8_1 (l0.length : Int) (wrap64 (x10_1 - (wrap64 ((wrap64 (rd l0 x1_1)) + 1)))) x11_1 (wrap64 (rd l0 x1_1)) LL26 (LL26.length : Int) (wrap64 (x61_2 + 1))) else (none))) else (if (rd LL26 x61_2) > 126 then ((dns_escapeByte.f (rd LL26 x61_2)).bind fun t252 => (if x7_2.length + t252.size < 140737488355328 then (dns_UnpackDomainName.l1 k2 l0 ji22 (x7_2 ++ bytesOf t252) x8_1 (l0.length : Int) (wrap64 (x10_1 - (wrap64 ((wrap64 (rd l0 x1_1)) + 1)))) x11_1 (wrap64 (rd l0 x1_1)) LL26 (LL26.length : Int) (wrap64 (x61_2 + 1))) else (none))) else (if x7_2.length < 140737488355328 then (dns_UnpackDomainName.l1 k2 l0 ji22 (x7_2 ++ [rd LL26 x61_2]) x8_1 (l0.length : Int) (wrap64 (x10_1 - (wrap64 ((wrap64 (rd l0 x1_1)) + 1)))) x11_1 (wrap64 (rd l0 x1_1)) LL26 (LL26.length : Int) (wrap64 (x61_2 + 1))) else (none)))) = some (r1, r2, r3) := by rw [if_neg (show ¬ (false = true) by decide)] at H; exact H
                                        clear H
                                        have H := H1
                                        clear H1
                                        by_cases c37 : (rd LL26 x61_2) < 32
                                        · rw [if_pos c37] at H
                                          have c37b0 : decide ((rd LL26 x61_2) < 32) = true := decide_eq_true c37
                                          clear c37
                                          replace H := Option.bind_eq_some_iff.mp H
                                          obtain ⟨t248, A380, H⟩ := H
                                          replace H : (if x7_2.length + t248.size < 140737488355328 then (dns_UnpackDomainName.l1 k2 l0 ji22 (x7_2 ++ bytesOf t248) x8_1 (l0.length : Int) (wrap64 (x10_1 - (wrap64 ((wrap64 (rd l0 x1_1)) + 1)))) x11_1 (wrap64 (rd l0 x1_1)) LL26 (LL26.length : Int) (wrap64 (x61_2 + 1))) else (none)) = some (r1, r2, r3) := H
                                          have A38 := Aside0.mk A380
                                          clear A380
                                          by_cases c39 : x7_2.length + t248.size < 140737488355328
                                          · rw [if_pos c39] at H
                                            have LMc39 := Aside0.mk c39
                                            clear c39
                                            obtain ⟨y249, hy249⟩ : ∃ y_ : List Int, y_ = (x7_2 ++ bytesOf t248) := ⟨_, rfl⟩
                                            replace H : (dns_UnpackDomainName.l1 k2 l0 ji22 y249 x8_1 (l0.length : Int) (wrap64 (x10_1 - (wrap64 ((wrap64 (rd l0 x1_1)) + 1)))) x11_1 (wrap64 (rd l0 x1_1)) LL26 (LL26.length : Int) (wrap64 (x61_2 + 1))) = some (r1, r2, r3) := by first | (rw [hy249]; with_reducible exact H) | (have H2_ := (Option.bind_some _ _).symm.trans H; rw [hy249]; with_reducible exact H2_) | (have H2_ := (Option.bind_some _ _).symm.trans H; with_reducible exact H2_) | with_reducible exact H | (rw [hy249]; exact H) | exact H
                                            have Ny249 := Aside0.mk hy249
                                            clear hy249
                                            have H' := Aside0.mk H
                                            clear H
                                            have p240 : 0 ≤ (x61_2 : Int) := of_decide_eq_true (by first | (with_reducible assumption) | assumption)
                                            have q240 : x61_2 < (LL26.length : Int) := of_decide_eq_true (by first | (with_reducible assumption) | assumption)
                                            obtain ⟨ad240, e240, hx240_0⟩ := Kd.at_int HR236.out x61_2 p240 q240
                                            cases e240
                                            replace hx240_0 := (HB.out.cell (World.block_lt_of_cell? w _ hx240_0)).trans hx240_0
                                            replace p240 := eq_true p240
                                            replace q240 := eq_true q240
                                            go_wp2_with (first | (go_at_call 74; (with_reducible refine (dns_isDomainNameLabelSpecial.calls (rd LL26 x61_2) false _ A30.out).mono ?_); rintro e w' ⟨rfl, ⟨nd, rfl⟩⟩; (try first | exact ⟨rfl, _, World.drewN_drewN _ _ _⟩ | exact ⟨rfl, _, Eq.trans (World.drewN_drewN _ _ _) (congrArg (World.drewN _) (Nat.add_assoc _ _ _))⟩)) | (go_at_call 75; (with_reducible refine (dns_escapeByte.calls (rd LL26 x61_2) t248 _ A38.out).mono ?_); rintro e w' ⟨rfl, ⟨nd, rfl⟩⟩; (try first | exact ⟨rfl, _, World.drewN_drewN _ _ _⟩ | exact ⟨rfl, _, Eq.trans (World.drewN_drewN _ _ _) (congrArg (World.drewN _) (Nat.add_assoc _ _ _))⟩)) | (at_builtin; refine print_append_str (w0 := w) w.heap.size rfl (.tmp 77) _ 22 9 5 rfl Tryd.underlying22 Tryd.underlying9 info5 u7 x7_2 t248 rfl rfl ?aO ?aB ?aS ?aL ?_; (case aB => exact (by repeat (first | (with_reducible first | exact HB.out | apply below_alloc | apply pw_below_drewN | apply below_drew1) | exact HB.out))); (case aO => exact (Kd.own_of_R (by (with_reducible repeat (first | apply Kd.R_alloc | apply Kd.R_drewN | apply Kd.R_drew)); exact HO_7.out))); (case aS => exact (below_size (by repeat (first | (with_reducible first | exact HB.out | apply below_alloc | apply pw_below_drewN | apply below_drew1) | exact HB.out)))); (case aL => have := LMc39.out; omega); intro v250 w40 ho0 hb hg; have ho := Kd.R_of_own (h1 := fun _ => rfl) (ok := fun _ => True) ho0 (fun _ _ => trivial); clear ho0; have hat := True.intro; rw [← Ny249.out] at ho; change Kd.R (Kd.int .u8) 5 w40 w.heap.size (fun _ => True) v250 y249 at ho; have n0_ := Aside0.mk (hb); have n1_ := Aside0.mk (ho); clear HB; clear HO_7; have HB := n0_; have HO251 := n1_; clear n0_ n1_; clear ho hb hg hat))
                                            repeat (go_quiet (first | (go_at_call 74; (with_reducible refine (dns_isDomainNameLabelSpecial.calls (rd LL26 x61_2) false _ A30.out).mono ?_); rintro e w' ⟨rfl, ⟨nd, rfl⟩⟩; (try first | exact ⟨rfl, _, World.drewN_drewN _ _ _⟩ | exact ⟨rfl, _, Eq.trans (World.drewN_drewN _ _ _) (congrArg (World.drewN _) (Nat.add_assoc _ _ _))⟩)) | (go_at_call 75; (with_reducible refine (dns_escapeByte.calls (rd LL26 x61_2) t248 _ A38.out).mono ?_); rintro e w' ⟨rfl, ⟨nd, rfl⟩⟩; (try first | exact ⟨rfl, _, World.drewN_drewN _ _ _⟩ | exact ⟨rfl, _, Eq.trans (World.drewN_drewN _ _ _) (congrArg (World.drewN _) (Nat.add_assoc _ _ _))⟩)) | (at_builtin; refine print_append_str (w0 := w) w.heap.size rfl (.tmp 77) _ 22 9 5 rfl Tryd.underlying22 Tryd.underlying9 info5 u7 x7_2 t248 rfl rfl ?aO ?aB ?aS ?aL ?_; (case aB => exact (by repeat (first | (with_reducible first | exact HB.out | apply below_alloc | apply pw_below_drewN | apply below_drew1) | exact HB.out))); (case aO => exact (Kd.own_of_R (by (with_reducible repeat (first | apply Kd.R_alloc | apply Kd.R_drewN | apply Kd.R_drew)); exact HO_7.out))); (case aS => exact (below_size (by repeat (first | (with_reducible first | exact HB.out | apply below_alloc | apply pw_below_drewN | apply below_drew1) | exact HB.out)))); (case aL => have := LMc39.out; omega); intro v250 w40 ho0 hb hg; have ho := Kd.R_of_own (h1 := fun _ => rfl) (ok := fun _ => True) ho0 (fun _ _ => trivial); clear ho0; have hat := True.intro; rw [← Ny249.out] at ho; change Kd.R (Kd.int .u8) 5 w40 w.heap.size (fun _ => True) v250 y249 at ho; have n0_ := Aside0.mk (hb); have n1_ := Aside0.mk (ho); clear HB; clear HO_7; have HB := n0_; have HO251 := n1_; clear n0_ n1_; clear ho hb hg hat)); try go_wp2_with (first | (go_at_call 74; (with_reducible refine (dns_isDomainNameLabelSpecial.calls (rd LL26 x61_2) false _ A30.out).mono ?_); rintro e w' ⟨rfl, ⟨nd, rfl⟩⟩; (try first | exact ⟨rfl, _, World.drewN_drewN _ _ _⟩ | exact ⟨rfl, _, Eq.trans (World.drewN_drewN _ _ _) (congrArg (World.drewN _) (Nat.add_assoc _ _ _))⟩)) | (go_at_call 75; (with_reducible refine (dns_escapeByte.calls (rd LL26 x61_2) t248 _ A38.out).mono ?_); rintro e w' ⟨rfl, ⟨nd, rfl⟩⟩; (try first | exact ⟨rfl, _, World.drewN_drewN _ _ _⟩ | exact ⟨rfl, _, Eq.trans (World.drewN_drewN _ _ _) (congrArg (World.drewN _) (Nat.add_assoc _ _ _))⟩)) | (at_builtin; refine print_append_str (w0 := w) w.heap.size rfl (.tmp 77) _ 22 9 5 rfl Tryd.underlying22 Tryd.underlying9 info5 u7 x7_2 t248 rfl rfl ?aO ?aB ?aS ?aL ?_; (case aB => exact (by repeat (first | (with_reducible first | exact HB.out | apply below_alloc | apply pw_below_drewN | apply below_drew1) | exact HB.out))); (case aO => exact (Kd.own_of_R (by (with_reducible repeat (first | apply Kd.R_alloc | apply Kd.R_drewN | apply Kd.R_drew)); exact HO_7.out))); (case aS => exact (below_size (by repeat (first | (with_reducible first | exact HB.out | apply below_alloc | apply pw_below_drewN | apply below_drew1) | exact HB.out)))); (case aL => have := LMc39.out; omega); intro v250 w40 ho0 hb hg; have ho := Kd.R_of_own (h1 := fun _ => rfl) (ok := fun _ => True) ho0 (fun _ _ => trivial); clear ho0; have hat := True.intro; rw [← Ny249.out] at ho; change Kd.R (Kd.int .u8) 5 w40 w.heap.size (fun _ => True) v250 y249 at ho; have n0_ := Aside0.mk (hb); have n1_ := Aside0.mk (ho); clear HB; clear HO_7; have HB := n0_; have HO251 := n1_; clear n0_ n1_; clear ho hb hg hat)))
                                            go_roundg k2
                                            case measure => have := HK1.out; have := HK2.out; omega
                                            case rel => exact ⟨(y249), (wrap64 (x61_2 + 1)), (by first | rfl | (simp; done) | (simp [*]; done) | (simp [wrap64]; done)), H', ⟨by have := HK1.out; have := HK2.out; omega⟩, ⟨by (with_reducible repeat (first | apply Kd.R_alloc | apply Kd.R_drewN | apply Kd.R_drew)); exact HO251.out⟩, ⟨by repeat (first | (with_reducible first | exact HB.out | apply below_alloc | apply pw_below_drewN | apply below_drew1) | exact HB.out)⟩⟩
                                          · rw [if_neg c39] at H
                                            exact absurd H (by simp)
                                        · rw [if_neg c37] at H
                                          have c37b0 : decide ((rd LL26 x61_2) < 32) = false := decide_eq_false c37
                                          clear c37
                                          by_cases c41 : (rd LL26 x61_2) > 126
                                          · rw [if_pos c41] at H
                                            have c41b0 : decide (126 < (rd LL26 x61_2)) = true := decide_eq_true c41
                                            clear c41
                                            replace H := Option.bind_eq_some_iff.mp H
                                            obtain ⟨t252, A420, H⟩ := H
                                            replace H : (if x7_2.length + t252.size < 140737488355328 then (dns_UnpackDomainName.l1 k2 l0 ji22 (x7_2 ++ bytesOf t252) x8_1 (l0.length : Int) (wrap64 (x10_1 - (wrap64 ((wrap64 (rd l0 x1_1)) + 1)))) x11_1 (wrap64 (rd l0 x1_1)) LL26 (LL26.length : Int) (wrap64 (x61_2 + 1))) else (none)) = some (r1, r2, r3) := H
                                            have A42 := Aside0.mk A420
                                            clear A420
                                            by_cases c43 : x7_2.length + t252.size < 140737488355328
                                            · rw [if_pos c43] at H
                                              have LMc43 := Aside0.mk c43
                                              clear c43
                                              obtain ⟨y253, hy253⟩ : ∃ y_ : List Int, y_ = (x7_2 ++ bytesOf t252) := ⟨_, rfl⟩
                                              replace H : (dns_UnpackDomainName.l1 k2 l0 ji22 y253 x8_1 (l0.length : Int) (wrap64 (x10_1 - (wrap64 ((wrap64 (rd l0 x1_1)) + 1)))) x11_1 (wrap64 (rd l0 x1_1)) LL26 (LL26.length : Int) (wrap64 (x61_2 + 1))) = some (r1, r2, r3) := by first | (rw [hy253]; with_reducible exact H) | (have H2_ := (Option.bind_some _ _).symm.trans H; rw [hy253]; with_reducible exact H2_) | (have H2_ := (Option.bind_some _ _).symm.trans H; with_reducible exact H2_) | with_reducible exact H | (rw [hy253]; exact H) | exact H
                                              have Ny253 := Aside0.mk hy253
                                              clear hy253
                                              have H' := Aside0.mk H
                                              clear H
                                              have p240 : 0 ≤ (x61_2 : Int) := of_decide_eq_true (by first | (with_reducible assumption) | assumption)
                                              have q240 : x61_2 < (LL26.length : Int) := of_decide_eq_true (by first | (with_reducible assumption) | assumption)
                                              obtain ⟨ad240, e240, hx240_0⟩ := Kd.at_int HR236.out x61_2 p240 q240
                                              cases e240
                                              replace hx240_0 := (HB.out.cell (World.block_lt_of_cell? w _ hx240_0)).trans hx240_0
                                              replace p240 := eq_true p240
                                              replace q240 := eq_true q240
                                              go_wp2_with (first | (go_at_call 74; (with_reducible refine (dns_isDomainNameLabelSpecial.calls (rd LL26 x61_2) false _ A30.out).mono ?_); rintro e w' ⟨rfl, ⟨nd, rfl⟩⟩; (try first | exact ⟨rfl, _, World.drewN_drewN _ _ _⟩ | exact ⟨rfl, _, Eq.trans (World.drewN_drewN _ _ _) (congrArg (World.drewN _) (Nat.add_assoc _ _ _))⟩)) | (go_at_call 75; (with_reducible refine (dns_escapeByte.calls (rd LL26 x61_2) t252 _ A42.out).mono ?_); rintro e w' ⟨rfl, ⟨nd, rfl⟩⟩; (try first | exact ⟨rfl, _, World.drewN_drewN _ _ _⟩ | exact ⟨rfl, _, Eq.trans (World.drewN_drewN _ _ _) (congrArg (World.drewN _) (Nat.add_assoc _ _ _))⟩)) | (at_builtin; refine print_append_str (w0 := w) w.heap.size rfl (.tmp 77) _ 22 9 5 rfl Tryd.underlying22 Tryd.underlying9 info5 u7 x7_2 t252 rfl rfl ?aO ?aB ?aS ?aL ?_; (case aB => exact (by repeat (first | (with_reducible first | exact HB.out | apply below_alloc | apply pw_below_drewN | apply below_drew1) | exact HB.out))); (case aO => exact (Kd.own_of_R (by (with_reducible repeat (first | apply Kd.R_alloc | apply Kd.R_drewN | apply Kd.R_drew)); exact HO_7.out))); (case aS => exact (below_size (by repeat (first | (with_reducible first | exact HB.out | apply below_alloc | apply pw_below_drewN | apply below_drew1) | exact HB.out)))); (case aL => have := LMc43.out; omega); intro v254 w44 ho0 hb hg; have ho := Kd.R_of_own (h1 := fun _ => rfl) (ok := fun _ => True) ho0 (fun _ _ => trivial); clear ho0; have hat := True.intro; rw [← Ny253.out] at ho; change Kd.R (Kd.int .u8) 5 w44 w.heap.size (fun _ => True) v254 y253 at ho; have n0_ := Aside0.mk (hb); have n1_ := Aside0.mk (ho); clear HB; clear HO_7; have HB := n0_; have HO255 := n1_; clear n0_ n1_; clear ho hb hg hat))
                                              repeat (go_quiet (first | (go_at_call 74; (with_reducible refine (dns_isDomainNameLabelSpecial.calls (rd LL26 x61_2) false _ A30.out).mono ?_); rintro e w' ⟨rfl, ⟨nd, rfl⟩⟩; (try first | exact ⟨rfl, _, World.drewN_drewN _ _ _⟩ | exact ⟨rfl, _, Eq.trans (World.drewN_drewN _ _ _) (congrArg (World.drewN _) (Nat.add_assoc _ _ _))⟩)) | (go_at_call 75; (with_reducible refine (dns_escapeByte.calls (rd LL26 x61_2) t252 _ A42.out).mono ?_); rintro e w' ⟨rfl, ⟨nd, rfl⟩⟩; (try first | exact ⟨rfl, _, World.drewN_drewN _ _ _⟩ | exact ⟨rfl, _, Eq.trans (World.drewN_drewN _ _ _) (congrArg (World.drewN _) (Nat.add_assoc _ _ _))⟩)) | (at_builtin; refine print_append_str (w0 := w) w.heap.size rfl (.tmp 77) _ 22 9 5 rfl Tryd.underlying22 Tryd.underlying9 info5 u7 x7_2 t252 rfl rfl ?aO ?aB ?aS ?aL ?_; (case aB => exact (by repeat (first | (with_reducible first | exact HB.out | apply below_alloc | apply pw_below_drewN | apply below_drew1) | exact HB.out))); (case aO => exact (Kd.own_of_R (by (with_reducible repeat (first | apply Kd.R_alloc | apply Kd.R_drewN | apply Kd.R_drew)); exact HO_7.out))); (case aS => exact (below_size (by repeat (first | (with_reducible first | exact HB.out | apply below_alloc | apply pw_below_drewN | apply below_drew1) | exact HB.out)))); (case aL => have := LMc43.out; omega); intro v254 w44 ho0 hb hg; have ho := Kd.R_of_own (h1 := fun _ => rfl) (ok := fun _ => True) ho0 (fun _ _ => trivial); clear ho0; have hat := True.intro; rw [← Ny253.out] at ho; change Kd.R (Kd.int .u8) 5 w44 w.heap.size (fun _ => True) v254 y253 at ho; have n0_ := Aside0.mk (hb); have n1_ := Aside0.mk (ho); clear HB; clear HO_7; have HB := n0_; have HO255 := n1_; clear n0_ n1_; clear ho hb hg hat)); try go_wp2_with (first | (go_at_call 74; (with_reducible refine (dns_isDomainNameLabelSpecial.calls (rd LL26 x61_2) false _ A30.out).mono ?_); rintro e w' ⟨rfl, ⟨nd, rfl⟩⟩; (try first | exact ⟨rfl, _, World.drewN_drewN _ _ _⟩ | exact ⟨rfl, _, Eq.trans (World.drewN_drewN _ _ _) (congrArg (World.drewN _) (Nat.add_assoc _ _ _))⟩)) | (go_at_call 75; (with_reducible refine (dns_escapeByte.calls (rd LL26 x61_2) t252 _ A42.out).mono ?_); rintro e w' ⟨rfl, ⟨nd, rfl⟩⟩; (try first | exact ⟨rfl, _, World.drewN_drewN _ _ _⟩ | exact ⟨rfl, _, Eq.trans (World.drewN_drewN _ _ _) (congrArg (World.drewN _) (Nat.add_assoc _ _ _))⟩)) | (at_builtin; refine print_append_str (w0 := w) w.heap.size rfl (.tmp 77) _ 22 9 5 rfl Tryd.underlying22 Tryd.underlying9 info5 u7 x7_2 t252 rfl rfl ?aO ?aB ?aS ?aL ?_; (case aB => exact (by repeat (first | (with_reducible first | exact HB.out | apply below_alloc | apply pw_below_drewN | apply below_drew1) | exact HB.out))); (case aO => exact (Kd.own_of_R (by (with_reducible repeat (first | apply Kd.R_alloc | apply Kd.R_drewN | apply Kd.R_drew)); exact HO_7.out))); (case aS => exact (below_size (by repeat (first | (with_reducible first | exact HB.out | apply below_alloc | apply pw_below_drewN | apply below_drew1) | exact HB.out)))); (case aL => have := LMc43.out; omega); intro v254 w44 ho0 hb hg; have ho := Kd.R_of_own (h1 := fun _ => rfl) (ok := fun _ => True) ho0 (fun _ _ => trivial); clear ho0; have hat := True.intro; rw [← Ny253.out] at ho; change Kd.R (Kd.int .u8) 5 w44 w.heap.size (fun _ => True) v254 y253 at ho; have n0_ := Aside0.mk (hb); have n1_ := Aside0.mk (ho); clear HB; clear HO_7; have HB := n0_; have HO255 := n1_; clear n0_ n1_; clear ho hb hg hat)))
                                              go_roundg k2
                                              case measure => have := HK1.out; have := HK2.out; omega
                                              case rel => exact ⟨(y253), (wrap64 (x61_2 + 1)), (by first | rfl | (simp; done) | (simp [*]; done) | (simp [wrap64]; done)), H', ⟨by have := HK1.out; have := HK2.out; omega⟩, ⟨by (with_reducible repeat (first | apply Kd.R_alloc | apply Kd.R_drewN | apply Kd.R_drew)); exact HO255.out⟩, ⟨by repeat (first | (with_reducible first | exact HB.out | apply below_alloc | apply pw_below_drewN | apply below_drew1) | exact HB.out)⟩⟩
                                            · rw [if_neg c43] at H
                                              exact absurd H (by simp)
                                          · rw [if_neg c41] at H
                                            have c41b0 : decide (126 < (rd LL26 x61_2)) = false := decide_eq_false c41
                                            clear c41
                                            by_cases c45 : x7_2.length < 140737488355328
                                            · rw [if_pos c45] at H
                                              have LMc45 := Aside0.mk c45
                                              clear c45
                                              obtain ⟨y256, hy256⟩ : ∃ y_ : List Int, y_ = (x7_2 ++ [rd LL26 x61_2]) := ⟨_, rfl⟩
                                              replace H : (dns_UnpackDomainName.l1 k2 l0 ji22 y256 x8_1 (l0.length : Int) (wrap64 (x10_1 - (wrap64 ((wrap64 (rd l0 x1_1)) + 1)))) x11_1 (wrap64 (rd l0 x1_1)) LL26 (LL26.length : Int) (wrap64 (x61_2 + 1))) = some (r1, r2, r3) := by first | (rw [hy256]; with_reducible exact H) | (have H2_ := (Option.bind_some _ _).symm.trans H; rw [hy256]; with_reducible exact H2_) | (have H2_ := (Option.bind_some _ _).symm.trans H; with_reducible exact H2_) | with_reducible exact H | (rw [hy256]; exact H) | exact H
                                              have Ny256 := Aside0.mk hy256
                                              clear hy256
                                              have H' := Aside0.mk H
                                              clear H
                                              have p240 : 0 ≤ (x61_2 : Int) := of_decide_eq_true (by first | (with_reducible assumption) | assumption)
                                              have q240 : x61_2 < (LL26.length : Int) := of_decide_eq_true (by first | (with_reducible assumption) | assumption)
                                              obtain ⟨ad240, e240, hx240_0⟩ := Kd.at_int HR236.out x61_2 p240 q240
                                              cases e240
                                              replace hx240_0 := (HB.out.cell (World.block_lt_of_cell? w _ hx240_0)).trans hx240_0
                                              replace p240 := eq_true p240
                                              replace q240 := eq_true q240
                                              go_wp2_with (first | (go_at_call 74; (with_reducible refine (dns_isDomainNameLabelSpecial.calls (rd LL26 x61_2) false _ A30.out).mono ?_); rintro e w' ⟨rfl, ⟨nd, rfl⟩⟩; (try first | exact ⟨rfl, _, World.drewN_drewN _ _ _⟩ | exact ⟨rfl, _, Eq.trans (World.drewN_drewN _ _ _) (congrArg (World.drewN _) (Nat.add_assoc _ _ _))⟩)) | ((with_reducible refine gate_builtin (b := .append) (xs := #[.tmp 81, .tmp 83]) rfl ?_); at_builtin; refine Kd.R_append (Kd.int .u8) (w0 := w) w.heap.size rfl (.tmp 81) (.tmp 83) 22 5 (.int .u8 0) 1 rfl Tryd.underlying22 info5 rfl (by decide) (by omega) u7 x7_2 (rd LL26 x61_2) [.int .u8 (rd LL26 x61_2)] (fun _ => True) (fun _ => False) rfl rfl ?aP (fun _ hk => hk.elim) ?aF ?aO ?aB ?aS ?aL ?_; (case aP => exact rfl); (case aB => exact (by repeat (first | (with_reducible first | exact HB.out | apply below_alloc | apply pw_below_drewN | apply below_drew1) | exact HB.out))); (case aF => exact (fun _ _ => trivial)); (case aO => exact (by (with_reducible repeat (first | apply Kd.R_alloc | apply Kd.R_drewN | apply Kd.R_drew)); exact HO_7.out)); (case aS => exact (below_size (by repeat (first | (with_reducible first | exact HB.out | apply below_alloc | apply pw_below_drewN | apply below_drew1) | exact HB.out)))); (case aL => have := LMc45.out; omega); intro v257 w46 ho hb hg hat; rw [← Ny256.out] at ho; have n0_ := Aside0.mk (hb); have n1_ := Aside0.mk (ho); clear HB; clear HO_7; have HB := n0_; have HO258 := n1_; clear n0_ n1_; clear ho hb hg hat))
                                              repeat (go_quiet (first | (go_at_call 74; (with_reducible refine (dns_isDomainNameLabelSpecial.calls (rd LL26 x61_2) false _ A30.out).mono ?_); rintro e w' ⟨rfl, ⟨nd, rfl⟩⟩; (try first | exact ⟨rfl, _, World.drewN_drewN _ _ _⟩ | exact ⟨rfl, _, Eq.trans (World.drewN_drewN _ _ _) (congrArg (World.drewN _) (Nat.add_assoc _ _ _))⟩)) | ((with_reducible refine gate_builtin (b := .append) (xs := #[.tmp 81, .tmp 83]) rfl ?_); at_builtin; refine Kd.R_append (Kd.int .u8) (w0 := w) w.heap.size rfl (.tmp 81) (.tmp 83) 22 5 (.int .u8 0) 1 rfl Tryd.underlying22 info5 rfl (by decide) (by omega) u7 x7_2 (rd LL26 x61_2) [.int .u8 (rd LL26 x61_2)] (fun _ => True) (fun _ => False) rfl rfl ?aP (fun _ hk => hk.elim) ?aF ?aO ?aB ?aS ?aL ?_; (case aP => exact rfl); (case aB => exact (by repeat (first | (with_reducible first | exact HB.out | apply below_alloc | apply pw_below_drewN | apply below_drew1) | exact HB.out))); (case aF => exact (fun _ _ => trivial)); (case aO => exact (by (with_reducible repeat (first | apply Kd.R_alloc | apply Kd.R_drewN | apply Kd.R_drew)); exact HO_7.out)); (case aS => exact (below_size (by repeat (first | (with_reducible first | exact HB.out | apply below_alloc | apply pw_below_drewN | apply below_drew1) | exact HB.out)))); (case aL => have := LMc45.out; omega); intro v257 w46 ho hb hg hat; rw [← Ny256.out] at ho; have n0_ := Aside0.mk (hb); have n1_ := Aside0.mk (ho); clear HB; clear HO_7; have HB := n0_; have HO258 := n1_; clear n0_ n1_; clear ho hb hg hat)); try go_wp2_with (first | (go_at_call 74; (with_reducible refine (dns_isDomainNameLabelSpecial.calls (rd LL26 x61_2) false _ A30.out).mono ?_); rintro e w' ⟨rfl, ⟨nd, rfl⟩⟩; (try first | exact ⟨rfl, _, World.drewN_drewN _ _ _⟩ | exact ⟨rfl, _, Eq.trans (World.drewN_drewN _ _ _) (congrArg (World.drewN _) (Nat.add_assoc _ _ _))⟩)) | ((with_reducible refine gate_builtin (b := .append) (xs := #[.tmp 81, .tmp 83]) rfl ?_); at_builtin; refine Kd.R_append (Kd.int .u8) (w0 := w) w.heap.size rfl (.tmp 81) (.tmp 83) 22 5 (.int .u8 0) 1 rfl Tryd.underlying22 info5 rfl (by decide) (by omega) u7 x7_2 (rd LL26 x61_2) [.int .u8 (rd LL26 x61_2)] (fun _ => True) (fun _ => False) rfl rfl ?aP (fun _ hk => hk.elim) ?aF ?aO ?aB ?aS ?aL ?_; (case aP => exact rfl); (case aB => exact (by repeat (first | (with_reducible first | exact HB.out | apply below_alloc | apply pw_below_drewN | apply below_drew1) | exact HB.out))); (case aF => exact (fun _ _ => trivial)); (case aO => exact (by (with_reducible repeat (first | apply Kd.R_alloc | apply Kd.R_drewN | apply Kd.R_drew)); exact HO_7.out)); (case aS => exact (below_size (by repeat (first | (with_reducible first | exact HB.out | apply below_alloc | apply pw_below_drewN | apply below_drew1) | exact HB.out)))); (case aL => have := LMc45.out; omega); intro v257 w46 ho hb hg hat; rw [← Ny256.out] at ho; have n0_ := Aside0.mk (hb); have n1_ := Aside0.mk (ho); clear HB; clear HO_7; have HB := n0_; have HO258 := n1_; clear n0_ n1_; clear ho hb hg hat)))
                                              go_roundg k2
                                              case measure => have := HK1.out; have := HK2.out; omega
                                              case rel => exact ⟨(y256), (wrap64 (x61_2 + 1)), (by first | rfl | (simp; done) | (simp [*]; done) | (simp [wrap64]; done)), H', ⟨by have := HK1.out; have := HK2.out; omega⟩, ⟨by (with_reducible repeat (first | apply Kd.R_alloc | apply Kd.R_drewN | apply Kd.R_drew)); exact HO258.out⟩, ⟨by repeat (first | (with_reducible first | exact HB.out | apply below_alloc | apply pw_below_drewN | apply below_drew1) | exact HB.out)⟩⟩
                                            · rw [if_neg c45] at H
                                              exact absurd H (by simp)
                                    · rw [if_neg c29] at H
                                      exact absurd H (by simp)
                                  · rw [if_neg c28] at H
                                    exact absurd H (by simp)
                                · rw [if_neg c27] at H
                                  have c27b0 : decide (x61_2 < (LL26.length : Int)) = false := decide_eq_false c27
                                  clear c27
                                  by_cases c47 : x7_2.length < 140737488355328
                                  · rw [if_pos c47] at H
                                    have LMc47 := Aside0.mk c47
                                    clear c47
                                    obtain ⟨y237, hy237⟩ : ∃ y_ : List Int, y_ = (x7_2 ++ [46]) := ⟨_, rfl⟩
                                    replace H : (dns_UnpackDomainName.l0 k2 l0 (wrap64 (ji22 + (wrap64 (rd l0 x1_1)))) y237 x8_1 (l0.length : Int) (wrap64 (x10_1 - (wrap64 ((wrap64 (rd l0 x1_1)) + 1)))) x11_1) = some (r1, r2, r3) := by first | (rw [hy237]; with_reducible exact H) | (have H2_ := (Option.bind_some _ _).symm.trans H; rw [hy237]; with_reducible exact H2_) | (have H2_ := (Option.bind_some _ _).symm.trans H; with_reducible exact H2_) | with_reducible exact H | (rw [hy237]; exact H) | exact H
                                    have Ny237 := Aside0.mk hy237
                                    clear hy237
                                    have H' := Aside0.mk H
                                    clear H
                                    go_wp2_with (first | ((with_reducible refine gate_builtin (b := .append) (xs := #[.tmp 86, .tmp 87]) rfl ?_); at_builtin; refine Kd.R_append (Kd.int .u8) (w0 := w) w.heap.size rfl (.tmp 86) (.tmp 87) 22 5 (.int .u8 0) 1 rfl Tryd.underlying22 info5 rfl (by decide) (by omega) u7 x7_2 46 [.int .u8 46] (fun _ => True) (fun _ => False) rfl rfl ?aP (fun _ hk => hk.elim) ?aF ?aO ?aB ?aS ?aL ?_; (case aP => exact rfl); (case aB => exact (by repeat (first | (with_reducible first | exact HB.out | apply below_alloc | apply pw_below_drewN | apply below_drew1) | exact HB.out))); (case aF => exact (fun _ _ => trivial)); (case aO => exact (by (with_reducible repeat (first | apply Kd.R_alloc | apply Kd.R_drewN | apply Kd.R_drew)); exact HO_7.out)); (case aS => exact (below_size (by repeat (first | (with_reducible first | exact HB.out | apply below_alloc | apply pw_below_drewN | apply below_drew1) | exact HB.out)))); (case aL => have := LMc47.out; omega); intro v238 w48 ho hb hg hat; rw [← Ny237.out] at ho; have n0_ := Aside0.mk (hb); have n1_ := Aside0.mk (ho); clear HB; clear HO_7; have HB := n0_; have HO239 := n1_; clear n0_ n1_; clear ho hb hg hat))
                                    repeat (go_quiet (first | ((with_reducible refine gate_builtin (b := .append) (xs := #[.tmp 86, .tmp 87]) rfl ?_); at_builtin; refine Kd.R_append (Kd.int .u8) (w0 := w) w.heap.size rfl (.tmp 86) (.tmp 87) 22 5 (.int .u8 0) 1 rfl Tryd.underlying22 info5 rfl (by decide) (by omega) u7 x7_2 46 [.int .u8 46] (fun _ => True) (fun _ => False) rfl rfl ?aP (fun _ hk => hk.elim) ?aF ?aO ?aB ?aS ?aL ?_; (case aP => exact rfl); (case aB => exact (by repeat (first | (with_reducible first | exact HB.out | apply below_alloc | apply pw_below_drewN | apply below_drew1) | exact HB.out))); (case aF => exact (fun _ _ => trivial)); (case aO => exact (by (with_reducible repeat (first | apply Kd.R_alloc | apply Kd.R_drewN | apply Kd.R_drew)); exact HO_7.out)); (case aS => exact (below_size (by repeat (first | (with_reducible first | exact HB.out | apply below_alloc | apply pw_below_drewN | apply below_drew1) | exact HB.out)))); (case aL => have := LMc47.out; omega); intro v238 w48 ho hb hg hat; rw [← Ny237.out] at ho; have n0_ := Aside0.mk (hb); have n1_ := Aside0.mk (ho); clear HB; clear HO_7; have HB := n0_; have HO239 := n1_; clear n0_ n1_; clear ho hb hg hat)); try go_wp2_with (first | ((with_reducible refine gate_builtin (b := .append) (xs := #[.tmp 86, .tmp 87]) rfl ?_); at_builtin; refine Kd.R_append (Kd.int .u8) (w0 := w) w.heap.size rfl (.tmp 86) (.tmp 87) 22 5 (.int .u8 0) 1 rfl Tryd.underlying22 info5 rfl (by decide) (by omega) u7 x7_2 46 [.int .u8 46] (fun _ => True) (fun _ => False) rfl rfl ?aP (fun _ hk => hk.elim) ?aF ?aO ?aB ?aS ?aL ?_; (case aP => exact rfl); (case aB => exact (by repeat (first | (with_reducible first | exact HB.out | apply below_alloc | apply pw_below_drewN | apply below_drew1) | exact HB.out))); (case aF => exact (fun _ _ => trivial)); (case aO => exact (by (with_reducible repeat (first | apply Kd.R_alloc | apply Kd.R_drewN | apply Kd.R_drew)); exact HO_7.out)); (case aS => exact (below_size (by repeat (first | (with_reducible first | exact HB.out | apply below_alloc | apply pw_below_drewN | apply below_drew1) | exact HB.out)))); (case aL => have := LMc47.out; omega); intro v238 w48 ho hb hg hat; rw [← Ny237.out] at ho; have n0_ := Aside0.mk (hb); have n1_ := Aside0.mk (ho); clear HB; clear HO_7; have HB := n0_; have HO239 := n1_; clear n0_ n1_; clear ho hb hg hat)))
                                    go_roundg k2
                                    case measure => have := HK1.out; have := HK2.out; omega
                                    case rel => exact ⟨(wrap64 (ji22 + (wrap64 (rd l0 x1_1)))), (y237), (x8_1), ((wrap64 (x10_1 - (wrap64 ((wrap64 (rd l0 x1_1)) + 1))))), (x11_1), (by first | rfl | (simp; done) | (simp only [← hji22] <;> (first | rfl | simp)) | (simp [*]; done)), (by first | rfl | (simp; done) | (simp [*]; done) | (simp [wrap64]; done)), (by first | rfl | (simp; done) | (simp [*]; done) | (simp [wrap64]; done)), (by first | rfl | (simp; done) | (simp [*]; done) | (simp [wrap64]; done)), H', ⟨by have := HK1.out; have := HK2.out; omega⟩, ⟨by (with_reducible repeat (first | apply Kd.R_alloc | apply Kd.R_drewN | apply Kd.R_drew)); exact HO239.out⟩, ⟨by repeat (first | (with_reducible first | exact HB.out | apply below_alloc | apply pw_below_drewN | apply below_drew1) | exact HB.out)⟩⟩
                                  · rw [if_neg c47] at H
                                    exact absurd H (by simp)
                          · rw [if_neg c25] at H
                            exact absurd H (by simp)
                        · rw [if_neg c24] at H
                          exact absurd H (by simp)
                      · rw [if_neg c23] at H
                        exact absurd H (by simp)
              · rw [if_neg c9] at H
                have c9b0 : ((Go.bits .and .i64 (wrap64 (rd l0 x1_1)) 192) == 0) = false := beq_eq_false_iff_ne.mpr c9
                have c9b1 : ((Go.bits .and .i64 (wrap64 (rd l0 x1_1)) 192) != 0) = true := bne_iff_ne.mpr c9
                by_cases c49 : (Go.bits .and .i64 (wrap64 (rd l0 x1_1)) 192) = 192
                · rw [if_pos c49] at H
                  have c49b0 : ((Go.bits .and .i64 (wrap64 (rd l0 x1_1)) 192) == 192) = true := beq_iff_eq.mpr c49
                  have c49b1 : ((Go.bits .and .i64 (wrap64 (rd l0 x1_1)) 192) != 192) = false := bne_eq_false_iff_eq.mpr c49
                  clear c49
                  by_cases c50 : (wrap64 (x1_1 + 1)) ≥ (l0.length : Int)
                  · rw [if_pos c50] at H
                    have c50b0 : decide ((l0.length : Int) ≤ (wrap64 (x1_1 + 1))) = true := decide_eq_true c50
                    clear c50
                    simp only [Option.some.injEq, Prod.mk.injEq] at H
                    obtain ⟨rfl, rfl, rfl⟩ := H
                    obtain ⟨tg0_, xg0_, tg1_, xg1_, tg2_, xg2_, hg0_, hg1_, hg2_⟩ := GoodU.below HG.out HB.out
                    have p235 : 0 ≤ (x1_1 : Int) := of_decide_eq_true (by first | (with_reducible assumption) | assumption)
                    have q235 : x1_1 < (l0.length : Int) := of_decide_eq_true (by first | (with_reducible assumption) | assumption)
                    obtain ⟨ad235, e235, hx235_0⟩ := Kd.at_int HR0.out x1_1 p235 q235
                    cases e235
                    replace hx235_0 := (HB.out.cell (World.block_lt_of_cell? w _ hx235_0)).trans hx235_0
                    replace p235 := eq_true p235
                    replace q235 := eq_true q235
                    go_wp2
                    repeat (go_quiet (fail); try go_wp2)
                    try simp only [Exit.noGoto_ret]
                    go_ret3
                    exact ⟨_, by first | rfl | (simp [errW_none, errW_some] <;> rfl) | (simp [*, errW_none, errW_some] <;> rfl), by first | exact rfl | exact ⟨_, _, rfl⟩, by repeat (first | (with_reducible first | exact HB.out | apply below_alloc | apply pw_below_drewN | apply below_drew1) | exact HB.out)⟩
                  · rw [if_neg c50] at H
                    have c50b0 : decide ((l0.length : Int) ≤ (wrap64 (x1_1 + 1))) = false := decide_eq_false c50
                    clear c50
                    obtain ⟨ji51, hji51⟩ : ∃ j_ : Int, (wrap64 (x1_1 + 1)) = j_ := ⟨_, rfl⟩
                    replace H : (if 0 ≤ (ji51) then (if (ji51) < (l0.length : Int) then (if x11_1 = 0 then (if (wrap64 (x11_1 + 1)) > 126 then (some ((⟨#[]⟩ : ByteArray), (l0.length : Int), some 100)) else (dns_UnpackDomainName.l0 k1 l0 (Go.bits .or .i64 (wrap64 ((Go.bits .xor .i64 (wrap64 (rd l0 x1_1)) 192) * 256)) (wrap64 (rd l0 (ji51)))) x7_1 (wrap64 ((ji51) + 1)) (l0.length : Int) x10_1 (wrap64 (x11_1 + 1)))) else (if (wrap64 (x11_1 + 1)) > 126 then (some ((⟨#[]⟩ : ByteArray), (l0.length : Int), some 100)) else (dns_UnpackDomainName.l0 k1 l0 (Go.bits .or .i64 (wrap64 ((Go.bits .xor .i64 (wrap64 (rd l0 x1_1)) 192) * 256)) (wrap64 (rd l0 (ji51)))) x7_1 x8_1 (l0.length : Int) x10_1 (wrap64 (x11_1 + 1))))) else (none)) else (none)) = some (r1, r2, r3) := by first | (rw [hji51] at H; exact H) | (simp only [hji51] at H ⊢; exact H)
                    (try rw [hji51] at c50b0)
                    have hji51w : (IntKind.i64.wrap (x1_1 + 1)) = ji51 := (i64_w _).trans hji51
                    by_cases c52 : 0 ≤ (ji51)
                    · rw [if_pos c52] at H
                      have c52b0 : decide (0 ≤ (ji51)) = true := decide_eq_true c52
                      clear c52
                      by_cases c53 : (ji51) < (l0.length : Int)
                      · rw [if_pos c53] at H
                        have c53b0 : decide ((ji51) < (l0.length : Int)) = true := decide_eq_true c53
                        clear c53
                        by_cases c54 : x11_1 = 0
                        · rw [if_pos c54] at H
                          have c54b0 : (x11_1 == 0) = true := beq_iff_eq.mpr c54
                          have c54b1 : (x11_1 != 0) = false := bne_eq_false_iff_eq.mpr c54
                          clear c54
                          by_cases c55 : (wrap64 (x11_1 + 1)) > 126
                          · rw [if_pos c55] at H
                            have c55b0 : decide (126 < (wrap64 (x11_1 + 1))) = true := decide_eq_true c55
                            clear c55
                            simp only [Option.some.injEq, Prod.mk.injEq] at H
                            obtain ⟨rfl, rfl, rfl⟩ := H
                            obtain ⟨tg0_, xg0_, tg1_, xg1_, tg2_, xg2_, hg0_, hg1_, hg2_⟩ := GoodU.below HG.out HB.out
                            have p235 : 0 ≤ (x1_1 : Int) := of_decide_eq_true (by first | (with_reducible assumption) | assumption)
                            have q235 : x1_1 < (l0.length : Int) := of_decide_eq_true (by first | (with_reducible assumption) | assumption)
                            obtain ⟨ad235, e235, hx235_0⟩ := Kd.at_int HR0.out x1_1 p235 q235
                            cases e235
                            replace hx235_0 := (HB.out.cell (World.block_lt_of_cell? w _ hx235_0)).trans hx235_0
                            replace p235 := eq_true p235
                            replace q235 := eq_true q235
                            have p259 : 0 ≤ ((ji51) : Int) := of_decide_eq_true (by first | (with_reducible assumption) | assumption)
                            have q259 : (ji51) < (l0.length : Int) := of_decide_eq_true (by first | (with_reducible assumption) | assumption)
                            obtain ⟨ad259, e259, hx259_0⟩ := Kd.at_int HR0.out (ji51) p259 q259
                            obtain rfl : ad235 = ad259 := (by injection e259)
                            replace hx259_0 := (HB.out.cell (World.block_lt_of_cell? w _ hx259_0)).trans hx259_0
                            replace p259 := eq_true p259
                            replace q259 := eq_true q259
                            go_wp2
                            repeat (go_quiet (fail); try go_wp2)
                            try simp only [Exit.noGoto_ret]
                            go_ret3
                            exact ⟨_, by first | rfl | (simp [errW_none, errW_some] <;> rfl) | (simp only [← hji51]; first | rfl | (simp [errW_none, errW_some] <;> rfl)) | (simp [*, errW_none, errW_some] <;> rfl), by first | exact rfl | exact ⟨_, _, rfl⟩, by repeat (first | (with_reducible first | exact HB.out | apply below_alloc | apply pw_below_drewN | apply below_drew1) | exact HB.out)⟩
                          · rw [if_neg c55] at H
                            have c55b0 : decide (126 < (wrap64 (x11_1 + 1))) = false := decide_eq_false c55
                            clear c55
                            have H' := Aside0.mk H
                            clear H
                            have p235 : 0 ≤ (x1_1 : Int) := of_decide_eq_true (by first | (with_reducible assumption) | assumption)
                            have q235 : x1_1 < (l0.length : Int) := of_decide_eq_true (by first | (with_reducible assumption) | assumption)
                            obtain ⟨ad235, e235, hx235_0⟩ := Kd.at_int HR0.out x1_1 p235 q235
                            cases e235
                            replace hx235_0 := (HB.out.cell (World.block_lt_of_cell? w _ hx235_0)).trans hx235_0
                            replace p235 := eq_true p235
                            replace q235 := eq_true q235
                            have p259 : 0 ≤ ((ji51) : Int) := of_decide_eq_true (by first | (with_reducible assumption) | assumption)
                            have q259 : (ji51) < (l0.length : Int) := of_decide_eq_true (by first | (with_reducible assumption) | assumption)
                            obtain ⟨ad259, e259, hx259_0⟩ := Kd.at_int HR0.out (ji51) p259 q259
                            obtain rfl : ad235 = ad259 := (by injection e259)
                            replace hx259_0 := (HB.out.cell (World.block_lt_of_cell? w _ hx259_0)).trans hx259_0
                            replace p259 := eq_true p259
                            replace q259 := eq_true q259
                            go_wp2
                            repeat (go_quiet (fail); try go_wp2)
                            go_roundg k1
                            case measure => have := HK1.out; omega
                            case rel => exact ⟨(Go.bits .or .i64 (wrap64 ((Go.bits .xor .i64 (wrap64 (rd l0 x1_1)) 192) * 256)) (wrap64 (rd l0 (ji51)))), (x7_1), (wrap64 ((ji51) + 1)), (x10_1), (wrap64 (x11_1 + 1)), (by first | rfl | (simp; done) | (simp only [← hji51] <;> (first | rfl | simp)) | (simp [*]; done)), (by first | rfl | (simp; done) | (simp only [← hji51] <;> (first | rfl | simp)) | (simp [*]; done)), (by first | rfl | (simp; done) | (simp [*]; done) | (simp [wrap64]; done)), (by first | rfl | (simp; done) | (simp [*]; done) | (simp [wrap64]; done)), H', ⟨by have := HK1.out; omega⟩, ⟨by (with_reducible repeat (first | apply Kd.R_alloc | apply Kd.R_drewN | apply Kd.R_drew)); exact HO_7.out⟩, ⟨by repeat (first | (with_reducible first | exact HB.out | apply below_alloc | apply pw_below_drewN | apply below_drew1) | exact HB.out)⟩⟩
                        · rw [if_neg c54] at H
                          have c54b0 : (x11_1 == 0) = false := beq_eq_false_iff_ne.mpr c54
                          have c54b1 : (x11_1 != 0) = true := bne_iff_ne.mpr c54
                          by_cases c56 : (wrap64 (x11_1 + 1)) > 126
                          · rw [if_pos c56] at H
                            have c56b0 : decide (126 < (wrap64 (x11_1 + 1))) = true := decide_eq_true c56
                            clear c56
                            simp only [Option.some.injEq, Prod.mk.injEq] at H
                            obtain ⟨rfl, rfl, rfl⟩ := H
                            obtain ⟨tg0_, xg0_, tg1_, xg1_, tg2_, xg2_, hg0_, hg1_, hg2_⟩ := GoodU.below HG.out HB.out
                            have p235 : 0 ≤ (x1_1 : Int) := of_decide_eq_true (by first | (with_reducible assumption) | assumption)
                            have q235 : x1_1 < (l0.length : Int) := of_decide_eq_true (by first | (with_reducible assumption) | assumption)
                            obtain ⟨ad235, e235, hx235_0⟩ := Kd.at_int HR0.out x1_1 p235 q235
                            cases e235
                            replace hx235_0 := (HB.out.cell (World.block_lt_of_cell? w _ hx235_0)).trans hx235_0
                            replace p235 := eq_true p235
                            replace q235 := eq_true q235
                            have p259 : 0 ≤ ((ji51) : Int) := of_decide_eq_true (by first | (with_reducible assumption) | assumption)
                            have q259 : (ji51) < (l0.length : Int) := of_decide_eq_true (by first | (with_reducible assumption) | assumption)
                            obtain ⟨ad259, e259, hx259_0⟩ := Kd.at_int HR0.out (ji51) p259 q259
                            obtain rfl : ad235 = ad259 := (by injection e259)
                            replace hx259_0 := (HB.out.cell (World.block_lt_of_cell? w _ hx259_0)).trans hx259_0
                            replace p259 := eq_true p259
                            replace q259 := eq_true q259
                            go_wp2
                            repeat (go_quiet (fail); try go_wp2)
                            try simp only [Exit.noGoto_ret]
                            go_ret3
                            exact ⟨_, by first | rfl | (simp [errW_none, errW_some] <;> rfl) | (simp only [← hji51]; first | rfl | (simp [errW_none, errW_some] <;> rfl)) | (simp [*, errW_none, errW_some] <;> rfl), by first | exact rfl | exact ⟨_, _, rfl⟩, by repeat (first | (with_reducible first | exact HB.out | apply below_alloc | apply pw_below_drewN | apply below_drew1) | exact HB.out)⟩
                          · rw [if_neg c56] at H
                            have c56b0 : decide (126 < (wrap64 (x11_1 + 1))) = false := decide_eq_false c56
                            clear c56
                            have H' := Aside0.mk H
                            clear H
                            have p235 : 0 ≤ (x1_1 : Int) := of_decide_eq_true (by first | (with_reducible assumption) | assumption)
                            have q235 : x1_1 < (l0.length : Int) := of_decide_eq_true (by first | (with_reducible assumption) | assumption)
                            obtain ⟨ad235, e235, hx235_0⟩ := Kd.at_int HR0.out x1_1 p235 q235
                            cases e235
                            replace hx235_0 := (HB.out.cell (World.block_lt_of_cell? w _ hx235_0)).trans hx235_0
                            replace p235 := eq_true p235
                            replace q235 := eq_true q235
                            have p259 : 0 ≤ ((ji51) : Int) := of_decide_eq_true (by first | (with_reducible assumption) | assumption)
                            have q259 : (ji51) < (l0.length : Int) := of_decide_eq_true (by first | (with_reducible assumption) | assumption)
                            obtain ⟨ad259, e259, hx259_0⟩ := Kd.at_int HR0.out (ji51) p259 q259
                            obtain rfl : ad235 = ad259 := (by injection e259)
                            replace hx259_0 := (HB.out.cell (World.block_lt_of_cell? w _ hx259_0)).trans hx259_0
                            replace p259 := eq_true p259
                            replace q259 := eq_true q259
                            go_wp2
                            repeat (go_quiet (fail); try go_wp2)
                            go_roundg k1
                            case measure => have := HK1.out; omega
                            case rel => exact ⟨(Go.bits .or .i64 (wrap64 ((Go.bits .xor .i64 (wrap64 (rd l0 x1_1)) 192) * 256)) (wrap64 (rd l0 (ji51)))), (x7_1), (x8_1), (x10_1), (wrap64 (x11_1 + 1)), (by first | rfl | (simp; done) | (simp only [← hji51] <;> (first | rfl | simp)) | (simp [*]; done)), (by first | rfl | (simp; done) | (simp [*]; done) | (simp [wrap64]; done)), (by first | rfl | (simp; done) | (simp [*]; done) | (simp [wrap64]; done)), (by first | rfl | (simp; done) | (simp [*]; done) | (simp [wrap64]; done)), H', ⟨by have := HK1.out; omega⟩, ⟨by (with_reducible repeat (first | apply Kd.R_alloc | apply Kd.R_drewN | apply Kd.R_drew)); exact HO_7.out⟩, ⟨by repeat (first | (with_reducible first | exact HB.out | apply below_alloc | apply pw_below_drewN | apply below_drew1) | exact HB.out)⟩⟩
                      · rw [if_neg c53] at H
                        exact absurd H (by simp)
                    · rw [if_neg c52] at H
                      exact absurd H (by simp)
                · rw [if_neg c49] at H
                  have c49b0 : ((Go.bits .and .i64 (wrap64 (rd l0 x1_1)) 192) == 192) = false := beq_eq_false_iff_ne.mpr c49
                  have c49b1 : ((Go.bits .and .i64 (wrap64 (rd l0 x1_1)) 192) != 192) = true := bne_iff_ne.mpr c49
                  simp only [Option.some.injEq, Prod.mk.injEq] at H
                  obtain ⟨rfl, rfl, rfl⟩ := H
                  obtain ⟨tg0_, xg0_, tg1_, xg1_, tg2_, xg2_, hg0_, hg1_, hg2_⟩ := GoodU.below HG.out HB.out
                  have p235 : 0 ≤ (x1_1 : Int) := of_decide_eq_true (by first | (with_reducible assumption) | assumption)
                  have q235 : x1_1 < (l0.length : Int) := of_decide_eq_true (by first | (with_reducible assumption) | assumption)
                  obtain ⟨ad235, e235, hx235_0⟩ := Kd.at_int HR0.out x1_1 p235 q235
                  cases e235
                  replace hx235_0 := (HB.out.cell (World.block_lt_of_cell? w _ hx235_0)).trans hx235_0
                  replace p235 := eq_true p235
                  replace q235 := eq_true q235
                  go_wp2
                  repeat (go_quiet (fail); try go_wp2)
                  try simp only [Exit.noGoto_ret]
                  go_ret3
                  exact ⟨_, by first | rfl | (simp [errW_none, errW_some] <;> rfl) | (simp [*, errW_none, errW_some] <;> rfl), by first | exact rfl | exact ⟨_, _, rfl⟩, by repeat (first | (with_reducible first | exact HB.out | apply below_alloc | apply pw_below_drewN | apply below_drew1) | exact HB.out)⟩
            · rw [if_neg c8] at H
              exact absurd H (by simp)
          · rw [if_neg c7] at H
            exact absurd H (by simp)
  · rw [if_neg c3] at H
    exact absurd H (by simp)

end Go.Proofs.YtiilihafcdmccaaDoor.P
