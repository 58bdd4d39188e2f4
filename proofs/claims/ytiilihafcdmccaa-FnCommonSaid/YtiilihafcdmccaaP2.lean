-- Written by a program of this session (wip/tools/pprint.py) out of the translation: it goes by the kit's print and by the contracts of YtiilihafcdmccaaHand. Not trusted: Lean checks it.
import Derived.Test.YtiilihafcdmccaaP0
import Derived.Test.YtiilihafcdmccaaP1
namespace Go.Proofs.Ytiilihafcdmccaa.P
open Go.RowKit Go.Proofs.YtiilihafcdmccaaW.PrintWords Go.Proofs.YtiilihafcdmccaaW.PrintLast Go.Proofs.YtiilihafcdmccaaW.PrintMore
attribute [local go_sem] max2_int min2_int max_two min_two max_three min_three max_four min_four   -- for this text's walks alone
set_option linter.unusedVariables false
set_option linter.unusedSimpArgs false

/-! ### spec_ParseName: function 10 -/
mutual
def spec_ParseName.l0 : Nat → ByteArray → List ByteArray → ByteArray → Int → Option (List ByteArray × Bool × Bool)
  | 0, _, _, _, _ => none
  | k + 1, x0, x2, x5, x6 => if x6 < (x0.size : Int) then ((spec_escaped.f x0 x6).bind fun bt112 => (if bt112.2.2.2 = true then (if bt112.2.2.1 = true then (spec_ParseName.j1 k x0 x2 x5 bt112.2.1 bt112.1 (bt112.1 == 46)) else (spec_ParseName.j1 k x0 x2 x5 bt112.2.1 bt112.1 false)) else (some (([] : List ByteArray), false, false)))) else (if x5.toList = ([] : List UInt8) then (if (x2.length : Int) > 0 then ((spec_Name_Valid.f k x2).bind fun t107 => (some (x2, decide ((x2.length : Int) > 0), t107))) else (some (x2, decide ((x2.length : Int) > 0), false))) else (if x2.length < 8796093022208 then ((some (x2 ++ [x5] : List ByteArray)).bind fun y108 => (if (y108.length : Int) > 0 then ((spec_Name_Valid.f k y108).bind fun t111 => (some (y108, false, t111))) else (some (y108, false, false)))) else (none)))
def spec_ParseName.j1 : Nat → ByteArray → List ByteArray → ByteArray → Int → Int → Bool → Option (List ByteArray × Bool × Bool)
  | 0, _, _, _, _, _, _ => none
  | k + 1, x0, x2, x5, x6, x7, x32 => if x32 = true then (if x5.toList = ([] : List UInt8) then (some (([] : List ByteArray), false, false)) else (if x2.length < 8796093022208 then (spec_ParseName.l0 k x0 (x2 ++ [x5]) (⟨#[]⟩ : ByteArray) x6) else (none))) else ((some (([x7] : List Int) : List Int)).bind fun y119 => (if x5.size + (strOfNums y119).size ≤ 9223372036854775807 then (spec_ParseName.l0 k x0 x2 (x5 ++ (strOfNums y119)) x6) else (none)))
end
def spec_ParseName.f (k : Nat) (a0 : ByteArray) : Option (List ByteArray × Bool × Bool) := if a0.toList = ([46] : List UInt8) then (some (([] : List ByteArray), true, true)) else (spec_ParseName.l0 k a0 ([] : List ByteArray) (⟨#[]⟩ : ByteArray) 0)
theorem spec_ParseName.mono_l : ∀ k, (∀ y0 y1 y2 y3, LeO (spec_ParseName.l0 k y0 y1 y2 y3) (spec_ParseName.l0 (k + 1) y0 y1 y2 y3)) ∧ (∀ y0 y1 y2 y3 y4 y5, LeO (spec_ParseName.j1 k y0 y1 y2 y3 y4 y5) (spec_ParseName.j1 (k + 1) y0 y1 y2 y3 y4 y5))
  | 0 => ⟨fun _ _ _ _ r h => by simp [spec_ParseName.l0] at h, fun _ _ _ _ _ _ r h => by simp [spec_ParseName.j1] at h⟩
  | k + 1 => by
    obtain ⟨ih0, ih1⟩ := spec_ParseName.mono_l k
    refine ⟨?_, ?_⟩
    · intro y0 y1 y2 y3
      unfold spec_ParseName.l0
      repeat' first
      | (with_reducible exact ih0 _ _ _ _)
      | (with_reducible exact ih1 _ _ _ _ _ _)
      | (with_reducible exact spec_Name_Valid.mono _ _)
      | (with_reducible exact LeO.refl _)
      | (with_reducible exact LeO.none _)
      | (with_reducible refine LeO.ite ?_ ?_)
      | (with_reducible refine LeO.bind ?_ (fun _ => ?_))
      | exact ih0 _ _ _ _
      | exact ih1 _ _ _ _ _ _
      | exact spec_Name_Valid.mono _ _
      | exact LeO.none _
      | refine LeO.ite ?_ ?_
      | refine LeO.bind ?_ (fun _ => ?_)
    · intro y0 y1 y2 y3 y4 y5
      unfold spec_ParseName.j1
      repeat' first
      | (with_reducible exact ih0 _ _ _ _)
      | (with_reducible exact ih1 _ _ _ _ _ _)
      | (with_reducible exact spec_Name_Valid.mono _ _)
      | (with_reducible exact LeO.refl _)
      | (with_reducible exact LeO.none _)
      | (with_reducible refine LeO.ite ?_ ?_)
      | (with_reducible refine LeO.bind ?_ (fun _ => ?_))
      | exact ih0 _ _ _ _
      | exact ih1 _ _ _ _ _ _
      | exact spec_Name_Valid.mono _ _
      | exact LeO.none _
      | refine LeO.ite ?_ ?_
      | refine LeO.bind ?_ (fun _ => ?_)
theorem spec_ParseName.mono : ∀ a0 k, LeO (spec_ParseName.f k a0) (spec_ParseName.f (k + 1) a0) := by
  intro a0 k
  obtain ⟨ih0, ih1⟩ := spec_ParseName.mono_l k
  unfold spec_ParseName.f
  repeat' first
      | (with_reducible exact ih0 _ _ _ _)
      | (with_reducible exact ih1 _ _ _ _ _ _)
      | (with_reducible exact spec_Name_Valid.mono _ _)
      | (with_reducible exact LeO.refl _)
      | (with_reducible exact LeO.none _)
      | (with_reducible refine LeO.ite ?_ ?_)
      | (with_reducible refine LeO.bind ?_ (fun _ => ?_))
      | exact ih0 _ _ _ _
      | exact ih1 _ _ _ _ _ _
      | exact spec_Name_Valid.mono _ _
      | exact LeO.none _
      | refine LeO.ite ?_ ?_
      | refine LeO.bind ?_ (fun _ => ?_)
set_option maxHeartbeats 8000000 in
set_option maxRecDepth 100000 in
theorem spec_ParseName.calls (k : Nat) (a0 : ByteArray) (r1 : List ByteArray) (r2 : Bool) (r3 : Bool) (w : World) (h : spec_ParseName.f k a0 = some (r1, r2, r3)) :
    Calls Try.prog 10 #[.string a0] w fun e w' => ∃ v0_ : Value, e = .returned (.tuple #[v0_, .bool r2, .bool r3]) ∧ Kd.R Kd.string 9 w' w.heap.size (fun _ => True) v0_ r1 ∧ Below w.heap.size w w' := by
  have HB := Aside0.mk (Below.refl w.heap.size w)
  have H : (if a0.toList = ([46] : List UInt8) then (some (([] : List ByteArray), true, true)) else (spec_ParseName.l0 k a0 ([] : List ByteArray) (⟨#[]⟩ : ByteArray) 0)) = some (r1, r2, r3) := h
  clear h
  by_cases c2 : a0.toList = ([46] : List UInt8)
  · rw [if_pos c2] at H
    have c2b0 : (a0.toList == ([46] : List UInt8)) = true := beq_iff_eq.mpr c2
    have c2b1 : (a0.toList != ([46] : List UInt8)) = false := bne_eq_false_iff_eq.mpr c2
    clear c2
    simp only [Option.some.injEq, Prod.mk.injEq] at H
    obtain ⟨rfl, rfl, rfl⟩ := H
    go_enter Try.func10, Try.ntmps10
    go_wp2
    go_ret3
    exact ⟨_, by first | rfl | (simp [errW_none, errW_some] <;> rfl) | (simp [*, errW_none, errW_some] <;> rfl), by first | exact Kd.R_nil _ _ _ _ _ | exact Kd.N_nil _ _ _ _ _ | exact Kd.V_nil _ _ _ _ _ | exact Kd.Q_nil _ _ _ _ _ | exact Kd.S_nil _ _ _ _ _, by repeat (first | (with_reducible first | exact HB.out | apply below_alloc | apply pw_below_drewN | apply below_drew1) | exact HB.out)⟩
  · rw [if_neg c2] at H
    have c2b0 : (a0.toList == ([46] : List UInt8)) = false := beq_eq_false_iff_ne.mpr c2
    have c2b1 : (a0.toList != ([46] : List UInt8)) = true := bne_iff_ne.mpr c2
    have H' := Aside0.mk H
    clear H
    go_enter Try.func10, Try.ntmps10
    go_wp2
    go_loopg [2, 5, 6] k (fun kq v2 v5 v6 w' => ∃ (x2_1 : List ByteArray) (x5_1 : ByteArray) (x6_1 : Int), v5 = .string x5_1 ∧ v6 = .int .i64 x6_1 ∧ Aside0 (spec_ParseName.l0 kq a0 x2_1 x5_1 x6_1 = some (r1, r2, r3)) ∧ Aside0 (kq ≤ k) ∧ Aside0 (Kd.R Kd.string 9 w' w.heap.size (fun _ => True) v2 x2_1) ∧ Aside0 (Below w.heap.size w w'))
    case atStart => exact ⟨(([] : List ByteArray)), ((⟨#[]⟩ : ByteArray)), (0), (by first | rfl | (simp; done) | (simp [*]; done) | (simp [wrap64]; done)), (by first | rfl | (simp; done) | (simp [*]; done) | (simp [wrap64]; done)), H', ⟨Nat.le_refl _⟩, ⟨by first | exact Kd.R_nil _ _ _ _ _ | exact Kd.N_nil _ _ _ _ _ | exact Kd.V_nil _ _ _ _ _ | exact Kd.Q_nil _ _ _ _ _ | exact Kd.S_nil _ _ _ _ _⟩, ⟨by repeat (first | (with_reducible first | exact HB.out | apply below_alloc | apply pw_below_drewN | apply below_drew1) | exact HB.out)⟩⟩
    case round =>
      clear H'
      try clear c1
      try clear c2
      try clear c2b0
      try clear c2b1
      try clear p2
      obtain ⟨x2_1, x5_1, x6_1, rfl, rfl, HA, HK1, HO_2, HB⟩ := hrel
      cases gk with
      | zero => exact absurd HA.out (by simp [spec_ParseName.l0])
      | succ k1 =>
        have H := HA.out
        clear HA
        simp only [spec_ParseName.l0] at H
        by_cases c3 : x6_1 < (a0.size : Int)
        · rw [if_pos c3] at H
          have c3b0 : decide (x6_1 < (a0.size : Int)) = true := decide_eq_true c3
          clear c3
          replace H := Option.bind_eq_some_iff.mp H
          obtain ⟨⟨t112, t113, t114, t115⟩, A40, H⟩ := H
          replace H : (if t115 = true then (if t114 = true then (spec_ParseName.j1 k1 a0 x2_1 x5_1 t113 t112 (t112 == 46)) else (spec_ParseName.j1 k1 a0 x2_1 x5_1 t113 t112 false)) else (some (([] : List ByteArray), false, false))) = some (r1, r2, r3) := H
          have A4 := Aside0.mk A40
          clear A40
          by_cases c5 : t115 = true
          · subst c5
            have H1 : (if t114 = true then (spec_ParseName.j1 k1 a0 x2_1 x5_1 t113 t112 (t112 == 46)) else (spec_ParseName.j1 k1 a0 x2_1 x5_1 t113 t112 false)) = some (r1, r2, r3) := by rw [if_pos rfl] at H; exact H
            clear H
            have H := H1
            clear H1
            have HC6 := Aside0.mk H
            clear H
            go_upto_region 10 with (first | ((with_reducible refine gate_callee (f := 15) rfl ?_); refine goesL_ (some 20) rfl rfl Try.func15 (by kernel_rfl) rfl #[.string a0, .int .i64 x6_1] rfl (by (try simp only [List.map_toArray, List.map_cons, List.map_nil]); first | done | rfl | (simp only [List.length_drop, List.length_take]; rfl)) ?_; (with_reducible refine (spec_escaped.calls a0 x6_1 t112 t113 t114 true _ A4.out).mono ?_); rintro e w' ⟨rfl, ⟨nd, rfl⟩⟩; refine ⟨_, rfl, ?_⟩))
            (try simp only [Act.put, List.setIfInBounds_toArray, List.set_cons_zero, List.set_cons_succ])
            go_cut [32] (fun v32 wc => ∃ (kq : Nat) (x32_5 : Bool), v32 = .bool x32_5 ∧ Aside0 (spec_ParseName.j1 kq a0 x2_1 x5_1 t113 t112 x32_5 = some (r1, r2, r3)) ∧ Aside0 (kq ≤ k1) ∧ Aside0 (Kd.R Kd.string 9 wc w.heap.size (fun _ => True) u2 x2_1) ∧ Aside0 (Below w.heap.size w wc))
            case first =>
              have H := HC6.out
              clear HC6
              by_cases c7 : t114 = true
              · subst c7
                have H1 : (spec_ParseName.j1 k1 a0 x2_1 x5_1 t113 t112 (t112 == 46)) = some (r1, r2, r3) := by rw [if_pos rfl] at H; exact H
                clear H
                have H := H1
                clear H1
                have H' := Aside0.mk H
                clear H
                go_wp2
                go_meet
                case rel => exact ⟨_, ((t112 == 46)), (by first | rfl | (simp; done) | (simp [*]; done) | (simp [wrap64]; done)), H', ⟨by have := HK1.out; first | omega | exact Nat.le_refl _⟩, ⟨by (with_reducible repeat (first | apply Kd.R_alloc | apply Kd.R_drewN | apply Kd.R_drew)); exact HO_2.out⟩, ⟨by repeat (first | (with_reducible first | exact HB.out | apply below_alloc | apply pw_below_drewN | apply below_drew1) | exact HB.out)⟩⟩
              · replace c7 := Bool.eq_false_iff.mpr c7
                subst c7
                have H1 : (spec_ParseName.j1 k1 a0 x2_1 x5_1 t113 t112 false) = some (r1, r2, r3) := by rw [if_neg (show ¬ (false = true) by decide)] at H; exact H
                clear H
                have H := H1
                clear H1
                have H' := Aside0.mk H
                clear H
                go_wp2
                go_meet
                case rel => exact ⟨_, (false), (by first | rfl | (simp; done) | (simp [*]; done) | (simp [wrap64]; done)), H', ⟨by have := HK1.out; first | omega | exact Nat.le_refl _⟩, ⟨by (with_reducible repeat (first | apply Kd.R_alloc | apply Kd.R_drewN | apply Kd.R_drew)); exact HO_2.out⟩, ⟨by repeat (first | (with_reducible first | exact HB.out | apply below_alloc | apply pw_below_drewN | apply below_drew1) | exact HB.out)⟩⟩
            case rest =>
              clear HC6
              try clear c1
              try clear c2
              try clear c2b0
              try clear c2b1
              try clear p2
              try clear c3
              try clear c3b0
              try clear c5
              try clear p6
              try clear c7
              try clear p2
              obtain ⟨kq, x32_5, rfl, HA, HJ5, HO_2, HB⟩ := hcut
              cases kq with
              | zero => exact absurd HA.out (by simp [spec_ParseName.j1])
              | succ kj5 =>
                have H := HA.out
                clear HA
                simp only [spec_ParseName.j1] at H
                by_cases c8 : x32_5 = true
                · subst c8
                  have H1 : (if x5_1.toList = ([] : List UInt8) then (some (([] : List ByteArray), false, false)) else (if x2_1.length < 8796093022208 then (spec_ParseName.l0 kj5 a0 (x2_1 ++ [x5_1]) (⟨#[]⟩ : ByteArray) t113) else (none))) = some (r1, r2, r3) := by rw [if_pos rfl] at H; exact H
                  clear H
                  have H := H1
                  clear H1
                  by_cases c9 : x5_1.toList = ([] : List UInt8)
                  · rw [if_pos c9] at H
                    have c9b0 : (x5_1.toList == ([] : List UInt8)) = true := beq_iff_eq.mpr c9
                    have c9b1 : (x5_1.toList != ([] : List UInt8)) = false := bne_eq_false_iff_eq.mpr c9
                    clear c9
                    simp only [Option.some.injEq, Prod.mk.injEq] at H
                    obtain ⟨rfl, rfl, rfl⟩ := H
                    go_wp2
                    go_ret3
                    exact ⟨_, by first | rfl | (simp [errW_none, errW_some] <;> rfl) | (simp [*, errW_none, errW_some] <;> rfl), by first | exact Kd.R_nil _ _ _ _ _ | exact Kd.N_nil _ _ _ _ _ | exact Kd.V_nil _ _ _ _ _ | exact Kd.Q_nil _ _ _ _ _ | exact Kd.S_nil _ _ _ _ _, by repeat (first | (with_reducible first | exact HB.out | apply below_alloc | apply pw_below_drewN | apply below_drew1) | exact HB.out)⟩
                  · rw [if_neg c9] at H
                    have c9b0 : (x5_1.toList == ([] : List UInt8)) = false := beq_eq_false_iff_ne.mpr c9
                    have c9b1 : (x5_1.toList != ([] : List UInt8)) = true := bne_iff_ne.mpr c9
                    by_cases c10 : x2_1.length < 8796093022208
                    · rw [if_pos c10] at H
                      have LMc10 := Aside0.mk c10
                      clear c10
                      obtain ⟨y116, hy116⟩ : ∃ y_ : List ByteArray, y_ = (x2_1 ++ [x5_1]) := ⟨_, rfl⟩
                      replace H : (spec_ParseName.l0 kj5 a0 y116 (⟨#[]⟩ : ByteArray) t113) = some (r1, r2, r3) := by first | (rw [hy116]; with_reducible exact H) | (have H2_ := (Option.bind_some _ _).symm.trans H; rw [hy116]; with_reducible exact H2_) | (have H2_ := (Option.bind_some _ _).symm.trans H; with_reducible exact H2_) | with_reducible exact H | (rw [hy116]; exact H) | exact H
                      have Ny116 := Aside0.mk hy116
                      clear hy116
                      have H' := Aside0.mk H
                      clear H
                      go_wp2_with (first | ((with_reducible refine gate_builtin (b := .append) (xs := #[.tmp 35, .tmp 37]) rfl ?_); (try (refine gate_guard (by rfl) ?_; dsimp only)); at_builtin; refine Kd.R_append Kd.string (w0 := w) w.heap.size rfl (.tmp 35) (.tmp 37) 24 9 (.string ⟨#[]⟩) 16 rfl Try.underlying24 info9 rfl (by decide) (by omega) u2 x2_1 x5_1 [.string x5_1] (fun _ => True) (fun _ => False) rfl rfl ?aP (fun _ hk => hk.elim) ?aF ?aO ?aB ?aS ?aL ?_; (case aP => exact rfl); (case aB => exact (by repeat (first | (with_reducible first | exact HB.out | apply below_alloc | apply pw_below_drewN | apply below_drew1) | exact HB.out))); (case aF => exact (fun _ _ => trivial)); (case aO => exact (by (with_reducible repeat (first | apply Kd.R_alloc | apply Kd.R_drewN | apply Kd.R_drew)); exact HO_2.out)); (case aS => exact (below_size (by repeat (first | (with_reducible first | exact HB.out | apply below_alloc | apply pw_below_drewN | apply below_drew1) | exact HB.out)))); (case aL => have := LMc10.out; omega); intro v117 w11 ho hb hg hat; rw [← Ny116.out] at ho; have n0_ := Aside0.mk (hb); have n1_ := Aside0.mk (ho); clear HB; clear HO_2; have HB := n0_; have HO118 := n1_; clear n0_ n1_; clear ho hb hg hat))
                      go_roundg kj5
                      case measure => have := HK1.out; have := HJ5.out; omega
                      case rel => exact ⟨(y116), ((⟨#[]⟩ : ByteArray)), (t113), (by first | rfl | (simp; done) | (simp [*]; done) | (simp [wrap64]; done)), (by first | rfl | (simp; done) | (simp [*]; done) | (simp [wrap64]; done)), H', ⟨by have := HK1.out; have := HJ5.out; omega⟩, ⟨by (with_reducible repeat (first | apply Kd.R_alloc | apply Kd.R_drewN | apply Kd.R_drew)); exact HO118.out⟩, ⟨by repeat (first | (with_reducible first | exact HB.out | apply below_alloc | apply pw_below_drewN | apply below_drew1) | exact HB.out)⟩⟩
                    · rw [if_neg c10] at H
                      exact absurd H (by simp)
                · replace c8 := Bool.eq_false_iff.mpr c8
                  subst c8
                  have H1 : ((some (([t112] : List Int) : List Int)).bind fun y119 => (if x5_1.size + (strOfNums y119).size ≤ 9223372036854775807 then (spec_ParseName.l0 kj5 a0 x2_1 (x5_1 ++ (strOfNums y119)) t113) else (none))) = some (r1, r2, r3) := by rw [if_neg (show ¬ (false = true) by decide)] at H; exact H
                  clear H
                  have H := H1
                  clear H1
                  obtain ⟨y119, hy119⟩ : ∃ y_ : List Int, y_ = (([t112] : List Int)) := ⟨_, rfl⟩
                  replace H : (if x5_1.size + (strOfNums y119).size ≤ 9223372036854775807 then (spec_ParseName.l0 kj5 a0 x2_1 (x5_1 ++ (strOfNums y119)) t113) else (none)) = some (r1, r2, r3) := by first | (rw [hy119]; with_reducible exact H) | (have H2_ := (Option.bind_some _ _).symm.trans H; rw [hy119]; with_reducible exact H2_) | (have H2_ := (Option.bind_some _ _).symm.trans H; with_reducible exact H2_) | with_reducible exact H | (rw [hy119]; exact H) | exact H
                  have Ny119 := Aside0.mk hy119
                  clear hy119
                  by_cases c12 : x5_1.size + (strOfNums y119).size ≤ 9223372036854775807
                  · rw [if_pos c12] at H
                    have c12b0 := eq_true c12
                    have c12b1 : decide (x5_1.size + (strOfNums y119).size ≤ 9223372036854775807) = true := decide_eq_true c12
                    try have c12b2 : (9223372036854775807 < x5_1.size + (strOfNums y119).size) = False := eq_false (Nat.not_lt.2 c12)
                    have H' := Aside0.mk H
                    clear H
                    go_wp2_with (first | ((with_reducible refine gate_dst (N := 41) rfl ?_); (try (refine gate_guard (by rfl) ?_; dsimp only)); refine Kd.R_lit (Kd.int .u8) _ 5 ?hg (N := 41) ?hd (xs := ([t112] : List Int)) (inner := [.int .u8 t112]) (ok := fun _ => True) (okp := fun _ => True) ?hr ?hp (fun _ hk => hk) trivial (Below.refl _ _) (Nat.le_refl _) (by simp) ?_; (case hd => rfl); (case hg => rfl); (case hr => first | (go_simp; done) | (go_simp; rfl)); (case hp => exact (Reps.one (show Kd.M (Kd.int .u8) _ _ _ t112 [.int .u8 t112] from rfl) (Reps.none _ _))); intro v120 w13 ho14 hb hg_ hnew_; clear hg_ hnew_; (first | rw [← Ny119.out] at ho14 | (simp only [Int.reduceToNat] at ho14; rw [← Ny119.out] at ho14)); have n0_ := Aside0.mk (Kd.R_below (by (with_reducible repeat (first | apply Kd.R_alloc | apply Kd.R_drewN | apply Kd.R_drew)); exact HO_2.out) hb); have n1_ := Aside0.mk (Kd.R_lower ho14 (below_size (by repeat (first | (with_reducible first | exact HB.out | apply below_alloc | apply pw_below_drewN | apply below_drew1) | exact HB.out)))); have n2_ := Aside0.mk (below_step (by repeat (first | (with_reducible first | exact HB.out | apply below_alloc | apply pw_below_drewN | apply below_drew1) | exact HB.out)) hb); clear HO_2; clear HB; have HO_2 := n0_; have HO121 := n1_; have HB := n2_; clear n0_ n1_ n2_; clear hb ho14; have hcv15 := own_string (P := Try.prog) Try.underlying33 Try.underlying5 Try.underlying9 (Kd.own_of_R HO121.out)))
                    go_roundg kj5
                    case measure => have := HK1.out; have := HJ5.out; omega
                    case rel => exact ⟨(x2_1), (x5_1 ++ (strOfNums y119)), (t113), (by first | rfl | (simp; done) | (simp [*]; done) | (simp [wrap64]; done)), (by first | rfl | (simp; done) | (simp [*]; done) | (simp [wrap64]; done)), H', ⟨by have := HK1.out; have := HJ5.out; omega⟩, ⟨by (with_reducible repeat (first | apply Kd.R_alloc | apply Kd.R_drewN | apply Kd.R_drew)); exact HO_2.out⟩, ⟨by repeat (first | (with_reducible first | exact HB.out | apply below_alloc | apply pw_below_drewN | apply below_drew1) | exact HB.out)⟩⟩
                  · rw [if_neg c12] at H
                    exact absurd H (by simp)
          · replace c5 := Bool.eq_false_iff.mpr c5
            subst c5
            have H1 : (some (([] : List ByteArray), false, false)) = some (r1, r2, r3) := by rw [if_neg (show ¬ (false = true) by decide)] at H; exact H
            clear H
            have H := H1
            clear H1
            simp only [Option.some.injEq, Prod.mk.injEq] at H
            obtain ⟨rfl, rfl, rfl⟩ := H
            go_wp2_with (first | ((with_reducible refine gate_callee (f := 15) rfl ?_); refine goesL_ (some 20) rfl rfl Try.func15 (by kernel_rfl) rfl #[.string a0, .int .i64 x6_1] rfl (by (try simp only [List.map_toArray, List.map_cons, List.map_nil]); first | done | rfl | (simp only [List.length_drop, List.length_take]; rfl)) ?_; (with_reducible refine (spec_escaped.calls a0 x6_1 t112 t113 t114 false _ A4.out).mono ?_); rintro e w' ⟨rfl, ⟨nd, rfl⟩⟩; refine ⟨_, rfl, ?_⟩))
            go_ret3
            exact ⟨_, by first | rfl | (simp [errW_none, errW_some] <;> rfl) | (simp [*, errW_none, errW_some] <;> rfl), by first | exact Kd.R_nil _ _ _ _ _ | exact Kd.N_nil _ _ _ _ _ | exact Kd.V_nil _ _ _ _ _ | exact Kd.Q_nil _ _ _ _ _ | exact Kd.S_nil _ _ _ _ _, by repeat (first | (with_reducible first | exact HB.out | apply below_alloc | apply pw_below_drewN | apply below_drew1) | exact HB.out)⟩
        · rw [if_neg c3] at H
          have c3b0 : decide (x6_1 < (a0.size : Int)) = false := decide_eq_false c3
          clear c3
          by_cases c16 : x5_1.toList = ([] : List UInt8)
          · rw [if_pos c16] at H
            have c16b0 : (x5_1.toList == ([] : List UInt8)) = true := beq_iff_eq.mpr c16
            have c16b1 : (x5_1.toList != ([] : List UInt8)) = false := bne_eq_false_iff_eq.mpr c16
            clear c16
            by_cases c17 : (x2_1.length : Int) > 0
            · rw [if_pos c17] at H
              have c17b0 : decide (0 < (x2_1.length : Int)) = true := decide_eq_true c17
              have c17b1 : decide (0 < x2_1.length) = true := decide_eq_true (by omega)
              clear c17
              replace H := Option.bind_eq_some_iff.mp H
              obtain ⟨t107, A180, H⟩ := H
              replace H : (some (x2_1, decide ((x2_1.length : Int) > 0), t107)) = some (r1, r2, r3) := H
              have A18 := Aside0.mk A180
              clear A180
              simp only [Option.some.injEq, Prod.mk.injEq] at H
              obtain ⟨rfl, rfl, rfl⟩ := H
              obtain ⟨Ao19, co19, eo19⟩ := Kd.R_slice HO_2.out
              subst eo19
              go_wp2_with (first | (go_at_call 16; (with_reducible refine (spec_Name_Valid.calls k1 _ _ x2_1 t107 _ ?side1 ?side2 A18.out).mono ?_); (case side1 => repeat (first | exact (Kd.R_reads' HO_2.out).2.2 | (with_reducible refine Kd.C_alloc ?_ _) | (with_reducible refine Kd.C_drewN ?_ _) | (with_reducible refine Kd.C_drew ?_))); (case side2 => exact (Kd.R_reads' HO_2.out).2.1); rintro e w' ⟨rfl, ⟨nd, rfl⟩⟩))
              go_ret3
              exact ⟨_, by first | rfl | (simp [errW_none, errW_some] <;> rfl) | (simp [*, errW_none, errW_some] <;> rfl), by (with_reducible repeat (first | apply Kd.R_alloc | apply Kd.R_drewN | apply Kd.R_drew)); exact HO_2.out, by repeat (first | (with_reducible first | exact HB.out | apply below_alloc | apply pw_below_drewN | apply below_drew1) | exact HB.out)⟩
            · rw [if_neg c17] at H
              have c17b0 : decide (0 < (x2_1.length : Int)) = false := decide_eq_false c17
              have c17b1 : decide (0 < x2_1.length) = false := decide_eq_false (by omega)
              clear c17
              simp only [Option.some.injEq, Prod.mk.injEq] at H
              obtain ⟨rfl, rfl, rfl⟩ := H
              obtain ⟨Ao20, co20, eo20⟩ := Kd.R_slice HO_2.out
              subst eo20
              go_wp2
              go_ret3
              exact ⟨_, by first | rfl | (simp [errW_none, errW_some] <;> rfl) | (simp [*, errW_none, errW_some] <;> rfl), by (with_reducible repeat (first | apply Kd.R_alloc | apply Kd.R_drewN | apply Kd.R_drew)); exact HO_2.out, by repeat (first | (with_reducible first | exact HB.out | apply below_alloc | apply pw_below_drewN | apply below_drew1) | exact HB.out)⟩
          · rw [if_neg c16] at H
            have c16b0 : (x5_1.toList == ([] : List UInt8)) = false := beq_eq_false_iff_ne.mpr c16
            have c16b1 : (x5_1.toList != ([] : List UInt8)) = true := bne_iff_ne.mpr c16
            by_cases c21 : x2_1.length < 8796093022208
            · rw [if_pos c21] at H
              have LMc21 := Aside0.mk c21
              clear c21
              obtain ⟨y108, hy108⟩ : ∃ y_ : List ByteArray, y_ = (x2_1 ++ [x5_1]) := ⟨_, rfl⟩
              replace H : (if (y108.length : Int) > 0 then ((spec_Name_Valid.f k1 y108).bind fun t111 => (some (y108, false, t111))) else (some (y108, false, false))) = some (r1, r2, r3) := by first | (rw [hy108]; with_reducible exact H) | (have H2_ := (Option.bind_some _ _).symm.trans H; rw [hy108]; with_reducible exact H2_) | (have H2_ := (Option.bind_some _ _).symm.trans H; with_reducible exact H2_) | with_reducible exact H | (rw [hy108]; exact H) | exact H
              have Ny108 := Aside0.mk hy108
              clear hy108
              by_cases c22 : (y108.length : Int) > 0
              · rw [if_pos c22] at H
                have c22b0 : decide (0 < (y108.length : Int)) = true := decide_eq_true c22
                have c22b1 : decide (0 < y108.length) = true := decide_eq_true (by omega)
                clear c22
                replace H := Option.bind_eq_some_iff.mp H
                obtain ⟨t111, A230, H⟩ := H
                replace H : (some (y108, false, t111)) = some (r1, r2, r3) := H
                have A23 := Aside0.mk A230
                clear A230
                simp only [Option.some.injEq, Prod.mk.injEq] at H
                obtain ⟨rfl, rfl, rfl⟩ := H
                go_wp2_with (first | ((with_reducible refine gate_builtin (b := .append) (xs := #[.tmp 48, .tmp 50]) rfl ?_); (try (refine gate_guard (by rfl) ?_; dsimp only)); at_builtin; refine Kd.R_append Kd.string (w0 := w) w.heap.size rfl (.tmp 48) (.tmp 50) 24 9 (.string ⟨#[]⟩) 16 rfl Try.underlying24 info9 rfl (by decide) (by omega) u2 x2_1 x5_1 [.string x5_1] (fun _ => True) (fun _ => False) rfl rfl ?aP (fun _ hk => hk.elim) ?aF ?aO ?aB ?aS ?aL ?_; (case aP => exact rfl); (case aB => exact (by repeat (first | (with_reducible first | exact HB.out | apply below_alloc | apply pw_below_drewN | apply below_drew1) | exact HB.out))); (case aF => exact (fun _ _ => trivial)); (case aO => exact (by (with_reducible repeat (first | apply Kd.R_alloc | apply Kd.R_drewN | apply Kd.R_drew)); exact HO_2.out)); (case aS => exact (below_size (by repeat (first | (with_reducible first | exact HB.out | apply below_alloc | apply pw_below_drewN | apply below_drew1) | exact HB.out)))); (case aL => have := LMc21.out; omega); intro v109 w24 ho hb hg hat; rw [← Ny108.out] at ho; have n0_ := Aside0.mk (hb); have n1_ := Aside0.mk (ho); clear HB; clear HO_2; have HB := n0_; have HO110 := n1_; clear n0_ n1_; clear ho hb hg hat; obtain ⟨Ao25, co25, eo25⟩ := Kd.R_slice HO110.out; subst eo25) | (go_at_call 16; (with_reducible refine (spec_Name_Valid.calls k1 _ _ y108 t111 _ ?side1 ?side2 A23.out).mono ?_); (case side1 => repeat (first | exact (Kd.R_reads' HO110.out).2.2 | (with_reducible refine Kd.C_alloc ?_ _) | (with_reducible refine Kd.C_drewN ?_ _) | (with_reducible refine Kd.C_drew ?_))); (case side2 => exact (Kd.R_reads' HO110.out).2.1); rintro e w' ⟨rfl, ⟨nd, rfl⟩⟩))
                go_ret3
                exact ⟨_, by first | rfl | (simp [errW_none, errW_some] <;> rfl) | (simp [*, errW_none, errW_some] <;> rfl), by (with_reducible repeat (first | apply Kd.R_alloc | apply Kd.R_drewN | apply Kd.R_drew)); exact HO110.out, by repeat (first | (with_reducible first | exact HB.out | apply below_alloc | apply pw_below_drewN | apply below_drew1) | exact HB.out)⟩
              · rw [if_neg c22] at H
                have c22b0 : decide (0 < (y108.length : Int)) = false := decide_eq_false c22
                have c22b1 : decide (0 < y108.length) = false := decide_eq_false (by omega)
                clear c22
                simp only [Option.some.injEq, Prod.mk.injEq] at H
                obtain ⟨rfl, rfl, rfl⟩ := H
                go_wp2_with (first | ((with_reducible refine gate_builtin (b := .append) (xs := #[.tmp 48, .tmp 50]) rfl ?_); (try (refine gate_guard (by rfl) ?_; dsimp only)); at_builtin; refine Kd.R_append Kd.string (w0 := w) w.heap.size rfl (.tmp 48) (.tmp 50) 24 9 (.string ⟨#[]⟩) 16 rfl Try.underlying24 info9 rfl (by decide) (by omega) u2 x2_1 x5_1 [.string x5_1] (fun _ => True) (fun _ => False) rfl rfl ?aP (fun _ hk => hk.elim) ?aF ?aO ?aB ?aS ?aL ?_; (case aP => exact rfl); (case aB => exact (by repeat (first | (with_reducible first | exact HB.out | apply below_alloc | apply pw_below_drewN | apply below_drew1) | exact HB.out))); (case aF => exact (fun _ _ => trivial)); (case aO => exact (by (with_reducible repeat (first | apply Kd.R_alloc | apply Kd.R_drewN | apply Kd.R_drew)); exact HO_2.out)); (case aS => exact (below_size (by repeat (first | (with_reducible first | exact HB.out | apply below_alloc | apply pw_below_drewN | apply below_drew1) | exact HB.out)))); (case aL => have := LMc21.out; omega); intro v109 w26 ho hb hg hat; rw [← Ny108.out] at ho; have n0_ := Aside0.mk (hb); have n1_ := Aside0.mk (ho); clear HB; clear HO_2; have HB := n0_; have HO110 := n1_; clear n0_ n1_; clear ho hb hg hat; obtain ⟨Ao27, co27, eo27⟩ := Kd.R_slice HO110.out; subst eo27))
                go_ret3
                exact ⟨_, by first | rfl | (simp [errW_none, errW_some] <;> rfl) | (simp [*, errW_none, errW_some] <;> rfl), by (with_reducible repeat (first | apply Kd.R_alloc | apply Kd.R_drewN | apply Kd.R_drew)); exact HO110.out, by repeat (first | (with_reducible first | exact HB.out | apply below_alloc | apply pw_below_drewN | apply below_drew1) | exact HB.out)⟩
            · rw [if_neg c21] at H
              exact absurd H (by simp)

/-! ### spec_Plain: function 11 -/
def spec_Plain.l0 : Nat → ByteArray → Int → Int → Option (Bool)
  | 0, _, _, _ => none
  | k + 1, x0, x5, x6 => if x6 < x5 then (if 0 ≤ x6 then (if x6 < (x0.size : Int) then (if (bt x0 x6) = 92 then (some false) else (spec_Plain.l0 k x0 x5 (wrap64 (x6 + 1)))) else (none)) else (none)) else (some true)
def spec_Plain.f (k : Nat) (a0 : ByteArray) : Option (Bool) := spec_Plain.l0 k a0 (a0.size : Int) 0
theorem spec_Plain.mono_l : ∀ k, (∀ y0 y1 y2, LeO (spec_Plain.l0 k y0 y1 y2) (spec_Plain.l0 (k + 1) y0 y1 y2))
  | 0 => fun _ _ _ r h => by simp [spec_Plain.l0] at h
  | k + 1 => by
    have ih0 := spec_Plain.mono_l k
    · intro y0 y1 y2
      unfold spec_Plain.l0
      repeat' first
      | (with_reducible exact ih0 _ _ _)
      | (with_reducible exact LeO.refl _)
      | (with_reducible exact LeO.none _)
      | (with_reducible refine LeO.ite ?_ ?_)
      | (with_reducible refine LeO.bind ?_ (fun _ => ?_))
      | exact ih0 _ _ _
      | exact LeO.none _
      | refine LeO.ite ?_ ?_
      | refine LeO.bind ?_ (fun _ => ?_)
theorem spec_Plain.mono : ∀ a0 k, LeO (spec_Plain.f k a0) (spec_Plain.f (k + 1) a0) := by
  intro a0 k
  have ih0 := spec_Plain.mono_l k
  unfold spec_Plain.f
  repeat' first
      | (with_reducible exact ih0 _ _ _)
      | (with_reducible exact LeO.refl _)
      | (with_reducible exact LeO.none _)
      | (with_reducible refine LeO.ite ?_ ?_)
      | (with_reducible refine LeO.bind ?_ (fun _ => ?_))
      | exact ih0 _ _ _
      | exact LeO.none _
      | refine LeO.ite ?_ ?_
      | refine LeO.bind ?_ (fun _ => ?_)
set_option maxHeartbeats 8000000 in
set_option maxRecDepth 100000 in
theorem spec_Plain.calls (k : Nat) (a0 : ByteArray) (r : Bool) (w : World) (h : spec_Plain.f k a0 = some r) :
    Calls Try.prog 11 #[.string a0] w fun e w' => e = .returned (.bool r) ∧ Drawn0 w w' := by
  have H : (spec_Plain.l0 k a0 (a0.size : Int) 0) = some r := h
  clear h
  have H' := Aside0.mk H
  clear H
  go_enter Try.func11, Try.ntmps11
  go_wp2
  go_loopg [6] k (fun kq v6 w' => ∃ (x6_1 : Int), v6 = .int .i64 x6_1 ∧ Aside0 (spec_Plain.l0 kq a0 (a0.size : Int) x6_1 = some r) ∧ Aside0 (kq ≤ k) ∧ Drawn0 w w')
  case atStart => exact ⟨(0), (by first | rfl | (simp; done) | (simp [*]; done) | (simp [wrap64]; done)), H', ⟨Nat.le_refl _⟩, by repeat (first | exact Drawn0.refl _ | apply Drawn0.step)⟩
  case round =>
    clear H'
    try clear c1
    obtain ⟨x6_1, rfl, HA, HK1, ⟨m1, rfl⟩⟩ := hrel
    cases gk with
    | zero => exact absurd HA.out (by simp [spec_Plain.l0])
    | succ k1 =>
      have H := HA.out
      clear HA
      simp only [spec_Plain.l0] at H
      by_cases c2 : x6_1 < (a0.size : Int)
      · rw [if_pos c2] at H
        have c2b0 : decide (x6_1 < (a0.size : Int)) = true := decide_eq_true c2
        clear c2
        by_cases c3 : 0 ≤ x6_1
        · rw [if_pos c3] at H
          have c3b0 : decide (0 ≤ x6_1) = true := decide_eq_true c3
          clear c3
          by_cases c4 : x6_1 < (a0.size : Int)
          · rw [if_pos c4] at H
            have c4b0 : decide (x6_1 < (a0.size : Int)) = true := decide_eq_true c4
            clear c4
            by_cases c6 : (bt a0 x6_1) = 92
            · rw [if_pos c6] at H
              have c6b0 : ((bt a0 x6_1) == 92) = true := beq_iff_eq.mpr c6
              have c6b1 : ((bt a0 x6_1) != 92) = false := bne_eq_false_iff_eq.mpr c6
              clear c6
              obtain rfl := Option.some.inj H
              have p5 : 0 ≤ (x6_1 : Int) := of_decide_eq_true (by first | (with_reducible assumption) | assumption)
              have q5 : x6_1 < (a0.size : Int) := of_decide_eq_true (by first | (with_reducible assumption) | assumption)
              have hx5 := bt_at a0 x6_1
              replace p5 := eq_true p5
              replace q5 := eq_true q5
              go_wp2
              go_ret
              exact ⟨by first | rfl | (simp; done) | (simp [*]; done) | (simp [wrap64]; done), by repeat (first | exact Drawn0.refl _ | apply Drawn0.step)⟩
            · rw [if_neg c6] at H
              have c6b0 : ((bt a0 x6_1) == 92) = false := beq_eq_false_iff_ne.mpr c6
              have c6b1 : ((bt a0 x6_1) != 92) = true := bne_iff_ne.mpr c6
              have H' := Aside0.mk H
              clear H
              have p5 : 0 ≤ (x6_1 : Int) := of_decide_eq_true (by first | (with_reducible assumption) | assumption)
              have q5 : x6_1 < (a0.size : Int) := of_decide_eq_true (by first | (with_reducible assumption) | assumption)
              have hx5 := bt_at a0 x6_1
              replace p5 := eq_true p5
              replace q5 := eq_true q5
              go_wp2
              go_roundg k1
              case measure => have := HK1.out; omega
              case rel => exact ⟨(wrap64 (x6_1 + 1)), (by first | rfl | (simp; done) | (simp [*]; done) | (simp [wrap64]; done)), H', ⟨by have := HK1.out; omega⟩, by repeat (first | exact Drawn0.refl _ | apply Drawn0.step)⟩
          · rw [if_neg c4] at H
            exact absurd H (by simp)
        · rw [if_neg c3] at H
          exact absurd H (by simp)
      · rw [if_neg c2] at H
        have c2b0 : decide (x6_1 < (a0.size : Int)) = false := decide_eq_false c2
        clear c2
        obtain rfl := Option.some.inj H
        go_wp2
        go_ret
        exact ⟨by first | rfl | (simp; done) | (simp [*]; done) | (simp [wrap64]; done), by repeat (first | exact Drawn0.refl _ | apply Drawn0.step)⟩

/-! ### laws_plain: function 6 -/
def laws_plain.f (k : Nat) (a0 : ByteArray) : Option (List ByteArray × Bool × Bool) := (spec_ParseName.f k a0).bind fun bt122 => (if bt122.2.2 = true then ((spec_Plain.f k a0).bind fun t127 => (some (bt122.1, bt122.2.1, t127))) else (some (bt122.1, bt122.2.1, false)))
theorem laws_plain.mono : ∀ a0 k, LeO (laws_plain.f k a0) (laws_plain.f (k + 1) a0) := by
  intro a0 k
  unfold laws_plain.f
  repeat' first
      | (with_reducible exact spec_ParseName.mono _ _)
      | (with_reducible exact spec_Plain.mono _ _)
      | (with_reducible exact LeO.refl _)
      | (with_reducible exact LeO.none _)
      | (with_reducible refine LeO.ite ?_ ?_)
      | (with_reducible refine LeO.bind ?_ (fun _ => ?_))
      | exact spec_ParseName.mono _ _
      | exact spec_Plain.mono _ _
      | exact LeO.none _
      | refine LeO.ite ?_ ?_
      | refine LeO.bind ?_ (fun _ => ?_)
set_option maxHeartbeats 8000000 in
set_option maxRecDepth 100000 in
theorem laws_plain.calls (k : Nat) (a0 : ByteArray) (r1 : List ByteArray) (r2 : Bool) (r3 : Bool) (w : World) (h : laws_plain.f k a0 = some (r1, r2, r3)) :
    Calls Try.prog 6 #[.string a0] w fun e w' => ∃ v0_ : Value, e = .returned (.tuple #[v0_, .bool r2, .bool r3]) ∧ Kd.R Kd.string 9 w' w.heap.size (fun _ => True) v0_ r1 ∧ Below w.heap.size w w' := by
  have HB := Aside0.mk (Below.refl w.heap.size w)
  have H : ((spec_ParseName.f k a0).bind fun bt122 => (if bt122.2.2 = true then ((spec_Plain.f k a0).bind fun t127 => (some (bt122.1, bt122.2.1, t127))) else (some (bt122.1, bt122.2.1, false)))) = some (r1, r2, r3) := h
  clear h
  replace H := Option.bind_eq_some_iff.mp H
  obtain ⟨⟨t122, t123, t124⟩, A20, H⟩ := H
  replace H : (if t124 = true then ((spec_Plain.f k a0).bind fun t127 => (some (t122, t123, t127))) else (some (t122, t123, false))) = some (r1, r2, r3) := H
  have A2 := Aside0.mk A20
  clear A20
  by_cases c3 : t124 = true
  · subst c3
    have H1 : ((spec_Plain.f k a0).bind fun t127 => (some (t122, t123, t127))) = some (r1, r2, r3) := by rw [if_pos rfl] at H; exact H
    clear H
    have H := H1
    clear H1
    replace H := Option.bind_eq_some_iff.mp H
    obtain ⟨t127, A40, H⟩ := H
    replace H : (some (t122, t123, t127)) = some (r1, r2, r3) := H
    have A4 := Aside0.mk A40
    clear A40
    simp only [Option.some.injEq, Prod.mk.injEq] at H
    obtain ⟨rfl, rfl, rfl⟩ := H
    go_enter Try.func6, Try.ntmps6
    go_wp2_with (first | ((with_reducible refine gate_callee (f := 10) rfl ?_); refine goesL_ (some 10) rfl rfl Try.func10 (by kernel_rfl) rfl #[.string a0] rfl (by (try simp only [List.map_toArray, List.map_cons, List.map_nil]); first | done | rfl | (simp only [List.length_drop, List.length_take]; rfl)) ?_; (with_reducible refine (spec_ParseName.calls k a0 t122 t123 true _ A2.out).mono ?_); rintro e w5 ⟨v125, rfl, ho0, hb⟩; refine ⟨_, rfl, ?_⟩; have n0_ := Aside0.mk (Kd.R_lower ho0 (below_size (by repeat (first | (with_reducible first | exact HB.out | apply below_alloc | apply pw_below_drewN | apply below_drew1) | exact HB.out)))); have n1_ := Aside0.mk (below_step (by repeat (first | (with_reducible first | exact HB.out | apply below_alloc | apply pw_below_drewN | apply below_drew1) | exact HB.out)) hb); clear HB; have HO126 := n0_; have HB := n1_; clear n0_ n1_; (try clear hb); (try clear hb2); (try clear hk); (try clear hi); (try clear ho0)) | (go_at_call 11; (with_reducible refine (spec_Plain.calls k a0 t127 _ A4.out).mono ?_); rintro e w' ⟨rfl, ⟨nd, rfl⟩⟩))
    go_ret3
    exact ⟨_, by first | rfl | (simp [errW_none, errW_some] <;> rfl) | (simp [*, errW_none, errW_some] <;> rfl), by (with_reducible repeat (first | apply Kd.R_alloc | apply Kd.R_drewN | apply Kd.R_drew)); exact HO126.out, by repeat (first | (with_reducible first | exact HB.out | apply below_alloc | apply pw_below_drewN | apply below_drew1) | exact HB.out)⟩
  · replace c3 := Bool.eq_false_iff.mpr c3
    subst c3
    have H1 : (some (t122, t123, false)) = some (r1, r2, r3) := by rw [if_neg (show ¬ (false = true) by decide)] at H; exact H
    clear H
    have H := H1
    clear H1
    simp only [Option.some.injEq, Prod.mk.injEq] at H
    obtain ⟨rfl, rfl, rfl⟩ := H
    go_enter Try.func6, Try.ntmps6
    go_wp2_with (first | ((with_reducible refine gate_callee (f := 10) rfl ?_); refine goesL_ (some 10) rfl rfl Try.func10 (by kernel_rfl) rfl #[.string a0] rfl (by (try simp only [List.map_toArray, List.map_cons, List.map_nil]); first | done | rfl | (simp only [List.length_drop, List.length_take]; rfl)) ?_; (with_reducible refine (spec_ParseName.calls k a0 t122 t123 false _ A2.out).mono ?_); rintro e w6 ⟨v125, rfl, ho0, hb⟩; refine ⟨_, rfl, ?_⟩; have n0_ := Aside0.mk (Kd.R_lower ho0 (below_size (by repeat (first | (with_reducible first | exact HB.out | apply below_alloc | apply pw_below_drewN | apply below_drew1) | exact HB.out)))); have n1_ := Aside0.mk (below_step (by repeat (first | (with_reducible first | exact HB.out | apply below_alloc | apply pw_below_drewN | apply below_drew1) | exact HB.out)) hb); clear HB; have HO126 := n0_; have HB := n1_; clear n0_ n1_; (try clear hb); (try clear hb2); (try clear hk); (try clear hi); (try clear ho0)))
    go_ret3
    exact ⟨_, by first | rfl | (simp [errW_none, errW_some] <;> rfl) | (simp [*, errW_none, errW_some] <;> rfl), by (with_reducible repeat (first | apply Kd.R_alloc | apply Kd.R_drewN | apply Kd.R_drew)); exact HO126.out, by repeat (first | (with_reducible first | exact HB.out | apply below_alloc | apply pw_below_drewN | apply below_drew1) | exact HB.out)⟩

-- BY HAND: function 17 (spec_lower)

/-! ### spec_Name_Lower: function 12 -/
def spec_Name_Lower.l0 : Nat → List ByteArray → List ByteArray → Int → Int → Option (List ByteArray)
  | 0, _, _, _, _ => none
  | k + 1, x3, x6, x7, x8 => if x8 < x7 then (if 0 ≤ x8 then (if x8 < (x6.length : Int) then ((spec_lower.f (rdOf ByteArray.empty x6 x8)).bind fun t129 => (if x3.length < 8796093022208 then (spec_Name_Lower.l0 k (x3 ++ [t129]) x6 x7 (wrap64 (x8 + 1))) else (none))) else (none)) else (none)) else (some x3)
def spec_Name_Lower.f (k : Nat) (l0 : List ByteArray) : Option (List ByteArray) := spec_Name_Lower.l0 k ([] : List ByteArray) l0 (l0.length : Int) 0
theorem spec_Name_Lower.mono_l : ∀ k, (∀ y0 y1 y2 y3, LeO (spec_Name_Lower.l0 k y0 y1 y2 y3) (spec_Name_Lower.l0 (k + 1) y0 y1 y2 y3))
  | 0 => fun _ _ _ _ r h => by simp [spec_Name_Lower.l0] at h
  | k + 1 => by
    have ih0 := spec_Name_Lower.mono_l k
    · intro y0 y1 y2 y3
      unfold spec_Name_Lower.l0
      repeat' first
      | (with_reducible exact ih0 _ _ _ _)
      | (with_reducible exact LeO.refl _)
      | (with_reducible exact LeO.none _)
      | (with_reducible refine LeO.ite ?_ ?_)
      | (with_reducible refine LeO.bind ?_ (fun _ => ?_))
      | exact ih0 _ _ _ _
      | exact LeO.none _
      | refine LeO.ite ?_ ?_
      | refine LeO.bind ?_ (fun _ => ?_)
theorem spec_Name_Lower.mono : ∀ a0 k, LeO (spec_Name_Lower.f k a0) (spec_Name_Lower.f (k + 1) a0) := by
  intro a0 k
  have ih0 := spec_Name_Lower.mono_l k
  unfold spec_Name_Lower.f
  repeat' first
      | (with_reducible exact ih0 _ _ _ _)
      | (with_reducible exact LeO.refl _)
      | (with_reducible exact LeO.none _)
      | (with_reducible refine LeO.ite ?_ ?_)
      | (with_reducible refine LeO.bind ?_ (fun _ => ?_))
      | exact ih0 _ _ _ _
      | exact LeO.none _
      | refine LeO.ite ?_ ?_
      | refine LeO.bind ?_ (fun _ => ?_)
set_option maxHeartbeats 8000000 in
set_option maxRecDepth 100000 in
theorem spec_Name_Lower.calls (k : Nat) (A0 : Option Addr) (c0 : Nat) (l0 : List ByteArray) (r : List ByteArray) (w : World) (hr0 : Kd.C Kd.string w A0 l0.length l0) (hc0 : l0.length ≤ c0) (h : spec_Name_Lower.f k l0 = some r) :
    Calls Try.prog 12 #[.slice A0 l0.length c0] w fun e w' => ∃ v0_ : Value, e = .returned (v0_) ∧ Kd.R Kd.string 9 w' w.heap.size (fun _ => True) v0_ r ∧ Below w.heap.size w w' := by
  have HR0 := Aside0.mk hr0
  have HC0 := Aside0.mk hc0
  clear hr0 hc0
  have HB := Aside0.mk (Below.refl w.heap.size w)
  have H : (spec_Name_Lower.l0 k ([] : List ByteArray) l0 (l0.length : Int) 0) = some r := h
  clear h
  have H' := Aside0.mk H
  clear H
  go_enter Try.func12, Try.ntmps12
  go_wp2
  go_loopg [3, 8] k (fun kq v3 v8 w' => ∃ (x3_1 : List ByteArray) (x8_1 : Int), v8 = .int .i64 x8_1 ∧ Aside0 (spec_Name_Lower.l0 kq x3_1 l0 (l0.length : Int) x8_1 = some r) ∧ Aside0 (kq ≤ k) ∧ Aside0 (Kd.R Kd.string 9 w' w.heap.size (fun _ => True) v3 x3_1) ∧ Aside0 (Below w.heap.size w w'))
  case atStart => exact ⟨(([] : List ByteArray)), (0), (by first | rfl | (simp; done) | (simp [*]; done) | (simp [wrap64]; done)), H', ⟨Nat.le_refl _⟩, ⟨by first | exact Kd.R_nil _ _ _ _ _ | exact Kd.N_nil _ _ _ _ _ | exact Kd.V_nil _ _ _ _ _ | exact Kd.Q_nil _ _ _ _ _ | exact Kd.S_nil _ _ _ _ _⟩, ⟨by repeat (first | (with_reducible first | exact HB.out | apply below_alloc | apply pw_below_drewN | apply below_drew1) | exact HB.out)⟩⟩
  case round =>
    clear H'
    try clear c1
    obtain ⟨x3_1, x8_1, rfl, HA, HK1, HO_3, HB⟩ := hrel
    cases gk with
    | zero => exact absurd HA.out (by simp [spec_Name_Lower.l0])
    | succ k1 =>
      have H := HA.out
      clear HA
      simp only [spec_Name_Lower.l0] at H
      by_cases c2 : x8_1 < (l0.length : Int)
      · rw [if_pos c2] at H
        have c2b0 : decide (x8_1 < (l0.length : Int)) = true := decide_eq_true c2
        clear c2
        by_cases c3 : 0 ≤ x8_1
        · rw [if_pos c3] at H
          have c3b0 : decide (0 ≤ x8_1) = true := decide_eq_true c3
          clear c3
          by_cases c4 : x8_1 < (l0.length : Int)
          · rw [if_pos c4] at H
            have c4b0 : decide (x8_1 < (l0.length : Int)) = true := decide_eq_true c4
            clear c4
            replace H := Option.bind_eq_some_iff.mp H
            obtain ⟨t129, A50, H⟩ := H
            replace H : (if x3_1.length < 8796093022208 then (spec_Name_Lower.l0 k1 (x3_1 ++ [t129]) l0 (l0.length : Int) (wrap64 (x8_1 + 1))) else (none)) = some r := H
            have A5 := Aside0.mk A50
            clear A50
            by_cases c6 : x3_1.length < 8796093022208
            · rw [if_pos c6] at H
              have LMc6 := Aside0.mk c6
              clear c6
              obtain ⟨y130, hy130⟩ : ∃ y_ : List ByteArray, y_ = (x3_1 ++ [t129]) := ⟨_, rfl⟩
              replace H : (spec_Name_Lower.l0 k1 y130 l0 (l0.length : Int) (wrap64 (x8_1 + 1))) = some r := by first | (rw [hy130]; with_reducible exact H) | (have H2_ := (Option.bind_some _ _).symm.trans H; rw [hy130]; with_reducible exact H2_) | (have H2_ := (Option.bind_some _ _).symm.trans H; with_reducible exact H2_) | with_reducible exact H | (rw [hy130]; exact H) | exact H
              have Ny130 := Aside0.mk hy130
              clear hy130
              have H' := Aside0.mk H
              clear H
              have p128 : 0 ≤ (x8_1 : Int) := of_decide_eq_true (by first | (with_reducible assumption) | assumption)
              have q128 : x8_1 < (l0.length : Int) := of_decide_eq_true (by first | (with_reducible assumption) | assumption)
              obtain ⟨ad128, e128, hx128_0⟩ := Kd.at_string HR0.out x8_1 p128 q128
              cases e128
              replace hx128_0 := (HB.out.cell (World.block_lt_of_cell? w _ hx128_0)).trans hx128_0
              replace p128 := eq_true p128
              replace q128 := eq_true q128
              go_wp2_with (first | ((with_reducible refine gate_callee (f := 17) rfl ?_); refine goesL_ (some 14) rfl rfl Try.func17 (by kernel_rfl) rfl #[.string (rdOf ByteArray.empty l0 x8_1)] rfl (by (try simp only [List.map_toArray, List.map_cons, List.map_nil]); first | done | rfl | (simp only [List.length_drop, List.length_take]; rfl)) ?_; (with_reducible refine (spec_lower.calls (rdOf ByteArray.empty l0 x8_1) t129 _ A5.out).mono ?_); rintro e w7 ⟨rfl, hb⟩; refine ⟨_, rfl, ?_⟩; have n0_ := Aside0.mk (Kd.R_below (by (with_reducible repeat (first | apply Kd.R_alloc | apply Kd.R_drewN | apply Kd.R_drew)); exact HO_3.out) hb); have n1_ := Aside0.mk (below_step (by repeat (first | (with_reducible first | exact HB.out | apply below_alloc | apply pw_below_drewN | apply below_drew1) | exact HB.out)) hb); clear HO_3; clear HB; have HO_3 := n0_; have HB := n1_; clear n0_ n1_; (try clear hb); (try clear hb2); (try clear hk); (try clear hi)) | ((with_reducible refine gate_builtin (b := .append) (xs := #[.tmp 12, .tmp 15]) rfl ?_); at_builtin; refine Kd.R_append Kd.string (w0 := w) w.heap.size rfl (.tmp 12) (.tmp 15) 24 9 (.string ⟨#[]⟩) 16 rfl Try.underlying24 info9 rfl (by decide) (by omega) u3 x3_1 t129 [.string t129] (fun _ => True) (fun _ => False) rfl rfl ?aP (fun _ hk => hk.elim) ?aF ?aO ?aB ?aS ?aL ?_; (case aP => exact rfl); (case aB => exact (by repeat (first | (with_reducible first | exact HB.out | apply below_alloc | apply pw_below_drewN | apply below_drew1) | exact HB.out))); (case aF => exact (fun _ _ => trivial)); (case aO => exact (by (with_reducible repeat (first | apply Kd.R_alloc | apply Kd.R_drewN | apply Kd.R_drew)); exact HO_3.out)); (case aS => exact (below_size (by repeat (first | (with_reducible first | exact HB.out | apply below_alloc | apply pw_below_drewN | apply below_drew1) | exact HB.out)))); (case aL => have := LMc6.out; omega); intro v131 w8 ho hb hg hat; rw [← Ny130.out] at ho; have n0_ := Aside0.mk (hb); have n1_ := Aside0.mk (ho); clear HB; clear HO_3; have HB := n0_; have HO132 := n1_; clear n0_ n1_; clear ho hb hg hat))
              go_roundg k1
              case measure => have := HK1.out; omega
              case rel => exact ⟨(y130), (wrap64 (x8_1 + 1)), (by first | rfl | (simp; done) | (simp [*]; done) | (simp [wrap64]; done)), H', ⟨by have := HK1.out; omega⟩, ⟨by (with_reducible repeat (first | apply Kd.R_alloc | apply Kd.R_drewN | apply Kd.R_drew)); exact HO132.out⟩, ⟨by repeat (first | (with_reducible first | exact HB.out | apply below_alloc | apply pw_below_drewN | apply below_drew1) | exact HB.out)⟩⟩
            · rw [if_neg c6] at H
              exact absurd H (by simp)
          · rw [if_neg c4] at H
            exact absurd H (by simp)
        · rw [if_neg c3] at H
          exact absurd H (by simp)
      · rw [if_neg c2] at H
        have c2b0 : decide (x8_1 < (l0.length : Int)) = false := decide_eq_false c2
        clear c2
        obtain rfl := Option.some.inj H
        go_wp2
        go_ret
        exact ⟨_, by first | rfl | (simp [errW_none, errW_some] <;> rfl) | (simp [*, errW_none, errW_some] <;> rfl), by (with_reducible repeat (first | apply Kd.R_alloc | apply Kd.R_drewN | apply Kd.R_drew)); exact HO_3.out, by repeat (first | (with_reducible first | exact HB.out | apply below_alloc | apply pw_below_drewN | apply below_drew1) | exact HB.out)⟩

/-! ### spec_Common: function 7 -/
def spec_Common.l0 : Nat → List ByteArray → List ByteArray → Int → Option (Int)
  | 0, _, _, _ => none
  | k + 1, x0, x1, x5 => if x5 < (x0.length : Int) then (if x5 < (x1.length : Int) then (if 0 ≤ (wrap64 ((wrap64 ((x0.length : Int) - 1)) - x5)) then (if (wrap64 ((wrap64 ((x0.length : Int) - 1)) - x5)) < (x0.length : Int) then (if 0 ≤ (wrap64 ((wrap64 ((x1.length : Int) - 1)) - x5)) then (if (wrap64 ((wrap64 ((x1.length : Int) - 1)) - x5)) < (x1.length : Int) then (if (rdOf ByteArray.empty x0 (wrap64 ((wrap64 ((x0.length : Int) - 1)) - x5))).toList = (rdOf ByteArray.empty x1 (wrap64 ((wrap64 ((x1.length : Int) - 1)) - x5))).toList then (spec_Common.l0 k x0 x1 (wrap64 (x5 + 1))) else (some x5)) else (none)) else (none)) else (none)) else (none)) else (some x5)) else (some x5)
def spec_Common.f (k : Nat) (l0 : List ByteArray) (l1 : List ByteArray) : Option (Int) := (spec_Name_Lower.f k l0).bind fun t133 => ((spec_Name_Lower.f k l1).bind fun t136 => (spec_Common.l0 k t133 t136 0))
theorem spec_Common.mono_l : ∀ k, (∀ y0 y1 y2, LeO (spec_Common.l0 k y0 y1 y2) (spec_Common.l0 (k + 1) y0 y1 y2))
  | 0 => fun _ _ _ r h => by simp [spec_Common.l0] at h
  | k + 1 => by
    have ih0 := spec_Common.mono_l k
    · intro y0 y1 y2
      unfold spec_Common.l0
      repeat' first
      | (with_reducible exact ih0 _ _ _)
      | (with_reducible exact spec_Name_Lower.mono _ _)
      | (with_reducible exact LeO.refl _)
      | (with_reducible exact LeO.none _)
      | (with_reducible refine LeO.ite ?_ ?_)
      | (with_reducible refine LeO.bind ?_ (fun _ => ?_))
      | exact ih0 _ _ _
      | exact spec_Name_Lower.mono _ _
      | exact LeO.none _
      | refine LeO.ite ?_ ?_
      | refine LeO.bind ?_ (fun _ => ?_)
theorem spec_Common.mono : ∀ a0 a1 k, LeO (spec_Common.f k a0 a1) (spec_Common.f (k + 1) a0 a1) := by
  intro a0 a1 k
  have ih0 := spec_Common.mono_l k
  unfold spec_Common.f
  repeat' first
      | (with_reducible exact ih0 _ _ _)
      | (with_reducible exact spec_Name_Lower.mono _ _)
      | (with_reducible exact LeO.refl _)
      | (with_reducible exact LeO.none _)
      | (with_reducible refine LeO.ite ?_ ?_)
      | (with_reducible refine LeO.bind ?_ (fun _ => ?_))
      | exact ih0 _ _ _
      | exact spec_Name_Lower.mono _ _
      | exact LeO.none _
      | refine LeO.ite ?_ ?_
      | refine LeO.bind ?_ (fun _ => ?_)
set_option maxHeartbeats 8000000 in
set_option maxRecDepth 100000 in
theorem spec_Common.calls (k : Nat) (A0 : Option Addr) (c0 : Nat) (l0 : List ByteArray) (A1 : Option Addr) (c1 : Nat) (l1 : List ByteArray) (r : Int) (w : World) (hr0 : Kd.C Kd.string w A0 l0.length l0) (hc0 : l0.length ≤ c0) (hr1 : Kd.C Kd.string w A1 l1.length l1) (hc1 : l1.length ≤ c1) (h : spec_Common.f k l0 l1 = some r) :
    Calls Try.prog 7 #[.slice A0 l0.length c0, .slice A1 l1.length c1] w fun e w' => e = .returned (.int .i64 r) ∧ Below w.heap.size w w' := by
  have HR0 := Aside0.mk hr0
  have HC0 := Aside0.mk hc0
  clear hr0 hc0
  have HR1 := Aside0.mk hr1
  have HC1 := Aside0.mk hc1
  clear hr1 hc1
  have HB := Aside0.mk (Below.refl w.heap.size w)
  have H : ((spec_Name_Lower.f k l0).bind fun t133 => ((spec_Name_Lower.f k l1).bind fun t136 => (spec_Common.l0 k t133 t136 0))) = some r := h
  clear h
  replace H := Option.bind_eq_some_iff.mp H
  obtain ⟨t133, A30, H⟩ := H
  replace H : ((spec_Name_Lower.f k l1).bind fun t136 => (spec_Common.l0 k t133 t136 0)) = some r := H
  have A3 := Aside0.mk A30
  clear A30
  replace H := Option.bind_eq_some_iff.mp H
  obtain ⟨t136, A40, H⟩ := H
  replace H : (spec_Common.l0 k t133 t136 0) = some r := H
  have A4 := Aside0.mk A40
  clear A40
  have H' := Aside0.mk H
  clear H
  go_enter Try.func7, Try.ntmps7
  go_wp2_with (first | (go_at_call 12; (with_reducible refine (spec_Name_Lower.calls k _ _ l0 t133 _ ?side1 ?side2 A3.out).mono ?_); (case side1 => repeat (first | exact HR0.out | (with_reducible refine Kd.C_alloc ?_ _) | (with_reducible refine Kd.C_drewN ?_ _) | (with_reducible refine Kd.C_drew ?_))); (case side2 => exact HC0.out); rintro e w5 ⟨v134, rfl, ho0, hb⟩; have n0_ := Aside0.mk (Kd.R_lower ho0 (below_size (by repeat (first | (with_reducible first | exact HB.out | apply below_alloc | apply pw_below_drewN | apply below_drew1) | exact HB.out)))); have n1_ := Aside0.mk (below_step (by repeat (first | (with_reducible first | exact HB.out | apply below_alloc | apply pw_below_drewN | apply below_drew1) | exact HB.out)) hb); clear HB; have HO135 := n0_; have HB := n1_; clear n0_ n1_; (try clear hb); (try clear hb2); (try clear hk); (try clear hi); (try clear ho0)) | (go_at_call 12; (with_reducible refine (spec_Name_Lower.calls k _ _ l1 t136 _ ?side1 ?side2 A4.out).mono ?_); (case side1 => repeat (first | exact (Kd.C_below HR1.out HB.out) | (with_reducible refine Kd.C_alloc ?_ _) | (with_reducible refine Kd.C_drewN ?_ _) | (with_reducible refine Kd.C_drew ?_))); (case side2 => exact HC1.out); rintro e w6 ⟨v137, rfl, ho0, hb⟩; have n0_ := Aside0.mk (Kd.R_elder' (by (with_reducible repeat (first | apply Kd.R_alloc | apply Kd.R_drewN | apply Kd.R_drew)); exact HO135.out) (Kd.R_base ho0) hb); have n1_ := Aside0.mk (Kd.R_lower (Kd.R_new' ho0 (Kd.R_lt (by (with_reducible repeat (first | apply Kd.R_alloc | apply Kd.R_drewN | apply Kd.R_drew)); exact HO135.out))) (below_size (by repeat (first | (with_reducible first | exact HB.out | apply below_alloc | apply pw_below_drewN | apply below_drew1) | exact HB.out)))); have n2_ := Aside0.mk (below_step (by repeat (first | (with_reducible first | exact HB.out | apply below_alloc | apply pw_below_drewN | apply below_drew1) | exact HB.out)) hb); clear HO135; clear HB; have HO135 := n0_; have HO138 := n1_; have HB := n2_; clear n0_ n1_ n2_; (try clear hb); (try clear hb2); (try clear hk); (try clear hi); (try clear ho0)))
  repeat (go_quiet (first | (go_at_call 12; (with_reducible refine (spec_Name_Lower.calls k _ _ l0 t133 _ ?side1 ?side2 A3.out).mono ?_); (case side1 => repeat (first | exact HR0.out | (with_reducible refine Kd.C_alloc ?_ _) | (with_reducible refine Kd.C_drewN ?_ _) | (with_reducible refine Kd.C_drew ?_))); (case side2 => exact HC0.out); rintro e w5 ⟨v134, rfl, ho0, hb⟩; have n0_ := Aside0.mk (Kd.R_lower ho0 (below_size (by repeat (first | (with_reducible first | exact HB.out | apply below_alloc | apply pw_below_drewN | apply below_drew1) | exact HB.out)))); have n1_ := Aside0.mk (below_step (by repeat (first | (with_reducible first | exact HB.out | apply below_alloc | apply pw_below_drewN | apply below_drew1) | exact HB.out)) hb); clear HB; have HO135 := n0_; have HB := n1_; clear n0_ n1_; (try clear hb); (try clear hb2); (try clear hk); (try clear hi); (try clear ho0)) | (go_at_call 12; (with_reducible refine (spec_Name_Lower.calls k _ _ l1 t136 _ ?side1 ?side2 A4.out).mono ?_); (case side1 => repeat (first | exact (Kd.C_below HR1.out HB.out) | (with_reducible refine Kd.C_alloc ?_ _) | (with_reducible refine Kd.C_drewN ?_ _) | (with_reducible refine Kd.C_drew ?_))); (case side2 => exact HC1.out); rintro e w6 ⟨v137, rfl, ho0, hb⟩; have n0_ := Aside0.mk (Kd.R_elder' (by (with_reducible repeat (first | apply Kd.R_alloc | apply Kd.R_drewN | apply Kd.R_drew)); exact HO135.out) (Kd.R_base ho0) hb); have n1_ := Aside0.mk (Kd.R_lower (Kd.R_new' ho0 (Kd.R_lt (by (with_reducible repeat (first | apply Kd.R_alloc | apply Kd.R_drewN | apply Kd.R_drew)); exact HO135.out))) (below_size (by repeat (first | (with_reducible first | exact HB.out | apply below_alloc | apply pw_below_drewN | apply below_drew1) | exact HB.out)))); have n2_ := Aside0.mk (below_step (by repeat (first | (with_reducible first | exact HB.out | apply below_alloc | apply pw_below_drewN | apply below_drew1) | exact HB.out)) hb); clear HO135; clear HB; have HO135 := n0_; have HO138 := n1_; have HB := n2_; clear n0_ n1_ n2_; (try clear hb); (try clear hb2); (try clear hk); (try clear hi); (try clear ho0))); try go_wp2_with (first | (go_at_call 12; (with_reducible refine (spec_Name_Lower.calls k _ _ l0 t133 _ ?side1 ?side2 A3.out).mono ?_); (case side1 => repeat (first | exact HR0.out | (with_reducible refine Kd.C_alloc ?_ _) | (with_reducible refine Kd.C_drewN ?_ _) | (with_reducible refine Kd.C_drew ?_))); (case side2 => exact HC0.out); rintro e w5 ⟨v134, rfl, ho0, hb⟩; have n0_ := Aside0.mk (Kd.R_lower ho0 (below_size (by repeat (first | (with_reducible first | exact HB.out | apply below_alloc | apply pw_below_drewN | apply below_drew1) | exact HB.out)))); have n1_ := Aside0.mk (below_step (by repeat (first | (with_reducible first | exact HB.out | apply below_alloc | apply pw_below_drewN | apply below_drew1) | exact HB.out)) hb); clear HB; have HO135 := n0_; have HB := n1_; clear n0_ n1_; (try clear hb); (try clear hb2); (try clear hk); (try clear hi); (try clear ho0)) | (go_at_call 12; (with_reducible refine (spec_Name_Lower.calls k _ _ l1 t136 _ ?side1 ?side2 A4.out).mono ?_); (case side1 => repeat (first | exact (Kd.C_below HR1.out HB.out) | (with_reducible refine Kd.C_alloc ?_ _) | (with_reducible refine Kd.C_drewN ?_ _) | (with_reducible refine Kd.C_drew ?_))); (case side2 => exact HC1.out); rintro e w6 ⟨v137, rfl, ho0, hb⟩; have n0_ := Aside0.mk (Kd.R_elder' (by (with_reducible repeat (first | apply Kd.R_alloc | apply Kd.R_drewN | apply Kd.R_drew)); exact HO135.out) (Kd.R_base ho0) hb); have n1_ := Aside0.mk (Kd.R_lower (Kd.R_new' ho0 (Kd.R_lt (by (with_reducible repeat (first | apply Kd.R_alloc | apply Kd.R_drewN | apply Kd.R_drew)); exact HO135.out))) (below_size (by repeat (first | (with_reducible first | exact HB.out | apply below_alloc | apply pw_below_drewN | apply below_drew1) | exact HB.out)))); have n2_ := Aside0.mk (below_step (by repeat (first | (with_reducible first | exact HB.out | apply below_alloc | apply pw_below_drewN | apply below_drew1) | exact HB.out)) hb); clear HO135; clear HB; have HO135 := n0_; have HO138 := n1_; have HB := n2_; clear n0_ n1_ n2_; (try clear hb); (try clear hb2); (try clear hk); (try clear hi); (try clear ho0))))
  go_loopg [5] k (fun kq v5 w' => ∃ (x5_1 : Int), v5 = .int .i64 x5_1 ∧ Aside0 (spec_Common.l0 kq t133 t136 x5_1 = some r) ∧ Aside0 (kq ≤ k) ∧ Aside0 (Kd.R Kd.string 9 w' w.heap.size (fun k_ => some k_ ≠ (v137 : Value).ownBlock) v134 t133) ∧ Aside0 (Kd.R Kd.string 9 w' w.heap.size (fun k_ => some k_ ≠ (v134 : Value).ownBlock) v137 t136) ∧ Aside0 (Below w.heap.size w w'))
  case atStart => exact ⟨(0), (by first | rfl | (simp; done) | (simp [*]; done) | (simp [wrap64]; done)), H', ⟨Nat.le_refl _⟩, ⟨by (with_reducible repeat (first | apply Kd.R_alloc | apply Kd.R_drewN | apply Kd.R_drew)); exact Kd.R_mono HO135.out (fun _ hk => hk.2)⟩, ⟨by (with_reducible repeat (first | apply Kd.R_alloc | apply Kd.R_drewN | apply Kd.R_drew)); exact Kd.R_mono HO138.out (fun _ hk => hk.2)⟩, ⟨by repeat (first | (with_reducible first | exact HB.out | apply below_alloc | apply pw_below_drewN | apply below_drew1) | exact HB.out)⟩⟩
  case round =>
    clear H'
    try clear c1
    try clear p2
    try clear p6
    obtain ⟨x5_1, rfl, HA, HK1, HO_0, HO_1, HB⟩ := hrel
    cases gk with
    | zero => exact absurd HA.out (by simp [spec_Common.l0])
    | succ k1 =>
      have H := HA.out
      clear HA
      simp only [spec_Common.l0] at H
      by_cases c7 : x5_1 < (t133.length : Int)
      · rw [if_pos c7] at H
        have c7b0 : decide (x5_1 < (t133.length : Int)) = true := decide_eq_true c7
        clear c7
        by_cases c8 : x5_1 < (t136.length : Int)
        · rw [if_pos c8] at H
          have c8b0 : decide (x5_1 < (t136.length : Int)) = true := decide_eq_true c8
          clear c8
          obtain ⟨ji9, hji9⟩ : ∃ j_ : Int, (wrap64 ((wrap64 ((t133.length : Int) - 1)) - x5_1)) = j_ := ⟨_, rfl⟩
          replace H : (if 0 ≤ (ji9) then (if (ji9) < (t133.length : Int) then (if 0 ≤ (wrap64 ((wrap64 ((t136.length : Int) - 1)) - x5_1)) then (if (wrap64 ((wrap64 ((t136.length : Int) - 1)) - x5_1)) < (t136.length : Int) then (if (rdOf ByteArray.empty t133 (ji9)).toList = (rdOf ByteArray.empty t136 (wrap64 ((wrap64 ((t136.length : Int) - 1)) - x5_1))).toList then (spec_Common.l0 k1 t133 t136 (wrap64 (x5_1 + 1))) else (some x5_1)) else (none)) else (none)) else (none)) else (none)) = some r := by first | (rw [hji9] at H; exact H) | (simp only [hji9] at H ⊢; exact H)
          have hji9w : (IntKind.i64.wrap ((wrap64 ((t133.length : Int) - 1)) - x5_1)) = ji9 := (i64_w _).trans hji9
          by_cases c10 : 0 ≤ (ji9)
          · rw [if_pos c10] at H
            have c10b0 : decide (0 ≤ (ji9)) = true := decide_eq_true c10
            clear c10
            by_cases c11 : (ji9) < (t133.length : Int)
            · rw [if_pos c11] at H
              have c11b0 : decide ((ji9) < (t133.length : Int)) = true := decide_eq_true c11
              clear c11
              obtain ⟨ji12, hji12⟩ : ∃ j_ : Int, (wrap64 ((wrap64 ((t136.length : Int) - 1)) - x5_1)) = j_ := ⟨_, rfl⟩
              replace H : (if 0 ≤ (ji12) then (if (ji12) < (t136.length : Int) then (if (rdOf ByteArray.empty t133 (ji9)).toList = (rdOf ByteArray.empty t136 (ji12)).toList then (spec_Common.l0 k1 t133 t136 (wrap64 (x5_1 + 1))) else (some x5_1)) else (none)) else (none)) = some r := by first | (rw [hji12] at H; exact H) | (simp only [hji12] at H ⊢; exact H)
              have hji12w : (IntKind.i64.wrap ((wrap64 ((t136.length : Int) - 1)) - x5_1)) = ji12 := (i64_w _).trans hji12
              by_cases c13 : 0 ≤ (ji12)
              · rw [if_pos c13] at H
                have c13b0 : decide (0 ≤ (ji12)) = true := decide_eq_true c13
                clear c13
                by_cases c14 : (ji12) < (t136.length : Int)
                · rw [if_pos c14] at H
                  have c14b0 : decide ((ji12) < (t136.length : Int)) = true := decide_eq_true c14
                  clear c14
                  by_cases c15 : (rdOf ByteArray.empty t133 (ji9)).toList = (rdOf ByteArray.empty t136 (ji12)).toList
                  · rw [if_pos c15] at H
                    have c15b0 : ((rdOf ByteArray.empty t133 (ji9)).toList == (rdOf ByteArray.empty t136 (ji12)).toList) = true := beq_iff_eq.mpr c15
                    have c15b1 : ((rdOf ByteArray.empty t133 (ji9)).toList != (rdOf ByteArray.empty t136 (ji12)).toList) = false := bne_eq_false_iff_eq.mpr c15
                    clear c15
                    have H' := Aside0.mk H
                    clear H
                    obtain ⟨Ao16, co16, eo16⟩ := Kd.R_slice HO_0.out
                    subst eo16
                    obtain ⟨Ao17, co17, eo17⟩ := Kd.R_slice HO_1.out
                    subst eo17
                    have p139 : 0 ≤ ((ji9) : Int) := of_decide_eq_true (by first | (with_reducible assumption) | assumption)
                    have q139 : (ji9) < (t133.length : Int) := of_decide_eq_true (by first | (with_reducible assumption) | assumption)
                    obtain ⟨ad139, e139, hx139_0⟩ := Kd.at_string (Kd.R_reads' HO_0.out).2.2 (ji9) p139 q139
                    cases e139
                    replace p139 := eq_true p139
                    replace q139 := eq_true q139
                    have p140 : 0 ≤ ((ji12) : Int) := of_decide_eq_true (by first | (with_reducible assumption) | assumption)
                    have q140 : (ji12) < (t136.length : Int) := of_decide_eq_true (by first | (with_reducible assumption) | assumption)
                    obtain ⟨ad140, e140, hx140_0⟩ := Kd.at_string (Kd.R_reads' HO_1.out).2.2 (ji12) p140 q140
                    cases e140
                    replace p140 := eq_true p140
                    replace q140 := eq_true q140
                    go_wp2
                    repeat (go_quiet (fail); try go_wp2)
                    go_roundg k1
                    case measure => have := HK1.out; omega
                    case rel => exact ⟨(wrap64 (x5_1 + 1)), (by first | rfl | (simp; done) | (simp [*]; done) | (simp [wrap64]; done)), H', ⟨by have := HK1.out; omega⟩, ⟨by (with_reducible repeat (first | apply Kd.R_alloc | apply Kd.R_drewN | apply Kd.R_drew)); exact HO_0.out⟩, ⟨by (with_reducible repeat (first | apply Kd.R_alloc | apply Kd.R_drewN | apply Kd.R_drew)); exact HO_1.out⟩, ⟨by repeat (first | (with_reducible first | exact HB.out | apply below_alloc | apply pw_below_drewN | apply below_drew1) | exact HB.out)⟩⟩
                  · rw [if_neg c15] at H
                    have c15b0 : ((rdOf ByteArray.empty t133 (ji9)).toList == (rdOf ByteArray.empty t136 (ji12)).toList) = false := beq_eq_false_iff_ne.mpr c15
                    have c15b1 : ((rdOf ByteArray.empty t133 (ji9)).toList != (rdOf ByteArray.empty t136 (ji12)).toList) = true := bne_iff_ne.mpr c15
                    obtain rfl := Option.some.inj H
                    obtain ⟨Ao18, co18, eo18⟩ := Kd.R_slice HO_0.out
                    subst eo18
                    obtain ⟨Ao19, co19, eo19⟩ := Kd.R_slice HO_1.out
                    subst eo19
                    have p139 : 0 ≤ ((ji9) : Int) := of_decide_eq_true (by first | (with_reducible assumption) | assumption)
                    have q139 : (ji9) < (t133.length : Int) := of_decide_eq_true (by first | (with_reducible assumption) | assumption)
                    obtain ⟨ad139, e139, hx139_0⟩ := Kd.at_string (Kd.R_reads' HO_0.out).2.2 (ji9) p139 q139
                    cases e139
                    replace p139 := eq_true p139
                    replace q139 := eq_true q139
                    have p140 : 0 ≤ ((ji12) : Int) := of_decide_eq_true (by first | (with_reducible assumption) | assumption)
                    have q140 : (ji12) < (t136.length : Int) := of_decide_eq_true (by first | (with_reducible assumption) | assumption)
                    obtain ⟨ad140, e140, hx140_0⟩ := Kd.at_string (Kd.R_reads' HO_1.out).2.2 (ji12) p140 q140
                    cases e140
                    replace p140 := eq_true p140
                    replace q140 := eq_true q140
                    go_wp2
                    repeat (go_quiet (fail); try go_wp2)
                    go_ret
                    exact ⟨by first | rfl | (simp [errW_none, errW_some] <;> rfl) | (simp only [← hji9, ← hji12]; first | rfl | (simp [errW_none, errW_some] <;> rfl)) | (simp [*, errW_none, errW_some] <;> rfl), by repeat (first | (with_reducible first | exact HB.out | apply below_alloc | apply pw_below_drewN | apply below_drew1) | exact HB.out)⟩
                · rw [if_neg c14] at H
                  exact absurd H (by simp)
              · rw [if_neg c13] at H
                exact absurd H (by simp)
            · rw [if_neg c11] at H
              exact absurd H (by simp)
          · rw [if_neg c10] at H
            exact absurd H (by simp)
        · rw [if_neg c8] at H
          have c8b0 : decide (x5_1 < (t136.length : Int)) = false := decide_eq_false c8
          clear c8
          obtain rfl := Option.some.inj H
          obtain ⟨Ao20, co20, eo20⟩ := Kd.R_slice HO_0.out
          subst eo20
          obtain ⟨Ao21, co21, eo21⟩ := Kd.R_slice HO_1.out
          subst eo21
          go_wp2
          repeat (go_quiet (fail); try go_wp2)
          go_ret
          exact ⟨by first | rfl | (simp [errW_none, errW_some] <;> rfl) | (simp [*, errW_none, errW_some] <;> rfl), by repeat (first | (with_reducible first | exact HB.out | apply below_alloc | apply pw_below_drewN | apply below_drew1) | exact HB.out)⟩
      · rw [if_neg c7] at H
        have c7b0 : decide (x5_1 < (t133.length : Int)) = false := decide_eq_false c7
        clear c7
        obtain rfl := Option.some.inj H
        obtain ⟨Ao22, co22, eo22⟩ := Kd.R_slice HO_0.out
        subst eo22
        go_wp2
        repeat (go_quiet (fail); try go_wp2)
        go_ret
        exact ⟨by first | rfl | (simp [errW_none, errW_some] <;> rfl) | (simp [*, errW_none, errW_some] <;> rfl), by repeat (first | (with_reducible first | exact HB.out | apply below_alloc | apply pw_below_drewN | apply below_drew1) | exact HB.out)⟩

end Go.Proofs.Ytiilihafcdmccaa.P
