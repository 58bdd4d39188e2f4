/- 'dns.SplitDomainName': printed by wip/tools/pprint.py, its loop's relation turned by hand (what the loop makes lies behind what was there when it began). -/
import Derived.Test.YtiilihafcdmccaaDoorP0
import Derived.Test.YtiilihafcdmccaaDoorPF54
import Derived.Test.YtiilihafcdmccaaDoorFqdn
namespace Go.Proofs.YtiilihafcdmccaaDoor.P
open Go.RowKit Go.Proofs.YtiilihafcdmccaaDoorW.PrintWords Go.Proofs.YtiilihafcdmccaaDoorW.PrintLast Go.Proofs.YtiilihafcdmccaaDoorW.PrintMore
attribute [local go_sem] max2_int min2_int max_two min_two max_three min_three max_four min_four   -- for this text's walks alone
set_option linter.unusedVariables false
set_option linter.unusedSimpArgs false

/-! ### dns_SplitDomainName: function 55 -/
mutual
def dns_SplitDomainName.j0 : Nat → ByteArray → List ByteArray → Int → List Int → Int → Option (List ByteArray)
  | 0, _, _, _, _, _ => none
  | k + 1, x0, x2, x3, x4, x5 => if (x4.length : Int) = 0 then (some ([] : List ByteArray)) else (if (x4.length : Int) = 1 then (if 0 ≤ x5 then (if x5 ≤ x3 then (if x3 ≤ (x0.size : Int) then (if x2.length < 8796093022208 then (some (x2 ++ [x0.extract (x5 : Int).toNat (x3 : Int).toNat])) else (none)) else (none)) else (none)) else (none)) else (if 1 ≤ (x4.length : Int) then ((some (x4.drop 1 : List Int)).bind fun y187 => (dns_SplitDomainName.l0 k x0 x2 x3 x5 y187 (y187.length : Int) 0)) else (none)))
def dns_SplitDomainName.l0 : Nat → ByteArray → List ByteArray → Int → Int → List Int → Int → Int → Option (List ByteArray)
  | 0, _, _, _, _, _, _, _ => none
  | k + 1, x0, x2, x3, x5, x22, x23, x24 => if x24 < x23 then (if 0 ≤ x24 then (if x24 < (x22.length : Int) then (if 0 ≤ x5 then (if x5 ≤ (wrap64 ((rd x22 x24) - 1)) then (if (wrap64 ((rd x22 x24) - 1)) ≤ (x0.size : Int) then (if x2.length < 8796093022208 then (dns_SplitDomainName.l0 k x0 (x2 ++ [x0.extract (x5 : Int).toNat ((wrap64 ((rd x22 x24) - 1)) : Int).toNat]) x3 (rd x22 x24) x22 x23 (wrap64 (x24 + 1))) else (none)) else (none)) else (none)) else (none)) else (none)) else (none)) else (if 0 ≤ x5 then (if x5 ≤ x3 then (if x3 ≤ (x0.size : Int) then (if x2.length < 8796093022208 then (some (x2 ++ [x0.extract (x5 : Int).toNat (x3 : Int).toNat])) else (none)) else (none)) else (none)) else (none))
end
def dns_SplitDomainName.f (k : Nat) (a0 : ByteArray) : Option (List ByteArray) := if a0.toList = ([] : List UInt8) then (some ([] : List ByteArray)) else ((dns_Split.f k a0).bind fun t180 => ((dns_IsFqdn.f a0).bind fun t183 => (if t183 = true then (dns_SplitDomainName.j0 k a0 ([] : List ByteArray) (wrap64 ((a0.size : Int) - 1)) t180 0) else (dns_SplitDomainName.j0 k a0 ([] : List ByteArray) (a0.size : Int) t180 0))))
theorem dns_SplitDomainName.mono_l : ∀ k, (∀ y0 y1 y2 y3 y4, LeO (dns_SplitDomainName.j0 k y0 y1 y2 y3 y4) (dns_SplitDomainName.j0 (k + 1) y0 y1 y2 y3 y4)) ∧ (∀ y0 y1 y2 y3 y4 y5 y6, LeO (dns_SplitDomainName.l0 k y0 y1 y2 y3 y4 y5 y6) (dns_SplitDomainName.l0 (k + 1) y0 y1 y2 y3 y4 y5 y6))
  | 0 => ⟨fun _ _ _ _ _ r h => by simp [dns_SplitDomainName.j0] at h, fun _ _ _ _ _ _ _ r h => by simp [dns_SplitDomainName.l0] at h⟩
  | k + 1 => by
    obtain ⟨ih0, ih1⟩ := dns_SplitDomainName.mono_l k
    refine ⟨?_, ?_⟩
    · intro y0 y1 y2 y3 y4
      unfold dns_SplitDomainName.j0
      repeat' first
      | (with_reducible exact ih0 _ _ _ _ _)
      | (with_reducible exact ih1 _ _ _ _ _ _ _)
      | (with_reducible exact dns_Split.mono _ _)
      | (with_reducible exact LeO.refl _)
      | (with_reducible exact LeO.none _)
      | (with_reducible refine LeO.ite ?_ ?_)
      | (with_reducible refine LeO.bind ?_ (fun _ => ?_))
      | exact ih0 _ _ _ _ _
      | exact ih1 _ _ _ _ _ _ _
      | exact dns_Split.mono _ _
      | exact LeO.none _
      | refine LeO.ite ?_ ?_
      | refine LeO.bind ?_ (fun _ => ?_)
    · intro y0 y1 y2 y3 y4 y5 y6
      unfold dns_SplitDomainName.l0
      repeat' first
      | (with_reducible exact ih0 _ _ _ _ _)
      | (with_reducible exact ih1 _ _ _ _ _ _ _)
      | (with_reducible exact dns_Split.mono _ _)
      | (with_reducible exact LeO.refl _)
      | (with_reducible exact LeO.none _)
      | (with_reducible refine LeO.ite ?_ ?_)
      | (with_reducible refine LeO.bind ?_ (fun _ => ?_))
      | exact ih0 _ _ _ _ _
      | exact ih1 _ _ _ _ _ _ _
      | exact dns_Split.mono _ _
      | exact LeO.none _
      | refine LeO.ite ?_ ?_
      | refine LeO.bind ?_ (fun _ => ?_)
theorem dns_SplitDomainName.mono : ∀ a0 k, LeO (dns_SplitDomainName.f k a0) (dns_SplitDomainName.f (k + 1) a0) := by
  intro a0 k
  obtain ⟨ih0, ih1⟩ := dns_SplitDomainName.mono_l k
  unfold dns_SplitDomainName.f
  repeat' first
      | (with_reducible exact ih0 _ _ _ _ _)
      | (with_reducible exact ih1 _ _ _ _ _ _ _)
      | (with_reducible exact dns_Split.mono _ _)
      | (with_reducible exact LeO.refl _)
      | (with_reducible exact LeO.none _)
      | (with_reducible refine LeO.ite ?_ ?_)
      | (with_reducible refine LeO.bind ?_ (fun _ => ?_))
      | exact ih0 _ _ _ _ _
      | exact ih1 _ _ _ _ _ _ _
      | exact dns_Split.mono _ _
      | exact LeO.none _
      | refine LeO.ite ?_ ?_
      | refine LeO.bind ?_ (fun _ => ?_)
set_option maxHeartbeats 8000000 in
set_option maxRecDepth 100000 in
theorem dns_SplitDomainName.calls (k : Nat) (a0 : ByteArray) (r : List ByteArray) (w : World) (h : dns_SplitDomainName.f k a0 = some r) :
    Calls Tryd.prog 55 #[.string a0] w fun e w' => ∃ v0_ : Value, e = .returned (v0_) ∧ Kd.R Kd.string 9 w' w.heap.size (fun _ => True) v0_ r ∧ Below w.heap.size w w' := by
  have HB := Aside0.mk (Below.refl w.heap.size w)
  have H : (if a0.toList = ([] : List UInt8) then (some ([] : List ByteArray)) else ((dns_Split.f k a0).bind fun t180 => ((dns_IsFqdn.f a0).bind fun t183 => (if t183 = true then (dns_SplitDomainName.j0 k a0 ([] : List ByteArray) (wrap64 ((a0.size : Int) - 1)) t180 0) else (dns_SplitDomainName.j0 k a0 ([] : List ByteArray) (a0.size : Int) t180 0))))) = some r := h
  clear h
  by_cases c2 : a0.toList = ([] : List UInt8)
  · rw [if_pos c2] at H
    have c2b0 : (a0.toList == ([] : List UInt8)) = true := beq_iff_eq.mpr c2
    have c2b1 : (a0.toList != ([] : List UInt8)) = false := bne_eq_false_iff_eq.mpr c2
    clear c2
    obtain rfl := Option.some.inj H
    go_enter Tryd.func55, Tryd.ntmps55
    go_wp2
    go_ret
    exact ⟨_, by first | rfl | (simp [errW_none, errW_some] <;> rfl) | (simp [*, errW_none, errW_some] <;> rfl), by first | exact Kd.R_nil _ _ _ _ _ | exact Kd.N_nil _ _ _ _ _ | exact Kd.V_nil _ _ _ _ _ | exact Kd.Q_nil _ _ _ _ _ | exact Kd.S_nil _ _ _ _ _, by repeat (first | (with_reducible first | exact HB.out | apply below_alloc | apply pw_below_drewN | apply below_drew1) | exact HB.out)⟩
  · rw [if_neg c2] at H
    have c2b0 : (a0.toList == ([] : List UInt8)) = false := beq_eq_false_iff_ne.mpr c2
    have c2b1 : (a0.toList != ([] : List UInt8)) = true := bne_iff_ne.mpr c2
    replace H := Option.bind_eq_some_iff.mp H
    obtain ⟨t180, A30, H⟩ := H
    replace H : ((dns_IsFqdn.f a0).bind fun t183 => (if t183 = true then (dns_SplitDomainName.j0 k a0 ([] : List ByteArray) (wrap64 ((a0.size : Int) - 1)) t180 0) else (dns_SplitDomainName.j0 k a0 ([] : List ByteArray) (a0.size : Int) t180 0))) = some r := H
    have A3 := Aside0.mk A30
    clear A30
    replace H := Option.bind_eq_some_iff.mp H
    obtain ⟨t183, A40, H⟩ := H
    replace H : (if t183 = true then (dns_SplitDomainName.j0 k a0 ([] : List ByteArray) (wrap64 ((a0.size : Int) - 1)) t180 0) else (dns_SplitDomainName.j0 k a0 ([] : List ByteArray) (a0.size : Int) t180 0)) = some r := H
    have A4 := Aside0.mk A40
    clear A40
    have HC5 := Aside0.mk H
    clear H
    go_enter Tryd.func55, Tryd.ntmps55
    go_upto_if 13 with (first | ((with_reducible refine gate_callee (f := 54) rfl ?_); refine goesL_ (some 11) rfl rfl Tryd.func54 (by kernel_rfl) rfl #[.string a0] rfl (by (try simp only [List.map_toArray, List.map_cons, List.map_nil]); first | done | rfl | (simp only [List.length_drop, List.length_take]; rfl)) ?_; (with_reducible refine (dns_Split.calls k a0 t180 _ A3.out).mono ?_); rintro e w6 ⟨v181, rfl, ho0, hb⟩; refine ⟨_, rfl, ?_⟩; have n0_ := Aside0.mk (Kd.R_lower ho0 (below_size (by repeat (first | (with_reducible first | exact HB.out | apply below_alloc | apply pw_below_drewN | apply below_drew1) | exact HB.out)))); have n1_ := Aside0.mk (below_step (by repeat (first | (with_reducible first | exact HB.out | apply below_alloc | apply pw_below_drewN | apply below_drew1) | exact HB.out)) hb); clear HB; have HO182 := n0_; have HB := n1_; clear n0_ n1_; (try clear hb); (try clear hb2); (try clear hk); (try clear hi); (try clear ho0)) | ((with_reducible refine gate_callee (f := 51) rfl ?_); refine goesL_ (some 13) rfl rfl Tryd.func51 (by kernel_rfl) rfl #[.string a0] rfl (by (try simp only [List.map_toArray, List.map_cons, List.map_nil]); first | done | rfl | (simp only [List.length_drop, List.length_take]; rfl)) ?_; (with_reducible refine (dns_IsFqdn.calls a0 t183 _ A4.out).mono ?_); rintro e w' ⟨rfl, ⟨nd, rfl⟩⟩; refine ⟨_, rfl, ?_⟩))
    (try simp only [Act.put, List.setIfInBounds_toArray, List.set_cons_zero, List.set_cons_succ])
    go_cut [3] (fun v3 wc => ∃ (kq : Nat) (x3_4 : Int), v3 = .int .i64 x3_4 ∧ Aside0 (dns_SplitDomainName.j0 kq a0 ([] : List ByteArray) x3_4 t180 0 = some r) ∧ Aside0 (kq ≤ k) ∧ Aside0 (Kd.R Kd.string 9 wc w.heap.size (fun _ => True) (.slice none 0 0) ([] : List ByteArray)) ∧ Aside0 (Kd.R (Kd.int .i64) 3 wc w.heap.size (fun _ => True) v181 t180) ∧ Aside0 (Below w.heap.size w wc))
    case first =>
      have H := HC5.out
      clear HC5
      by_cases c7 : t183 = true
      · subst c7
        have H1 : (dns_SplitDomainName.j0 k a0 ([] : List ByteArray) (wrap64 ((a0.size : Int) - 1)) t180 0) = some r := by rw [if_pos rfl] at H; exact H
        clear H
        have H := H1
        clear H1
        have H' := Aside0.mk H
        clear H
        go_wp2
        go_meet
        case rel => exact ⟨_, (wrap64 ((a0.size : Int) - 1)), (by first | rfl | (simp; done) | (simp [*]; done) | (simp [wrap64]; done)), H', ⟨by first | omega | exact Nat.le_refl _⟩, ⟨by first | exact Kd.R_nil _ _ _ _ _ | exact Kd.N_nil _ _ _ _ _ | exact Kd.V_nil _ _ _ _ _ | exact Kd.Q_nil _ _ _ _ _ | exact Kd.S_nil _ _ _ _ _⟩, ⟨by (with_reducible repeat (first | apply Kd.R_alloc | apply Kd.R_drewN | apply Kd.R_drew)); exact HO182.out⟩, ⟨by repeat (first | (with_reducible first | exact HB.out | apply below_alloc | apply pw_below_drewN | apply below_drew1) | exact HB.out)⟩⟩
      · replace c7 := Bool.eq_false_iff.mpr c7
        subst c7
        have H1 : (dns_SplitDomainName.j0 k a0 ([] : List ByteArray) (a0.size : Int) t180 0) = some r := by rw [if_neg (show ¬ (false = true) by decide)] at H; exact H
        clear H
        have H := H1
        clear H1
        have H' := Aside0.mk H
        clear H
        go_wp2
        go_meet
        case rel => exact ⟨_, ((a0.size : Int)), (by first | rfl | (simp; done) | (simp [*]; done) | (simp [wrap64]; done)), H', ⟨by first | omega | exact Nat.le_refl _⟩, ⟨by first | exact Kd.R_nil _ _ _ _ _ | exact Kd.N_nil _ _ _ _ _ | exact Kd.V_nil _ _ _ _ _ | exact Kd.Q_nil _ _ _ _ _ | exact Kd.S_nil _ _ _ _ _⟩, ⟨by (with_reducible repeat (first | apply Kd.R_alloc | apply Kd.R_drewN | apply Kd.R_drew)); exact HO182.out⟩, ⟨by repeat (first | (with_reducible first | exact HB.out | apply below_alloc | apply pw_below_drewN | apply below_drew1) | exact HB.out)⟩⟩
    case rest =>
      clear HC5
      try clear c2
      try clear c2b0
      try clear c2b1
      try clear p2
      try clear c5
      try clear p6
      try clear c7
      obtain ⟨kq, x3_4, rfl, HA, HJ4, HO_2, HO_4, HB⟩ := hcut
      cases kq with
      | zero => exact absurd HA.out (by simp [dns_SplitDomainName.j0])
      | succ kj4 =>
        have H := HA.out
        clear HA
        simp only [dns_SplitDomainName.j0] at H
        by_cases c8 : (t180.length : Int) = 0
        · rw [if_pos c8] at H
          have c8b0 : ((t180.length : Int) == 0) = true := beq_iff_eq.mpr c8
          have c8b1 : ((t180.length : Int) != 0) = false := bne_eq_false_iff_eq.mpr c8
          clear c8
          obtain rfl := Option.some.inj H
          obtain ⟨Ao9, co9, eo9⟩ := Kd.R_slice HO_4.out
          subst eo9
          go_wp2
          go_ret
          exact ⟨_, by first | rfl | (simp [errW_none, errW_some] <;> rfl) | (simp [*, errW_none, errW_some] <;> rfl), by first | exact Kd.R_nil _ _ _ _ _ | exact Kd.N_nil _ _ _ _ _ | exact Kd.V_nil _ _ _ _ _ | exact Kd.Q_nil _ _ _ _ _ | exact Kd.S_nil _ _ _ _ _, by repeat (first | (with_reducible first | exact HB.out | apply below_alloc | apply pw_below_drewN | apply below_drew1) | exact HB.out)⟩
        · rw [if_neg c8] at H
          have c8b0 : ((t180.length : Int) == 0) = false := beq_eq_false_iff_ne.mpr c8
          have c8b1 : ((t180.length : Int) != 0) = true := bne_iff_ne.mpr c8
          have c8b2 : ¬ (t180 = []) := fun h_ => c8 (by rw [h_]; rfl)
          by_cases c10 : (t180.length : Int) = 1
          · rw [if_pos c10] at H
            have c10b0 : ((t180.length : Int) == 1) = true := beq_iff_eq.mpr c10
            have c10b1 : ((t180.length : Int) != 1) = false := bne_eq_false_iff_eq.mpr c10
            clear c10
            by_cases c11 : (0 : Int) ≤ 0
            · rw [if_pos c11] at H
              have c11b0 := eq_true c11
              have c11b1 : decide ((0 : Int) ≤ 0) = true := decide_eq_true c11
              clear c11
              by_cases c12 : 0 ≤ x3_4
              · rw [if_pos c12] at H
                have c12b0 := eq_true c12
                have c12b1 : decide (0 ≤ x3_4) = true := decide_eq_true c12
                clear c12
                by_cases c13 : x3_4 ≤ (a0.size : Int)
                · rw [if_pos c13] at H
                  have c13b0 := eq_true c13
                  have c13b1 : decide (x3_4 ≤ (a0.size : Int)) = true := decide_eq_true c13
                  clear c13
                  by_cases c14 : ([] : List ByteArray).length < 8796093022208
                  · rw [if_pos c14] at H
                    have LMc14 := Aside0.mk c14
                    clear c14
                    obtain ⟨y184, hy184⟩ : ∃ y_ : List ByteArray, y_ = (([] : List ByteArray) ++ [a0.extract (0 : Int).toNat (x3_4 : Int).toNat]) := ⟨_, rfl⟩
                    replace H : (some y184) = some r := by first | (rw [hy184]; with_reducible exact H) | (have H2_ := (Option.bind_some _ _).symm.trans H; rw [hy184]; with_reducible exact H2_) | (have H2_ := (Option.bind_some _ _).symm.trans H; with_reducible exact H2_) | with_reducible exact H | (rw [hy184]; exact H) | exact H
                    have Ny184 := Aside0.mk hy184
                    clear hy184
                    obtain rfl := Option.some.inj H
                    obtain ⟨Ao15, co15, eo15⟩ := Kd.R_slice HO_4.out
                    subst eo15
                    go_wp2_with (first | ((with_reducible refine gate_builtin (b := .append) (xs := #[.tmp 42, .tmp 47]) rfl ?_); at_builtin; refine Kd.R_append Kd.string (w0 := w) w.heap.size rfl (.tmp 42) (.tmp 47) 24 9 (.string ⟨#[]⟩) 16 rfl Tryd.underlying24 info9 rfl (by decide) (by omega) (.slice none 0 0) ([] : List ByteArray) (a0.extract (0 : Int).toNat (x3_4 : Int).toNat) [.string (a0.extract (0 : Int).toNat (x3_4 : Int).toNat)] (fun _ => True) (fun _ => False) rfl rfl ?aP (fun _ hk => hk.elim) ?aF ?aO ?aB ?aS ?aL ?_; (case aP => exact rfl); (case aB => exact (by repeat (first | (with_reducible first | exact HB.out | apply below_alloc | apply pw_below_drewN | apply below_drew1) | exact HB.out))); (case aF => exact (fun _ _ => trivial)); (case aO => exact (by (with_reducible repeat (first | apply Kd.R_alloc | apply Kd.R_drewN | apply Kd.R_drew)); exact HO_2.out)); (case aS => exact (below_size (by repeat (first | (with_reducible first | exact HB.out | apply below_alloc | apply pw_below_drewN | apply below_drew1) | exact HB.out)))); (case aL => have := LMc14.out; omega); intro v185 w16 ho hb hg hat; rw [← Ny184.out] at ho; have n0_ := Aside0.mk (Kd.R_over' (by (with_reducible repeat (first | apply Kd.R_alloc | apply Kd.R_drewN | apply Kd.R_drew)); exact HO_4.out) (Kd.R_typed (by (with_reducible repeat (first | apply Kd.R_alloc | apply Kd.R_drewN | apply Kd.R_drew)); exact HO_2.out)) (by decide) hg); have n1_ := Aside0.mk (hb); have n2_ := Aside0.mk (ho); clear HO_4; clear HB; clear HO_2; have HO_4 := n0_; have HB := n1_; have HO186 := n2_; clear n0_ n1_ n2_; clear ho hb hg hat))
                    go_ret
                    exact ⟨_, by first | rfl | (simp [errW_none, errW_some] <;> rfl) | (simp [*, errW_none, errW_some] <;> rfl), by (with_reducible repeat (first | apply Kd.R_alloc | apply Kd.R_drewN | apply Kd.R_drew)); exact HO186.out, by repeat (first | (with_reducible first | exact HB.out | apply below_alloc | apply pw_below_drewN | apply below_drew1) | exact HB.out)⟩
                  · rw [if_neg c14] at H
                    exact absurd H (by simp)
                · rw [if_neg c13] at H
                  exact absurd H (by simp)
              · rw [if_neg c12] at H
                exact absurd H (by simp)
            · rw [if_neg c11] at H
              exact absurd H (by simp)
          · rw [if_neg c10] at H
            have c10b0 : ((t180.length : Int) == 1) = false := beq_eq_false_iff_ne.mpr c10
            have c10b1 : ((t180.length : Int) != 1) = true := bne_iff_ne.mpr c10
            by_cases c17 : 1 ≤ (t180.length : Int)
            · rw [if_pos c17] at H
              have c17b0 := eq_true c17
              have c17b1 : decide (1 ≤ (t180.length : Int)) = true := decide_eq_true c17
              clear c17
              obtain ⟨y187, hy187⟩ : ∃ y_ : List Int, y_ = (t180.drop 1) := ⟨_, rfl⟩
              replace H : (dns_SplitDomainName.l0 kj4 a0 ([] : List ByteArray) x3_4 0 y187 (y187.length : Int) 0) = some r := by first | (rw [hy187]; with_reducible exact H) | (have H2_ := (Option.bind_some _ _).symm.trans H; rw [hy187]; with_reducible exact H2_) | (have H2_ := (Option.bind_some _ _).symm.trans H; with_reducible exact H2_) | with_reducible exact H | (rw [hy187]; exact H) | exact H
              have Ny187 := Aside0.mk hy187
              clear hy187
              have H' := Aside0.mk H
              clear H
              obtain ⟨Ao18, co18, eo18⟩ := Kd.R_slice HO_4.out
              subst eo18
              have q19 : (1 : Int) ≤ ((t180.length : Int) : Int) := of_decide_eq_true (by first | (with_reducible assumption) | assumption)
              obtain ⟨i019, hi019, _, hsz19, _⟩ := info_parts info3
              have hroom19 : t180.length ≤ co18 := (Kd.R_reads' HO_4.out).2.1
              have hC19 : Kd.C (Kd.int .i64) _ Ao18 t180.length t180 := (Kd.R_reads' HO_4.out).2.2
              have hcut19 := cut_from (P := Tryd.prog) 38 3 .i64 Tryd.underlying38 hi019 1 hsz19 Ao18 t180.length co18 1 (by omega) q19
              have hr19 := Kd.C_drop (m := (1 : Int).toNat) (c := co18) hC19 (by omega) hroom19
              obtain ⟨A19, hA19⟩ : ∃ A1, A1 = (if co18 = (1 : Int).toNat then Ao18 else (Ao18 : Option Addr).map (·.add ((1 : Int).toNat * 1))) := ⟨_, rfl⟩
              obtain ⟨c19, hc19⟩ : ∃ c1, c1 = co18 - (1 : Int).toNat := ⟨_, rfl⟩
              have hy19 : y187.length = t180.length - (1 : Int).toNat := (by rw [Ny187.out, List.length_drop] <;> omega)
              rw [show (t180).drop (1 : Int).toNat = y187 from Ny187.out.symm] at hr19
              replace hr19 : Kd.C (Kd.int .i64) _ A19 y187.length y187 := (by rw [hA19]; exact hr19)
              rw [← hy19, ← hA19, ← hc19] at hcut19
              have HR190 := Aside0.mk hr19
              have HC190 := Aside0.mk (show y187.length ≤ c19 from by rw [hy19, hc19]; exact Nat.sub_le_sub_right hroom19 _)
              clear hr19 hC19 hroom19 hi019 hsz19 hc19
              have KY19 := Aside0.mk hy19
              have KA19 := Aside0.mk hA19
              clear hy19 hA19
              have KL19 := Aside0.mk (show 1 ≤ t180.length from by omega)
              replace q19 := eq_true q19
              go_wp2
              have HBc := HB
              go_loopg [2, 5, 24] kj4 (fun kq v2 v5 v24 w' => ∃ (x2_2 : List ByteArray) (x5_2 : Int) (x24_2 : Int), v5 = .int .i64 x5_2 ∧ v24 = .int .i64 x24_2 ∧ Aside0 (dns_SplitDomainName.l0 kq a0 x2_2 x3_4 x5_2 y187 (y187.length : Int) x24_2 = some r) ∧ Aside0 (kq ≤ kj4) ∧ Aside0 (Kd.R Kd.string 9 w' wc.heap.size (fun _ => True) v2 x2_2) ∧ Aside0 (Below wc.heap.size wc w'))
              case atStart => exact ⟨(([] : List ByteArray)), (0), (0), (by first | rfl | (simp; done) | (simp [*]; done) | (simp [wrap64]; done)), (by first | rfl | (simp; done) | (simp [*]; done) | (simp [wrap64]; done)), H', ⟨Nat.le_refl _⟩, ⟨Kd.R_nil _ _ _ _ _⟩, ⟨Below.refl _ _⟩⟩
              case round =>
                clear H'
                try clear c1
                try clear q1
                try clear c2
                try clear c2b0
                try clear c2b1
                try clear p2
                try clear c5
                try clear p6
                try clear c7
                try clear c8
                try clear c8b0
                try clear c8b1
                try clear c8b2
                try clear c10
                try clear c10b0
                try clear c10b1
                try clear c11
                try clear c11b0
                try clear c11b1
                try clear c12
                try clear c12b0
                try clear c12b1
                try clear c13
                try clear c13b0
                try clear c13b1
                try clear c14
                try clear c17
                try clear c17b0
                try clear c17b1
                try clear c19
                try clear q19
                try clear p2
                try clear p6
                try clear q19
                obtain ⟨x2_2, x5_2, x24_2, rfl, rfl, HA, HK2, HO_2, HB⟩ := hrel
                cases gk with
                | zero => exact absurd HA.out (by simp [dns_SplitDomainName.l0])
                | succ k2 =>
                  have H := HA.out
                  clear HA
                  simp only [dns_SplitDomainName.l0] at H
                  by_cases c20 : x24_2 < (y187.length : Int)
                  · rw [if_pos c20] at H
                    have c20b0 : decide (x24_2 < (y187.length : Int)) = true := decide_eq_true c20
                    clear c20
                    by_cases c21 : 0 ≤ x24_2
                    · rw [if_pos c21] at H
                      have c21b0 : decide (0 ≤ x24_2) = true := decide_eq_true c21
                      clear c21
                      by_cases c22 : x24_2 < (y187.length : Int)
                      · rw [if_pos c22] at H
                        have c22b0 : decide (x24_2 < (y187.length : Int)) = true := decide_eq_true c22
                        clear c22
                        by_cases c23 : 0 ≤ x5_2
                        · rw [if_pos c23] at H
                          have c23b0 := eq_true c23
                          have c23b1 : decide (0 ≤ x5_2) = true := decide_eq_true c23
                          clear c23
                          by_cases c24 : x5_2 ≤ (wrap64 ((rd y187 x24_2) - 1))
                          · rw [if_pos c24] at H
                            have c24b0 := eq_true c24
                            have c24b1 : decide (x5_2 ≤ (wrap64 ((rd y187 x24_2) - 1))) = true := decide_eq_true c24
                            clear c24
                            by_cases c25 : (wrap64 ((rd y187 x24_2) - 1)) ≤ (a0.size : Int)
                            · rw [if_pos c25] at H
                              have c25b0 := eq_true c25
                              have c25b1 : decide ((wrap64 ((rd y187 x24_2) - 1)) ≤ (a0.size : Int)) = true := decide_eq_true c25
                              clear c25
                              by_cases c26 : x2_2.length < 8796093022208
                              · rw [if_pos c26] at H
                                have LMc26 := Aside0.mk c26
                                clear c26
                                obtain ⟨y192, hy192⟩ : ∃ y_ : List ByteArray, y_ = (x2_2 ++ [a0.extract (x5_2 : Int).toNat ((wrap64 ((rd y187 x24_2) - 1)) : Int).toNat]) := ⟨_, rfl⟩
                                replace H : (dns_SplitDomainName.l0 k2 a0 y192 x3_4 (rd y187 x24_2) y187 (y187.length : Int) (wrap64 (x24_2 + 1))) = some r := by first | (rw [hy192]; with_reducible exact H) | (have H2_ := (Option.bind_some _ _).symm.trans H; rw [hy192]; with_reducible exact H2_) | (have H2_ := (Option.bind_some _ _).symm.trans H; with_reducible exact H2_) | with_reducible exact H | (rw [hy192]; exact H) | exact H
                                have Ny192 := Aside0.mk hy192
                                clear hy192
                                have H' := Aside0.mk H
                                clear H
                                have p191 : 0 ≤ (x24_2 : Int) := of_decide_eq_true (by first | (with_reducible assumption) | assumption)
                                have q191 : x24_2 < (y187.length : Int) := of_decide_eq_true (by first | (with_reducible assumption) | assumption)
                                obtain ⟨ad191, e191, hx191_0⟩ := Kd.at_int HR190.out x24_2 p191 q191
                                cases e191
                                replace hx191_0 := (HB.out.cell (World.block_lt_of_cell? wc _ hx191_0)).trans hx191_0
                                replace p191 := eq_true p191
                                replace q191 := eq_true q191
                                go_wp2_with (first | ((with_reducible refine gate_builtin (b := .append) (xs := #[.tmp 28, .tmp 34]) rfl ?_); at_builtin; refine Kd.R_append Kd.string (w0 := wc) wc.heap.size rfl (.tmp 28) (.tmp 34) 24 9 (.string ⟨#[]⟩) 16 rfl Tryd.underlying24 info9 rfl (by decide) (by omega) u2 x2_2 (a0.extract (x5_2 : Int).toNat ((wrap64 ((rd y187 x24_2) - 1)) : Int).toNat) [.string (a0.extract (x5_2 : Int).toNat ((wrap64 ((rd y187 x24_2) - 1)) : Int).toNat)] (fun _ => True) (fun _ => False) rfl rfl ?aP (fun _ hk => hk.elim) ?aF ?aO ?aB ?aS ?aL ?_; (case aP => exact rfl); (case aB => exact (by repeat (first | (with_reducible first | exact HB.out | apply below_alloc | apply pw_below_drewN | apply below_drew1) | exact HB.out))); (case aF => exact (fun _ _ => trivial)); (case aO => exact (by (with_reducible repeat (first | apply Kd.R_alloc | apply Kd.R_drewN | apply Kd.R_drew)); exact HO_2.out)); (case aS => exact (below_size (by repeat (first | (with_reducible first | exact HB.out | apply below_alloc | apply pw_below_drewN | apply below_drew1) | exact HB.out)))); (case aL => have := LMc26.out; omega); intro v193 w27 ho hb hg hat; rw [← Ny192.out] at ho; have n0_ := Aside0.mk (hb); have n1_ := Aside0.mk (ho); clear HB; clear HO_2; have HB := n0_; have HO194 := n1_; clear n0_ n1_; clear ho hb hg hat))
                                go_roundg k2
                                case measure => have := HJ4.out; have := HK2.out; omega
                                case rel => exact ⟨(y192), (rd y187 x24_2), (wrap64 (x24_2 + 1)), (by first | rfl | (simp; done) | (simp [*]; done) | (simp [wrap64]; done)), (by first | rfl | (simp; done) | (simp [*]; done) | (simp [wrap64]; done)), H', ⟨by have := HJ4.out; have := HK2.out; omega⟩, ⟨by (with_reducible repeat (first | apply Kd.R_alloc | apply Kd.R_drewN | apply Kd.R_drew)); exact HO194.out⟩, ⟨by repeat (first | (with_reducible first | exact HB.out | apply below_alloc | apply pw_below_drewN | apply below_drew1) | exact HB.out)⟩⟩
                              · rw [if_neg c26] at H
                                exact absurd H (by simp)
                            · rw [if_neg c25] at H
                              exact absurd H (by simp)
                          · rw [if_neg c24] at H
                            exact absurd H (by simp)
                        · rw [if_neg c23] at H
                          exact absurd H (by simp)
                      · rw [if_neg c22] at H
                        exact absurd H (by simp)
                    · rw [if_neg c21] at H
                      exact absurd H (by simp)
                  · rw [if_neg c20] at H
                    have c20b0 : decide (x24_2 < (y187.length : Int)) = false := decide_eq_false c20
                    clear c20
                    by_cases c28 : 0 ≤ x5_2
                    · rw [if_pos c28] at H
                      have c28b0 := eq_true c28
                      have c28b1 : decide (0 ≤ x5_2) = true := decide_eq_true c28
                      clear c28
                      by_cases c29 : x5_2 ≤ x3_4
                      · rw [if_pos c29] at H
                        have c29b0 := eq_true c29
                        have c29b1 : decide (x5_2 ≤ x3_4) = true := decide_eq_true c29
                        clear c29
                        by_cases c30 : x3_4 ≤ (a0.size : Int)
                        · rw [if_pos c30] at H
                          have c30b0 := eq_true c30
                          have c30b1 : decide (x3_4 ≤ (a0.size : Int)) = true := decide_eq_true c30
                          clear c30
                          by_cases c31 : x2_2.length < 8796093022208
                          · rw [if_pos c31] at H
                            have LMc31 := Aside0.mk c31
                            clear c31
                            obtain ⟨y195, hy195⟩ : ∃ y_ : List ByteArray, y_ = (x2_2 ++ [a0.extract (x5_2 : Int).toNat (x3_4 : Int).toNat]) := ⟨_, rfl⟩
                            replace H : (some y195) = some r := by first | (rw [hy195]; with_reducible exact H) | (have H2_ := (Option.bind_some _ _).symm.trans H; rw [hy195]; with_reducible exact H2_) | (have H2_ := (Option.bind_some _ _).symm.trans H; with_reducible exact H2_) | with_reducible exact H | (rw [hy195]; exact H) | exact H
                            have Ny195 := Aside0.mk hy195
                            clear hy195
                            obtain rfl := Option.some.inj H
                            go_wp2_with (first | ((with_reducible refine gate_builtin (b := .append) (xs := #[.tmp 42, .tmp 47]) rfl ?_); at_builtin; refine Kd.R_append Kd.string (w0 := wc) wc.heap.size rfl (.tmp 42) (.tmp 47) 24 9 (.string ⟨#[]⟩) 16 rfl Tryd.underlying24 info9 rfl (by decide) (by omega) u2 x2_2 (a0.extract (x5_2 : Int).toNat (x3_4 : Int).toNat) [.string (a0.extract (x5_2 : Int).toNat (x3_4 : Int).toNat)] (fun _ => True) (fun _ => False) rfl rfl ?aP (fun _ hk => hk.elim) ?aF ?aO ?aB ?aS ?aL ?_; (case aP => exact rfl); (case aB => exact (by repeat (first | (with_reducible first | exact HB.out | apply below_alloc | apply pw_below_drewN | apply below_drew1) | exact HB.out))); (case aF => exact (fun _ _ => trivial)); (case aO => exact (by (with_reducible repeat (first | apply Kd.R_alloc | apply Kd.R_drewN | apply Kd.R_drew)); exact HO_2.out)); (case aS => exact (below_size (by repeat (first | (with_reducible first | exact HB.out | apply below_alloc | apply pw_below_drewN | apply below_drew1) | exact HB.out)))); (case aL => have := LMc31.out; omega); intro v196 w32 ho hb hg hat; rw [← Ny195.out] at ho; have n0_ := Aside0.mk (hb); have n1_ := Aside0.mk (ho); clear HB; clear HO_2; have HB := n0_; have HO197 := n1_; clear n0_ n1_; clear ho hb hg hat))
                            go_ret
                            exact ⟨_, by first | rfl | (simp [errW_none, errW_some] <;> rfl) | (simp [*, errW_none, errW_some] <;> rfl), Kd.R_lower (by (with_reducible repeat (first | apply Kd.R_alloc | apply Kd.R_drewN | apply Kd.R_drew)); exact HO197.out) HBc.out.size, HBc.out.trans (Below.mono (B := wc.heap.size) (by repeat (first | (with_reducible first | exact HB.out | apply below_alloc | apply pw_below_drewN | apply below_drew1) | exact HB.out)) HBc.out.size)⟩
                          · rw [if_neg c31] at H
                            exact absurd H (by simp)
                        · rw [if_neg c30] at H
                          exact absurd H (by simp)
                      · rw [if_neg c29] at H
                        exact absurd H (by simp)
                    · rw [if_neg c28] at H
                      exact absurd H (by simp)
            · rw [if_neg c17] at H
              exact absurd H (by simp)

end Go.Proofs.YtiilihafcdmccaaDoor.P
