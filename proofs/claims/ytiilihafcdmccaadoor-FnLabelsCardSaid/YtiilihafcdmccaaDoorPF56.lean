-- Written by a program of this session (wip/tools/pprint.py) out of the translation: it goes by the kit's print and by the contracts of YtiilihafcdmccaaDoorHand. Not trusted: Lean checks it.
import Derived.Test.YtiilihafcdmccaaDoorP0
import Derived.Test.YtiilihafcdmccaaDoorPF57
namespace Go.Proofs.YtiilihafcdmccaaDoor.P
open Go.RowKit Go.Proofs.YtiilihafcdmccaaDoorW.PrintWords Go.Proofs.YtiilihafcdmccaaDoorW.PrintLast Go.Proofs.YtiilihafcdmccaaDoorW.PrintMore
attribute [local go_sem] max2_int min2_int max_two min_two max_three min_three max_four min_four   -- for this text's walks alone
set_option linter.unusedVariables false
set_option linter.unusedSimpArgs false

/-! ### dns_CountLabel: function 56 -/
def dns_CountLabel.l0 : Nat → ByteArray → Int → Int → Option (Int)
  | 0, _, _, _ => none
  | k + 1, x0, x2, x3 => (dns_NextLabel.f k x0 x3).bind fun bt183 => (if bt183.2 = true then (some (wrap64 (x2 + 1))) else (dns_CountLabel.l0 k x0 (wrap64 (x2 + 1)) bt183.1))
def dns_CountLabel.f (k : Nat) (a0 : ByteArray) : Option (Int) := if a0.toList = ([46] : List UInt8) then (some 0) else (dns_CountLabel.l0 k a0 0 0)
theorem dns_CountLabel.mono_l : ∀ k, (∀ y0 y1 y2, LeO (dns_CountLabel.l0 k y0 y1 y2) (dns_CountLabel.l0 (k + 1) y0 y1 y2))
  | 0 => fun _ _ _ r h => by simp [dns_CountLabel.l0] at h
  | k + 1 => by
    have ih0 := dns_CountLabel.mono_l k
    · intro y0 y1 y2
      unfold dns_CountLabel.l0
      repeat' first
      | (with_reducible exact ih0 _ _ _)
      | (with_reducible exact dns_NextLabel.mono _ _ _)
      | (with_reducible exact LeO.refl _)
      | (with_reducible exact LeO.none _)
      | (with_reducible refine LeO.ite ?_ ?_)
      | (with_reducible refine LeO.bind ?_ (fun _ => ?_))
      | exact ih0 _ _ _
      | exact dns_NextLabel.mono _ _ _
      | exact LeO.none _
      | refine LeO.ite ?_ ?_
      | refine LeO.bind ?_ (fun _ => ?_)
theorem dns_CountLabel.mono : ∀ a0 k, LeO (dns_CountLabel.f k a0) (dns_CountLabel.f (k + 1) a0) := by
  intro a0 k
  have ih0 := dns_CountLabel.mono_l k
  unfold dns_CountLabel.f
  repeat' first
      | (with_reducible exact ih0 _ _ _)
      | (with_reducible exact dns_NextLabel.mono _ _ _)
      | (with_reducible exact LeO.refl _)
      | (with_reducible exact LeO.none _)
      | (with_reducible refine LeO.ite ?_ ?_)
      | (with_reducible refine LeO.bind ?_ (fun _ => ?_))
      | exact ih0 _ _ _
      | exact dns_NextLabel.mono _ _ _
      | exact LeO.none _
      | refine LeO.ite ?_ ?_
      | refine LeO.bind ?_ (fun _ => ?_)
set_option maxHeartbeats 8000000 in
set_option maxRecDepth 100000 in
theorem dns_CountLabel.calls (k : Nat) (a0 : ByteArray) (r : Int) (w : World) (h : dns_CountLabel.f k a0 = some r) :
    Calls Tryd.prog 56 #[.string a0] w fun e w' => e = .returned (.int .i64 r) ∧ Drawn0 w w' := by
  have H : (if a0.toList = ([46] : List UInt8) then (some 0) else (dns_CountLabel.l0 k a0 0 0)) = some r := h
  clear h
  by_cases c2 : a0.toList = ([46] : List UInt8)
  · rw [if_pos c2] at H
    have c2b0 : (a0.toList == ([46] : List UInt8)) = true := beq_iff_eq.mpr c2
    have c2b1 : (a0.toList != ([46] : List UInt8)) = false := bne_eq_false_iff_eq.mpr c2
    clear c2
    obtain rfl := Option.some.inj H
    go_enter Tryd.func56, Tryd.ntmps56
    go_wp2
    go_ret
    exact ⟨by first | rfl | (simp; done) | (simp [*]; done) | (simp [wrap64]; done), by repeat (first | exact Drawn0.refl _ | apply Drawn0.step)⟩
  · rw [if_neg c2] at H
    have c2b0 : (a0.toList == ([46] : List UInt8)) = false := beq_eq_false_iff_ne.mpr c2
    have c2b1 : (a0.toList != ([46] : List UInt8)) = true := bne_iff_ne.mpr c2
    have H' := Aside0.mk H
    clear H
    go_enter Tryd.func56, Tryd.ntmps56
    go_wp2
    go_loopg [2, 3] k (fun kq v2 v3 w' => ∃ (x2_1 : Int) (x3_1 : Int), v2 = .int .i64 x2_1 ∧ v3 = .int .i64 x3_1 ∧ Aside0 (dns_CountLabel.l0 kq a0 x2_1 x3_1 = some r) ∧ Aside0 (kq ≤ k) ∧ Drawn0 w w')
    case atStart => exact ⟨(0), (0), (by first | rfl | (simp; done) | (simp [*]; done) | (simp [wrap64]; done)), (by first | rfl | (simp; done) | (simp [*]; done) | (simp [wrap64]; done)), H', ⟨Nat.le_refl _⟩, by repeat (first | exact Drawn0.refl _ | apply Drawn0.step)⟩
    case round =>
      clear H'
      try clear c2
      try clear c2b0
      try clear c2b1
      try clear p2
      obtain ⟨x2_1, x3_1, rfl, rfl, HA, HK1, ⟨m1, rfl⟩⟩ := hrel
      cases gk with
      | zero => exact absurd HA.out (by simp [dns_CountLabel.l0])
      | succ k1 =>
        have H := HA.out
        clear HA
        simp only [dns_CountLabel.l0] at H
        replace H := Option.bind_eq_some_iff.mp H
        obtain ⟨⟨t183, t184⟩, A30, H⟩ := H
        replace H : (if t184 = true then (some (wrap64 (x2_1 + 1))) else (dns_CountLabel.l0 k1 a0 (wrap64 (x2_1 + 1)) t183)) = some r := H
        have A3 := Aside0.mk A30
        clear A30
        by_cases c4 : t184 = true
        · subst c4
          have H1 : (some (wrap64 (x2_1 + 1))) = some r := by rw [if_pos rfl] at H; exact H
          clear H
          have H := H1
          clear H1
          obtain rfl := Option.some.inj H
          go_wp2_with (first | ((with_reducible refine gate_callee (f := 57) rfl ?_); refine goesL_ (some 10) rfl rfl Tryd.func57 (by kernel_rfl) rfl #[.string a0, .int .i64 x3_1] rfl (by (try simp only [List.map_toArray, List.map_cons, List.map_nil]); first | done | rfl | (simp only [List.length_drop, List.length_take]; rfl)) ?_; (with_reducible refine (dns_NextLabel.calls k1 a0 x3_1 t183 true _ A3.out).mono ?_); rintro e w' ⟨rfl, ⟨nd, rfl⟩⟩; refine ⟨_, rfl, ?_⟩))
          go_ret
          exact ⟨by first | rfl | (simp; done) | (simp [*]; done) | (simp [wrap64]; done), by repeat (first | exact Drawn0.refl _ | apply Drawn0.step)⟩
        · replace c4 := Bool.eq_false_iff.mpr c4
          subst c4
          have H1 : (dns_CountLabel.l0 k1 a0 (wrap64 (x2_1 + 1)) t183) = some r := by rw [if_neg (show ¬ (false = true) by decide)] at H; exact H
          clear H
          have H := H1
          clear H1
          have H' := Aside0.mk H
          clear H
          go_wp2_with (first | ((with_reducible refine gate_callee (f := 57) rfl ?_); refine goesL_ (some 10) rfl rfl Tryd.func57 (by kernel_rfl) rfl #[.string a0, .int .i64 x3_1] rfl (by (try simp only [List.map_toArray, List.map_cons, List.map_nil]); first | done | rfl | (simp only [List.length_drop, List.length_take]; rfl)) ?_; (with_reducible refine (dns_NextLabel.calls k1 a0 x3_1 t183 false _ A3.out).mono ?_); rintro e w' ⟨rfl, ⟨nd, rfl⟩⟩; refine ⟨_, rfl, ?_⟩))
          go_roundg k1
          case measure => have := HK1.out; omega
          case rel => exact ⟨(wrap64 (x2_1 + 1)), (t183), (by first | rfl | (simp; done) | (simp [*]; done) | (simp [wrap64]; done)), (by first | rfl | (simp; done) | (simp [*]; done) | (simp [wrap64]; done)), H', ⟨by have := HK1.out; omega⟩, by repeat (first | exact Drawn0.refl _ | apply Drawn0.step)⟩

end Go.Proofs.YtiilihafcdmccaaDoor.P
