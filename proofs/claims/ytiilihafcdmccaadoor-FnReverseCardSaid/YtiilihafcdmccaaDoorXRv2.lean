/- Texts of this session merged by program (wip/tools/merge.py): PF83, Of8, Ip6, RefR, RefS, Nip14, Nip15, LawR, LaidR. -/
import Derived.Test.YtiilihafcdmccaaDoorXRv1
import Derived.Deep.CutBlock
import Derived.Deep.DeepCutAuto
import Derived.Deep.LoopGhost
import Derived.Deep.RegionHeld3
import Derived.Test.YtiilihafcdmccaaDoorRows
import Derived.Deep.Fields23
import Derived.Lib.LaidU8
import Derived.Lib.LaidTab
import Derived.Lib.AppendIntMem
import Derived.LaidMore
import Derived.LaidLaws
import Derived.KernelRfl
-- Written by a program of this session (wip/tools/pprint.py) out of the translation: it goes by the kit's print and by the contracts of YtiilihafcdmccaaDoorHand. Not trusted: Lean checks it.
namespace Go.Proofs.YtiilihafcdmccaaDoor.P
open Go.RowKit Go.Proofs.YtiilihafcdmccaaDoorW.PrintWords Go.Proofs.YtiilihafcdmccaaDoorW.PrintLast Go.Proofs.YtiilihafcdmccaaDoorW.PrintMore
attribute [local go_sem] max2_int min2_int max_two min_two max_three min_three max_four min_four   -- for this text's walks alone
set_option linter.unusedVariables false
set_option linter.unusedSimpArgs false

/-- A state of type 81 at block g of W; what its slices lead to came in by w0. -/
def IsS81 (w0 W : World) (g : Nat) (f0 : List Int) (f1 : Int) (f2 : List ByteArray) (f3 : Bool) : Prop := ∃ A0 c0, ∃ A2 c2, W.heap[g]? = some (.cells #[.slice A0 f0.length c0, .int .i64 f1, .slice A2 f2.length c2, .bool f3] 81 (0, 0)) ∧ w0.heap.size ≤ g ∧ Kd.C (Kd.int .i64) w0 A0 f0.length f0 ∧ Kd.C Kd.string w0 A2 f2.length f2
theorem IsS81.grown {w0 W : World} {g : Nat} {f0 : List Int} {f1 : Int} {f2 : List ByteArray} {f3 : Bool} {W1 : World} {row : Option Nat} (h : IsS81 w0 W g f0 f1 f2 f3) (hw : W.grownBy W1 row) (hne : some g ≠ row) : IsS81 w0 W1 g f0 f1 f2 f3 := by
  obtain ⟨A0, c0, A2, c2, hb, hg, hr0, hr2⟩ := h
  exact ⟨A0, c0, A2, c2, blk_grown hb hw hne, hg, hr0, hr2⟩
theorem IsS81.own_neN {w0 W : World} {g : Nat} {f0 : List Int} {f1 : Int} {f2 : List ByteArray} {f3 : Bool} {α : Type} {d : Kd α} {e : Nat} {base : Nat} {ok : Nat → Prop} {v : Value} {xs : List α} (h : IsS81 w0 W g f0 f1 f2 f3) (ho : Kd.N d e W base ok v xs) (ht : e ≠ 81) : some g ≠ v.ownBlock := by
  obtain ⟨A0, c0, A2, c2, hb, hg, hr0, hr2⟩ := h
  exact Kd.N_ne ho hb ht
theorem IsS81.fresh {w0 W : World} {g : Nat} {f0 : List Int} {f1 : Int} {f2 : List ByteArray} {f3 : Bool} (h : IsS81 w0 W g f0 f1 f2 f3) : ∀ k, W.heap.size ≤ k → k ≠ g := by
  obtain ⟨A0, c0, A2, c2, hb, hg, hr0, hr2⟩ := h
  exact Kd.freshB hb
theorem IsS81.kept {w0 W : World} {g : Nat} {f0 : List Int} {f1 : Int} {f2 : List ByteArray} {f3 : Bool} {W1 : World} {S : Nat → Prop} (h : IsS81 w0 W g f0 f1 f2 f3) (hk : Kept W W1 S) (hne : ¬ S g) : IsS81 w0 W1 g f0 f1 f2 f3 := by
  obtain ⟨A0, c0, A2, c2, hb, hg, hr0, hr2⟩ := h
  exact ⟨A0, c0, A2, c2, blk_kept hb hk hne, hg, hr0, hr2⟩
theorem IsS81.below {w0 W : World} {g : Nat} {f0 : List Int} {f1 : Int} {f2 : List ByteArray} {f3 : Bool} {W1 : World} (h : IsS81 w0 W g f0 f1 f2 f3) (hw : Below W.heap.size W W1) : IsS81 w0 W1 g f0 f1 f2 f3 := h.grown (grown_of_below hw none) (by simp)
theorem IsS81.alloc {w0 W : World} {g : Nat} {f0 : List Int} {f1 : Int} {f2 : List ByteArray} {f3 : Bool} (h : IsS81 w0 W g f0 f1 f2 f3) (o : Obj) : IsS81 w0 (W.alloc o) g f0 f1 f2 f3 := h.below (below_alloc (Below.refl _ _) o)
theorem IsS81.drewN {w0 W : World} {g : Nat} {f0 : List Int} {f1 : Int} {f2 : List ByteArray} {f3 : Bool} (h : IsS81 w0 W g f0 f1 f2 f3) (m : Nat) : IsS81 w0 (W.drewN m) g f0 f1 f2 f3 := h
theorem IsS81.drew {w0 W : World} {g : Nat} {f0 : List Int} {f1 : Int} {f2 : List ByteArray} {f3 : Bool} (h : IsS81 w0 W g f0 f1 f2 f3) : IsS81 w0 W.drew g f0 f1 f2 f3 := h
theorem IsS81.at_ {w0 W : World} {g : Nat} {f0 : List Int} {f1 : Int} {f2 : List ByteArray} {f3 : Bool} {w' : World} {m : Nat} (hq : W.drewN m = w') (h : IsS81 w0 W g f0 f1 f2 f3) : IsS81 w0 w' g f0 f1 f2 f3 := by subst hq; exact IsS81.drewN h m
theorem IsS81.apart {w0 W : World} {g : Nat} {f0 : List Int} {f1 : Int} {f2 : List ByteArray} {f3 : Bool} {α : Type} {d : Kd α} {e : Nat} {base : Nat} {ok : Nat → Prop} {v : Value} {xs : List α} (h : IsS81 w0 W g f0 f1 f2 f3) (ho : d.R e W base ok v xs) (ht : ∀ q, q ∈ e :: d.E → q ≠ 81) : d.R e W base (fun k => ok k ∧ k ≠ g) v xs := by
  obtain ⟨A0, c0, A2, c2, hb, hg, hr0, hr2⟩ := h
  exact Kd.R_types ho hb ht
theorem IsS81.own_ne {w0 W : World} {g : Nat} {f0 : List Int} {f1 : Int} {f2 : List ByteArray} {f3 : Bool} {α : Type} {d : Kd α} {e : Nat} {base : Nat} {ok : Nat → Prop} {v : Value} {xs : List α} (h : IsS81 w0 W g f0 f1 f2 f3) (ho : d.R e W base ok v xs) (ht : e ≠ 81) : some g ≠ v.ownBlock := by
  obtain ⟨A0, c0, A2, c2, hb, hg, hr0, hr2⟩ := h
  exact Kd.R_ne ho hb ht
theorem IsS81.apartQ {w0 W : World} {g : Nat} {f0 : List Int} {f1 : Int} {f2 : List ByteArray} {f3 : Bool} {α : Type} {d : Kd α} {e : Nat} {base : Nat} {ok : Nat → Prop} {v : Value} {xs : List α} (h : IsS81 w0 W g f0 f1 f2 f3) (ho : d.Q e W base ok v xs) (ht : ∀ q, q ∈ e :: d.E → q ≠ 81) : d.Q e W base (fun k => ok k ∧ k ≠ g) v xs := by
  obtain ⟨A0, c0, A2, c2, hb, hg, hr0, hr2⟩ := h
  exact Kd.Q_types ho hb ht
theorem IsS81.own_neQ {w0 W : World} {g : Nat} {f0 : List Int} {f1 : Int} {f2 : List ByteArray} {f3 : Bool} {α : Type} {d : Kd α} {e : Nat} {base : Nat} {ok : Nat → Prop} {v : Value} {xs : List α} (h : IsS81 w0 W g f0 f1 f2 f3) (ho : d.Q e W base ok v xs) (ht : e ≠ 81) : some g ≠ v.ownBlock := by
  obtain ⟨A0, c0, A2, c2, hb, hg, hr0, hr2⟩ := h
  exact Kd.Q_ne ho hb ht
theorem IsS81.apartS {w0 W : World} {g : Nat} {f0 : List Int} {f1 : Int} {f2 : List ByteArray} {f3 : Bool} {α : Type} {d : Kd α} {e : Nat} {base : Nat} {ok : Nat → Prop} {v : Value} {xs : List α} (h : IsS81 w0 W g f0 f1 f2 f3) (ho : d.S e W base ok v xs) (ht : ∀ q, q ∈ e :: d.E → q ≠ 81) : d.S e W base (fun k => ok k ∧ k ≠ g) v xs := by
  obtain ⟨A0, c0, A2, c2, hb, hg, hr0, hr2⟩ := h
  exact Kd.S_types ho hb ht
theorem IsS81.own_neS {w0 W : World} {g : Nat} {f0 : List Int} {f1 : Int} {f2 : List ByteArray} {f3 : Bool} {α : Type} {d : Kd α} {e : Nat} {base : Nat} {ok : Nat → Prop} {v : Value} {xs : List α} (h : IsS81 w0 W g f0 f1 f2 f3) (ho : d.S e W base ok v xs) (ht : e ≠ 81) : some g ≠ v.ownBlock := by
  obtain ⟨A0, c0, A2, c2, hb, hg, hr0, hr2⟩ := h
  exact Kd.S_ne ho hb ht
theorem IsS81.lt {w0 W : World} {g : Nat} {f0 : List Int} {f1 : Int} {f2 : List ByteArray} {f3 : Bool} (h : IsS81 w0 W g f0 f1 f2 f3) : g < W.heap.size := by
  obtain ⟨A0, c0, A2, c2, hb, hg, hr0, hr2⟩ := h
  exact blk_lt hb
theorem IsS81.ge {w0 W : World} {g : Nat} {f0 : List Int} {f1 : Int} {f2 : List ByteArray} {f3 : Bool} (h : IsS81 w0 W g f0 f1 f2 f3) : w0.heap.size ≤ g := by
  obtain ⟨A0, c0, A2, c2, hb, hg, hr0, hr2⟩ := h
  exact hg
theorem IsS81.ne_blk {w0 W : World} {g : Nat} {f0 : List Int} {f1 : Int} {f2 : List ByteArray} {f3 : Bool} {a : Nat} {cs : Array Value} {t : TypeId} {fr : Nat × Nat} (h : IsS81 w0 W g f0 f1 f2 f3) (hb2 : W.heap[a]? = some (.cells cs t fr)) (ht : t ≠ 81) : g ≠ a := by
  obtain ⟨A0, c0, A2, c2, hb, hg, hr0, hr2⟩ := h
  rintro rfl
  rw [hb] at hb2
  injection hb2 with hb2
  injection hb2 with _ ht2
  exact ht ht2.symm
theorem IsS81.far {w0 W : World} {g : Nat} {f0 : List Int} {f1 : Int} {f2 : List ByteArray} {f3 : Bool} {p : Addr} (h : IsS81 w0 W g f0 f1 f2 f3) (hne : g ≠ p.block) (u : Value) : IsS81 w0 (W.setCell p u) g f0 f1 f2 f3 := by
  obtain ⟨A0, c0, A2, c2, hb, hg, hr0, hr2⟩ := h
  exact ⟨A0, c0, A2, c2, blk_far hb hne u, hg, hr0, hr2⟩
theorem cellS81_0 {W : World} {g : Nat} {A0 : Option Addr} {c0 : Nat} {A2 : Option Addr} {c2 : Nat} {f0 : List Int} {f1 : Int} {f2 : List ByteArray} {f3 : Bool} (h : W.heap[g]? = some (.cells #[.slice A0 f0.length c0, .int .i64 f1, .slice A2 f2.length c2, .bool f3] 81 (0, 0))) : W.cell? ⟨g, 0, none⟩ = some (.slice A0 f0.length c0) := (blk_cell h 0).trans rfl
theorem cellS81_1 {W : World} {g : Nat} {A0 : Option Addr} {c0 : Nat} {A2 : Option Addr} {c2 : Nat} {f0 : List Int} {f1 : Int} {f2 : List ByteArray} {f3 : Bool} (h : W.heap[g]? = some (.cells #[.slice A0 f0.length c0, .int .i64 f1, .slice A2 f2.length c2, .bool f3] 81 (0, 0))) : W.cell? ⟨g, 1, none⟩ = some (.int .i64 f1) := (blk_cell h 1).trans rfl
theorem IsS81.set_1 {w0 W : World} {g : Nat} {f0 : List Int} {f1 : Int} {f2 : List ByteArray} {f3 : Bool} (h : IsS81 w0 W g f0 f1 f2 f3) (x : Int) : IsS81 w0 (W.setCell ⟨g, 1, none⟩ (.int .i64 x)) g f0 x f2 f3 := by
  obtain ⟨A0, c0, A2, c2, hb, hg, hr0, hr2⟩ := h
  exact ⟨A0, c0, A2, c2, by simpa using blk_set hb 1 (.int .i64 x), hg, hr0, hr2⟩
theorem cellS81_2 {W : World} {g : Nat} {A0 : Option Addr} {c0 : Nat} {A2 : Option Addr} {c2 : Nat} {f0 : List Int} {f1 : Int} {f2 : List ByteArray} {f3 : Bool} (h : W.heap[g]? = some (.cells #[.slice A0 f0.length c0, .int .i64 f1, .slice A2 f2.length c2, .bool f3] 81 (0, 0))) : W.cell? ⟨g, 2, none⟩ = some (.slice A2 f2.length c2) := (blk_cell h 2).trans rfl
theorem cellS81_3 {W : World} {g : Nat} {A0 : Option Addr} {c0 : Nat} {A2 : Option Addr} {c2 : Nat} {f0 : List Int} {f1 : Int} {f2 : List ByteArray} {f3 : Bool} (h : W.heap[g]? = some (.cells #[.slice A0 f0.length c0, .int .i64 f1, .slice A2 f2.length c2, .bool f3] 81 (0, 0))) : W.cell? ⟨g, 3, none⟩ = some (.bool f3) := (blk_cell h 3).trans rfl
theorem IsS81.set_3 {w0 W : World} {g : Nat} {f0 : List Int} {f1 : Int} {f2 : List ByteArray} {f3 : Bool} (h : IsS81 w0 W g f0 f1 f2 f3) (x : Bool) : IsS81 w0 (W.setCell ⟨g, 3, none⟩ (.bool x)) g f0 f1 f2 x := by
  obtain ⟨A0, c0, A2, c2, hb, hg, hr0, hr2⟩ := h
  exact ⟨A0, c0, A2, c2, by simpa using blk_set hb 3 (.bool x), hg, hr0, hr2⟩
theorem IsS81.new (w0 W : World) (A0 : Option Addr) (c0 : Nat) (A2 : Option Addr) (c2 : Nat) (f0 : List Int) (f1 : Int) (f2 : List ByteArray) (f3 : Bool) (hB : Below w0.heap.size w0 W) (hr0 : Kd.C (Kd.int .i64) w0 A0 f0.length f0) (hr2 : Kd.C Kd.string w0 A2 f2.length f2) : IsS81 w0 (W.alloc (.cells #[.slice A0 f0.length c0, .int .i64 f1, .slice A2 f2.length c2, .bool f3] 81)) W.heap.size f0 f1 f2 f3 := ⟨A0, c0, A2, c2, by simpa using heap_alloc_new W _, hB.size, hr0, hr2⟩

/-! ### spec_chooser_of: function 83 -/
def spec_chooser_of.j0 : Nat → Int → Bool → List Int → Int → List ByteArray → Bool → Option (Int × Int × Bool)
  | 0, _, _, _, _, _, _ => none
  | k + 1, x1, x19, x1000, x1001, x1002, x1003 => if x19 = true then (some (0, x1001, x1003)) else (if (x1000.length : Int) = 0 then (none) else (if 0 ≤ (Int.tmod x1001 (x1000.length : Int)) then (if (Int.tmod x1001 (x1000.length : Int)) < (x1000.length : Int) then (if x1 = 0 then (none) else (if (Int.tmod (rd x1000 (Int.tmod x1001 (x1000.length : Int))) x1) < 0 then (some (wrap64 ((Int.tmod (rd x1000 (Int.tmod x1001 (x1000.length : Int))) x1) + x1), wrap64 (x1001 + 1), x1003)) else (some (Int.tmod (rd x1000 (Int.tmod x1001 (x1000.length : Int))) x1, wrap64 (x1001 + 1), x1003)))) else (none)) else (none)))
def spec_chooser_of.f (k : Nat) (s0_0 : List Int) (s0_1 : Int) (s0_2 : List ByteArray) (s0_3 : Bool) (a1 : Int) : Option (Int × Int × Bool) := if (s0_0.length : Int) = 0 then (spec_chooser_of.j0 k a1 true s0_0 s0_1 s0_2 s0_3) else (spec_chooser_of.j0 k a1 (decide (a1 < 2)) s0_0 s0_1 s0_2 s0_3)
theorem spec_chooser_of.mono_l : ∀ k, (∀ y0 y1 y2 y3 y4 y5, LeO (spec_chooser_of.j0 k y0 y1 y2 y3 y4 y5) (spec_chooser_of.j0 (k + 1) y0 y1 y2 y3 y4 y5))
  | 0 => fun _ _ _ _ _ _ r h => by simp [spec_chooser_of.j0] at h
  | k + 1 => by
    have ih0 := spec_chooser_of.mono_l k
    · intro y0 y1 y2 y3 y4 y5
      unfold spec_chooser_of.j0
      repeat' first
      | (with_reducible exact ih0 _ _ _ _ _ _)
      | (with_reducible exact LeO.refl _)
      | (with_reducible exact LeO.none _)
      | (with_reducible refine LeO.ite ?_ ?_)
      | (with_reducible refine LeO.bind ?_ (fun _ => ?_))
      | exact ih0 _ _ _ _ _ _
      | exact LeO.none _
      | refine LeO.ite ?_ ?_
      | refine LeO.bind ?_ (fun _ => ?_)
theorem spec_chooser_of.mono : ∀ a0 a1 a2 a3 a4 k, LeO (spec_chooser_of.f k a0 a1 a2 a3 a4) (spec_chooser_of.f (k + 1) a0 a1 a2 a3 a4) := by
  intro a0 a1 a2 a3 a4 k
  have ih0 := spec_chooser_of.mono_l k
  unfold spec_chooser_of.f
  repeat' first
      | (with_reducible exact ih0 _ _ _ _ _ _)
      | (with_reducible exact LeO.refl _)
      | (with_reducible exact LeO.none _)
      | (with_reducible refine LeO.ite ?_ ?_)
      | (with_reducible refine LeO.bind ?_ (fun _ => ?_))
      | exact ih0 _ _ _ _ _ _
      | exact LeO.none _
      | refine LeO.ite ?_ ?_
      | refine LeO.bind ?_ (fun _ => ?_)
set_option maxHeartbeats 8000000 in
set_option maxRecDepth 100000 in
theorem spec_chooser_of.calls (k : Nat) (g : Nat) (s0_0 : List Int) (s0_1 : Int) (s0_2 : List ByteArray) (s0_3 : Bool) (a1 : Int) (r1 : Int) (r2 : Int) (r3 : Bool) (w0 w : World) (hI : IsS81 w0 w g s0_0 s0_1 s0_2 s0_3) (hB : Below w0.heap.size w0 w) (h : spec_chooser_of.f k s0_0 s0_1 s0_2 s0_3 a1 = some (r1, r2, r3)) :
    Calls Tryd.prog 83 #[.pointer (some ⟨g, 0, none⟩), .int .i64 a1] w fun e w' => e = .returned (.int .i64 r1) ∧ IsS81 w0 w' g s0_0 r2 s0_2 r3 ∧ Below w0.heap.size w0 w' ∧ KeepBut w w' g none := by
  have HI0 := Aside0.mk hI
  have HK := Aside0.mk (KeepBut.refl w g none)
  have HL := Aside0.mk hB.size
  clear hI
  have HW0 := Aside0.mk hB.size
  have HB := Aside0.mk hB
  clear hB
  have H : (if (s0_0.length : Int) = 0 then (spec_chooser_of.j0 k a1 true s0_0 s0_1 s0_2 s0_3) else (spec_chooser_of.j0 k a1 (decide (a1 < 2)) s0_0 s0_1 s0_2 s0_3)) = some (r1, r2, r3) := h
  clear h
  have HC3 := Aside0.mk H
  clear H
  go_enter Tryd.func83, Tryd.ntmps83
  go_upto_region 1 with (fail)
  repeat (go_quiet (fail); go_upto_region 1 with (fail))
  go_cut [19] (fun v19 wc => ∃ (kq : Nat) (x19_2 : Bool), v19 = .bool x19_2 ∧ Aside0 (spec_chooser_of.j0 kq a1 x19_2 s0_0 s0_1 s0_2 s0_3 = some (r1, r2, r3)) ∧ Aside0 (kq ≤ k) ∧ Aside0 (IsS81 w0 wc g s0_0 s0_1 s0_2 s0_3) ∧ Aside0 (KeepBut w wc g none) ∧ Aside0 (Below w0.heap.size w0 wc))
  case first =>
    have H := HC3.out
    clear HC3
    by_cases c4 : (s0_0.length : Int) = 0
    · rw [if_pos c4] at H
      have c4b0 : ((s0_0.length : Int) == 0) = true := beq_iff_eq.mpr c4
      have c4b1 : ((s0_0.length : Int) != 0) = false := bne_eq_false_iff_eq.mpr c4
      clear c4
      (first | rw [c4b0] | (simp only [i64_w, i32_w]; rw [c4b0]) | skip)
      have H' := Aside0.mk H
      clear H
      obtain ⟨ASz5_0, cSz5_0, ASz5_2, cSz5_2, HGz5, hgz5, HSz5_0, HSz5_2⟩ := HI0.out
      have hcz5_0 := cellS81_0 HGz5
      have hcz5_1 := cellS81_1 HGz5
      have hcz5_2 := cellS81_2 HGz5
      have hcz5_3 := cellS81_3 HGz5
      have hfz5_1 := blk_frozen HGz5 1
      have hfz5_3 := blk_frozen HGz5 3
      clear HGz5 hgz5
      go_wp2
      repeat (go_quiet (fail); try go_wp2)
      go_meet
      case rel => exact ⟨_, (true), (by first | rfl | (simp; done) | (simp [*]; done) | (simp [wrap64]; done)), H', ⟨by first | omega | exact Nat.le_refl _⟩, ⟨by repeat (first | (with_reducible first | exact HI0.out | apply IsS81.alloc | apply IsS81.drewN | apply IsS81.drew | apply IsS81.set_1 | apply IsS81.set_3) | exact HI0.out)⟩, ⟨by repeat (first | (with_reducible first | exact HK.out | apply KeepBut.set_ | apply keep_drewN | apply keep_drew | apply keep_alloc) | exact HK.out)⟩, ⟨by repeat (first | (with_reducible first | exact HB.out | apply below_alloc | apply pw_below_drewN | apply below_drew1 | refine below_set ?_ (IsS81.ge HI0.out)) | exact HB.out)⟩⟩
    · rw [if_neg c4] at H
      have c4b0 : ((s0_0.length : Int) == 0) = false := beq_eq_false_iff_ne.mpr c4
      have c4b1 : ((s0_0.length : Int) != 0) = true := bne_iff_ne.mpr c4
      have c4b2 : ¬ (s0_0 = []) := fun h_ => c4 (by rw [h_]; rfl)
      (first | rw [c4b0] | (simp only [i64_w, i32_w]; rw [c4b0]) | skip)
      have H' := Aside0.mk H
      clear H
      obtain ⟨ASz6_0, cSz6_0, ASz6_2, cSz6_2, HGz6, hgz6, HSz6_0, HSz6_2⟩ := HI0.out
      have hcz6_0 := cellS81_0 HGz6
      have hcz6_1 := cellS81_1 HGz6
      have hcz6_2 := cellS81_2 HGz6
      have hcz6_3 := cellS81_3 HGz6
      have hfz6_1 := blk_frozen HGz6 1
      have hfz6_3 := blk_frozen HGz6 3
      clear HGz6 hgz6
      go_wp2
      repeat (go_quiet (fail); try go_wp2)
      go_meet
      case rel => exact ⟨_, (decide (a1 < 2)), (by first | rfl | (simp; done) | (simp [*]; done) | (simp [wrap64]; done)), H', ⟨by first | omega | exact Nat.le_refl _⟩, ⟨by repeat (first | (with_reducible first | exact HI0.out | apply IsS81.alloc | apply IsS81.drewN | apply IsS81.drew | apply IsS81.set_1 | apply IsS81.set_3) | exact HI0.out)⟩, ⟨by repeat (first | (with_reducible first | exact HK.out | apply KeepBut.set_ | apply keep_drewN | apply keep_drew | apply keep_alloc) | exact HK.out)⟩, ⟨by repeat (first | (with_reducible first | exact HB.out | apply below_alloc | apply pw_below_drewN | apply below_drew1 | refine below_set ?_ (IsS81.ge HI0.out)) | exact HB.out)⟩⟩
  case rest =>
    clear HC3
    try clear p2
    try clear c4
    try clear c4b0
    try clear c4b1
    try clear c4b2
    try clear p6
    try clear hcz5_0
    try clear hcz5_1
    try clear hcz5_2
    try clear hcz5_3
    try clear hcz6_0
    try clear hcz6_1
    try clear hcz6_2
    try clear hcz6_3
    try clear hfz5_1
    try clear hfz5_3
    try clear hfz6_1
    try clear hfz6_3
    obtain ⟨kq, x19_2, rfl, HA, HJ2, HI0, HK, HB⟩ := hcut
    cases kq with
    | zero => exact absurd HA.out (by simp [spec_chooser_of.j0])
    | succ kj2 =>
      have H := HA.out
      clear HA
      simp only [spec_chooser_of.j0] at H
      by_cases c7 : x19_2 = true
      · subst c7
        have H1 : (some (0, s0_1, s0_3)) = some (r1, r2, r3) := by rw [if_pos rfl] at H; exact H
        clear H
        have H := H1
        clear H1
        simp only [Option.some.injEq, Prod.mk.injEq] at H
        obtain ⟨rfl, rfl, rfl⟩ := H
        go_wp2
        repeat (go_quiet (fail); try go_wp2)
        go_ret
        exact ⟨by first | rfl | (simp [errW_none, errW_some] <;> rfl) | (simp [*, errW_none, errW_some] <;> rfl), by repeat (first | (with_reducible first | exact HI0.out | apply IsS81.alloc | apply IsS81.drewN | apply IsS81.drew | apply IsS81.set_1 | apply IsS81.set_3) | exact HI0.out), by repeat (first | (with_reducible first | exact HB.out | apply below_alloc | apply pw_below_drewN | apply below_drew1 | refine below_set ?_ (IsS81.ge HI0.out)) | exact HB.out), by repeat (first | (with_reducible first | exact HK.out | apply KeepBut.set_ | apply keep_drewN | apply keep_drew | apply keep_alloc) | exact HK.out)⟩
      · replace c7 := Bool.eq_false_iff.mpr c7
        subst c7
        have H1 : (if (s0_0.length : Int) = 0 then (none) else (if 0 ≤ (Int.tmod s0_1 (s0_0.length : Int)) then (if (Int.tmod s0_1 (s0_0.length : Int)) < (s0_0.length : Int) then (if a1 = 0 then (none) else (if (Int.tmod (rd s0_0 (Int.tmod s0_1 (s0_0.length : Int))) a1) < 0 then (some (wrap64 ((Int.tmod (rd s0_0 (Int.tmod s0_1 (s0_0.length : Int))) a1) + a1), wrap64 (s0_1 + 1), s0_3)) else (some (Int.tmod (rd s0_0 (Int.tmod s0_1 (s0_0.length : Int))) a1, wrap64 (s0_1 + 1), s0_3)))) else (none)) else (none))) = some (r1, r2, r3) := by rw [if_neg (show ¬ (false = true) by decide)] at H; exact H
        clear H
        have H := H1
        clear H1
        by_cases c8 : (s0_0.length : Int) = 0
        · rw [if_pos c8] at H
          exact absurd H (by simp)
        · rw [if_neg c8] at H
          have c8b0 : ((s0_0.length : Int) == 0) = false := beq_eq_false_iff_ne.mpr c8
          have c8b1 : ((s0_0.length : Int) != 0) = true := bne_iff_ne.mpr c8
          have c8b2 : ¬ (s0_0 = []) := fun h_ => c8 (by rw [h_]; rfl)
          obtain ⟨ji9, hji9⟩ : ∃ j_ : Int, (Int.tmod s0_1 (s0_0.length : Int)) = j_ := ⟨_, rfl⟩
          replace H : (if 0 ≤ (ji9) then (if (ji9) < (s0_0.length : Int) then (if a1 = 0 then (none) else (if (Int.tmod (rd s0_0 (ji9)) a1) < 0 then (some (wrap64 ((Int.tmod (rd s0_0 (ji9)) a1) + a1), wrap64 (s0_1 + 1), s0_3)) else (some (Int.tmod (rd s0_0 (ji9)) a1, wrap64 (s0_1 + 1), s0_3)))) else (none)) else (none)) = some (r1, r2, r3) := by first | (rw [hji9] at H; exact H) | (simp only [hji9] at H ⊢; exact H)
          by_cases c10 : 0 ≤ (ji9)
          · rw [if_pos c10] at H
            have c10b0 : decide (0 ≤ (ji9)) = true := decide_eq_true c10
            clear c10
            by_cases c11 : (ji9) < (s0_0.length : Int)
            · rw [if_pos c11] at H
              have c11b0 : decide ((ji9) < (s0_0.length : Int)) = true := decide_eq_true c11
              clear c11
              by_cases c12 : a1 = 0
              · rw [if_pos c12] at H
                exact absurd H (by simp)
              · rw [if_neg c12] at H
                have c12b0 : (a1 == 0) = false := beq_eq_false_iff_ne.mpr c12
                have c12b1 : (a1 != 0) = true := bne_iff_ne.mpr c12
                by_cases c13 : (Int.tmod (rd s0_0 (ji9)) a1) < 0
                · rw [if_pos c13] at H
                  have c13b0 : decide ((Int.tmod (rd s0_0 (ji9)) a1) < 0) = true := decide_eq_true c13
                  clear c13
                  simp only [Option.some.injEq, Prod.mk.injEq] at H
                  obtain ⟨rfl, rfl, rfl⟩ := H
                  obtain ⟨ASz14_0, cSz14_0, ASz14_2, cSz14_2, HGz14, hgz14, HSz14_0, HSz14_2⟩ := HI0.out
                  have hcz14_0 := cellS81_0 HGz14
                  have hcz14_1 := cellS81_1 HGz14
                  have hcz14_2 := cellS81_2 HGz14
                  have hcz14_3 := cellS81_3 HGz14
                  have hfz14_1 := blk_frozen HGz14 1
                  have hfz14_3 := blk_frozen HGz14 3
                  clear HGz14 hgz14
                  have p356 : 0 ≤ ((ji9) : Int) := of_decide_eq_true (by first | (with_reducible assumption) | assumption)
                  have q356 : (ji9) < (s0_0.length : Int) := of_decide_eq_true (by first | (with_reducible assumption) | assumption)
                  obtain ⟨ad356, e356, hx356_0⟩ := Kd.at_int HSz14_0 (ji9) p356 q356
                  cases e356
                  replace hx356_0 := pw_cell_below HB.out hx356_0
                  replace p356 := eq_true p356
                  replace q356 := eq_true q356
                  go_wp2
                  repeat (go_quiet (fail); try go_wp2)
                  go_ret
                  exact ⟨by first | rfl | (simp [errW_none, errW_some] <;> rfl) | (simp only [← hji9]; first | rfl | (simp [errW_none, errW_some] <;> rfl)) | (simp [*, errW_none, errW_some] <;> rfl), by repeat (first | (with_reducible first | exact HI0.out | apply IsS81.alloc | apply IsS81.drewN | apply IsS81.drew | apply IsS81.set_1 | apply IsS81.set_3) | exact HI0.out), by repeat (first | (with_reducible first | exact HB.out | apply below_alloc | apply pw_below_drewN | apply below_drew1 | refine below_set ?_ (IsS81.ge HI0.out)) | exact HB.out), by repeat (first | (with_reducible first | exact HK.out | apply KeepBut.set_ | apply keep_drewN | apply keep_drew | apply keep_alloc) | exact HK.out)⟩
                · rw [if_neg c13] at H
                  have c13b0 : decide ((Int.tmod (rd s0_0 (ji9)) a1) < 0) = false := decide_eq_false c13
                  clear c13
                  simp only [Option.some.injEq, Prod.mk.injEq] at H
                  obtain ⟨rfl, rfl, rfl⟩ := H
                  obtain ⟨ASz15_0, cSz15_0, ASz15_2, cSz15_2, HGz15, hgz15, HSz15_0, HSz15_2⟩ := HI0.out
                  have hcz15_0 := cellS81_0 HGz15
                  have hcz15_1 := cellS81_1 HGz15
                  have hcz15_2 := cellS81_2 HGz15
                  have hcz15_3 := cellS81_3 HGz15
                  have hfz15_1 := blk_frozen HGz15 1
                  have hfz15_3 := blk_frozen HGz15 3
                  clear HGz15 hgz15
                  have p356 : 0 ≤ ((ji9) : Int) := of_decide_eq_true (by first | (with_reducible assumption) | assumption)
                  have q356 : (ji9) < (s0_0.length : Int) := of_decide_eq_true (by first | (with_reducible assumption) | assumption)
                  obtain ⟨ad356, e356, hx356_0⟩ := Kd.at_int HSz15_0 (ji9) p356 q356
                  cases e356
                  replace hx356_0 := pw_cell_below HB.out hx356_0
                  replace p356 := eq_true p356
                  replace q356 := eq_true q356
                  go_wp2
                  repeat (go_quiet (fail); try go_wp2)
                  go_ret
                  exact ⟨by first | rfl | (simp [errW_none, errW_some] <;> rfl) | (simp only [← hji9]; first | rfl | (simp [errW_none, errW_some] <;> rfl)) | (simp [*, errW_none, errW_some] <;> rfl), by repeat (first | (with_reducible first | exact HI0.out | apply IsS81.alloc | apply IsS81.drewN | apply IsS81.drew | apply IsS81.set_1 | apply IsS81.set_3) | exact HI0.out), by repeat (first | (with_reducible first | exact HB.out | apply below_alloc | apply pw_below_drewN | apply below_drew1 | refine below_set ?_ (IsS81.ge HI0.out)) | exact HB.out), by repeat (first | (with_reducible first | exact HK.out | apply KeepBut.set_ | apply keep_drewN | apply keep_drew | apply keep_alloc) | exact HK.out)⟩
            · rw [if_neg c11] at H
              exact absurd H (by simp)
          · rw [if_neg c10] at H
            exact absurd H (by simp)

end Go.Proofs.YtiilihafcdmccaaDoor.P
/- '(*chooser).of': a number below m. -/
namespace Go.Proofs.YtiilihafcdmccaaDoor.P
open Go.RowKit Go.Proofs.YtiilihafcdmccaaDoorW.PrintWords Go.Proofs.YtiilihafcdmccaaDoorW.PrintLast
set_option linter.unusedVariables false
set_option linter.unusedSimpArgs false

theorem w64r {x : Int} (h0 : -9223372036854775808 ≤ x) (h1 : x ≤ 9223372036854775807) : wrap64 x = x := by unfold wrap64; omega
theorem of_lt (nums : List Int) (at_ : Int) (m : Int) (h0 : 0 ≤ at_) (h1 : at_ ≤ 1000000) (hm : 2 ≤ m) (hm2 : m ≤ 1000000) :
    ∃ v a, spec_chooser_of.f 1 nums at_ [] false m = some (v, a, false) ∧ 0 ≤ v ∧ v < m ∧ at_ ≤ a ∧ a ≤ at_ + 1 := by
  by_cases hn : (nums.length : Int) = 0
  · refine ⟨0, at_, ?_, Int.le_refl _, by omega, Int.le_refl _, by omega⟩
    unfold spec_chooser_of.f
    rw [if_pos hn]
    simp [spec_chooser_of.j0]
  · have hp : (0 : Int) < nums.length := by omega
    have h2 := Int.tmod_nonneg (nums.length : Int) h0
    have h3 := Int.tmod_lt_of_pos at_ hp
    have hw : wrap64 (at_ + 1) = at_ + 1 := w64r (by omega) (by omega)
    have h4 := Int.tmod_lt_of_pos (rd nums (Int.tmod at_ (nums.length : Int))) (show 0 < m by omega)
    have h5 : -m < Int.tmod (rd nums (Int.tmod at_ (nums.length : Int))) m := by
      have := Int.lt_tmod_of_pos (rd nums (Int.tmod at_ (nums.length : Int))) (show 0 < m by omega)
      exact this
    by_cases hv : Int.tmod (rd nums (Int.tmod at_ (nums.length : Int))) m < 0
    · have hw2 : wrap64 (Int.tmod (rd nums (Int.tmod at_ (nums.length : Int))) m + m) = Int.tmod (rd nums (Int.tmod at_ (nums.length : Int))) m + m := w64r (by omega) (by omega)
      refine ⟨wrap64 (Int.tmod (rd nums (Int.tmod at_ (nums.length : Int))) m + m), at_ + 1, ?_, by omega, by omega, by omega, Int.le_refl _⟩
      unfold spec_chooser_of.f
      rw [if_neg hn, decide_eq_false (by omega)]
      simp only [spec_chooser_of.j0]
      rw [if_neg Bool.false_ne_true, if_neg hn, if_pos h2, if_pos h3, if_neg (by omega), if_pos hv, hw]
    · refine ⟨Int.tmod (rd nums (Int.tmod at_ (nums.length : Int))) m, at_ + 1, ?_, by omega, by omega, by omega, Int.le_refl _⟩
      unfold spec_chooser_of.f
      rw [if_neg hn, decide_eq_false (by omega)]
      simp only [spec_chooser_of.j0]
      rw [if_neg Bool.false_ne_true, if_neg hn, if_pos h2, if_pos h3, if_neg (by omega), if_neg hv, hw]
theorem of_any (g : Nat) (nums : List Int) (at_ m : Int) (w0 w : World) (h0 : 0 ≤ at_) (h1 : at_ ≤ 1000000) (hm : 2 ≤ m) (hm2 : m ≤ 1000000) (hI : IsS81 w0 w g nums at_ [] false) (hB : Below w0.heap.size w0 w) :
    Calls Tryd.prog 83 #[.pointer (some ⟨g, 0, none⟩), .int .i64 m] w fun e w' => ∃ v a, e = .returned (.int .i64 v) ∧ 0 ≤ v ∧ v < m ∧ at_ ≤ a ∧ a ≤ at_ + 1 ∧ IsS81 w0 w' g nums a [] false ∧ Below w0.heap.size w0 w' ∧ KeepBut w w' g none := by
  obtain ⟨v, a, h2, h3, h4, h5, h6⟩ := of_lt nums at_ m h0 h1 hm hm2
  refine (spec_chooser_of.calls 1 g nums at_ [] false m v a false w0 w hI hB h2).mono ?_
  rintro e w' ⟨rfl, hi, hb, hk⟩
  exact ⟨v, a, rfl, h3, h4, h5, h6, hi, hb, hk⟩

end Go.Proofs.YtiilihafcdmccaaDoor.P
/- '(*chooser).ip6': the text of sixteen octets. -/
namespace Go.Proofs.YtiilihafcdmccaaDoor.P
open Go.RowKit Go.Proofs.YtiilihafcdmccaaDoorW.PrintWords Go.Proofs.YtiilihafcdmccaaDoorW.PrintLast Go.Proofs.YtiilihafcdmccaaDoorW.PrintMore
set_option linter.unusedVariables false
set_option linter.unusedSimpArgs false

def gV (xs : List Int) : Array Value := (xs.map fun x => Value.int .i64 x).toArray
theorem gV_cell {wr : World} {m e : Nat} {xs : List Int} (h : wr.heap[m]? = some (.cells (gV xs) e (0, 0))) {i : Nat} (hi : i < xs.length) : wr.cell? ⟨m, i, none⟩ = some (.int .i64 (xs.getD i 0)) ∧ wr.frozen? ⟨m, i, none⟩ = false := by
  constructor
  · simp [World.cell?, h, gV, hi, List.getD_eq_getElem?_getD]
  · simp [World.frozen?, h]
theorem gV_set {wr : World} {m e : Nat} {xs : List Int} (h : wr.heap[m]? = some (.cells (gV xs) e (0, 0))) (i : Nat) (v : Int) : (wr.setCell ⟨m, i, none⟩ (.int .i64 v)).heap[m]? = some (.cells (gV (xs.set i v)) e (0, 0)) := by
  have h1 := setCell_eq_setRow wr m i (gV xs) e (0, 0) (.int .i64 v) h
  rw [h1, setRow_heap wr m _ _ e _ h]
  simp [gV, List.map_set]
theorem number2 (x y : Int) (b o c : Nat) (w : World) (hx : 0 ≤ x ∧ x < 256) (hy : 0 ≤ y ∧ y < 256) (h0 : w.cell? ⟨b, o, none⟩ = some (.int .u8 x)) (h1 : w.cell? ⟨b, o + 1, none⟩ = some (.int .u8 y)) (hc : 2 ≤ c) :
    Calls Tryd.prog 93 #[.slice (some ⟨b, o, none⟩) 2 c] w fun e w' => e = .returned (.int .i64 (x * 256 + y)) ∧ Drawn0 w w' := by
  have hr : Kd.C (Kd.int .u8) w (some ⟨b, o, none⟩) [x, y].length [x, y] := by
    refine Kd.C_of_reads (d := (0 : Int)) (h1 := fun _ => rfl) ⟨rfl, by simp [maxLen], fun _ => ⟨_, rfl, fun i hi => ?_⟩⟩
    have hi2 : i < 2 := hi
    rcases (show i = 0 ∨ i = 1 by omega) with rfl | rfl
    · exact h0
    · exact h1
  exact spec_number.calls 3 _ c [x, y] (x * 256 + y) w hr hc (num_f x y hx hy)
/-- The groups read so far. -/
def fillG (G : List Int) (i : Nat) : List Int := G.take i ++ List.replicate (8 - i) 0
theorem fillG_len {G : List Int} {i : Nat} (hG : G.length = 8) (hi : i ≤ 8) : (fillG G i).length = 8 := by unfold fillG; rw [List.length_append, List.length_take, List.length_replicate]; omega
theorem fillG_succ {G : List Int} {i : Nat} (hG : G.length = 8) (hi : i < 8) : (fillG G i).set i (G.getD i 0) = fillG G (i + 1) := by
  unfold fillG
  have hl : (G.take i).length = i := by rw [List.length_take]; omega
  obtain ⟨r, hr⟩ : ∃ r, 8 - i = r + 1 := ⟨8 - i - 1, by omega⟩
  have hr2 : 8 - (i + 1) = r := by omega
  rw [hr, hr2, List.set_append_right _ _ (by omega), hl, Nat.sub_self, List.take_succ_eq_append_getElem (by omega), List.replicate_succ, List.getD_eq_getElem?_getD, List.getElem?_eq_getElem (by omega), List.append_assoc]
  rfl
theorem fillG_all {G : List Int} (hG : G.length = 8) : fillG G 8 = G := by unfold fillG; rw [List.take_of_length_le (by omega)]; simp
/-- The groups and the chooser, as the walk keeps them. -/
structure I6 (w0 w W : World) (g : Nat) (nums : List Int) (a : Int) (L : List Int) : Prop where
  h : W.heap[w.heap.size]? = some (.cells (gV L) 118 (0, 0))
  c : IsS81 w0 W g nums a [] false
  b : Below w0.heap.size w0 W
  s : w0.heap.size ≤ w.heap.size
  n : g ≠ w.heap.size
theorem I6.drew {w0 w W : World} {g : Nat} {nums L : List Int} {a : Int} (h : I6 w0 w W g nums a L) : I6 w0 w W.drew g nums a L := ⟨h.h, h.c.drew, below_drew1 h.b, h.s, h.n⟩
theorem I6.drewN {w0 w W : World} {g : Nat} {nums L : List Int} {a : Int} (h : I6 w0 w W g nums a L) (n : Nat) : I6 w0 w (W.drewN n) g nums a L := ⟨h.h, h.c.drewN n, pw_below_drewN h.b n, h.s, h.n⟩
theorem I6.start {w0 w : World} {g : Nat} {nums : List Int} (hI : IsS81 w0 w g nums 0 [] false) (hB : Below w0.heap.size w0 w) (L : List Int) : I6 w0 w (w.alloc (.cells (gV L) 118)) g nums 0 L :=
  ⟨heap_alloc_new w _, hI.alloc _, below_alloc hB _, hB.size, Nat.ne_of_lt hI.lt⟩
theorem I6.set {w0 w W : World} {g : Nat} {nums L : List Int} {a : Int} (h : I6 w0 w W g nums a L) (i : Nat) (v : Int) : I6 w0 w (W.setCell ⟨w.heap.size, i, none⟩ (.int .i64 v)) g nums a (L.set i v) :=
  ⟨gV_set h.h i v, h.c.far (p := ⟨w.heap.size, i, none⟩) h.n _, h.b.setCell (p := ⟨w.heap.size, i, none⟩) h.s _, h.s, h.n⟩
theorem I6.of (w0 w W : World) (g : Nat) (nums L : List Int) (a m : Int) (h : I6 w0 w W g nums a L) (ha : 0 ≤ a) (ha1 : a ≤ 1000) (hm : 2 ≤ m) (hm1 : m ≤ 1000) :
    Calls Tryd.prog 83 #[.pointer (some ⟨g, 0, none⟩), .int .i64 m] W fun e W' => ∃ v a', e = .returned (.int .i64 v) ∧ 0 ≤ v ∧ v < m ∧ a ≤ a' ∧ a' ≤ a + 1 ∧ I6 w0 w W' g nums a' L := by
  refine (of_any g nums a m w0 W ha (by omega) hm (by omega) h.c h.b).mono ?_
  rintro e W' ⟨v, a', rfl, h1, h2, h3, h4, h5, h6, h7⟩
  refine ⟨v, a', rfl, h1, h2, h3, h4, ⟨?_, h5, h6, h.s, h.n⟩⟩
  rw [← h.h]
  exact h7.2 _ (heap_lt h.h) (Ne.symm h.n) (by simp)
theorem addr_add (b o i : Nat) : (⟨b, o, none⟩ : Addr).add i = ⟨b, o + i, none⟩ := by
  unfold Addr.add
  split
  · subst_vars; rfl
  · rfl
theorem I6.byte {w0 w W : World} {g : Nat} {nums L : List Int} {a : Int} (h : I6 w0 w W g nums a L) {b o : Nat} {B : List Int} (hr : Row8 w0 ⟨b, o, none⟩ B) {i : Nat} (hi : i < B.length) : W.cell? ⟨b, o + i, none⟩ = some (.int .u8 (B.getD i 0)) := by
  have h9 := (Row8.below hr h.b) i hi
  rwa [addr_add] at h9
theorem getD_B {B : List Int} (h : IsB B) (i : Nat) : 0 ≤ B.getD i 0 ∧ B.getD i 0 < 256 := by
  rw [List.getD_eq_getElem?_getD]
  cases hj : B[i]? with
  | none => simp
  | some x => exact h x (List.mem_of_getElem? hj)

set_option maxRecDepth 100000 in
set_option maxHeartbeats 4000000 in
theorem ip6_any (B : List Int) (b o cb g : Nat) (nums : List Int) (w0 w : World) (hB : B.length = 16) (hBB : IsB B) (hcb : 16 ≤ cb) (hr : Row8 w0 ⟨b, o, none⟩ B) (hI : IsS81 w0 w g nums 0 [] false) (hBl : Below w0.heap.size w0 w) :
    Calls Tryd.prog 72 #[.pointer (some ⟨g, 0, none⟩), .slice (some ⟨b, o, none⟩) 16 cb] w fun e w' => ∃ (T : ByteArray) (f : Int) (gs : List (List Int)), e = .returned (.string T) ∧ bytesOf T = txt6 f gs ∧ (∀ g ∈ gs, GoodG g) ∧ ((f = -1 ∧ gs.length = 8) ∨ (0 ≤ f ∧ f ≤ gs.length ∧ gs.length ≤ 7)) ∧ fin6 f gs = B ∧ Below w0.heap.size w0 w' := by
  have HB := Aside0.mk hB
  have HBB := Aside0.mk hBB
  have HR := Aside0.mk hr
  have HS := Aside0.mk (I6.start hI hBl (List.replicate 8 0))
  have HC := Aside0.mk hcb
  clear hB hBB hr hI hBl
  go_enter Tryd.func72, Tryd.ntmps72
  go_upto_block 0 with (fail)
  go_cut [6, 15] from 16 to 28 (fun v6 v15 wc => v15 = .int .i64 8 ∧ Aside0 (I6 w0 w wc g nums 0 (Gs B)))
  case first =>
    go_wp2_with fail
    go_loopw [6, 15] (fun v6 v15 W => ∃ (i : Nat) (z : Int), v15 = .int .i64 z ∧ i ≤ 8 ∧ z = (i : Int) ∧ Aside0 (I6 w0 w W g nums 0 (fillG (Gs B) i))) (fun v6 v15 _ => (8 - intOf v15).toNat)
    case atStart => exact ⟨0, 0, rfl, Nat.zero_le _, rfl, HS⟩
    case round =>
      clear HS
      obtain ⟨i, z, rfl, hi, hz, HI⟩ := hrel
      have hcb2 : (16 : Int) ≤ (cb : Int) := by have := HC.out; omega
      rcases (show i = 0 ∨ i = 1 ∨ i = 2 ∨ i = 3 ∨ i = 4 ∨ i = 5 ∨ i = 6 ∨ i = 7 ∨ i = 8 by omega) with rfl | rfl | rfl | rfl | rfl | rfl | rfl | rfl | rfl
      · obtain rfl : z = 0 := by omega
        have g0 := getD_B HBB.out 0
        have g1 := getD_B HBB.out 1
        have q0 := HI.out.byte HR.out (i := 0) (by have := HB.out; omega)
        have q1 := HI.out.byte HR.out (i := 1) (by have := HB.out; omega)
        have y0 := (gV_cell HI.out.h (i := 0) (by rw [fillG_len (Gs_len B) (by omega)]; omega))
        have HN := Aside0.mk (fillG_succ (i := 0) (Gs_len B) (by omega))
        have HA := Aside0.mk (Gs_at B (i := 0) (by omega))
        obtain ⟨x0, hx0⟩ : ∃ x, x = B.getD 0 0 := ⟨_, rfl⟩
        obtain ⟨x1, hx1⟩ : ∃ x, x = B.getD 1 0 := ⟨_, rfl⟩
        rw [← hx0] at q0 g0
        rw [← hx1] at q1 g1
        have HX := Aside0.mk (And.intro hx0 hx1)
        have HQ := Aside0.mk (And.intro q0 q1)
        have HG := Aside0.mk (And.intro g0 g1)
        obtain ⟨y1, y2⟩ := y0
        clear hx0 hx1 q0 q1 g0 g1 hi hz
        go_wp2_with (first | (go_at_call 93; (refine (number2 x0 x1 b (o + 0) (cb - 0) wr HG.out.1 HG.out.2 HQ.out.1 HQ.out.2 (by have := HC.out; omega)).mono ?_); rintro e w' ⟨rfl, ⟨nd, rfl⟩⟩))
        go_roundw
        case rel => exact ⟨1, 1, rfl, by omega, rfl, ⟨by
          have h := (HI.out.drewN nd).set 0 (x0 * 256 + x1)
          rw [HX.out.1, HX.out.2, ← HA.out, HN.out] at h
          rw [HX.out.1, HX.out.2, ← HA.out]
          exact h⟩⟩
        case measure => simp [intOf]
      · obtain rfl : z = 1 := by omega
        have g0 := getD_B HBB.out 2
        have g1 := getD_B HBB.out 3
        have q0 := HI.out.byte HR.out (i := 2) (by have := HB.out; omega)
        have q1 := HI.out.byte HR.out (i := 3) (by have := HB.out; omega)
        have y0 := (gV_cell HI.out.h (i := 1) (by rw [fillG_len (Gs_len B) (by omega)]; omega))
        have HN := Aside0.mk (fillG_succ (i := 1) (Gs_len B) (by omega))
        have HA := Aside0.mk (Gs_at B (i := 1) (by omega))
        obtain ⟨x0, hx0⟩ : ∃ x, x = B.getD 2 0 := ⟨_, rfl⟩
        obtain ⟨x1, hx1⟩ : ∃ x, x = B.getD 3 0 := ⟨_, rfl⟩
        rw [← hx0] at q0 g0
        rw [← hx1] at q1 g1
        have HX := Aside0.mk (And.intro hx0 hx1)
        have HQ := Aside0.mk (And.intro q0 q1)
        have HG := Aside0.mk (And.intro g0 g1)
        obtain ⟨y1, y2⟩ := y0
        clear hx0 hx1 q0 q1 g0 g1 hi hz
        go_wp2_with (first | (go_at_call 93; (refine (number2 x0 x1 b (o + 2) (cb - 2) wr HG.out.1 HG.out.2 HQ.out.1 HQ.out.2 (by have := HC.out; omega)).mono ?_); rintro e w' ⟨rfl, ⟨nd, rfl⟩⟩))
        go_roundw
        case rel => exact ⟨2, 2, rfl, by omega, rfl, ⟨by
          have h := (HI.out.drewN nd).set 1 (x0 * 256 + x1)
          rw [HX.out.1, HX.out.2, ← HA.out, HN.out] at h
          rw [HX.out.1, HX.out.2, ← HA.out]
          exact h⟩⟩
        case measure => simp [intOf]
      · obtain rfl : z = 2 := by omega
        have g0 := getD_B HBB.out 4
        have g1 := getD_B HBB.out 5
        have q0 := HI.out.byte HR.out (i := 4) (by have := HB.out; omega)
        have q1 := HI.out.byte HR.out (i := 5) (by have := HB.out; omega)
        have y0 := (gV_cell HI.out.h (i := 2) (by rw [fillG_len (Gs_len B) (by omega)]; omega))
        have HN := Aside0.mk (fillG_succ (i := 2) (Gs_len B) (by omega))
        have HA := Aside0.mk (Gs_at B (i := 2) (by omega))
        obtain ⟨x0, hx0⟩ : ∃ x, x = B.getD 4 0 := ⟨_, rfl⟩
        obtain ⟨x1, hx1⟩ : ∃ x, x = B.getD 5 0 := ⟨_, rfl⟩
        rw [← hx0] at q0 g0
        rw [← hx1] at q1 g1
        have HX := Aside0.mk (And.intro hx0 hx1)
        have HQ := Aside0.mk (And.intro q0 q1)
        have HG := Aside0.mk (And.intro g0 g1)
        obtain ⟨y1, y2⟩ := y0
        clear hx0 hx1 q0 q1 g0 g1 hi hz
        go_wp2_with (first | (go_at_call 93; (refine (number2 x0 x1 b (o + 4) (cb - 4) wr HG.out.1 HG.out.2 HQ.out.1 HQ.out.2 (by have := HC.out; omega)).mono ?_); rintro e w' ⟨rfl, ⟨nd, rfl⟩⟩))
        go_roundw
        case rel => exact ⟨3, 3, rfl, by omega, rfl, ⟨by
          have h := (HI.out.drewN nd).set 2 (x0 * 256 + x1)
          rw [HX.out.1, HX.out.2, ← HA.out, HN.out] at h
          rw [HX.out.1, HX.out.2, ← HA.out]
          exact h⟩⟩
        case measure => simp [intOf]
      · obtain rfl : z = 3 := by omega
        have g0 := getD_B HBB.out 6
        have g1 := getD_B HBB.out 7
        have q0 := HI.out.byte HR.out (i := 6) (by have := HB.out; omega)
        have q1 := HI.out.byte HR.out (i := 7) (by have := HB.out; omega)
        have y0 := (gV_cell HI.out.h (i := 3) (by rw [fillG_len (Gs_len B) (by omega)]; omega))
        have HN := Aside0.mk (fillG_succ (i := 3) (Gs_len B) (by omega))
        have HA := Aside0.mk (Gs_at B (i := 3) (by omega))
        obtain ⟨x0, hx0⟩ : ∃ x, x = B.getD 6 0 := ⟨_, rfl⟩
        obtain ⟨x1, hx1⟩ : ∃ x, x = B.getD 7 0 := ⟨_, rfl⟩
        rw [← hx0] at q0 g0
        rw [← hx1] at q1 g1
        have HX := Aside0.mk (And.intro hx0 hx1)
        have HQ := Aside0.mk (And.intro q0 q1)
        have HG := Aside0.mk (And.intro g0 g1)
        obtain ⟨y1, y2⟩ := y0
        clear hx0 hx1 q0 q1 g0 g1 hi hz
        go_wp2_with (first | (go_at_call 93; (refine (number2 x0 x1 b (o + 6) (cb - 6) wr HG.out.1 HG.out.2 HQ.out.1 HQ.out.2 (by have := HC.out; omega)).mono ?_); rintro e w' ⟨rfl, ⟨nd, rfl⟩⟩))
        go_roundw
        case rel => exact ⟨4, 4, rfl, by omega, rfl, ⟨by
          have h := (HI.out.drewN nd).set 3 (x0 * 256 + x1)
          rw [HX.out.1, HX.out.2, ← HA.out, HN.out] at h
          rw [HX.out.1, HX.out.2, ← HA.out]
          exact h⟩⟩
        case measure => simp [intOf]
      · obtain rfl : z = 4 := by omega
        have g0 := getD_B HBB.out 8
        have g1 := getD_B HBB.out 9
        have q0 := HI.out.byte HR.out (i := 8) (by have := HB.out; omega)
        have q1 := HI.out.byte HR.out (i := 9) (by have := HB.out; omega)
        have y0 := (gV_cell HI.out.h (i := 4) (by rw [fillG_len (Gs_len B) (by omega)]; omega))
        have HN := Aside0.mk (fillG_succ (i := 4) (Gs_len B) (by omega))
        have HA := Aside0.mk (Gs_at B (i := 4) (by omega))
        obtain ⟨x0, hx0⟩ : ∃ x, x = B.getD 8 0 := ⟨_, rfl⟩
        obtain ⟨x1, hx1⟩ : ∃ x, x = B.getD 9 0 := ⟨_, rfl⟩
        rw [← hx0] at q0 g0
        rw [← hx1] at q1 g1
        have HX := Aside0.mk (And.intro hx0 hx1)
        have HQ := Aside0.mk (And.intro q0 q1)
        have HG := Aside0.mk (And.intro g0 g1)
        obtain ⟨y1, y2⟩ := y0
        clear hx0 hx1 q0 q1 g0 g1 hi hz
        go_wp2_with (first | (go_at_call 93; (refine (number2 x0 x1 b (o + 8) (cb - 8) wr HG.out.1 HG.out.2 HQ.out.1 HQ.out.2 (by have := HC.out; omega)).mono ?_); rintro e w' ⟨rfl, ⟨nd, rfl⟩⟩))
        go_roundw
        case rel => exact ⟨5, 5, rfl, by omega, rfl, ⟨by
          have h := (HI.out.drewN nd).set 4 (x0 * 256 + x1)
          rw [HX.out.1, HX.out.2, ← HA.out, HN.out] at h
          rw [HX.out.1, HX.out.2, ← HA.out]
          exact h⟩⟩
        case measure => simp [intOf]
      · obtain rfl : z = 5 := by omega
        have g0 := getD_B HBB.out 10
        have g1 := getD_B HBB.out 11
        have q0 := HI.out.byte HR.out (i := 10) (by have := HB.out; omega)
        have q1 := HI.out.byte HR.out (i := 11) (by have := HB.out; omega)
        have y0 := (gV_cell HI.out.h (i := 5) (by rw [fillG_len (Gs_len B) (by omega)]; omega))
        have HN := Aside0.mk (fillG_succ (i := 5) (Gs_len B) (by omega))
        have HA := Aside0.mk (Gs_at B (i := 5) (by omega))
        obtain ⟨x0, hx0⟩ : ∃ x, x = B.getD 10 0 := ⟨_, rfl⟩
        obtain ⟨x1, hx1⟩ : ∃ x, x = B.getD 11 0 := ⟨_, rfl⟩
        rw [← hx0] at q0 g0
        rw [← hx1] at q1 g1
        have HX := Aside0.mk (And.intro hx0 hx1)
        have HQ := Aside0.mk (And.intro q0 q1)
        have HG := Aside0.mk (And.intro g0 g1)
        obtain ⟨y1, y2⟩ := y0
        clear hx0 hx1 q0 q1 g0 g1 hi hz
        go_wp2_with (first | (go_at_call 93; (refine (number2 x0 x1 b (o + 10) (cb - 10) wr HG.out.1 HG.out.2 HQ.out.1 HQ.out.2 (by have := HC.out; omega)).mono ?_); rintro e w' ⟨rfl, ⟨nd, rfl⟩⟩))
        go_roundw
        case rel => exact ⟨6, 6, rfl, by omega, rfl, ⟨by
          have h := (HI.out.drewN nd).set 5 (x0 * 256 + x1)
          rw [HX.out.1, HX.out.2, ← HA.out, HN.out] at h
          rw [HX.out.1, HX.out.2, ← HA.out]
          exact h⟩⟩
        case measure => simp [intOf]
      · obtain rfl : z = 6 := by omega
        have g0 := getD_B HBB.out 12
        have g1 := getD_B HBB.out 13
        have q0 := HI.out.byte HR.out (i := 12) (by have := HB.out; omega)
        have q1 := HI.out.byte HR.out (i := 13) (by have := HB.out; omega)
        have y0 := (gV_cell HI.out.h (i := 6) (by rw [fillG_len (Gs_len B) (by omega)]; omega))
        have HN := Aside0.mk (fillG_succ (i := 6) (Gs_len B) (by omega))
        have HA := Aside0.mk (Gs_at B (i := 6) (by omega))
        obtain ⟨x0, hx0⟩ : ∃ x, x = B.getD 12 0 := ⟨_, rfl⟩
        obtain ⟨x1, hx1⟩ : ∃ x, x = B.getD 13 0 := ⟨_, rfl⟩
        rw [← hx0] at q0 g0
        rw [← hx1] at q1 g1
        have HX := Aside0.mk (And.intro hx0 hx1)
        have HQ := Aside0.mk (And.intro q0 q1)
        have HG := Aside0.mk (And.intro g0 g1)
        obtain ⟨y1, y2⟩ := y0
        clear hx0 hx1 q0 q1 g0 g1 hi hz
        go_wp2_with (first | (go_at_call 93; (refine (number2 x0 x1 b (o + 12) (cb - 12) wr HG.out.1 HG.out.2 HQ.out.1 HQ.out.2 (by have := HC.out; omega)).mono ?_); rintro e w' ⟨rfl, ⟨nd, rfl⟩⟩))
        go_roundw
        case rel => exact ⟨7, 7, rfl, by omega, rfl, ⟨by
          have h := (HI.out.drewN nd).set 6 (x0 * 256 + x1)
          rw [HX.out.1, HX.out.2, ← HA.out, HN.out] at h
          rw [HX.out.1, HX.out.2, ← HA.out]
          exact h⟩⟩
        case measure => simp [intOf]
      · obtain rfl : z = 7 := by omega
        have g0 := getD_B HBB.out 14
        have g1 := getD_B HBB.out 15
        have q0 := HI.out.byte HR.out (i := 14) (by have := HB.out; omega)
        have q1 := HI.out.byte HR.out (i := 15) (by have := HB.out; omega)
        have y0 := (gV_cell HI.out.h (i := 7) (by rw [fillG_len (Gs_len B) (by omega)]; omega))
        have HN := Aside0.mk (fillG_succ (i := 7) (Gs_len B) (by omega))
        have HA := Aside0.mk (Gs_at B (i := 7) (by omega))
        obtain ⟨x0, hx0⟩ : ∃ x, x = B.getD 14 0 := ⟨_, rfl⟩
        obtain ⟨x1, hx1⟩ : ∃ x, x = B.getD 15 0 := ⟨_, rfl⟩
        rw [← hx0] at q0 g0
        rw [← hx1] at q1 g1
        have HX := Aside0.mk (And.intro hx0 hx1)
        have HQ := Aside0.mk (And.intro q0 q1)
        have HG := Aside0.mk (And.intro g0 g1)
        obtain ⟨y1, y2⟩ := y0
        clear hx0 hx1 q0 q1 g0 g1 hi hz
        go_wp2_with (first | (go_at_call 93; (refine (number2 x0 x1 b (o + 14) (cb - 14) wr HG.out.1 HG.out.2 HQ.out.1 HQ.out.2 (by have := HC.out; omega)).mono ?_); rintro e w' ⟨rfl, ⟨nd, rfl⟩⟩))
        go_roundw
        case rel => exact ⟨8, 8, rfl, by omega, rfl, ⟨by
          have h := (HI.out.drewN nd).set 7 (x0 * 256 + x1)
          rw [HX.out.1, HX.out.2, ← HA.out, HN.out] at h
          rw [HX.out.1, HX.out.2, ← HA.out]
          exact h⟩⟩
        case measure => simp [intOf]
      · obtain rfl : z = 8 := by omega
        clear hi hz
        go_wp2
        go_meet
        case rel => exact ⟨rfl, ⟨by have h := HI.out; rwa [fillG_all (Gs_len B)] at h⟩⟩
  case rest =>
    clear HS
    obtain ⟨rfl, HI0⟩ := hcut
    go_upto_if 31 with (first | (go_at_call 83; (refine (I6.of w0 w wc g nums (Gs B) 0 2 HI0.out (by omega) (by omega) (by omega) (by omega)).mono ?_); rintro e w2 ⟨c1, a1, rfl, hc0, hc1, ha0, ha1, hi2⟩; (have HI2 := Aside0.mk hi2); clear hi2))
    clear HI0
    go_cut [7, 8, 9, 10, 11, 12, 34] from 30 to 57 (fun v7 v8 v9 v10 v11 v12 v34 wc => ∃ (p q : Nat) (a : Int), v7 = .int .i64 p ∧ v8 = .int .i64 q ∧ 0 ≤ a ∧ a ≤ 2 ∧ p ≤ 8 ∧ q ≤ 8 ∧ Aside0 (∀ j, p ≤ j → j < q → (Gs B).getD j 0 = 0) ∧ Aside0 (I6 w0 w wc g nums a (Gs B)))
    case first =>
      by_cases hc : c1 = 1
      · have f0 : (c1 == 1) = true := beq_iff_eq.mpr hc
        go_wp2_with (first | (go_at_call 83; (refine (I6.of w0 w w2 g nums (Gs B) a1 8 HI2.out (by omega) (by omega) (by omega) (by omega)).mono ?_); rintro e w3 ⟨c2, a2, rfl, hd0, hd1, hb0, hb1, hi3⟩; (have HI3 := Aside0.mk hi3); clear hi3))
        clear HI2
        go_loopw [7, 8, 34] (fun v7 v8 v34 W => ∃ z : Int, v7 = .int .i64 0 ∧ v8 = .int .i64 0 ∧ v34 = .int .i64 z ∧ 0 ≤ z ∧ z ≤ 8 ∧ W = w3) (fun v7 v8 v34 _ => (8 - intOf v34).toNat)
        case atStart => exact ⟨0, rfl, rfl, rfl, by omega, by omega, rfl⟩
        case round =>
          obtain ⟨i, rfl, rfl, rfl, hi0, hi, rfl⟩ := hrel
          by_cases hlt : i < 8
          · obtain ⟨k, hk⟩ : ∃ k : Nat, (k : Int) = (c2 + i) % 8 := ⟨((c2 + i) % 8).toNat, by omega⟩
            have hk8 : k < 8 := by omega
            have e1 : IntKind.i64.wrap (c2 + i) = c2 + i := IntWalk.i64_in _ (by omega)
            have e2 : Int.tmod (c2 + i) 8 = (k : Int) := by rw [Int.tmod_eq_emod_of_nonneg (by omega)]; exact hk.symm
            have e3 : (c2 + i) % 8 = (k : Int) := hk.symm
            have d0 : decide (i < 8) = true := decide_eq_true (by omega)
            clear hk
            go_wp2_with fail
            obtain ⟨wo, hwo⟩ : ∃ wo, wo = wr := ⟨_, rfl⟩
            subst hwo
            go_loopw [12] (fun v12 W => ∃ e : Nat, v12 = .int .i64 e ∧ k ≤ e ∧ e ≤ 8 ∧ Aside0 (∀ j, k ≤ j → j < e → (Gs B).getD j 0 = 0) ∧ W = wo) (fun v12 _ => (8 - intOf v12).toNat)
            case atStart => exact ⟨k, rfl, Nat.le_refl _, by omega, ⟨fun j h1 h2 => by omega⟩, rfl⟩
            case round =>
              obtain ⟨e, rfl, hke, he8, hz, rfl⟩ := hrel
              by_cases hle : e < 8
              · have y0 := (gV_cell HI3.out.h (i := e) (by rw [Gs_len B]; exact hle)).1
                obtain ⟨y, hy⟩ : ∃ y, y = (Gs B).getD e 0 := ⟨_, rfl⟩
                rw [← hy] at y0
                have HY := Aside0.mk hy
                clear hy
                have d1 : decide ((e : Int) < 8) = true := decide_eq_true (by omega)
                have d2 : (e : Int) < 8 := by omega
                by_cases hy0 : y = 0
                · have f1 : (y == 0) = true := beq_iff_eq.mpr hy0
                  have Y0 := Aside0.mk hy0
                  have e4 : IntKind.i64.wrap ((e : Int) + 1) = (e : Int) + 1 := IntWalk.i64_in _ (by omega)
                  go_wp2
                  go_roundw
                  case rel => exact ⟨e + 1, by go_num, by omega, by omega, ⟨fun j h1 h2 => by
                    rcases Nat.lt_or_ge j e with h | h
                    · exact hz.out j h1 h
                    · rw [show j = e by omega, ← HY.out, Y0.out]⟩, by simp⟩
                  case measure => simp [intOf]; omega
                · have f1 : (y == 0) = false := beq_eq_false_iff_ne.mpr hy0
                  by_cases hk2 : k < e
                  · have d3 : decide ((k : Int) < (e : Int)) = true := decide_eq_true (by omega)
                    go_wp2
                    go_meet
                    case rel => exact ⟨k, e, a2, rfl, rfl, by omega, by omega, by omega, by omega, hz, HI3⟩
                  · have d3 : decide ((k : Int) < (e : Int)) = false := decide_eq_false (by omega)
                    have e4 : IntKind.i64.wrap (i + 1) = i + 1 := IntWalk.i64_in _ (by omega)
                    go_wp2
                    go_roundw
                    case rel => exact ⟨i + 1, rfl, rfl, rfl, by omega, by omega, by simp⟩
                    case measure => simp [intOf]; omega
              · obtain rfl : e = 8 := by omega
                have d1 : decide (((8 : Nat) : Int) < 8) = false := by decide
                have d3 : decide ((k : Int) < ((8 : Nat) : Int)) = true := decide_eq_true (by omega)
                have d4 : (k : Int) < 8 := by omega
                go_wp2
                go_meet
                case rel => exact ⟨k, 8, a2, rfl, rfl, by omega, by omega, by omega, by omega, hz, HI3⟩
          · obtain rfl : i = 8 := by omega
            clear hi0 hi hlt
            go_wp2
            go_meet
            case rel => exact ⟨0, 0, a2, rfl, rfl, by omega, by omega, by omega, by omega, ⟨fun j h1 h2 => by omega⟩, HI3⟩
      · have f0 : (c1 == 1) = false := beq_eq_false_iff_ne.mpr hc
        go_wp2
        go_meet
        case rel => exact ⟨0, 0, a1, rfl, rfl, by omega, by omega, by omega, by omega, ⟨fun j h1 h2 => by omega⟩, HI2⟩
    case rest =>
      obtain ⟨p, q, a, rfl, rfl, ha0, ha2, hp8, hq8, HZ, HI⟩ := hcut
      clear HI2
      go_wp2_with fail
      go_loopw [13, 14] (fun v13 v14 W => ∃ (i : Nat) (z : Int) (S : ByteArray) (X : List Int) (a : Int), v13 = .string S ∧ v14 = .int .i64 z ∧ z = (i : Int) ∧ i ≤ 8 ∧ 0 ≤ a ∧ a ≤ 2 + (i : Int) ∧ Aside0 (bytesOf S = X ∧ X.length ≤ 7 * i) ∧ Aside0 (St (Gs B) p q i X) ∧ Aside0 (I6 w0 w W g nums a (Gs B))) (fun v13 v14 _ => (8 - intOf v14).toNat)
      case atStart => exact ⟨0, 0, _, [], a, rfl, rfl, rfl, by omega, ha0, by omega, ⟨rfl, by simp⟩, ⟨St.start _ p q⟩, HI⟩
      case round =>
        clear HI ha0 ha2
        obtain ⟨i, z, S, X, a, rfl, rfl, hz, hi, ha0, ha2, HX, HSt, HI⟩ := hrel
        by_cases hlt : i < 8
        · obtain rfl : z = (i : Int) := hz
          have d0 : decide ((i : Int) < 8) = true := decide_eq_true (by omega)
          have hi8 : (i : Int) < 8 := by omega
          have hSz : S.size ≤ 60 := by rw [← bytesOf_length, HX.out.1]; have := HX.out.2; omega
          clear hi
          go_upto_region 24 with (fail)
          go_cut [69] from 62 to 69 (fun v69 wc => v69 = .bool (decide (i = p ∧ p < q)) ∧ wr = wc)
          case first =>
            by_cases c1 : i = p
            · by_cases c2 : p < q
              · have f1 : ((i : Int) == (p : Int)) = true := beq_iff_eq.mpr (by omega)
                have f2 : decide ((p : Int) < (q : Int)) = true := decide_eq_true (by omega)
                have HD := Aside0.mk (decide_eq_true (And.intro c1 c2))
                have HD2 := Aside0.mk (decide_eq_true c2)
                clear c1 c2
                go_wp2
                go_meet
                case rel => exact ⟨by rw [HD.out]; first | rfl | rw [HD2.out], rfl⟩
              · have f1 : ((i : Int) == (p : Int)) = true := beq_iff_eq.mpr (by omega)
                have f2 : decide ((p : Int) < (q : Int)) = false := decide_eq_false (by omega)
                have HD := Aside0.mk (decide_eq_false (fun h : i = p ∧ p < q => c2 h.2))
                have HD2 := Aside0.mk (decide_eq_false c2)
                clear c1 c2
                go_wp2
                go_meet
                case rel => exact ⟨by rw [HD.out]; first | rfl | rw [HD2.out], rfl⟩
            · have f1 : ((i : Int) == (p : Int)) = false := beq_eq_false_iff_ne.mpr (by omega)
              have HD := Aside0.mk (decide_eq_false (fun h : i = p ∧ p < q => c1 h.1))
              clear c1
              go_wp2
              go_meet
              case rel => exact ⟨by rw [HD.out], rfl⟩
          case rest =>
            obtain ⟨rfl, rfl⟩ := hcut
            by_cases hg : i = p ∧ p < q
            · rw [decide_eq_true hg]
              obtain ⟨rfl, hpq⟩ := hg
              have e1 : IntKind.i64.wrap ((q : Int) - 1) = (q : Int) - 1 := IntWalk.i64_in _ (by omega)
              have e2 : IntKind.i64.wrap ((q : Int) - 1 + 1) = (q : Int) := by rw [IntWalk.i64_in _ (by omega)]; omega
              have HN := Aside0.mk (St.gap hpq HSt.out)
              go_wp2
              go_roundw
              case rel => exact ⟨q, q, _, X ++ [58, 58], a, rfl, rfl, rfl, by omega, ha0, by omega, ⟨by rw [bytesOf_append, HX.out.1]; rfl, by have := HX.out.2; rw [List.length_append]; simp; omega⟩, HN, HI⟩
              case measure => simp [intOf]; omega
            · rw [decide_eq_false hg]
              go_upto_region 27 with (fail)
              go_cut [83] from 70 to 83 (fun v83 wc => ∃ bz : Bool, v83 = .bool bz ∧ Aside0 (emitP X = if bz = true then X ++ [58] else X) ∧ wr = wc)
              case first =>
                rcases emitP_cases X with ⟨h, e⟩ | ⟨r, h, e⟩ | ⟨r, c, h, hc, e⟩
                · have hnil : S.toList = ([] : List UInt8) := (toList_nil S).2 (HX.out.1.trans h)
                  have b0 : (S.toList == ([] : List UInt8)) = true := beq_iff_eq.mpr hnil
                  have b1 : (S.toList != ([] : List UInt8)) = false := bne_eq_false_iff_eq.mpr hnil
                  have HE := Aside0.mk e
                  clear h e
                  go_wp2
                  go_meet
                  case rel => exact ⟨false, rfl, ⟨by rw [HE.out]; rfl⟩, rfl⟩
                · have hT : bytesOf S = r ++ 58 :: [] := HX.out.1.trans h
                  obtain ⟨q1, q2⟩ := char_at (s := S) (i := r.length) (X := r) (R := []) (c := 58) hT rfl
                  have hsz : S.size = r.length + 1 := by rw [← bytesOf_length, hT]; simp
                  obtain ⟨j, hj⟩ : ∃ j, j = r.length := ⟨_, rfl⟩
                  rw [← hj] at q1 q2 hsz
                  have hnn : S.toList ≠ ([] : List UInt8) := fun h => by have := (toList_nil S).1 h; rw [hT] at this; simp at this
                  have b0 : (S.toList == ([] : List UInt8)) = false := beq_eq_false_iff_ne.mpr hnn
                  have b1 : (S.toList != ([] : List UInt8)) = true := bne_iff_ne.mpr hnn
                  have e1 : IntKind.i64.wrap ((S.size : Int) - 1) = (j : Int) := by rw [IntWalk.i64_in _ (by omega)]; omega
                  have HE := Aside0.mk e
                  clear h e hj hT hsz hnn
                  go_wp2
                  go_meet
                  case rel => exact ⟨false, rfl, ⟨by rw [HE.out]; rfl⟩, rfl⟩
                · have hT : bytesOf S = r ++ c :: [] := HX.out.1.trans h
                  obtain ⟨q1, q2⟩ := char_at (s := S) (i := r.length) (X := r) (R := []) (c := c) hT rfl
                  have hsz : S.size = r.length + 1 := by rw [← bytesOf_length, hT]; simp
                  obtain ⟨j, hj⟩ : ∃ j, j = r.length := ⟨_, rfl⟩
                  rw [← hj] at q1 q2 hsz
                  have hnn : S.toList ≠ ([] : List UInt8) := fun h => by have := (toList_nil S).1 h; rw [hT] at this; simp at this
                  have b0 : (S.toList == ([] : List UInt8)) = false := beq_eq_false_iff_ne.mpr hnn
                  have b1 : (S.toList != ([] : List UInt8)) = true := bne_iff_ne.mpr hnn
                  have e1 : IntKind.i64.wrap ((S.size : Int) - 1) = (j : Int) := by rw [IntWalk.i64_in _ (by omega)]; omega
                  have f1 : (c != 58) = true := bne_iff_ne.mpr hc
                  have HE := Aside0.mk e
                  clear h e hj hT hsz hnn
                  go_wp2
                  go_meet
                  case rel => exact ⟨true, rfl, ⟨by rw [HE.out]; rfl⟩, rfl⟩
              case rest =>
                obtain ⟨bz, rfl, HE, rfl⟩ := hcut
                go_upto_if 83 with (fail)
                go_cut [13] from 84 to 85 (fun v13 wc => ∃ S2 : ByteArray, v13 = .string S2 ∧ Aside0 (bytesOf S2 = emitP X) ∧ wr = wc)
                case first =>
                  cases bz with
                  | true =>
                    go_wp2
                    go_meet
                    case rel => exact ⟨_, rfl, ⟨by rw [HE.out, bytesOf_append, HX.out.1]; rfl⟩, rfl⟩
                  | false =>
                    go_wp2
                    go_meet
                    case rel => exact ⟨_, rfl, ⟨by rw [HE.out, HX.out.1]; rfl⟩, rfl⟩
                case rest =>
                  obtain ⟨S2, rfl, HS2, rfl⟩ := hcut
                  have k0 := (gV_cell HI.out.h (i := i) (by rw [Gs_len B]; exact hlt)).1
                  have hvr := Gs_range HBB.out hlt
                  have HST := Aside0.mk (fun L hL hv => St.step (by rw [Gs_len B]; exact hlt) hg HSt.out (L := L) hL hv)
                  have hS2z : S2.size ≤ 70 := by rw [← bytesOf_length, HS2.out]; have := emitP_len X; have := HX.out.2; omega
                  obtain ⟨v, hv⟩ : ∃ v, v = (Gs B).getD i 0 := ⟨_, rfl⟩
                  rw [← hv] at k0 hvr HST
                  have HV := Aside0.mk hvr
                  clear hv hvr
                  go_upto_region 29 with (fail)
                  go_region_held3 (fun W => W.cell? ⟨w.heap.size, i, none⟩ = some (.int .i64 v)) (first | exact k0 | exact k5) (first
                    | (go_at_call 83; (refine (I6.of w0 w _ g nums (Gs B) a 2 ?hI ?h1 ?h2 ?h3 ?h4).mono ?_); (case hI => exact HI.out.drew); (case h1 => omega); (case h2 => omega); (case h3 => omega); (case h4 => omega); rintro e w5 ⟨c1, a1, rfl, hc0, hc1, hb0, hb1, hi5⟩; (have HI5 := Aside0.mk hi5); (have k5 : w5.cell? ⟨w.heap.size, i, none⟩ = some (.int .i64 v) := by rw [← k0]; (have k6 := (gV_cell HI5.out.h (i := i) (by rw [Gs_len B]; exact hlt)).1); (have k7 := (gV_cell HI.out.h (i := i) (by rw [Gs_len B]; exact hlt)).1); rw [k6, k7]); (have e1 : IntKind.i64.wrap (3 * c1) = 3 * c1 := IntWalk.i64_in _ (by omega)); (have e2 : IntKind.i64.wrap (1 + 3 * c1) = 1 + 3 * c1 := IntWalk.i64_in _ (by omega)); clear hi5)
                    | (go_at_call 96; (obtain ⟨L, hL1, hL2, hL3⟩ := hex_f v (1 + 3 * c1) HV.out.1 HV.out.2 (by omega)); (refine (spec_hex16.calls 11 v (1 + 3 * c1) (strOfNums L) _ hL1).mono ?_); rintro e w6 ⟨rfl, ⟨nd, rfl⟩⟩; (have HL := Aside0.mk (And.intro hL2 hL3)); (have hLz : (strOfNums L).size ≤ 4 := by rw [strOfNums_size]; exact hL2.2.1); (have hz1 : ¬ 9223372036854775807 < S2.size + (strOfNums L).size := by omega); (have hz2 : S2.size + (strOfNums L).size ≤ 9223372036854775807 := by omega); clear hL1 hL2 hL3))
                  have hbL : bytesOf (strOfNums L) = L := bytesOf_strOfNums (fun c hc => by have := HL.out.1.2.2 c hc; unfold isHx at this; omega)
                  have HBL := Aside0.mk hbL
                  clear hbL hz1 hz2
                  go_wp2
                  go_roundw
                  case rel => exact ⟨i + 1, (i : Int) + 1, _, emit X L, a1, rfl, rfl, by omega, by omega, by omega, by omega, ⟨by rw [bytesOf_append, HS2.out, HBL.out, emit_P], by rw [emit_P, List.length_append]; have := emitP_len X; have := HX.out.2; have := HL.out.1.2.1; omega⟩, ⟨HST.out L HL.out.1 HL.out.2⟩, ⟨HI5.out.drewN nd⟩⟩
                  case measure => simp [intOf]; omega
        · obtain rfl : i = 8 := by omega
          obtain rfl : z = 8 := hz
          clear hlt hi
          go_wp2
          go_ret
          obtain ⟨f, gs, h1, h2, h3, h4⟩ := HSt.out.done (Gs_len B) hq8 HZ.out
          exact ⟨S, f, gs, rfl, HX.out.1.trans h1, h2, h3, h4.trans (Gs_bys HB.out HBB.out), HI.out.b⟩

end Go.Proofs.YtiilihafcdmccaaDoor.P
/- 'spec.Reverse'. -/
namespace Go.Proofs.YtiilihafcdmccaaDoor.P
open Go.RowKit Go.Proofs.YtiilihafcdmccaaDoorW.PrintWords Go.Proofs.YtiilihafcdmccaaDoorW.PrintLast Go.Proofs.YtiilihafcdmccaaDoorW.PrintMore
set_option linter.unusedVariables false
set_option linter.unusedSimpArgs false

theorem decimal_any (v : Int) (w : World) (h0 : 0 ≤ v) (h1 : v < 256) : Calls Tryd.prog 71 #[.int .i64 v] w fun e w' => e = .returned (.string (strOfNums (dec3 v))) ∧ Below w.heap.size w w' :=
  spec_decimal.calls 3 v _ w (dec_f v h0 h1)
theorem dec3_B {v : Int} (h0 : 0 ≤ v) (h1 : v < 256) : IsB (dec3 v) := fun c hc => by have := dec3_dig h0 h1 c hc; omega
theorem joinP_len {l : List Int} (h : l.length = 4) : ∀ i, (joinP (l.take i)).length ≤ 20 := by
  intro i
  match l, h with
  | [a, b, c, d], _ =>
    have := dec3_len a
    have := dec3_len b
    have := dec3_len c
    have := dec3_len d
    rcases (show i = 0 ∨ i = 1 ∨ i = 2 ∨ i = 3 ∨ 4 ≤ i by omega) with rfl | rfl | rfl | rfl | h
    · simp [joinP]
    · simp [joinP]; omega
    · simp [joinP]; omega
    · simp [joinP]; omega
    · rw [List.take_of_length_le (by simpa using h)]; simp [joinP]; omega
/-- The name so far: the numbers, the last one first. -/
def nm4 (l : List Int) (i : Nat) : List Int := (l.take i).reverse.flatMap fun v => dec3 v ++ [46]
theorem nm4_len {l : List Int} (h : l.length = 4) (i : Nat) : (nm4 l i).length ≤ 20 := by
  have h1 : ∀ L : List Int, (L.flatMap fun v => dec3 v ++ [46]).length ≤ 4 * L.length := fun L => by
    induction L with
    | nil => simp
    | cons x L ih => have := dec3_len x; simp only [List.flatMap_cons, List.length_append, List.length_cons, List.length_nil]; omega
  have h2 := h1 (l.take i).reverse
  rw [List.length_reverse, List.length_take] at h2
  unfold nm4
  omega
theorem nm4_succ {l : List Int} {i : Nat} (hi : i < l.length) : nm4 l (i + 1) = dec3 (l.getD i 0) ++ [46] ++ nm4 l i := by
  unfold nm4
  rw [List.take_succ_eq_append_getElem hi, List.reverse_append, List.getD_eq_getElem?_getD, List.getElem?_eq_getElem hi]
  simp
theorem joinP_snoc (l : List Int) (v : Int) : joinP (l ++ [v]) = joinP l ++ ((if l = [] then [] else [46]) ++ dec3 v) := by
  induction l with
  | nil => simp [joinP]
  | cons x l ih =>
    rw [List.cons_append, joinP_cons, joinP_cons]
    cases l with
    | nil => simp [tailP, joinP]
    | cons y l =>
      have e : tailP (y :: l ++ [v]) = 46 :: joinP (y :: l ++ [v]) := rfl
      have e2 : tailP (y :: l) = 46 :: joinP (y :: l) := rfl
      rw [e, e2, ih]
      simp
theorem joinP_succ {l : List Int} {i : Nat} (hi : i < l.length) : joinP (l.take (i + 1)) = joinP (l.take i) ++ ((if i = 0 then [] else [46]) ++ dec3 (l.getD i 0)) := by
  rw [List.take_succ_eq_append_getElem hi, joinP_snoc, List.getD_eq_getElem?_getD, List.getElem?_eq_getElem hi]
  cases i with
  | zero => simp
  | succ i =>
    have : l.take (i + 1) ≠ [] := by
      intro h
      have := congrArg List.length h
      rw [List.length_take, List.length_nil] at this
      omega
    rw [if_neg this, if_neg (by omega)]
    rfl
set_option maxRecDepth 100000 in
set_option maxHeartbeats 4000000 in
theorem ref4 (B l : List Int) (n b o o2 cb cb2 c1 : Nat) (A1 : Option Addr) (nums : List Int) (w : World) (hn : B.length = n) (hB : (n = 4 ∧ l = B ∧ o2 = o ∧ cb2 = cb) ∨ (n = 16 ∧ mapd B = true ∧ l = B.drop 12 ∧ o2 = o + 12 ∧ cb2 = cb - 12)) (hBB : IsB B) (hcb : n ≤ cb) (hr : Row8 w ⟨b, o, none⟩ B) :
    Calls Tryd.prog 45 #[.slice (some ⟨b, o, none⟩) n cb, .slice A1 nums.length c1] w fun e w' => ∃ T N : ByteArray, e = .returned (.tuple #[.string T, .string N]) ∧ bytesOf T = joinP l ∧ bytesOf N = pre4 l 4 ++ bytesOf arpa4 ∧ Below w.heap.size w w' := by
  have hl4 : l.length = 4 := by
    rcases hB with ⟨h1, h2, _⟩ | ⟨h1, _, h2, _⟩
    · rw [h2]; omega
    · rw [h2, List.length_drop]; omega
  have hlB : IsB l := by
    rcases hB with ⟨_, h2, _⟩ | ⟨_, _, h2, _⟩
    · rw [h2]; exact hBB
    · rw [h2]; exact fun x hx => hBB x (List.mem_of_mem_drop hx)
  have hlr : ∀ i, i < 4 → w.cell? ⟨b, o2 + i, none⟩ = some (.int .u8 (l.getD i 0)) := by
    intro i hi
    rcases hB with ⟨h1, h2, h3, _⟩ | ⟨h1, _, h2, h3, _⟩
    · have h := hr i (by omega)
      rw [addr_add] at h
      rw [h3, h, h2]
    · have h := hr (12 + i) (by omega)
      rw [addr_add] at h
      rw [h3, Nat.add_assoc, h, h2, List.getD_eq_getElem?_getD, List.getD_eq_getElem?_getD, List.getElem?_drop]
  have HN := Aside0.mk hn
  have HBB := Aside0.mk hBB
  have HR := Aside0.mk hr
  have HL4 := Aside0.mk hl4
  have HLB := Aside0.mk hlB
  have HLR := Aside0.mk hlr
  clear hr hn hBB hl4 hlB hlr
  go_enter Tryd.func45, Tryd.ntmps45
  go_upto_region 2 with (fail)
  obtain ⟨W1, hW1⟩ : ∃ W1, W1 = w.alloc (Obj.cells #[Value.slice A1 nums.length c1, Value.int IntKind.i64 0, Value.slice none 0 0, Value.bool false] 81) := ⟨_, rfl⟩
  have HB1 := Aside0.mk (show Below w.heap.size w W1 by rw [hW1]; exact below_alloc (Below.refl _ _) _)
  rw [← hW1]
  clear hW1
  go_cut [20] from 14 to 20 (fun v20 wc => v20 = .bool (decide (n = 16)) ∧ W1 = wc)
  case first =>
    rcases hB with ⟨rfl, _⟩ | ⟨rfl, hm, _⟩
    · clear HLR HL4 HLB
      go_wp2
      go_meet
      case rel => exact ⟨rfl, rfl⟩
    · have HM := Aside0.mk hm
      clear hm HLR HL4 HLB
      go_wp2_with (first | (go_at_call 70; (refine (mapped16 B ⟨b, o, none⟩ cb _ HN.out hcb (Row8.below HR.out HB1.out)).mono ?_); rintro e w' ⟨rfl, rfl⟩; rw [HM.out]))
      go_meet
      case rel => exact ⟨rfl, rfl⟩
  case rest =>
    obtain ⟨rfl, rfl⟩ := hcut
    go_upto_if 20 with (fail)
    go_cut [0] from 21 to 22 (fun v0 wc => v0 = .slice (some ⟨b, o2, none⟩) 4 cb2 ∧ W1 = wc)
    case first =>
      rcases hB with ⟨rfl, _, rfl, rfl⟩ | ⟨rfl, _, _, rfl, rfl⟩
      · rw [decide_eq_false (by omega)]
        go_wp2
        go_meet
        case rel => exact ⟨rfl, rfl⟩
      · rw [decide_eq_true rfl]
        have hc1 : (16 : Int) ≤ (cb : Int) := by omega
        go_wp2
        go_meet
        case rel => exact ⟨rfl, rfl⟩
    case rest =>
      obtain ⟨rfl, rfl⟩ := hcut
      clear hB hcb
      generalize decide (n = 16) = u20
      go_wp2_with fail
      go_loopw [4, 5, 28] (fun v4 v5 v28 W => ∃ (i : Nat) (z : Int) (T N : ByteArray), v4 = .string T ∧ v5 = .string N ∧ v28 = .int .i64 z ∧ z = (i : Int) ∧ i ≤ 4 ∧ Aside0 (bytesOf T = joinP (l.take i)) ∧ Aside0 (bytesOf N = nm4 l i) ∧ Aside0 (Below w.heap.size w W)) (fun v4 v5 v28 _ => (4 - intOf v28).toNat)
      case atStart => exact ⟨0, 0, _, _, rfl, rfl, rfl, rfl, by omega, ⟨rfl⟩, ⟨rfl⟩, HB1⟩
      case round =>
        clear HB1
        obtain ⟨i, z, T, N, rfl, rfl, rfl, hz, hi, HT, HN2, HBW⟩ := hrel
        by_cases hlt : i < 4
        · obtain rfl : z = (i : Int) := hz
          have d0 : decide ((i : Int) < 4) = true := decide_eq_true (by omega)
          have hi4 : (i : Int) < 4 := by omega
          have k0 : wr.cell? ⟨b, o2 + i, none⟩ = some (.int .u8 (l.getD i 0)) := by
            have h := HLR.out i hlt
            exact (HBW.out.cell (World.block_lt_of_cell? w _ h)).trans h
          obtain ⟨v, hv⟩ : ∃ v, v = l.getD i 0 := ⟨_, rfl⟩
          rw [← hv] at k0
          have hvB := getD_B HLB.out i
          rw [← hv] at hvB
          have HV := Aside0.mk hv
          have HVB := Aside0.mk hvB
          have hTz : T.size ≤ 20 := by rw [← bytesOf_length, HT.out]; exact joinP_len HL4.out i
          have hNz : N.size ≤ 20 := by rw [← bytesOf_length, HN2.out]; exact nm4_len HL4.out i
          have e1 : IntKind.i64.wrap v = v := IntWalk.i64_in _ (by omega)
          have hdz : (strOfNums (dec3 v)).size ≤ 3 := by rw [strOfNums_size]; exact dec3_len v
          have HDB := Aside0.mk (bytesOf_strOfNums (dec3_B hvB.1 hvB.2))
          have HDC := Aside0.mk (fun W => decimal_any v W hvB.1 hvB.2)
          generalize strOfNums (dec3 v) = D at *
          clear hv hvB hi
          go_upto_if 34 with (fail)
          go_cut [4] from 33 to 36 (fun v4 wc => ∃ T2 : ByteArray, v4 = .string T2 ∧ T2.size ≤ 21 ∧ Aside0 (bytesOf T2 = joinP (l.take i) ++ (if i = 0 then [] else [46])) ∧ wr = wc)
          case first =>
            by_cases hi0 : i = 0
            · have d1 : decide ((0 : Int) < (i : Int)) = false := decide_eq_false (by omega)
              have d2 : ¬ (0 : Int) < (i : Int) := by omega
              have HI0 := Aside0.mk hi0
              clear hi0
              go_wp2
              go_meet
              case rel => exact ⟨T, rfl, by omega, ⟨by rw [HT.out, if_pos HI0.out, List.append_nil]⟩, rfl⟩
            · have d1 : decide ((0 : Int) < (i : Int)) = true := decide_eq_true (by omega)
              have d2 : (0 : Int) < (i : Int) := by omega
              have HI0 := Aside0.mk hi0
              clear hi0
              go_wp2
              go_meet
              case rel => exact ⟨_, rfl, by rw [ByteArray.size_append]; show T.size + 1 ≤ 21; omega, ⟨by rw [bytesOf_append, HT.out, if_neg HI0.out]; rfl⟩, rfl⟩
          case rest =>
            obtain ⟨T2, rfl, hT2, HT2, rfl⟩ := hcut
            go_wp2_with (first | (go_at_call 71; (refine (HDC.out _).mono ?_); rintro e w' ⟨rfl, hb⟩; (first | (have HB9 := Aside0.mk (below_step HB8.out hb)) | (have HB8 := Aside0.mk (below_step HBW.out hb))); clear hb))
            go_roundw
            case rel => exact ⟨i + 1, (i : Int) + 1, _, _, rfl, rfl, rfl, by omega, by omega, ⟨by rw [bytesOf_append, HT2.out, HDB.out, joinP_succ (by rw [HL4.out]; exact hlt), ← HV.out, List.append_assoc]⟩, ⟨by rw [bytesOf_append, bytesOf_append, HDB.out, HN2.out, nm4_succ (by rw [HL4.out]; exact hlt), ← HV.out]; rfl⟩, HB9⟩
            case measure => simp [intOf]; omega
        · obtain rfl : i = 4 := by omega
          obtain rfl : z = 4 := hz
          have hNz : N.size ≤ 20 := by rw [← bytesOf_length, HN2.out]; exact nm4_len HL4.out 4
          clear hlt hi
          go_wp2
          go_ret2
          exact ⟨T, _, rfl, by rw [HT.out, List.take_of_length_le (by rw [HL4.out]; exact Nat.le_refl _)], by
            rw [bytesOf_append, HN2.out]
            unfold nm4 pre4 arpa4
            rw [List.take_of_length_le (by rw [HL4.out]; exact Nat.le_refl _), List.take_of_length_le (by rw [List.length_reverse, HL4.out]; exact Nat.le_refl _)], HBW.out⟩

end Go.Proofs.YtiilihafcdmccaaDoor.P
/- 'spec.Reverse' at sixteen octets. -/
namespace Go.Proofs.YtiilihafcdmccaaDoor.P
open Go.RowKit Go.Proofs.YtiilihafcdmccaaDoorW.PrintWords Go.Proofs.YtiilihafcdmccaaDoorW.PrintLast Go.Proofs.YtiilihafcdmccaaDoorW.PrintMore
set_option linter.unusedVariables false
set_option linter.unusedSimpArgs false

set_option maxRecDepth 100000 in
theorem hex_cut_run (n : Nat) (hn : n < 16) : ∀ W : World, (Instr.slice 9 (.string (⟨#[48, 49, 50, 51, 52, 53, 54, 55, 56, 57, 97, 98, 99, 100, 101, 102]⟩ : ByteArray)) (some (.int .u8 (n : Int))) (some (.int .u8 ((n : Int) + 1))) none).run Tryd.prog W = .ok (.string (strOfNums [hxD n])) W := by
  intro W
  rcases (show n = 0 ∨ n = 1 ∨ n = 2 ∨ n = 3 ∨ n = 4 ∨ n = 5 ∨ n = 6 ∨ n = 7 ∨ n = 8 ∨ n = 9 ∨ n = 10 ∨ n = 11 ∨ n = 12 ∨ n = 13 ∨ n = 14 ∨ n = 15 by omega) with rfl | rfl | rfl | rfl | rfl | rfl | rfl | rfl | rfl | rfl | rfl | rfl | rfl | rfl | rfl | rfl <;> kernel_rfl
theorem hexN_D {v : Int} (h0 : 0 ≤ v) : hexN v.toNat = hxD v := by
  unfold hexN hxD
  split <;> split <;> omega
/-- The name so far: the digits, the last one first. -/
def nm6 (B : List Int) (i : Nat) : List Int := (B.take i).reverse.flatMap dig6
theorem nm6_len {B : List Int} (i : Nat) (hi : i ≤ 16) : (nm6 B i).length ≤ 64 := by
  have h : ∀ L : List Int, (L.flatMap dig6).length = 4 * L.length := fun L => by
    induction L with
    | nil => simp
    | cons x L ih => simp only [List.flatMap_cons, List.length_append, List.length_cons, ih, dig6, List.length_nil]; omega
  unfold nm6
  rw [h, List.length_reverse, List.length_take]
  omega
theorem nm6_succ {B : List Int} {i : Nat} (hi : i < B.length) : nm6 B (i + 1) = dig6 (B.getD i 0) ++ nm6 B i := by
  unfold nm6
  rw [List.take_succ_eq_append_getElem hi, List.reverse_append, List.getD_eq_getElem?_getD, List.getElem?_eq_getElem hi]
  simp
theorem nm6_all {B : List Int} (hB : B.length = 16) : nm6 B 16 = pre6 B 16 := by
  unfold nm6 pre6
  rw [List.take_of_length_le (by omega), List.take_of_length_le (by rw [List.length_reverse]; omega)]
set_option maxRecDepth 100000 in
set_option maxHeartbeats 4000000 in
theorem ref16 (B : List Int) (b o cb c1 : Nat) (A1 : Option Addr) (nums : List Int) (w : World) (hB : B.length = 16) (hm : mapd B = false) (hBB : IsB B) (hcb : 16 ≤ cb) (hr : Row8 w ⟨b, o, none⟩ B) (hN : Kd.C (Kd.int .i64) w A1 nums.length nums) :
    Calls Tryd.prog 45 #[.slice (some ⟨b, o, none⟩) 16 cb, .slice A1 nums.length c1] w fun e w' => ∃ (T N : ByteArray) (f : Int) (gs : List (List Int)), e = .returned (.tuple #[.string T, .string N]) ∧ bytesOf T = txt6 f gs ∧ (∀ g ∈ gs, GoodG g) ∧ ((f = -1 ∧ gs.length = 8) ∨ (0 ≤ f ∧ f ≤ gs.length ∧ gs.length ≤ 7)) ∧ fin6 f gs = B ∧ bytesOf N = pre6 B 16 ++ bytesOf arpa6 ∧ Below w.heap.size w w' := by
  have HB := Aside0.mk hB
  have HBB := Aside0.mk hBB
  have HR := Aside0.mk hr
  have HM := Aside0.mk hm
  have HC := Aside0.mk hcb
  have HS := Aside0.mk (show IsS81 w (w.alloc (Obj.cells #[Value.slice A1 nums.length c1, Value.int IntKind.i64 0, Value.slice none 0 0, Value.bool false] 81)) w.heap.size nums 0 [] false from ⟨A1, c1, none, 0, heap_alloc_new w _, Nat.le_refl _, hN, Kd.C_nil _ _⟩)
  clear hB hBB hr hm hcb hN
  go_enter Tryd.func45, Tryd.ntmps45
  go_upto_region 2 with (fail)
  obtain ⟨W1, hW1⟩ : ∃ W1, W1 = w.alloc (Obj.cells #[Value.slice A1 nums.length c1, Value.int IntKind.i64 0, Value.slice none 0 0, Value.bool false] 81) := ⟨_, rfl⟩
  have HB1 := Aside0.mk (show Below w.heap.size w W1 by rw [hW1]; exact below_alloc (Below.refl _ _) _)
  rw [← hW1] at HS ⊢
  clear hW1
  go_wp2_with (first | (go_at_call 70; (refine (mapped16 B ⟨b, o, none⟩ cb _ HB.out HC.out (Row8.below HR.out HB1.out)).mono ?_); rintro e w' ⟨rfl, rfl⟩; rw [HM.out]))
  go_loopw [5, 54] (fun v5 v54 W => ∃ (i : Nat) (z : Int) (N : ByteArray), v5 = .string N ∧ v54 = .int .i64 z ∧ z = (i : Int) ∧ i ≤ 16 ∧ Aside0 (bytesOf N = nm6 B i) ∧ Aside0 (IsS81 w W w.heap.size nums 0 [] false) ∧ Aside0 (Below w.heap.size w W)) (fun v5 v54 _ => (16 - intOf v54).toNat)
  case atStart => exact ⟨0, 0, _, rfl, rfl, rfl, by omega, ⟨rfl⟩, HS, HB1⟩
  case round =>
    clear HS HB1
    obtain ⟨i, z, N, rfl, rfl, hz, hi, HN, HS, HBW⟩ := hrel
    by_cases hlt : i < 16
    · obtain rfl : z = (i : Int) := hz
      have d0 : decide ((i : Int) < 16) = true := decide_eq_true (by omega)
      have hi16 : (i : Int) < 16 := by omega
      have k0 : wr.cell? ⟨b, o + i, none⟩ = some (.int .u8 (B.getD i 0)) := by
        have h := (Row8.below HR.out HBW.out) i (by rw [HB.out]; exact hlt)
        rwa [addr_add] at h
      obtain ⟨v, hv⟩ : ∃ v, v = B.getD i 0 := ⟨_, rfl⟩
      rw [← hv] at k0
      have hvB := getD_B HBB.out i
      rw [← hv] at hvB
      have HV := Aside0.mk hv
      have hNz : N.size ≤ 64 := by rw [← bytesOf_length, HN.out]; exact nm6_len i (by omega)
      obtain ⟨l, hl⟩ : ∃ l : Nat, (l : Int) = v % 16 := ⟨(v % 16).toNat, by omega⟩
      obtain ⟨u, hu⟩ : ∃ u : Nat, (u : Int) = v / 16 := ⟨(v / 16).toNat, by omega⟩
      have hl16 : l < 16 := by omega
      have hu16 : u < 16 := by omega
      have el : Go.bits .and .u8 v 15 = (l : Int) := by rw [low4 v hvB.1 hvB.2, hl]
      have eu1 : v / 16 = (u : Int) := hu.symm
      have w1 : IntKind.u8.wrap ((l : Int) + 1) = (l : Int) + 1 := IntWalk.u8_in _ (by omega)
      have w2 : IntKind.u8.wrap ((u : Int) + 1) = (u : Int) + 1 := IntWalk.u8_in _ (by omega)
      have hcl := hex_cut_run l hl16
      have hcu := hex_cut_run u hu16
      have HD := Aside0.mk (show dig6 v = [hxD l] ++ [46] ++ [hxD u] ++ [46] by
        unfold dig6
        rw [hexN_D (by omega), hexN_D (by omega), ← hl, ← hu]
        rfl)
      have HL1 := Aside0.mk (show bytesOf (strOfNums [hxD l]) = [hxD l] from bytesOf_strOfNums (fun c hc => by have := (hxD_hx (v := l) (by omega) (by omega)).1; simp at hc; subst hc; unfold isHx at this; omega))
      have HU1 := Aside0.mk (show bytesOf (strOfNums [hxD u]) = [hxD u] from bytesOf_strOfNums (fun c hc => by have := (hxD_hx (v := u) (by omega) (by omega)).1; simp at hc; subst hc; unfold isHx at this; omega))
      have z1 : (strOfNums [hxD l]).size = 1 := strOfNums_size _
      have z2 : (strOfNums [hxD u]).size = 1 := strOfNums_size _
      generalize strOfNums [hxD l] = D1 at *
      generalize strOfNums [hxD u] = D2 at *
      clear hv hvB hi hl hu
      go_wp2
      go_quiet (fail)
      go_wp2
      go_roundw
      case rel => exact ⟨i + 1, (i : Int) + 1, _, rfl, rfl, by omega, by omega, ⟨by rw [bytesOf_append, bytesOf_append, bytesOf_append, bytesOf_append, HL1.out, HU1.out, HN.out, nm6_succ (by rw [HB.out]; exact hlt), ← HV.out, HD.out]; rfl⟩, ⟨HS.out.drewN nq⟩, ⟨pw_below_drewN HBW.out nq⟩⟩
      case measure => simp [intOf]; omega
    · obtain rfl : i = 16 := by omega
      obtain rfl : z = 16 := hz
      have hNz : N.size ≤ 64 := by rw [← bytesOf_length, HN.out]; exact nm6_len 16 (by omega)
      clear hlt hi
      go_wp2_with (first | (go_at_call 72; (refine (ip6_any B b o cb w.heap.size nums w wr HB.out HBB.out HC.out HR.out HS.out HBW.out).mono ?_); rintro e w' ⟨T, f, gs, rfl, h1, h2, h3, h4, h5⟩; (have HF := Aside0.mk (And.intro h1 (And.intro h2 (And.intro h3 (And.intro h4 h5))))); clear h1 h2 h3 h4 h5))
      go_ret2
      exact ⟨T, _, f, gs, rfl, HF.out.1, HF.out.2.1, HF.out.2.2.1, HF.out.2.2.2.1, by rw [bytesOf_append, HN.out, nm6_all HB.out]; rfl, HF.out.2.2.2.2⟩

end Go.Proofs.YtiilihafcdmccaaDoor.P
/- netip.parseIPv6. -/
namespace Go.Proofs.YtiilihafcdmccaaDoor.P
open Go.RowKit Go.Proofs.YtiilihafcdmccaaDoorW.PrintWords Go.Proofs.YtiilihafcdmccaaDoorW.PrintLast Go.Proofs.YtiilihafcdmccaaDoorW.PrintMore
set_option linter.unusedVariables false
set_option linter.unusedSimpArgs false

set_option maxRecDepth 100000 in
set_option maxHeartbeats 4000000 in
theorem parse6 (s : ByteArray) (f : Int) (gs : List (List Int)) (p4 p6 : Addr) (w : World) (hs : bytesOf s = txt6 f gs) (hG : ∀ g ∈ gs, GoodG g) (hn : gs.length ≤ 8) (hn1 : 1 ≤ gs.length) (hf : (f = -1 ∧ gs.length = 8) ∨ (0 ≤ f ∧ f ≤ gs.length ∧ gs.length ≤ 7)) (h37 : ∀ c ∈ bytesOf s, c ≠ 37) (hZ : ZZ p4 p6 w) :
    Calls Tryd.prog 142 #[.string s] w fun e w' => e = .returned (.tuple #[adr (num8 ((fin6 f gs).take 8)) (num8 ((fin6 f gs).drop 8)) p6, .nilIface]) ∧ Below w.heap.size w w' := by
  have hsz : s.size ≤ 100 := by
    rw [← bytesOf_length, hs, txt6, List.length_append]
    have h := restT_len f gs hG 0
    have h2 : (if f = 0 then [58, 58] else [] : List Int).length ≤ 2 := by split <;> simp
    omega
  have hx := idx_none s h37
  have HZ := Aside0.mk hZ
  have HS := Aside0.mk hs
  have HG := Aside0.mk hG
  have HNF := Aside0.mk (And.intro hn (And.intro hn1 hf))
  clear hZ hs hG h37 hn hn1 hf
  go_enter Tryd.func142, Tryd.ntmps142
  go_wp2
  rw [run_callFunc_extern Tryd.func157 (by kernel_rfl) (by kernel_rfl) (by kernel_rfl) (e := Extern.BytealgIndexByte.indexByte) (by kernel_rfl), Lib.run_indexByteString]
  simp only [Result.andThen]
  rw [Oper.upon_value, hx]
  clear hx
  go_upto_region 10 with (fail)
  go_cut [46] from 34 to 46 (fun v46 wc => v46 = .bool (decide (f = 0)) ∧ M6 w wc (List.replicate 16 0))
  case first => as_aux_lemma =>
    by_cases h0 : f = 0
    · have hT : bytesOf s = 58 :: 58 :: restT f 0 gs := by rw [HS.out, txt6, if_pos h0]; rfl
      obtain ⟨q1, q2⟩ := char_at (i := 0) (X := []) hT rfl
      obtain ⟨q3, q4⟩ := char_at (i := 1) (X := [58]) hT rfl
      have c0 : decide ((2 : Int) ≤ (s.size : Int)) = true := decide_eq_true (by omega)
      clear hT
      go_wp2
      go_meet
      case rel => exact ⟨by rw [decide_eq_true h0], M6.start w⟩
    · have hT : bytesOf s = restT f 0 gs := by rw [HS.out, txt6, if_neg h0]; rfl
      obtain ⟨g, gs', hgs⟩ : ∃ g gs', gs = g :: gs' := by
        cases gs with
        | nil => exact absurd HNF.out.2.1 (by simp)
        | cons g gs' => exact ⟨g, gs', rfl⟩
      obtain ⟨c, R, hc, hR⟩ := restT_hex f 0 g gs' (HG.out g (by rw [hgs]; simp))
      rw [← hgs] at hR
      obtain ⟨q1, q2⟩ := char_at (i := 0) (X := []) (hT.trans hR) rfl
      have f1 : (c == 58) = false := beq_eq_false_iff_ne.mpr (by unfold isHx at hc; omega)
      have f2 : ¬ c = 58 := by unfold isHx at hc; omega
      clear hT hgs hR hc
      by_cases h2 : (2 : Int) ≤ (s.size : Int)
      · have c0 : decide ((2 : Int) ≤ (s.size : Int)) = true := decide_eq_true h2
        go_wp2
        go_meet
        case rel => exact ⟨by rw [decide_eq_false h0], M6.start w⟩
      · have c0 : decide ((2 : Int) ≤ (s.size : Int)) = false := decide_eq_false h2
        go_wp2
        go_meet
        case rel => exact ⟨by rw [decide_eq_false h0], M6.start w⟩
  case rest => as_aux_lemma =>
    obtain ⟨rfl, HM0⟩ := hcut
    have HM := Aside0.mk HM0
    clear HM0
    go_upto_if 46 with (fail)
    go_cut [3, 4, 8] from 47 to 54 (fun v3 v4 v8 wc => v3 = .nilIface ∧ ∃ sr, v4 = .string sr ∧ v8 = .int .i64 (eAt f 0) ∧ Aside0 (bytesOf sr = restT f 0 gs) ∧ Aside0 (M6 w wc (mem6 gs 0)))
    case first => as_aux_lemma =>
      by_cases h0 : f = 0
      · have hT : bytesOf s = [58, 58] ++ restT f 0 gs := by rw [HS.out, txt6, if_pos h0]
        have hT2 : Aside0 (bytesOf (s.extract 2 s.size) = restT f 0 gs) := ⟨bytesOf_from hT rfl⟩
        have hz2 : 2 ≤ s.size := by rw [← bytesOf_length, hT]; simp
        have hz3 : (s.extract 2 s.size).size ≠ 0 := by
          rw [← bytesOf_length, hT2.out]
          obtain ⟨g, gs', hgs⟩ : ∃ g gs', gs = g :: gs' := by
            cases gs with
            | nil => exact absurd HNF.out.2.1 (by simp)
            | cons g gs' => exact ⟨g, gs', rfl⟩
          obtain ⟨c, R, hc, hR⟩ := restT_hex f 0 g gs' (HG.out g (by rw [hgs]; simp))
          rw [hgs, hR]
          simp
        have b0 : decide (f = 0) = true := decide_eq_true h0
        have hz4 : (2 : Int) ≤ (s.size : Int) := by omega
        clear hT
        go_upto_region 13 with (fail)
        generalize s.extract 2 s.size = sr at *
        have hz5 : ¬ (sr.size : Int) = 0 := by omega
        have hz6 : ((sr.size : Int) == 0) = false := beq_eq_false_iff_ne.mpr hz5
        go_wp2
        go_meet
        case rel => exact ⟨rfl, _, rfl, by rw [eAt, if_pos ⟨by omega, by omega⟩, h0]; rfl, hT2, HM⟩
      · have hT : bytesOf s = restT f 0 gs := by rw [HS.out, txt6, if_neg h0]; rfl
        have b0 : decide (f = 0) = false := decide_eq_false h0
        go_wp2
        go_meet
        case rel =>
          exact ⟨rfl, _, rfl, by rw [eAt, if_neg (by omega)], ⟨hT⟩, HM⟩
    case rest => as_aux_lemma =>
      obtain ⟨rfl, sr, rfl, rfl, hS, hM⟩ := hcut
      clear HM
      generalize decide (f = 0) = b46
      go_upto_block 0 with (fail)
      go_cut [4, 6, 8, 9, 10, 11] from 55 to 232 (fun v4 v6 v8 v9 v10 v11 wc => ∃ sr : ByteArray, v4 = .string sr ∧ v6 = .int .i64 ((2 * gs.length : Nat) : Int) ∧ v8 = .int .i64 (eAt f gs.length) ∧ Aside0 (sr.size = 0) ∧ Aside0 (M6 w wc (mem6 gs gs.length)))
      case first => as_aux_lemma =>
        go_wp2_with fail
        go_loopg [4, 6, 8, 9, 10, 11] gs.length (fun q v4 v6 v8 v9 v10 v11 wr => ∃ (k : Nat) (sr : ByteArray), v4 = .string sr ∧ v6 = .int .i64 ((2 * k : Nat) : Int) ∧ v8 = .int .i64 (eAt f k) ∧ Aside0 (k + q = gs.length ∧ 1 ≤ q) ∧ Aside0 (bytesOf sr = restT f k (gs.drop k)) ∧ Aside0 (M6 w wr (mem6 gs k)))
        case atStart => exact ⟨0, sr, rfl, rfl, rfl, ⟨by omega, HNF.out.2.1⟩, hS, hM⟩
        case round => as_aux_lemma =>
          clear hS hM
          obtain ⟨k, sr, rfl, rfl, rfl, HK, hS, hM⟩ := hrel
          obtain ⟨hkq, hq1⟩ := HK.out
          have hkl : k < gs.length := by omega
          have hn8 := HNF.out.1
          obtain ⟨g, hg⟩ : ∃ g, g = gs[k] := ⟨_, rfl⟩
          have hdr : gs.drop k = g :: gs.drop (k + 1) := by rw [hg]; exact List.drop_eq_getElem_cons hkl
          have hGG := HG.out g (by rw [hg]; exact List.getElem_mem hkl)
          obtain ⟨X, hX⟩ : ∃ X, X = (if (k : Int) + 1 = f then [58, 58] else if gs.drop (k + 1) = [] then [] else [58]) ++ restT f (k + 1) (gs.drop (k + 1)) := ⟨_, rfl⟩
          have hsr : bytesOf sr = g ++ X := by rw [hS.out, hdr, hX]; rfl
          have hXh : X = [] ∨ ∃ T, X = 58 :: T := by
            rw [hX]
            by_cases e1 : (k : Int) + 1 = f
            · rw [if_pos e1]; exact .inr ⟨_, rfl⟩
            · rw [if_neg e1]
              by_cases e2 : gs.drop (k + 1) = []
              · rw [if_pos e2, e2]; exact .inl rfl
              · rw [if_neg e2]; exact .inr ⟨_, rfl⟩
          have hgl := hGG.1
          have hgl4 := hGG.2.1
          have hcs := hGG.2.2
          have hval := valH_range g hcs
          have HX := Aside0.mk hX
          have HXh := Aside0.mk hXh
          have Hsr := Aside0.mk hsr
          have Hg := Aside0.mk hg
          have Hcs := Aside0.mk hcs
          have Hval := Aside0.mk hval
          have hk16 : ((2 * k : Nat) : Int) < 16 := by omega
          clear hX hXh hsr hg hGG hdr hcs hval hS
          obtain ⟨i, hi⟩ : ∃ i : Nat, i = 2 * k := ⟨_, rfl⟩
          rw [← hi] at hk16 ⊢
          obtain ⟨L, hL⟩ : ∃ L, L = g.length := ⟨_, rfl⟩
          have HL := Aside0.mk hL
          rw [← hL] at hgl hgl4
          have Hi := Aside0.mk hi
          clear hi hL
          have hi16 := hk16
          obtain ⟨wo, hwo⟩ : ∃ wo, wo = wr := ⟨_, rfl⟩
          subst hwo
          go_upto_block 2 with (fail)
          go_cut [9, 10, 11] from 55 to 232 (fun v9 v10 v11 wc => v9 = .int .i64 L ∧ v10 = .int .u32 (valH g) ∧ wc = wo)
          case first => as_aux_lemma =>
            go_wp2_with fail
            go_loopg [9, 10, 11] L (fun q v9 v10 v11 wr => ∃ (j : Nat), v9 = .int .i64 j ∧ v10 = .int .u32 (valH (g.take j)) ∧ Aside0 (j + q = L) ∧ wr = wo)
            case atStart => exact ⟨0, rfl, rfl, ⟨by omega⟩, rfl⟩
            case round => as_aux_lemma =>
              obtain ⟨j, rfl, rfl, hj, rfl⟩ := hrel
              by_cases hjl : j < L
              · have hjg : j < g.length := by rw [← HL.out]; exact hjl
                obtain ⟨c, hc⟩ : ∃ c, c = g[j] := ⟨_, rfl⟩
                have hhx : isHx c := Hcs.out c (by rw [hc]; exact List.getElem_mem hjg)
                obtain ⟨q1, q2⟩ := char_at (s := sr) (i := j) (X := g.take j) (R := g.drop (j + 1) ++ X) (c := c) (by rw [Hsr.out, hc, ← List.cons_append, ← List.drop_eq_getElem_cons hjg, ← List.append_assoc, List.take_append_drop]) (by rw [List.length_take]; omega)
                obtain ⟨va, hva⟩ : ∃ va, va = valH (g.take j) := ⟨_, rfl⟩
                have hvn := valH_take hjg
                rw [← hc, ← hva] at hvn
                have hvr := Hval.out j (by omega)
                rw [← hva] at hvr ⊢
                have hp : (16 : Int) ^ j ≤ 4096 := by rcases (show j = 0 ∨ j = 1 ∨ j = 2 ∨ j = 3 by omega) with rfl | rfl | rfl | rfl <;> decide
                have hv0 := hvr.1
                have hv1 : va < 4096 := Int.lt_of_lt_of_le hvr.2 hp
                have HVN := Aside0.mk hvn
                have HJ := Aside0.mk hj.out
                clear hvn hvr hp hva hc hj hjg
                have c0 : decide ((j : Int) < (sr.size : Int)) = true := decide_eq_true (by omega)
                have e1 : IntKind.u32.wrap (va * 16) = va * 16 := IntWalk.u32_in _ (by omega)
                have e5 : decide ((3 : Int) < (j : Int)) = false := decide_eq_false (by omega)
                have e5' : ¬ (3 : Int) < (j : Int) := by omega
                have ej : IntKind.i64.wrap ((j : Int) + 1) = (j : Int) + 1 := IntWalk.i64_in _ (by omega)
                rcases hhx with ⟨d1, d2⟩ | ⟨d1, d2⟩
                · have hxv : hexv c = c - 48 := by unfold hexv; rw [if_pos d2]
                  rw [hxv] at HVN
                  have b1 : decide ((48 : Int) ≤ c) = true := decide_eq_true d1
                  have b2 : decide (c ≤ 57) = true := decide_eq_true d2
                  have e2 : IntKind.u8.wrap (c - 48) = c - 48 := IntWalk.u8_in _ (by omega)
                  have e3 : IntKind.u32.wrap (c - 48) = c - 48 := IntWalk.u32_in _ (by omega)
                  have e4 : IntKind.u32.wrap (va * 16 + (c - 48)) = va * 16 + (c - 48) := IntWalk.u32_in _ (by omega)
                  have e6 : decide ((65535 : Int) < va * 16 + (c - 48)) = false := decide_eq_false (by omega)
                  have e6' : ¬ (65535 : Int) < va * 16 + (c - 48) := by omega
                  clear hxv
                  go_wp2
                  go_roundg (gk - 1)
                  case measure => have := HJ.out; omega
                  case rel => exact ⟨j + 1, by go_num, by rw [HVN.out], ⟨by have := HJ.out; omega⟩, rfl⟩
                · have hxv : hexv c = c - 87 := by unfold hexv; rw [if_neg (by omega)]
                  rw [hxv] at HVN
                  have b1 : decide ((48 : Int) ≤ c) = true := decide_eq_true (by omega)
                  have b2 : decide (c ≤ 57) = false := decide_eq_false (by omega)
                  have b3 : decide ((97 : Int) ≤ c) = true := decide_eq_true d1
                  have b4 : decide (c ≤ 102) = true := decide_eq_true d2
                  have e2 : IntKind.u8.wrap (c - 97) = c - 97 := IntWalk.u8_in _ (by omega)
                  have e2' : IntKind.u8.wrap (c - 97 + 10) = c - 97 + 10 := IntWalk.u8_in _ (by omega)
                  have e3 : IntKind.u32.wrap (c - 97 + 10) = c - 97 + 10 := IntWalk.u32_in _ (by omega)
                  have e4 : IntKind.u32.wrap (va * 16 + (c - 97 + 10)) = va * 16 + (c - 97 + 10) := IntWalk.u32_in _ (by omega)
                  have e6 : decide ((65535 : Int) < va * 16 + (c - 97 + 10)) = false := decide_eq_false (by omega)
                  have e6' : ¬ (65535 : Int) < va * 16 + (c - 97 + 10) := by omega
                  clear hxv
                  go_wp2
                  go_roundg (gk - 1)
                  case measure => have := HJ.out; omega
                  case rel => exact ⟨j + 1, by go_num, by rw [HVN.out]; congr 1; omega, ⟨by have := HJ.out; omega⟩, rfl⟩
              · obtain rfl : j = L := by have := hj.out; omega
                have hgt : g.take j = g := List.take_of_length_le (by rw [← HL.out]; exact Nat.le_refl _)
                rw [hgt]
                obtain ⟨va, hva⟩ : ∃ va, va = valH g := ⟨_, rfl⟩
                rw [← hva]
                have hbl : (bytesOf sr).length = sr.size := bytesOf_length sr
                rw [Hsr.out, List.length_append, ← HL.out] at hbl
                have HVA := Aside0.mk hva
                clear hgt hva
                rcases HXh.out with hX0 | ⟨T, hXT⟩
                · rw [hX0] at hbl
                  have c0 : decide ((j : Int) < (sr.size : Int)) = false := decide_eq_false (by simp at hbl; omega)
                  have c1 : ¬ (j : Int) < (sr.size : Int) := by simp at hbl; omega
                  have c2 : (sr.size : Int) ≤ (j : Int) := by omega
                  clear hbl hX0
                  go_wp2
                  go_meet
                  case rel => exact ⟨rfl, by rw [HVA.out], rfl⟩
                · obtain ⟨q1, q2⟩ := char_at (s := sr) (i := j) (X := g) (R := T) (c := 58) (by rw [Hsr.out, hXT]) HL.out
                  have c0 : decide ((j : Int) < (sr.size : Int)) = true := decide_eq_true (by omega)
                  clear hbl hXT
                  go_wp2
                  go_meet
                  case rel => exact ⟨rfl, by rw [HVA.out], rfl⟩
          case rest => as_aux_lemma =>
            obtain ⟨rfl, rfl, rfl⟩ := hcut
            obtain ⟨hkq, hq1⟩ := HK.out
            have hkl : k < gs.length := by omega
            have hvr : 0 ≤ valH g ∧ valH g < 65536 := by
              have h := Hval.out L (by rw [HL.out]; exact Nat.le_refl _)
              rw [List.take_of_length_le (by rw [← HL.out]; exact Nat.le_refl _)] at h
              have hp : (16 : Int) ^ L ≤ 65536 := by rcases (show L = 1 ∨ L = 2 ∨ L = 3 ∨ L = 4 by omega) with rfl | rfl | rfl | rfl <;> decide
              exact ⟨h.1, Int.lt_of_lt_of_le h.2 hp⟩
            have hM2 := M6.step hM.out hkl HNF.out.1 Hi.out
            rw [← Hg.out] at hM2
            have hml := mem6_len (Nat.le_of_lt hkl) HNF.out.1
            obtain ⟨z0, y0, x0⟩ : ∃ z, wc.cell? ⟨w.heap.size + 1, i, none⟩ = some (.int .u8 z) ∧ wc.frozen? ⟨w.heap.size + 1, i, none⟩ = false := ⟨_, row_cell hM.out.o (i := i) (by rw [hml]; omega)⟩
            obtain ⟨z1, y1, x1⟩ : ∃ z, wc.cell? ⟨w.heap.size + 1, i + 1, none⟩ = some (.int .u8 z) ∧ wc.frozen? ⟨w.heap.size + 1, i + 1, none⟩ = false := ⟨_, row_cell hM.out.o (i := i + 1) (by have := Hi.out; rw [hml]; omega)⟩
            have HM2 := Aside0.mk hM2
            have hi15 : (i : Int) + 1 < 16 := by have := Hi.out; omega
            have HM1 := Aside0.mk hM.out
            clear hM2 hml hM
            obtain ⟨va, hva⟩ : ∃ va, va = valH g := ⟨_, rfl⟩
            rw [← hva] at hvr HM2 ⊢
            clear hva
            have v0 := hvr.1
            have v1 := hvr.2
            have e1 : IntKind.u8.wrap (va / 256) = va / 256 := IntWalk.u8_in _ (by omega)
            have e2 : IntKind.u8.wrap va = va % 256 := by simp [IntKind.wrap, IntKind.bits, IntKind.signed]
            have e3 : IntKind.i64.wrap ((i : Int) + 1) = (i : Int) + 1 := IntWalk.i64_in _ (by omega)
            have e4 : IntKind.i64.wrap ((i : Int) + 2) = (i : Int) + 2 := IntWalk.i64_in _ (by omega)
            have hbl : (bytesOf sr).length = sr.size := bytesOf_length sr
            rw [Hsr.out, List.length_append, ← HL.out] at hbl
            have hLs : (L : Int) ≤ (sr.size : Int) := by omega
            have f0 : ((L : Int) == 0) = false := beq_eq_false_iff_ne.mpr (by omega)
            have f0' : ¬ (L : Int) = 0 := by omega
            have hT1 : Aside0 (bytesOf (sr.extract L sr.size) = X) := ⟨bytesOf_from Hsr.out HL.out⟩
            clear hvr
            have HQ := Aside0.mk hkq
            clear hkq
            by_cases hfe : (k : Int) + 1 = f
            · have hek : eAt f k = -1 := by unfold eAt; rw [if_neg (by omega)]
              have hek1 : eAt f (k + 1) = (i : Int) + 2 := by unfold eAt; rw [if_pos ⟨by omega, by omega⟩]; have := Hi.out; omega
              rw [hek]
              have hX2 := HX.out
              rw [if_pos hfe] at hX2
              obtain ⟨T, hT⟩ : ∃ T, T = restT f (k + 1) (gs.drop (k + 1)) := ⟨_, rfl⟩
              rw [← hT] at hX2
              have HXX : Aside0 (X = 58 :: 58 :: T) := ⟨hX2⟩
              have HT := Aside0.mk hT
              have hbl2 : L + (2 + T.length) = sr.size := by rw [hX2] at hbl; simp at hbl; omega
              obtain ⟨q1, q2⟩ := char_at (s := sr) (i := L) (X := g) (R := 58 :: T) (c := 58) (by rw [Hsr.out, hX2]; rfl) HL.out
              have c0 : decide ((L : Int) < (sr.size : Int)) = true := decide_eq_true (by omega)
              have HK1 := Aside0.mk hek1
              clear hX2 hT hbl hek hek1 hfe
              go_upto_region 51 with (fail)
              generalize sr.extract L sr.size = s1 at *
              have hT1' : bytesOf s1 = 58 :: 58 :: T := hT1.out.trans HXX.out
              have hs1 : s1.size = 2 + T.length := by rw [← bytesOf_length, hT1']; simp; omega
              obtain ⟨q3, q4⟩ := char_at (s := s1) (i := 0) (X := []) (R := 58 :: T) (c := 58) hT1' rfl
              have g0 : ((s1.size : Int) == 0) = false := beq_eq_false_iff_ne.mpr (by omega)
              have g0' : ¬ (s1.size : Int) = 0 := by omega
              have g1 : ((s1.size : Int) == 1) = false := beq_eq_false_iff_ne.mpr (by omega)
              have g1' : ¬ (s1.size : Int) = 1 := by omega
              have g2 : (1 : Int) ≤ (s1.size : Int) := by omega
              have hT2 : Aside0 (bytesOf (s1.extract 1 s1.size) = 58 :: T) := ⟨bytesOf_from (X := [58]) hT1' rfl⟩
              clear hT1' hs1
              go_upto_region 57 with (fail)
              generalize s1.extract 1 s1.size = s2 at *
              obtain ⟨q5, q6⟩ := char_at (s := s2) (i := 0) (X := []) (R := T) (c := 58) hT2.out rfl
              have g3 : (1 : Int) ≤ (s2.size : Int) := by omega
              have hT3 : Aside0 (bytesOf (s2.extract 1 s2.size) = T) := ⟨bytesOf_from (X := [58]) hT2.out rfl⟩
              go_upto_region 62 with (fail)
              generalize s2.extract 1 s2.size = s3 at *
              have hs3 : s3.size = T.length := by rw [← bytesOf_length, hT3.out]
              by_cases hke : k + 1 = gs.length
              · have hT0 : T = [] := by rw [HT.out, drop_nil hke]; rfl
                have z0 : s3.size = 0 := by rw [hs3, hT0]; rfl
                have HZ0 := Aside0.mk z0
                have HKE := Aside0.mk hke
                clear hT0 hs3 hke
                go_wp2
                go_meet
                case rel => exact ⟨s3, rfl, (congrArg (fun z : Int => Value.int .i64 z) (by have := HKE.out; have := Hi.out; omega)), (congrArg (fun z : Int => Value.int .i64 z) (by rw [← HKE.out]; exact HK1.out.symm)), HZ0, ⟨by rw [← HKE.out]; exact HM2.out⟩⟩
              · obtain ⟨_, c, R, hc, hR⟩ := drop_hex f (show k + 1 < gs.length by omega) HG.out
                have z0 : ¬ s3.size = 0 := by rw [hs3, HT.out, hR]; simp
                have z1 : ((s3.size : Int) == 0) = false := beq_eq_false_iff_ne.mpr (by omega)
                have z2 : ¬ (s3.size : Int) = 0 := by omega
                have HKE := Aside0.mk hke
                clear hR hc hs3 hke
                go_wp2
                go_roundg (gk - 1)
                case measure => have := HQ.out; omega
                case rel => exact ⟨k + 1, s3, rfl, (congrArg (fun z : Int => Value.int .i64 z) (by have := Hi.out; omega)), (congrArg (fun z : Int => Value.int .i64 z) HK1.out.symm), ⟨by have := HQ.out; omega, by have := HQ.out; have := HKE.out; omega⟩, ⟨hT3.out.trans HT.out⟩, HM2⟩
            · have hek1 : eAt f (k + 1) = eAt f k := by
                unfold eAt
                by_cases h1 : 0 ≤ f ∧ f ≤ (k : Int)
                · rw [if_pos h1, if_pos ⟨h1.1, by omega⟩]
                · rw [if_neg h1, if_neg (by omega)]
              have HK1 := Aside0.mk hek1
              have hX2 := HX.out
              rw [if_neg hfe] at hX2
              clear hek1 hfe
              by_cases hke : k + 1 = gs.length
              · rw [drop_nil hke, if_pos rfl] at hX2
                obtain rfl : X = [] := hX2
                have hszl : sr.size = L := by simp at hbl; omega
                have c0 : ¬ (L : Int) < (sr.size : Int) := by omega
                have c1 : (sr.size : Int) ≤ (L : Int) := by omega
                have c2 : decide ((L : Int) < (sr.size : Int)) = false := decide_eq_false c0
                have hsn : (sr.extract L sr.size).size = 0 := by rw [← bytesOf_length, hT1.out]; rfl
                have HKE := Aside0.mk hke
                clear hbl hke
                go_wp2
                go_meet
                case rel => exact ⟨_, rfl, (congrArg (fun z : Int => Value.int .i64 z) (by have := HKE.out; have := Hi.out; omega)), (congrArg (fun z : Int => Value.int .i64 z) (by rw [← HKE.out]; exact HK1.out.symm)), ⟨rfl⟩, ⟨by rw [← HKE.out]; exact HM2.out⟩⟩
              · obtain ⟨hne, c, R, hc, hR⟩ := drop_hex f (show k + 1 < gs.length by omega) HG.out
                rw [if_neg hne, hR] at hX2
                have HXX : Aside0 (X = 58 :: c :: R) := ⟨hX2⟩
                have HR := Aside0.mk hR
                have hbl2 : L + (2 + R.length) = sr.size := by rw [hX2] at hbl; simp at hbl; omega
                obtain ⟨q1, q2⟩ := char_at (s := sr) (i := L) (X := g) (R := c :: R) (c := 58) (by rw [Hsr.out, hX2]; rfl) HL.out
                have c0 : decide ((L : Int) < (sr.size : Int)) = true := decide_eq_true (by omega)
                have f1 : (c == 58) = false := beq_eq_false_iff_ne.mpr (by unfold isHx at hc; omega)
                have f2 : ¬ c = 58 := by unfold isHx at hc; omega
                have HKE := Aside0.mk hke
                clear hX2 hR hbl hne hc hke
                go_upto_region 51 with (fail)
                generalize sr.extract L sr.size = s1 at *
                have hT1' : bytesOf s1 = 58 :: c :: R := hT1.out.trans HXX.out
                have hs1 : s1.size = 2 + R.length := by rw [← bytesOf_length, hT1']; simp; omega
                obtain ⟨q3, q4⟩ := char_at (s := s1) (i := 0) (X := []) (R := c :: R) (c := 58) hT1' rfl
                have g0 : ((s1.size : Int) == 0) = false := beq_eq_false_iff_ne.mpr (by omega)
                have g0' : ¬ (s1.size : Int) = 0 := by omega
                have g1 : ((s1.size : Int) == 1) = false := beq_eq_false_iff_ne.mpr (by omega)
                have g1' : ¬ (s1.size : Int) = 1 := by omega
                have g2 : (1 : Int) ≤ (s1.size : Int) := by omega
                have hT2 : Aside0 (bytesOf (s1.extract 1 s1.size) = c :: R) := ⟨bytesOf_from (X := [58]) hT1' rfl⟩
                clear hT1' hs1
                go_upto_region 57 with (fail)
                generalize s1.extract 1 s1.size = s2 at *
                obtain ⟨q5, q6⟩ := char_at (s := s2) (i := 0) (X := []) (R := R) (c := c) hT2.out rfl
                go_wp2
                go_roundg (gk - 1)
                case measure => have := HQ.out; omega
                case rel => exact ⟨k + 1, s2, rfl, (congrArg (fun z : Int => Value.int .i64 z) (by have := Hi.out; omega)), (congrArg (fun z : Int => Value.int .i64 z) HK1.out.symm), ⟨by have := HQ.out; omega, by have := HQ.out; have := HKE.out; omega⟩, ⟨hT2.out.trans HR.out.symm⟩, HM2⟩
      case rest => as_aux_lemma =>
        clear hS hM
        obtain ⟨sr, rfl, rfl, rfl, HZ0, hM⟩ := hcut
        have h0 := HZ0.out
        have f0 : (sr.size : Int) = 0 := by omega
        have f1 : ((sr.size : Int) == 0) = true := beq_iff_eq.mpr f0
        obtain ⟨N, hN⟩ : ∃ N : Nat, N = 2 * gs.length := ⟨_, rfl⟩
        obtain ⟨ev, hev⟩ : ∃ ev, ev = eAt f gs.length := ⟨_, rfl⟩
        rw [← hN, ← hev]
        have HN := Aside0.mk hN
        have HEV := Aside0.mk hev
        clear hN hev
        go_upto_if 242 with (fail)
        go_cut [3, 14, 15] from 233 to 275 (fun v3 v14 v15 wc => Aside0 (M6 w wc (fin6 f gs)))
        case first => as_aux_lemma =>
          obtain ⟨hn8, hn1, hf⟩ := HNF.out
          rcases hf with ⟨hf1, h8⟩ | ⟨hf0, hfn, h7⟩
          · have hek : ev = -1 := by rw [HEV.out]; unfold eAt; rw [if_neg (by omega)]
            have hfin : fin6 f gs = mem6 gs gs.length := by
              unfold fin6 mem6
              rw [if_pos (by omega), List.take_length, h8]
              simp
            have HM : Aside0 (M6 w wc (fin6 f gs)) := ⟨by rw [hfin]; exact hM.out⟩
            have hN16 : ¬ (N : Int) < 16 := by have := HN.out; omega
            have c0 : decide ((N : Int) < 16) = false := decide_eq_false hN16
            have c1 : (16 : Int) ≤ (N : Int) := by omega
            subst hek
            clear hfin hM hf1 h8 hn8 hn1
            go_wp2
            go_meet
            case rel => exact HM
          · obtain ⟨F, rfl⟩ : ∃ F : Nat, (F : Int) = f := ⟨f.toNat, Int.toNat_of_nonneg hf0⟩
            have hFn : F ≤ gs.length := by omega
            obtain ⟨E, hE⟩ : ∃ E : Nat, E = 2 * F := ⟨_, rfl⟩
            have hek : ev = (E : Int) := by rw [HEV.out]; unfold eAt; rw [if_pos ⟨by omega, by omega⟩]; omega
            subst hek
            obtain ⟨D, hD⟩ : ∃ D : Nat, D = 16 - N := ⟨_, rfl⟩
            have hN := HN.out
            have hD1 : IntKind.i64.wrap (16 - (N : Int)) = (D : Int) := by rw [IntWalk.i64_in _ (by omega)]; omega
            have hN1 : IntKind.i64.wrap ((N : Int) - 1) = (N : Int) - 1 := IntWalk.i64_in _ (by omega)
            have hN16 : (N : Int) < 16 := by omega
            have c0 : decide ((N : Int) < 16) = true := decide_eq_true hN16
            have hE0 : ¬ (E : Int) < 0 := by omega
            have c1 : decide ((E : Int) < 0) = false := decide_eq_false hE0
            have HNN := Aside0.mk (And.intro hN (And.intro hE (And.intro hD (And.intro h7 (And.intro hFn hn1)))))
            have HF := Aside0.mk (And.intro hf0 hfn)
            clear hN hE hD h7 hFn hn1 hn8 hf0 hfn
            go_upto_block 4 with (fail)
            go_cut [15] from 233 to 264 (fun v15 wc => Aside0 (M6 w wc (shiftS (mem6 gs gs.length) N (N - E))))
            case first => as_aux_lemma =>
              go_wp2_with fail
              go_loopg [15] N (fun q v15 wr => ∃ (t : Nat) (z : Int), v15 = .int .i64 z ∧ Aside0 (z = (N : Int) - 1 - t ∧ t + q = N ∧ t ≤ N - E) ∧ Aside0 (M6 w wr (shiftS (mem6 gs gs.length) N t)))
              case atStart => exact ⟨0, (N : Int) - 1, rfl, ⟨by omega, by omega, by omega⟩, ⟨by rw [shiftS_zero _ _ (mem6_len (Nat.le_refl _) (by have := HNN.out; omega)) (by omega)]; exact hM.out⟩⟩
              case round => as_aux_lemma =>
                clear hM
                obtain ⟨t, z, rfl, HT, hM⟩ := hrel
                obtain ⟨hz, htq, htE⟩ := HT.out
                obtain ⟨hN, hE, hD, h7, hFn, hn1⟩ := HNN.out
                by_cases hlt : t < N - E
                · obtain ⟨a, ha⟩ : ∃ a : Nat, a = N - 1 - t := ⟨_, rfl⟩
                  have hza : z = (a : Int) := by omega
                  subst hza
                  have hX16 : (mem6 gs gs.length).length = 16 := mem6_len (Nat.le_refl _) (by omega)
                  have hat := shiftS_at (mem6 gs gs.length) N t hX16 (by omega) (by omega)
                  have hsu := shiftS_succ (mem6 gs gs.length) N t hX16 (by omega) (by omega)
                  have hsl := shiftS_len (mem6 gs gs.length) N t hX16 (by omega) (by omega)
                  obtain ⟨x, hx⟩ : ∃ x, x = (mem6 gs gs.length)[N - 1 - t]'(by omega) := ⟨_, rfl⟩
                  rw [← hx] at hat hsu
                  rw [← ha] at hat
                  obtain ⟨d, hd⟩ : ∃ d : Nat, d = 15 - t := ⟨_, rfl⟩
                  rw [← hd] at hsu
                  have k0 : wr.cell? ⟨w.heap.size + 1, a, none⟩ = some (.int .u8 x) := by
                    have h := (row_cell hM.out.o (i := a) (by omega)).1
                    rw [h]
                    congr 2
                    exact Option.some.inj ((List.getElem?_eq_getElem (by omega)).symm.trans hat)
                  obtain ⟨y, k1, k2⟩ : ∃ y, wr.cell? ⟨w.heap.size + 1, d, none⟩ = some (.int .u8 y) ∧ wr.frozen? ⟨w.heap.size + 1, d, none⟩ = false := ⟨_, row_cell hM.out.o (i := d) (by omega)⟩
                  have HM2 : Aside0 (M6 w (wr.setCell ⟨w.heap.size + 1, d, none⟩ (.int .u8 x)) (shiftS (mem6 gs gs.length) N (t + 1))) := ⟨by rw [← hsu]; exact hM.out.set (by omega) x⟩
                  have e1 : IntKind.i64.wrap ((a : Int) + (D : Int)) = (d : Int) := by rw [IntWalk.i64_in _ (by omega)]; omega
                  have e1' : (a : Int) + (D : Int) = (d : Int) := by omega
                  have e2 : IntKind.i64.wrap ((a : Int) - 1) = (a : Int) - 1 := IntWalk.i64_in _ (by omega)
                  have b1 : (E : Int) ≤ (a : Int) := by omega
                  have b2 : decide ((E : Int) ≤ (a : Int)) = true := decide_eq_true b1
                  have b3 : (a : Int) < 16 := by omega
                  have b4 : (d : Int) < 16 := by omega
                  have HA := Aside0.mk (And.intro ha (And.intro hd (And.intro htq hlt)))
                  clear hz htq htE hN hE hD h7 hFn hn1 hat hsu hsl hX16 hx hM ha hd hlt HT
                  go_wp2
                  go_roundg (gk - 1)
                  case measure => have := HA.out; omega
                  case rel => exact ⟨t + 1, (a : Int) - 1, rfl, ⟨by have := HA.out; omega, by have := HA.out; omega, by have := HA.out; omega⟩, HM2⟩
                · have hz2 : z = (E : Int) - 1 := by omega
                  obtain rfl : t = N - E := by omega
                  subst hz2
                  have b1 : ¬ (E : Int) ≤ (E : Int) - 1 := by omega
                  have b2 : decide ((E : Int) ≤ (E : Int) - 1) = false := decide_eq_false b1
                  have b3 : (E : Int) - 1 < (E : Int) := by omega
                  clear hz htq htE hN hE hD h7 hFn hn1 hlt HT
                  go_wp2
                  go_meet
                  case rel => exact hM
            case rest => as_aux_lemma =>
              clear hM
              have hM := hcut
              obtain ⟨hN, hE, hD, h7, hFn, hn1⟩ := HNN.out
              obtain ⟨M, hMd⟩ : ∃ M : Nat, M = E + D := ⟨_, rfl⟩
              have e1 : IntKind.i64.wrap ((E : Int) + (D : Int)) = (M : Int) := by rw [IntWalk.i64_in _ (by omega)]; omega
              have e1' : (E : Int) + (D : Int) = (M : Int) := by omega
              have e2 : (E : Int) ≤ (M : Int) := by omega
              have e3 : (M : Int) ≤ 16 := by omega
              have hS16 : (shiftS (mem6 gs gs.length) N (N - E)).length = 16 := shiftS_len _ _ _ (mem6_len (Nat.le_refl _) (by omega)) (by omega) (by omega)
              have hcl : ∀ c, (Builtin.clear_ #[22] 0 #[.slice (some ⟨w.heap.size + 1, E, none⟩) D c]).run Tryd.prog wc = .ok (.tuple #[]) (wc.setCells (w.heap.size + 1) E (List.replicate D (.int .u8 0))) := fun c =>
                Lib.run_clear_slice (P := Tryd.prog) wc 22 5 0 (.int .u8 0) Tryd.underlying22 (fun W => by kernel_rfl) rfl rfl (w.heap.size + 1) E D c (by omega) (fun j hj => by rw [(row_cell hM.out.o (i := E + j) (by omega)).1]; rfl) (fun j hj => (row_cell hM.out.o (i := E + j) (by omega)).2)
              have hME : M - E = D := by omega
              have e4 : ¬ E = 16 := by omega
              have e5 : ¬ 16 = E := by omega
              have hms := M6.sets (List.replicate D 0) E hM.out (by rw [List.length_replicate, hS16]; omega)
              rw [List.map_replicate, List.length_replicate] at hms
              have HMS : Aside0 (M6 w (wc.setCells (w.heap.size + 1) E (List.replicate D (.int .u8 0))) (fin6 (F : Int) gs)) := ⟨by
                have h := fin6_shift F gs (by omega) hFn
                rw [← hN, ← hE, ← hD] at h
                rw [← h]
                exact hms⟩
              clear hS16 hN hE hD h7 hFn hn1 hMd hms
              go_wp2
              go_meet
              case rel => exact HMS
        case rest => as_aux_lemma =>
          have hM := hcut
          obtain ⟨R, hR⟩ : ∃ R, R = fin6 f gs := ⟨_, rfl⟩
          have hRl : R.length = 16 := by rw [hR]; exact fin6_len f gs HNF.out.2.2
          rw [← hR] at hM
          have HR := Aside0.mk hR
          have hRB : IsB R := by rw [hR]; exact fin6_isB HG.out
          have HA := Aside0.mk (adr16r R hRl hRB p4 p6 wc (ZZ.below HZ.out hM.out.b))
          have hlr : w.heap.size < wc.heap.size := heap_lt hM.out.r
          have hsz16 : (rowV R).size = 16 := by rw [rowV_length, hRl]
          have HI : (Tryd.prog.info? 155).map (·.size) = some (rowV R).size := by rw [hsz16]; kernel_rfl
          clear hR hcut hRl hsz16 hRB
          go_upto_region 76 with (fail)
          repeat (first
            | (refine wp_load_row 155 (.tmp 7) rfl (w.heap.size + 1) rfl 155 (rowV R) (0, 0) _ hM.out.o Tryd.underlying155 rfl HI ?_; simp only [Act.put, List.setIfInBounds_toArray, List.set_cons_succ, List.set_cons_zero])
            | ((fail_if_success (go_at_call 160)); go_step))
          go_wp2_with (first
            | (go_at_call 160; (refine HA.out.mono ?_); rintro e w4 ⟨rfl, hb⟩; (have HB4 := Aside0.mk hb); clear hb)
            | (go_at_call 159; (refine (no_zone (num8 (R.take 8)) (num8 (R.drop 8)) p4 p6 w4 (ZZ.below HZ.out (below_step hM.out.b HB4.out))).mono ?_); rintro e w5 ⟨rfl, hb⟩; (have HC5 := Aside0.mk (show w5.heap[w.heap.size]? = some (.cells (adrV 0 0 none) 152 (0, 0)) by rw [hb.block _ (Nat.lt_of_lt_of_le hlr HB4.out.size), HB4.out.block _ hlr]; exact hM.out.r)); (have HB5 := Aside0.mk (below_step (below_step hM.out.b HB4.out) hb)); obtain ⟨⟨q0, q1⟩, ⟨q2, q3⟩, ⟨q4, q5⟩⟩ := adrV_cells HC5.out; clear hb; unfold adr))
          refine bodyPost_ret (results_cell_row_tmp rfl _ _ w.heap.size 152 (adrV (num8 (R.take 8)) (num8 (R.drop 8)) (some p6)) (0, 0) _ rfl (adrV_set3 HC5.out _ _ _) Tryd.underlying152 rfl (by kernel_rfl)) rfl ?_
          exact ⟨by rw [HR.out]; rfl, set3_below _ _ _ (Nat.le_refl _) HB5.out⟩

end Go.Proofs.YtiilihafcdmccaaDoor.P
/- netip.parseIPv6 of two colons alone; ParseAddr at a text with colons. -/
namespace Go.Proofs.YtiilihafcdmccaaDoor.P
open Go.RowKit Go.Proofs.YtiilihafcdmccaaDoorW.PrintWords Go.Proofs.YtiilihafcdmccaaDoorW.PrintLast Go.Proofs.YtiilihafcdmccaaDoorW.PrintMore
set_option linter.unusedVariables false
set_option linter.unusedSimpArgs false

set_option maxRecDepth 100000 in
set_option maxHeartbeats 4000000 in
/-- All sixteen octets are 0, and left out. -/
theorem parse6z (s : ByteArray) (p4 p6 : Addr) (w : World) (hs : bytesOf s = [58, 58]) (hZ : ZZ p4 p6 w) :
    Calls Tryd.prog 142 #[.string s] w fun e w' => e = .returned (.tuple #[adr 0 0 p6, .nilIface]) ∧ Below w.heap.size w w' := by
  have hsz : s.size = 2 := by rw [← bytesOf_length, hs]; rfl
  have hx := idx_none s (fun c hc => by rw [hs] at hc; simp at hc; omega)
  obtain ⟨q1, q2⟩ := char_at (s := s) (i := 0) (X := []) (R := [58]) hs rfl
  obtain ⟨q3, q4⟩ := char_at (s := s) (i := 1) (X := [58]) (R := []) hs rfl
  have c0 : decide ((2 : Int) ≤ (s.size : Int)) = true := decide_eq_true (by omega)
  have c1 : (2 : Int) ≤ (s.size : Int) := by omega
  have hE : (s.extract 2 s.size).size = 0 := by rw [← bytesOf_length, bytesOf_from (n := 2) (X := [58, 58]) (Y := []) hs rfl]; rfl
  have HZ := Aside0.mk hZ
  clear hZ hs
  go_enter Tryd.func142, Tryd.ntmps142
  go_wp2
  rw [run_callFunc_extern Tryd.func157 (by kernel_rfl) (by kernel_rfl) (by kernel_rfl) (e := Extern.BytealgIndexByte.indexByte) (by kernel_rfl), Lib.run_indexByteString]
  simp only [Result.andThen]
  rw [Oper.upon_value, hx]
  clear hx
  go_upto_region 13 with (fail)
  generalize s.extract 2 s.size = sr at *
  have z0 : ((sr.size : Int) == 0) = true := beq_iff_eq.mpr (by omega)
  have z1 : (sr.size : Int) = 0 := by omega
  go_upto_region 14 with (fail)
  have HM := Aside0.mk (M6.start w)
  have hbA := Aside0.mk HM.out.b
  have HR := Aside0.mk HM.out.r
  generalize ((w.alloc (Obj.cells #[Value.int IntKind.u64 0, Value.int IntKind.u64 0, Value.pointer none] 152)).alloc (Obj.cells #[Value.int IntKind.u8 0, Value.int IntKind.u8 0, Value.int IntKind.u8 0, Value.int IntKind.u8 0, Value.int IntKind.u8 0, Value.int IntKind.u8 0, Value.int IntKind.u8 0, Value.int IntKind.u8 0, Value.int IntKind.u8 0, Value.int IntKind.u8 0, Value.int IntKind.u8 0, Value.int IntKind.u8 0, Value.int IntKind.u8 0, Value.int IntKind.u8 0, Value.int IntKind.u8 0, Value.int IntKind.u8 0] 155)) = wc at *
  have hlr : w.heap.size < wc.heap.size := heap_lt HR.out
  clear HM
  go_wp2_with (first
    | (go_at_call 158; (refine (unspec p4 p6 wc (ZZ.below HZ.out hbA.out)).mono ?_); rintro e w4 ⟨rfl, hb⟩; (have HB4 := Aside0.mk hb); clear hb)
    | (go_at_call 159; (refine (no_zone 0 0 p4 p6 w4 (ZZ.below HZ.out (below_step hbA.out HB4.out))).mono ?_); rintro e w5 ⟨rfl, hb⟩; (have HC5 := Aside0.mk (show w5.heap[w.heap.size]? = some (.cells (adrV 0 0 none) 152 (0, 0)) by rw [hb.block _ (Nat.lt_of_lt_of_le hlr HB4.out.size), HB4.out.block _ hlr]; exact HR.out)); (have HB5 := Aside0.mk (below_step (below_step hbA.out HB4.out) hb)); obtain ⟨⟨q0, q1⟩, ⟨q2, q3⟩, ⟨q4, q5⟩⟩ := adrV_cells HC5.out; clear hb; unfold adr))
  refine bodyPost_ret (results_cell_row_tmp rfl _ _ w.heap.size 152 (adrV 0 0 (some p6)) (0, 0) _ rfl (adrV_set3 HC5.out _ _ _) Tryd.underlying152 rfl (by kernel_rfl)) rfl ?_
  exact ⟨rfl, set3_below _ _ _ (Nat.le_refl _) HB5.out⟩

set_option maxRecDepth 100000 in
set_option maxHeartbeats 2000000 in
/-- The reader of an address comes to a colon. -/
theorem pa6 (s : ByteArray) (h R : List Int) (hi lo : Int) (p4 p6 : Addr) (w : World) (hs : bytesOf s = h ++ 58 :: R) (hh : ∀ c ∈ h, isHx c) (hl : h.length ≤ 4)
    (hP : ∀ W, Below w.heap.size w W → Calls Tryd.prog 142 #[.string s] W fun e w' => e = .returned (.tuple #[adr hi lo p6, .nilIface]) ∧ Below W.heap.size W w') :
    Calls Tryd.prog 125 #[.string s] w fun e w' => e = .returned (.tuple #[adr hi lo p6, .nilIface]) ∧ Below w.heap.size w w' := by
  have HS := Aside0.mk hs
  have HP := Aside0.mk hP
  have HH := Aside0.mk hh
  clear hs hP hh
  go_enter Tryd.func125, Tryd.ntmps125
  go_wp2
  go_loopw [4] (fun v4 W => ∃ i : Nat, v4 = .int .i64 i ∧ i ≤ h.length ∧ Aside0 (W.heap[w.heap.size]? = some (.cells (adrV 0 0 none) 152 (0, 0))) ∧ Aside0 (Below w.heap.size w W)) (fun v4 _ => (100 - intOf v4).toNat)
  case atStart => exact ⟨0, rfl, Nat.zero_le _, ⟨heap_alloc_new w _⟩, ⟨below_alloc (Below.refl _ _) _⟩⟩
  case round =>
    obtain ⟨i, rfl, hi, hH, hBl⟩ := hrel
    by_cases hlt : i < h.length
    · obtain ⟨x, hx⟩ : ∃ x, x = h[i] := ⟨_, rfl⟩
      have hxd : isHx x := HH.out x (by rw [hx]; exact List.getElem_mem hlt)
      obtain ⟨q1, q2⟩ := char_at (s := s) (i := i) (X := h.take i) (R := h.drop (i + 1) ++ 58 :: R) (c := x) (by rw [HS.out, hx, ← List.cons_append, ← List.drop_eq_getElem_cons hlt, ← List.append_assoc, List.take_append_drop]) (by rw [List.length_take]; omega)
      have c0 : decide ((i : Int) < (s.size : Int)) = true := decide_eq_true (by omega)
      unfold isHx at hxd
      have f1 : (x == 46) = false := beq_eq_false_iff_ne.mpr (by omega)
      have f2 : (x == 58) = false := beq_eq_false_iff_ne.mpr (by omega)
      have f3 : (x == 37) = false := beq_eq_false_iff_ne.mpr (by omega)
      have g1 : ¬ x = 46 := by omega
      have g2 : ¬ x = 58 := by omega
      have g3 : ¬ x = 37 := by omega
      clear hx hxd
      go_wp2
      go_roundw
      case rel => exact ⟨i + 1, by go_num, by omega, hH, hBl⟩
      case measure => simp [intOf]; omega
    · obtain rfl : i = h.length := by omega
      obtain ⟨q1, q2⟩ := char_at (s := s) (i := h.length) (X := h) (R := R) (c := 58) HS.out rfl
      obtain ⟨i, hii⟩ : ∃ i, i = h.length := ⟨_, rfl⟩
      rw [← hii] at q1 q2 ⊢
      have c0 : decide ((i : Int) < (s.size : Int)) = true := decide_eq_true (by omega)
      have HP2 := Aside0.mk (HP.out wr hBl.out)
      have hlt3 : w.heap.size < wr.heap.size := heap_lt hH.out
      clear hii hlt hi
      go_wp2_with (first | (go_at_call 142; (refine HP2.out.mono ?_); rintro e w4 ⟨rfl, hb⟩; (have HC4 := Aside0.mk (show w4.heap[w.heap.size]? = some (.cells (adrV 0 0 none) 152 (0, 0)) by rw [hb.block _ hlt3]; exact hH.out)); (have HB4 := Aside0.mk (below_step hBl.out hb)); obtain ⟨⟨k0, k1⟩, ⟨k2, k3⟩, ⟨k4, k5⟩⟩ := adrV_cells HC4.out; clear hb; unfold adr))
      refine bodyPost_ret (results_cell_row_tmp rfl _ _ w.heap.size 152 (adrV hi lo (some p6)) (0, 0) _ rfl (adrV_set3 HC4.out _ _ _) Tryd.underlying152 rfl (by kernel_rfl)) rfl ?_
      exact ⟨rfl, set3_below _ _ _ (Nat.le_refl _) HB4.out⟩

end Go.Proofs.YtiilihafcdmccaaDoor.P
/- What is proved: for all octets and numbers the law FnReverse answers true: an address of four numbers is the name of these, the last one first, below in-addr.arpa; one of sixteen octets the name of its digits, the last one first, below ip6.arpa. Conditions: what the row lays (net/netip's z0, z4, z6noz and the table of the powers of ten). -/
namespace Go.Proofs.YtiilihafcdmccaaDoor.P
open Go.RowKit Go.Proofs.YtiilihafcdmccaaDoorW.PrintWords Go.Proofs.YtiilihafcdmccaaDoorW.PrintLast Go.Proofs.YtiilihafcdmccaaDoorW.PrintMore
set_option linter.unusedVariables false
set_option linter.unusedSimpArgs false

/-- The text of sixteen octets is read. -/
theorem pa6_any (s : ByteArray) (f : Int) (gs : List (List Int)) (p4 p6 : Addr) (w : World) (hs : bytesOf s = txt6 f gs) (hG : ∀ g ∈ gs, GoodG g) (hf : (f = -1 ∧ gs.length = 8) ∨ (0 ≤ f ∧ f ≤ gs.length ∧ gs.length ≤ 7)) (hZ : ZZ p4 p6 w) :
    Calls Tryd.prog 125 #[.string s] w fun e w' => e = .returned (.tuple #[adr (num8 ((fin6 f gs).take 8)) (num8 ((fin6 f gs).drop 8)) p6, .nilIface]) ∧ Below w.heap.size w w' := by
  obtain ⟨h, R, h1, h2, h3⟩ := txt6_colon f gs hG (by rcases hf with h | h; exact .inl h; exact .inr ⟨h.1, h.2.1⟩)
  refine pa6 s h R _ _ p4 p6 w (hs.trans h1) h2 h3 (fun W hW => ?_)
  by_cases hn : 1 ≤ gs.length
  · exact parse6 s f gs p4 p6 W hs hG (by omega) hn hf (fun c hc => by rw [hs] at hc; exact txt6_no37 f gs hG c hc) (ZZ.below hZ hW)
  · obtain rfl : gs = [] := List.eq_nil_of_length_eq_zero (by omega)
    obtain rfl : f = 0 := by simp at hf; omega
    exact parse6z s p4 p6 W (hs.trans rfl) (ZZ.below hZ hW)
set_option maxRecDepth 100000 in
set_option maxHeartbeats 1000000 in
theorem irev (s N : ByteArray) (w : World) (hR : Calls Tryd.prog 73 #[.string s] w fun e w' => e = .returned (.tuple #[.string N, .nilIface]) ∧ Below w.heap.size w w') :
    Calls Tryd.prog 46 #[.string s] w fun e w' => e = .returned (.tuple #[.string N, .bool true]) ∧ Below w.heap.size w w' := by
  have HR := Aside0.mk hR
  clear hR
  go_enter Tryd.func46, Tryd.ntmps46
  go_wp2_with (first | (go_at_call 73; (refine HR.out.mono ?_); rintro e w' ⟨rfl, hb⟩; (have HB := Aside0.mk hb); clear hb))
  repeat (go_quiet (fail); try go_wp2)
  go_ret2
  exact ⟨rfl, pw_below_drewN HB.out _⟩
/-- What the walk asks of the world. -/
def GoodR (w : World) : Prop := (∃ p4 p6, ZZ p4 p6 w) ∧ TabW w
set_option maxRecDepth 100000 in
set_option maxHeartbeats 1000000 in
theorem law_core (n c0 m c1 : Nat) (A0 A1 : Option Addr) (w : World) (hn : n = 4 ∨ n = 16) (hm : (m : Int) ≤ 2147483647)
    (hS : Calls Tryd.prog 45 #[.slice A0 n c0, .slice A1 m c1] w fun e w' => ∃ T N : ByteArray, e = .returned (.tuple #[.string T, .string N]) ∧ (Calls Tryd.prog 73 #[.string T] w' fun e w2 => e = .returned (.tuple #[.string N, .nilIface]) ∧ Below w'.heap.size w' w2) ∧ Below w.heap.size w w') :
    Calls Tryd.prog 13 #[.slice A0 n c0, .slice A1 m c1] w fun e w' => e = .returned (.bool true) ∧ Below w.heap.size w w' := by
  have HS := Aside0.mk hS
  clear hS
  have d0 : decide ((2147483647 : Int) < (m : Int)) = false := decide_eq_false (by omega)
  have d1 : ¬ (2147483647 : Int) < (m : Int) := by omega
  rcases hn with rfl | rfl
  · go_enter Tryd.func13, Tryd.ntmps13
    go_wp2_with (first
      | (go_at_call 45; (refine HS.out.mono ?_); rintro e w1 ⟨T, N, rfl, hR, hb⟩; (have HR := Aside0.mk (irev T N w1 hR)); (have HB := Aside0.mk hb); clear hb hR)
      | (go_at_call 46; (refine HR.out.mono ?_); rintro e w2 ⟨rfl, hb⟩; (have HB2 := Aside0.mk (below_step HB.out hb)); clear hb))
    go_ret
    exact ⟨rfl, HB2.out⟩
  · go_enter Tryd.func13, Tryd.ntmps13
    go_wp2_with (first
      | (go_at_call 45; (refine HS.out.mono ?_); rintro e w1 ⟨T, N, rfl, hR, hb⟩; (have HR := Aside0.mk (irev T N w1 hR)); (have HB := Aside0.mk hb); clear hb hR)
      | (go_at_call 46; (refine HR.out.mono ?_); rintro e w2 ⟨rfl, hb⟩; (have HB2 := Aside0.mk (below_step HB.out hb)); clear hb))
    go_ret
    exact ⟨rfl, HB2.out⟩
set_option maxRecDepth 100000 in
set_option maxHeartbeats 1000000 in
/-- A length that is neither. -/
theorem law_other (n c0 m c1 : Nat) (A0 A1 : Option Addr) (w : World) (h : (2147483647 < (n : Int) ∨ 2147483647 < (m : Int)) ∨ (n ≠ 4 ∧ n ≠ 16)) :
    Calls Tryd.prog 13 #[.slice A0 n c0, .slice A1 m c1] w fun e w' => e = .returned (.bool true) ∧ Below w.heap.size w w' := by
  by_cases h1 : (2147483647 : Int) < (n : Int)
  · have d0 : decide ((2147483647 : Int) < (n : Int)) = true := decide_eq_true h1
    clear h
    go_enter Tryd.func13, Tryd.ntmps13
    go_wp2
    go_ret
    exact ⟨rfl, Below.refl _ _⟩
  · have d0 : decide ((2147483647 : Int) < (n : Int)) = false := decide_eq_false h1
    by_cases h2 : (2147483647 : Int) < (m : Int)
    · have d1 : decide ((2147483647 : Int) < (m : Int)) = true := decide_eq_true h2
      clear h
      go_enter Tryd.func13, Tryd.ntmps13
      go_wp2
      go_ret
      exact ⟨rfl, Below.refl _ _⟩
    · have d1 : decide ((2147483647 : Int) < (m : Int)) = false := decide_eq_false h2
      obtain ⟨h4, h16⟩ : n ≠ 4 ∧ n ≠ 16 := by rcases h with (h | h) | h; exact absurd h h1; exact absurd h h2; exact h
      have f0 : ((n : Int) != 4) = true := bne_iff_ne.mpr (by omega)
      have f1 : ((n : Int) != 16) = true := bne_iff_ne.mpr (by omega)
      have f2 : ¬ (n : Int) = 4 := by omega
      have f3 : ¬ (n : Int) = 16 := by omega
      clear h
      go_enter Tryd.func13, Tryd.ntmps13
      go_wp2
      go_ret
      exact ⟨rfl, Below.refl _ _⟩
theorem rev4_any (s N : ByteArray) (l : List Int) (w : World) (hl : l.length = 4) (hB : IsB l) (hs : bytesOf s = joinP l) (hN : bytesOf N = pre4 l 4 ++ bytesOf arpa4) (hG : GoodR w) :
    Calls Tryd.prog 73 #[.string s] w fun e w' => e = .returned (.tuple #[.string N, .nilIface]) ∧ Below w.heap.size w w' := by
  obtain ⟨⟨p4, p6, hZ⟩, hT⟩ := hG
  have e : strOfNums (pre4 l 4 ++ bytesOf arpa4) = N := by rw [← hN, strOfNums_bytesOf]
  match l, hl with
  | [a, b, c, d], _ =>
    have h := rev4 s a b c d p4 p6 w hB hs hZ hT
    rwa [e] at h
theorem GoodR.below {w w' : World} (h : GoodR w) (hb : Below w.heap.size w w') : GoodR w' := by
  obtain ⟨⟨p4, p6, hZ⟩, hT⟩ := h
  exact ⟨⟨p4, p6, ZZ.below hZ hb⟩, TabW.below hT hb⟩
theorem laws_FnReverse.calls (A0 : Option Addr) (c0 : Nat) (B : List Int) (A1 : Option Addr) (c1 : Nat) (nums : List Int) (w : World) (hG : GoodR w) (hr0 : Kd.C (Kd.int .u8) w A0 B.length B) (hc0 : B.length ≤ c0) (hr1 : Kd.C (Kd.int .i64) w A1 nums.length nums) (hBB : IsB B) :
    Calls Tryd.prog 13 #[.slice A0 B.length c0, .slice A1 nums.length c1] w fun e w' => e = .returned (.bool true) ∧ Below w.heap.size w w' := by
  by_cases hx : ((2147483647 < (B.length : Int) ∨ 2147483647 < (nums.length : Int)) ∨ (B.length ≠ 4 ∧ B.length ≠ 16))
  · exact law_other _ _ _ _ _ _ _ hx
  · have hm : (nums.length : Int) ≤ 2147483647 := by omega
    have hn : B.length = 4 ∨ B.length = 16 := by omega
    obtain ⟨ad, rfl, hr⟩ := Row8.of_C hr0 (by omega)
    obtain ⟨b, o, rfl⟩ : ∃ b o, ad = ⟨b, o, none⟩ := by
      have h := hr 0 (by omega)
      exact ⟨_, _, spot_none (by unfold Addr.add at h; rw [if_pos rfl] at h; exact h)⟩
    refine law_core B.length c0 nums.length c1 _ _ w hn hm ?_
    by_cases hq : B.length = 16 ∧ mapd B = false
    · obtain ⟨h16, hmf⟩ := hq
      rw [h16] at hc0 ⊢
      refine (ref16 B b o c0 c1 A1 nums w h16 hmf hBB hc0 hr hr1).mono ?_
      rintro e w' ⟨T, N, f, gs, rfl, h1, h2, h3, h4, h5, h6⟩
      refine ⟨T, N, rfl, ?_, h6⟩
      obtain ⟨⟨p4, p6, hZ⟩, hT⟩ := hG.below h6
      have hF : (fin6 f gs).length = 16 := by rw [h4]; exact h16
      have hFB : IsB (fin6 f gs) := by rw [h4]; exact hBB
      have e : strOfNums (pre6 B 16 ++ bytesOf arpa6) = N := by rw [← h5, strOfNums_bytesOf]
      have h := rev6 T B p4 p6 (num8 ((fin6 f gs).take 8)) (num8 ((fin6 f gs).drop 8)) w' hBB h16 ((be16 _ hF hFB).trans h4) hmf hZ (fun W hW => pa6_any T f gs p4 p6 W h1 h2 h3 (ZZ.below hZ hW))
      rwa [e] at h
    · obtain ⟨l, o2, cb2, hcase, hl, hlB⟩ : ∃ (l : List Int) (o2 cb2 : Nat), ((B.length = 4 ∧ l = B ∧ o2 = o ∧ cb2 = c0) ∨ (B.length = 16 ∧ mapd B = true ∧ l = B.drop 12 ∧ o2 = o + 12 ∧ cb2 = c0 - 12)) ∧ l.length = 4 ∧ IsB l := by
        rcases hn with h4 | h16
        · exact ⟨B, o, c0, .inl ⟨h4, rfl, rfl, rfl⟩, h4, hBB⟩
        · have hmt : mapd B = true := by
            cases h : mapd B with
            | true => rfl
            | false => exact absurd ⟨h16, h⟩ hq
          exact ⟨B.drop 12, o + 12, c0 - 12, .inr ⟨h16, hmt, rfl, rfl, rfl⟩, by rw [List.length_drop, h16], fun x hx => hBB x (List.mem_of_mem_drop hx)⟩
      refine (ref4 B l B.length b o o2 c0 cb2 c1 A1 nums w rfl hcase hBB hc0 hr).mono ?_
      rintro e w' ⟨T, N, rfl, h1, h2, h3⟩
      exact ⟨T, N, rfl, rev4_any T N l w' hl hlB h1 h2 (hG.below h3), h3⟩

end Go.Proofs.YtiilihafcdmccaaDoor.P
/- What the row of FnReverse lays, as the walk asks for it. -/
namespace Go.Proofs.YtiilihafcdmccaaDoor.P
open Go.RowKit Go.ChangeShapes Go.WideShapes Go.Deep
set_option linter.unusedVariables false
set_option linter.unusedSimpArgs false

theorem laid_at {P : Program} {w : World} : ∀ {l : List (String × DataW Unit)} {ps : List MemPlace}, DataW.LaidVars P w l ps → ∀ n d, (n, d) ∈ l →
    ∃ g t cs fuel p, P.globalNamed n = some g ∧ (P.globals[g]?).map (·.type) = some t ∧ w.var? P n = some cs ∧ DataW.trod (fun _ => ()) P w 0 (fun _ => true) false fuel t cs.toList = some (d, p) ∧ ∀ x ∈ p, x ∈ ps
  | [], _, _, _, _, hm => by cases hm
  | (n', d') :: r, ps, h, n, d, hm => by
    obtain ⟨g, t, cs, fuel, p, q, h1, h2, h3, h4, h5, rfl⟩ := h
    rcases List.mem_cons.1 hm with e | e
    · cases e
      exact ⟨g, t, cs, fuel, p, h1, h2, h3, h4, fun x hx => List.mem_append_left _ (List.mem_append_right _ hx)⟩
    · obtain ⟨g', t', cs', fuel', p', k1, k2, k3, k4, k5⟩ := laid_at h5 n d e
      exact ⟨g', t', cs', fuel', p', k1, k2, k3, k4, fun x hx => List.mem_append_right _ (k5 x hx)⟩
set_option maxRecDepth 100000 in
/-- A handle that is laid: the detail behind it. -/
theorem handle_at {w : World} {l : List (String × DataW Unit)} {n : String} {g : Nat} {b : Bool} (h : laidMet Tryd.prog l w) (hm : (n, (DataW.agg [.ptr (.agg [.lit (.bool b), .lit (.string [])])] : DataW Unit)) ∈ l)
    (hg : Tryd.prog.globalNamed n = some g) (ht : (Tryd.prog.globals[g]?).map (·.type) = some 150) :
    ∃ p : Addr, w.cell? ⟨g, 0, none⟩ = some (.pointer (some p)) ∧ w.cell? p = some (.bool b) ∧ w.cell? (p.add 1) = some (.string ByteArray.empty) ∧ ∃ c t, w.heap[p.block]? = some (.cells c t (0, 0)) := by
  obtain ⟨ps, hv, _, hfree⟩ := h
  obtain ⟨g', t', cs, fuel, p, h1, h2, h3, h4, h5⟩ := laid_at hv _ _ hm
  obtain rfl := Option.some.inj (hg.symm.trans h1)
  obtain rfl := Option.some.inj (ht.symm.trans h2)
  obtain ⟨y0, m, hx, hl, h6⟩ := trod_struct1 Tryd.underlying150 h4
  have hc1 : Tryd.prog.cellsOf 150 = 1 := by kernel_rfl
  have hc2 : Tryd.prog.cellsOf 148 = 1 := by kernel_rfl
  rw [hc1] at hl
  dsimp only [] at h6
  rw [hc2, List.drop_zero, List.take_of_length_le (by omega)] at h6
  obtain ⟨hx1, hx2⟩ := Prod.mk.inj hx
  have hy : y0.1 = .ptr (.agg [.lit (.bool b), .lit (.string [])]) := by injection hx1 with e; injection e with e _; exact e.symm
  rcases open_ptr_fields2 Tryd.underlying148 Tryd.underlying168 (by kernel_rfl) (by kernel_rfl) h6 with ⟨_, e⟩ | ⟨bk, o, n', v0, v1, z0, z1, hcs, _, e, c0, c1, t0, t1⟩
  · rw [e] at hy; cases hy
  · have hp : y0.2 = MemPlace.row ⟨bk, o, none⟩ 2 ++ (z0.2 ++ z1.2) := by rw [e]
    rw [e] at hy
    dsimp only [] at hy t0 t1
    obtain ⟨b', ev0, ez0⟩ := DataW.trod_bool Tryd.underlying4 t0
    obtain ⟨s, ev1, ez1, _⟩ := DataW.trod_string Tryd.underlying9 t1
    rw [ez0, ez1] at hy
    injection hy with hy
    injection hy with hy
    injection hy with hy1 hy
    injection hy1 with hy1
    injection hy1 with hy1
    injection hy with hy2 _
    injection hy2 with hy2
    injection hy2 with hy2
    subst hy1
    have hs : s = ByteArray.empty := by
      apply ByteArray.ext
      apply Array.ext'
      exact hy2
    subst hs
    obtain rfl : v0 = .bool b' := by simpa using ev0
    obtain rfl : v1 = .string ByteArray.empty := by simpa using ev1
    have h7 := World.var?_cell hg h3 0
    rw [Array.eq_one_of_toList hcs] at h7
    refine ⟨⟨bk, o, none⟩, by simpa using h7, c0, by rw [addr_add]; exact c1, ?_⟩
    have hmem : MemPlace.cell bk o ∈ ps := h5 _ (by
      rw [hx2, hp]
      refine List.mem_append_left _ ?_
      unfold MemPlace.row
      exact List.mem_map.2 ⟨0, by simp, rfl⟩)
    exact (hfree bk o hmem).1
set_option maxRecDepth 100000 in
/-- A handle that is laid and points nowhere. -/
theorem nil_at {w : World} {l : List (String × DataW Unit)} {n : String} {g : Nat} (h : laidMet Tryd.prog l w) (hm : (n, (DataW.agg [.nil] : DataW Unit)) ∈ l)
    (hg : Tryd.prog.globalNamed n = some g) (ht : (Tryd.prog.globals[g]?).map (·.type) = some 150) : w.cell? ⟨g, 0, none⟩ = some (.pointer none) := by
  obtain ⟨ps, hv, _, hfree⟩ := h
  obtain ⟨g', t', cs, fuel, p, h1, h2, h3, h4, h5⟩ := laid_at hv _ _ hm
  obtain rfl := Option.some.inj (hg.symm.trans h1)
  obtain rfl := Option.some.inj (ht.symm.trans h2)
  obtain ⟨y0, m, hx, hl, h6⟩ := trod_struct1 Tryd.underlying150 h4
  have hc1 : Tryd.prog.cellsOf 150 = 1 := by kernel_rfl
  have hc2 : Tryd.prog.cellsOf 148 = 1 := by kernel_rfl
  rw [hc1] at hl
  dsimp only [] at h6
  rw [hc2, List.drop_zero, List.take_of_length_le (by omega)] at h6
  obtain ⟨hx1, hx2⟩ := Prod.mk.inj hx
  have hy : y0.1 = .nil := by injection hx1 with e; injection e with e _; exact e.symm
  rcases open_ptr_fields2 Tryd.underlying148 Tryd.underlying168 (by kernel_rfl) (by kernel_rfl) h6 with ⟨hcs, _⟩ | ⟨bk, o, n', v0, v1, z0, z1, hcs, _, e, c0, c1, t0, t1⟩
  · have h7 := World.var?_cell hg h3 0
    rw [Array.eq_one_of_toList hcs] at h7
    simpa using h7
  · rw [e] at hy; cases hy
set_option maxRecDepth 100000 in
theorem tab_at {w : World} {l : List (String × DataW Unit)} (h : laidMet Tryd.prog l w) (hm : ("internal/strconv.uint64pow10", (Rows.laid_internal_strconv_uint64pow10 : DataW Unit)) ∈ l) : TabW w := by
  have e : (Rows.laid_internal_strconv_uint64pow10 : DataW Unit) = Lib.tabData .u64 Lib.pow10Tab := by kernel_rfl
  rw [e] at hm
  obtain ⟨g, t, cs, fuel, p, h1, h2, h3, h4⟩ := Lib.laidMet.reads h hm
  obtain rfl := Option.some.inj ((show Tryd.prog.globalNamed "internal/strconv.uint64pow10" = some 12 by kernel_rfl).symm.trans h1)
  obtain rfl := Option.some.inj ((show (Tryd.prog.globals[12]?).map (·.type) = some 198 by kernel_rfl).symm.trans h2)
  have ht : Lib.TabIs Tryd.prog w "internal/strconv.uint64pow10" .u64 Lib.pow10Tab := by
    unfold Lib.TabIs
    rw [h3, ← Lib.cells_of_tab Tryd.underlying198 Tryd.underlying145 (by kernel_rfl) (by kernel_rfl) h4]
  exact Lib.tabBelow_of_tabIs ht
set_option maxRecDepth 100000 in
theorem goodR_of {w : World} (h : laidMet Tryd.prog Rows.fnReverseRow.laid w) : GoodR w := by
  obtain ⟨p4, a1, a2, a3, a4⟩ := handle_at (n := "net/netip.z4") (g := 13) (b := false) h (by unfold Rows.fnReverseRow; repeat (first | exact List.Mem.head _ | apply List.Mem.tail)) (by kernel_rfl) (by kernel_rfl)
  obtain ⟨p6, b1, b2, b3, b4⟩ := handle_at (n := "net/netip.z6noz") (g := 14) (b := true) h (by unfold Rows.fnReverseRow; repeat (first | exact List.Mem.head _ | apply List.Mem.tail)) (by kernel_rfl) (by kernel_rfl)
  have c1 := nil_at (n := "net/netip.z0") (g := 6) h (by unfold Rows.fnReverseRow; repeat (first | exact List.Mem.head _ | apply List.Mem.tail)) (by kernel_rfl) (by kernel_rfl)
  refine ⟨⟨p4, p6, ⟨c1, a1, b1, a3, b3, ⟨_, a2⟩, ⟨_, b2⟩, a4, b4⟩⟩, tab_at h ?_⟩
  unfold Rows.fnReverseRow
  repeat (first | exact List.Mem.head _ | apply List.Mem.tail)

end Go.Proofs.YtiilihafcdmccaaDoor.P
