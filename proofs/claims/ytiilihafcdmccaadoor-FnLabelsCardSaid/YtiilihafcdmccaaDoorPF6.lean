-- Written by a program of this session (wip/tools/pprint.py) out of the translation: it goes by the kit's print and by the contracts of YtiilihafcdmccaaDoorHand. Not trusted: Lean checks it.
import Derived.Test.YtiilihafcdmccaaDoorP0
import Derived.Test.YtiilihafcdmccaaDoorPF17
import Derived.Test.YtiilihafcdmccaaDoorPF19
import Derived.Test.YtiilihafcdmccaaDoorPF20
import Derived.Test.YtiilihafcdmccaaDoorPF26
import Derived.Test.YtiilihafcdmccaaDoorPF27
import Derived.Test.YtiilihafcdmccaaDoorPF28
import Derived.Test.YtiilihafcdmccaaDoorPF29
import Derived.Test.YtiilihafcdmccaaDoorPF30
namespace Go.Proofs.YtiilihafcdmccaaDoor.P
open Go.RowKit Go.Proofs.YtiilihafcdmccaaDoorW.PrintWords Go.Proofs.YtiilihafcdmccaaDoorW.PrintLast Go.Proofs.YtiilihafcdmccaaDoorW.PrintMore
attribute [local go_sem] max2_int min2_int max_two min_two max_three min_three max_four min_four   -- for this text's walks alone
set_option linter.unusedVariables false
set_option linter.unusedSimpArgs false

/-! ### laws_FnLabels: function 6 -/
mutual
def laws_FnLabels.j0 : Nat → ByteArray → Bool → Option (Bool)
  | 0, _, _ => none
  | k + 1, x0, x28 => if x28 = true then (some true) else ((spec_ParseName.f k x0).bind fun bt192 => (if bt192.2.2 = true then (laws_FnLabels.j1 k x0 bt192.1 bt192.2.1 (x0.toList == ([46] : List UInt8))) else (laws_FnLabels.j1 k x0 bt192.1 bt192.2.1 true)))
def laws_FnLabels.j1 : Nat → ByteArray → List ByteArray → Bool → Bool → Option (Bool)
  | 0, _, _, _, _ => none
  | k + 1, x0, x3, x4, x40 => if x40 = true then (some true) else ((impl_Starts.f k x0).bind fun t197 => ((impl_SplitName.f k x0).bind fun t200 => ((impl_Labels.f k x0).bind fun t203 => (if t203 = (x3.length : Int) then (if (t197.length : Int) = (x3.length : Int) then (laws_FnLabels.j2 k x0 x3 x4 t197 t200 ((t200.length : Int) != (x3.length : Int))) else (laws_FnLabels.j2 k x0 x3 x4 t197 t200 true)) else (laws_FnLabels.j2 k x0 x3 x4 t197 t200 true)))))
def laws_FnLabels.j2 : Nat → ByteArray → List ByteArray → Bool → List Int → List ByteArray → Bool → Option (Bool)
  | 0, _, _, _, _, _, _ => none
  | k + 1, x0, x3, x4, x6, x7, x63 => if x63 = true then (some false) else (laws_FnLabels.l0 k x0 x3 x4 x6 x7 x6 (x6.length : Int) 0)
def laws_FnLabels.l0 : Nat → ByteArray → List ByteArray → Bool → List Int → List ByteArray → List Int → Int → Int → Option (Bool)
  | 0, _, _, _, _, _, _, _, _ => none
  | k + 1, x0, x3, x4, x6, x7, x64, x65, x66 => if x66 < x65 then (if 0 ≤ x66 then (if x66 < (x64.length : Int) then (if x4 = true then (laws_FnLabels.j4 k x0 x3 x4 x6 x7 x66 (rd x64 x66) (wrap64 ((x0.size : Int) - 1)) x64 x65 x66) else (laws_FnLabels.j4 k x0 x3 x4 x6 x7 x66 (rd x64 x66) (x0.size : Int) x64 x65 x66)) else (none)) else (none)) else (some true)
def laws_FnLabels.j4 : Nat → ByteArray → List ByteArray → Bool → List Int → List ByteArray → Int → Int → Int → List Int → Int → Int → Option (Bool)
  | 0, _, _, _, _, _, _, _, _, _, _, _ => none
  | k + 1, x0, x3, x4, x6, x7, x8, x9, x10, x64, x65, x66 => if (wrap64 (x8 + 1)) < (x6.length : Int) then (if 0 ≤ (wrap64 (x8 + 1)) then (laws_FnLabels.j5 k x0 x3 x4 x6 x7 x8 x9 (wrap64 ((rd x6 (wrap64 (x8 + 1))) - 1)) x64 x65 x66) else (none)) else (laws_FnLabels.j5 k x0 x3 x4 x6 x7 x8 x9 x10 x64 x65 x66)
def laws_FnLabels.j5 : Nat → ByteArray → List ByteArray → Bool → List Int → List ByteArray → Int → Int → Int → List Int → Int → Int → Option (Bool)
  | 0, _, _, _, _, _, _, _, _, _, _, _ => none
  | k + 1, x0, x3, x4, x6, x7, x8, x9, x10, x64, x65, x66 => if x9 < 0 then (laws_FnLabels.j6 k x0 x3 x4 x6 x7 x8 x9 x64 x65 x66 true) else (if x9 > x10 then (laws_FnLabels.j6 k x0 x3 x4 x6 x7 x8 x9 x64 x65 x66 true) else (if x10 > (x0.size : Int) then (laws_FnLabels.j6 k x0 x3 x4 x6 x7 x8 x9 x64 x65 x66 true) else (if 0 ≤ x9 then (if x9 ≤ x10 then (if x10 ≤ (x0.size : Int) then (if 0 ≤ x8 then (if x8 < (x7.length : Int) then (laws_FnLabels.j6 k x0 x3 x4 x6 x7 x8 x9 x64 x65 x66 ((x0.extract (x9 : Int).toNat (x10 : Int).toNat).toList != (rdOf ByteArray.empty x7 x8).toList)) else (none)) else (none)) else (none)) else (none)) else (none))))
def laws_FnLabels.j6 : Nat → ByteArray → List ByteArray → Bool → List Int → List ByteArray → Int → Int → List Int → Int → Int → Bool → Option (Bool)
  | 0, _, _, _, _, _, _, _, _, _, _, _ => none
  | k + 1, x0, x3, x4, x6, x7, x8, x9, x64, x65, x66, x110 => if x110 = true then (some false) else (if 0 ≤ x8 then (if x8 < (x7.length : Int) then ((spec_ParseName.f k (rdOf ByteArray.empty x7 x8)).bind fun bt208 => (if bt208.2.2 = true then (if (bt208.1.length : Int) = 1 then (if 0 < (bt208.1.length : Int) then (if x8 < (x3.length : Int) then (laws_FnLabels.j7 k x0 x3 x4 x6 x7 x8 x9 x64 x65 x66 ((rdOf ByteArray.empty bt208.1 0).toList != (rdOf ByteArray.empty x3 x8).toList)) else (none)) else (none)) else (laws_FnLabels.j7 k x0 x3 x4 x6 x7 x8 x9 x64 x65 x66 true)) else (laws_FnLabels.j7 k x0 x3 x4 x6 x7 x8 x9 x64 x65 x66 true))) else (none)) else (none))
def laws_FnLabels.j7 : Nat → ByteArray → List ByteArray → Bool → List Int → List ByteArray → Int → Int → List Int → Int → Int → Bool → Option (Bool)
  | 0, _, _, _, _, _, _, _, _, _, _, _ => none
  | k + 1, x0, x3, x4, x6, x7, x8, x9, x64, x65, x66, x136 => if x136 = true then (some false) else ((impl_Next.f k x0 x9).bind fun bt215 => (if (wrap64 (x8 + 1)) < (x6.length : Int) then (if bt215.2 = true then (laws_FnLabels.j8 k x0 x3 x4 x6 x7 x8 x9 x64 x65 x66 true) else (if 0 ≤ (wrap64 (x8 + 1)) then (if bt215.1 = (rd x6 (wrap64 (x8 + 1))) then (if (wrap64 (x8 + 1)) = (x6.length : Int) then (laws_FnLabels.j8 k x0 x3 x4 x6 x7 x8 x9 x64 x65 x66 (!bt215.2)) else (laws_FnLabels.j8 k x0 x3 x4 x6 x7 x8 x9 x64 x65 x66 false)) else (laws_FnLabels.j8 k x0 x3 x4 x6 x7 x8 x9 x64 x65 x66 true)) else (none))) else (if (wrap64 (x8 + 1)) = (x6.length : Int) then (laws_FnLabels.j8 k x0 x3 x4 x6 x7 x8 x9 x64 x65 x66 (!bt215.2)) else (laws_FnLabels.j8 k x0 x3 x4 x6 x7 x8 x9 x64 x65 x66 false))))
def laws_FnLabels.j8 : Nat → ByteArray → List ByteArray → Bool → List Int → List ByteArray → Int → Int → List Int → Int → Int → Bool → Option (Bool)
  | 0, _, _, _, _, _, _, _, _, _, _, _ => none
  | k + 1, x0, x3, x4, x6, x7, x8, x9, x64, x65, x66, x170 => if x170 = true then (some false) else ((impl_Prev.f k x0 (wrap64 ((x6.length : Int) - x8))).bind fun bt218 => (if bt218.1 = x9 then (if bt218.2 = true then (some false) else (laws_FnLabels.l0 k x0 x3 x4 x6 x7 x64 x65 (wrap64 (x66 + 1)))) else (some false)))
end
def laws_FnLabels.f (k : Nat) (a0 : ByteArray) : Option (Bool) := if (a0.size : Int) > 2147483647 then (some true) else ((laws_few.f a0).bind fun t190 => (if t190 = true then ((laws_ascii.f k a0).bind fun t191 => (laws_FnLabels.j0 k a0 (!t191))) else (laws_FnLabels.j0 k a0 true)))
theorem laws_FnLabels.mono_l : ∀ k, (∀ y0 y1, LeO (laws_FnLabels.j0 k y0 y1) (laws_FnLabels.j0 (k + 1) y0 y1)) ∧ (∀ y0 y1 y2 y3, LeO (laws_FnLabels.j1 k y0 y1 y2 y3) (laws_FnLabels.j1 (k + 1) y0 y1 y2 y3)) ∧ (∀ y0 y1 y2 y3 y4 y5, LeO (laws_FnLabels.j2 k y0 y1 y2 y3 y4 y5) (laws_FnLabels.j2 (k + 1) y0 y1 y2 y3 y4 y5)) ∧ (∀ y0 y1 y2 y3 y4 y5 y6 y7, LeO (laws_FnLabels.l0 k y0 y1 y2 y3 y4 y5 y6 y7) (laws_FnLabels.l0 (k + 1) y0 y1 y2 y3 y4 y5 y6 y7)) ∧ (∀ y0 y1 y2 y3 y4 y5 y6 y7 y8 y9 y10, LeO (laws_FnLabels.j4 k y0 y1 y2 y3 y4 y5 y6 y7 y8 y9 y10) (laws_FnLabels.j4 (k + 1) y0 y1 y2 y3 y4 y5 y6 y7 y8 y9 y10)) ∧ (∀ y0 y1 y2 y3 y4 y5 y6 y7 y8 y9 y10, LeO (laws_FnLabels.j5 k y0 y1 y2 y3 y4 y5 y6 y7 y8 y9 y10) (laws_FnLabels.j5 (k + 1) y0 y1 y2 y3 y4 y5 y6 y7 y8 y9 y10)) ∧ (∀ y0 y1 y2 y3 y4 y5 y6 y7 y8 y9 y10, LeO (laws_FnLabels.j6 k y0 y1 y2 y3 y4 y5 y6 y7 y8 y9 y10) (laws_FnLabels.j6 (k + 1) y0 y1 y2 y3 y4 y5 y6 y7 y8 y9 y10)) ∧ (∀ y0 y1 y2 y3 y4 y5 y6 y7 y8 y9 y10, LeO (laws_FnLabels.j7 k y0 y1 y2 y3 y4 y5 y6 y7 y8 y9 y10) (laws_FnLabels.j7 (k + 1) y0 y1 y2 y3 y4 y5 y6 y7 y8 y9 y10)) ∧ (∀ y0 y1 y2 y3 y4 y5 y6 y7 y8 y9 y10, LeO (laws_FnLabels.j8 k y0 y1 y2 y3 y4 y5 y6 y7 y8 y9 y10) (laws_FnLabels.j8 (k + 1) y0 y1 y2 y3 y4 y5 y6 y7 y8 y9 y10))
  | 0 => ⟨fun _ _ r h => by simp [laws_FnLabels.j0] at h, fun _ _ _ _ r h => by simp [laws_FnLabels.j1] at h, fun _ _ _ _ _ _ r h => by simp [laws_FnLabels.j2] at h, fun _ _ _ _ _ _ _ _ r h => by simp [laws_FnLabels.l0] at h, fun _ _ _ _ _ _ _ _ _ _ _ r h => by simp [laws_FnLabels.j4] at h, fun _ _ _ _ _ _ _ _ _ _ _ r h => by simp [laws_FnLabels.j5] at h, fun _ _ _ _ _ _ _ _ _ _ _ r h => by simp [laws_FnLabels.j6] at h, fun _ _ _ _ _ _ _ _ _ _ _ r h => by simp [laws_FnLabels.j7] at h, fun _ _ _ _ _ _ _ _ _ _ _ r h => by simp [laws_FnLabels.j8] at h⟩
  | k + 1 => by
    obtain ⟨ih0, ih1, ih2, ih3, ih4, ih5, ih6, ih7, ih8⟩ := laws_FnLabels.mono_l k
    refine ⟨?_, ?_, ?_, ?_, ?_, ?_, ?_, ?_, ?_⟩
    · intro y0 y1
      unfold laws_FnLabels.j0
      repeat' first
      | (with_reducible exact ih0 _ _)
      | (with_reducible exact ih1 _ _ _ _)
      | (with_reducible exact ih2 _ _ _ _ _ _)
      | (with_reducible exact ih3 _ _ _ _ _ _ _ _)
      | (with_reducible exact ih4 _ _ _ _ _ _ _ _ _ _ _)
      | (with_reducible exact ih5 _ _ _ _ _ _ _ _ _ _ _)
      | (with_reducible exact ih6 _ _ _ _ _ _ _ _ _ _ _)
      | (with_reducible exact ih7 _ _ _ _ _ _ _ _ _ _ _)
      | (with_reducible exact ih8 _ _ _ _ _ _ _ _ _ _ _)
      | (with_reducible exact impl_Labels.mono _ _)
      | (with_reducible exact impl_Next.mono _ _ _)
      | (with_reducible exact impl_Prev.mono _ _ _)
      | (with_reducible exact impl_SplitName.mono _ _)
      | (with_reducible exact impl_Starts.mono _ _)
      | (with_reducible exact laws_ascii.mono _ _)
      | (with_reducible exact spec_ParseName.mono _ _)
      | (with_reducible exact LeO.refl _)
      | (with_reducible exact LeO.none _)
      | (with_reducible refine LeO.ite ?_ ?_)
      | (with_reducible refine LeO.bind ?_ (fun _ => ?_))
      | exact ih0 _ _
      | exact ih1 _ _ _ _
      | exact ih2 _ _ _ _ _ _
      | exact ih3 _ _ _ _ _ _ _ _
      | exact ih4 _ _ _ _ _ _ _ _ _ _ _
      | exact ih5 _ _ _ _ _ _ _ _ _ _ _
      | exact ih6 _ _ _ _ _ _ _ _ _ _ _
      | exact ih7 _ _ _ _ _ _ _ _ _ _ _
      | exact ih8 _ _ _ _ _ _ _ _ _ _ _
      | exact impl_Labels.mono _ _
      | exact impl_Next.mono _ _ _
      | exact impl_Prev.mono _ _ _
      | exact impl_SplitName.mono _ _
      | exact impl_Starts.mono _ _
      | exact laws_ascii.mono _ _
      | exact spec_ParseName.mono _ _
      | exact LeO.none _
      | refine LeO.ite ?_ ?_
      | refine LeO.bind ?_ (fun _ => ?_)
    · intro y0 y1 y2 y3
      unfold laws_FnLabels.j1
      repeat' first
      | (with_reducible exact ih0 _ _)
      | (with_reducible exact ih1 _ _ _ _)
      | (with_reducible exact ih2 _ _ _ _ _ _)
      | (with_reducible exact ih3 _ _ _ _ _ _ _ _)
      | (with_reducible exact ih4 _ _ _ _ _ _ _ _ _ _ _)
      | (with_reducible exact ih5 _ _ _ _ _ _ _ _ _ _ _)
      | (with_reducible exact ih6 _ _ _ _ _ _ _ _ _ _ _)
      | (with_reducible exact ih7 _ _ _ _ _ _ _ _ _ _ _)
      | (with_reducible exact ih8 _ _ _ _ _ _ _ _ _ _ _)
      | (with_reducible exact impl_Labels.mono _ _)
      | (with_reducible exact impl_Next.mono _ _ _)
      | (with_reducible exact impl_Prev.mono _ _ _)
      | (with_reducible exact impl_SplitName.mono _ _)
      | (with_reducible exact impl_Starts.mono _ _)
      | (with_reducible exact laws_ascii.mono _ _)
      | (with_reducible exact spec_ParseName.mono _ _)
      | (with_reducible exact LeO.refl _)
      | (with_reducible exact LeO.none _)
      | (with_reducible refine LeO.ite ?_ ?_)
      | (with_reducible refine LeO.bind ?_ (fun _ => ?_))
      | exact ih0 _ _
      | exact ih1 _ _ _ _
      | exact ih2 _ _ _ _ _ _
      | exact ih3 _ _ _ _ _ _ _ _
      | exact ih4 _ _ _ _ _ _ _ _ _ _ _
      | exact ih5 _ _ _ _ _ _ _ _ _ _ _
      | exact ih6 _ _ _ _ _ _ _ _ _ _ _
      | exact ih7 _ _ _ _ _ _ _ _ _ _ _
      | exact ih8 _ _ _ _ _ _ _ _ _ _ _
      | exact impl_Labels.mono _ _
      | exact impl_Next.mono _ _ _
      | exact impl_Prev.mono _ _ _
      | exact impl_SplitName.mono _ _
      | exact impl_Starts.mono _ _
      | exact laws_ascii.mono _ _
      | exact spec_ParseName.mono _ _
      | exact LeO.none _
      | refine LeO.ite ?_ ?_
      | refine LeO.bind ?_ (fun _ => ?_)
    · intro y0 y1 y2 y3 y4 y5
      unfold laws_FnLabels.j2
      repeat' first
      | (with_reducible exact ih0 _ _)
      | (with_reducible exact ih1 _ _ _ _)
      | (with_reducible exact ih2 _ _ _ _ _ _)
      | (with_reducible exact ih3 _ _ _ _ _ _ _ _)
      | (with_reducible exact ih4 _ _ _ _ _ _ _ _ _ _ _)
      | (with_reducible exact ih5 _ _ _ _ _ _ _ _ _ _ _)
      | (with_reducible exact ih6 _ _ _ _ _ _ _ _ _ _ _)
      | (with_reducible exact ih7 _ _ _ _ _ _ _ _ _ _ _)
      | (with_reducible exact ih8 _ _ _ _ _ _ _ _ _ _ _)
      | (with_reducible exact impl_Labels.mono _ _)
      | (with_reducible exact impl_Next.mono _ _ _)
      | (with_reducible exact impl_Prev.mono _ _ _)
      | (with_reducible exact impl_SplitName.mono _ _)
      | (with_reducible exact impl_Starts.mono _ _)
      | (with_reducible exact laws_ascii.mono _ _)
      | (with_reducible exact spec_ParseName.mono _ _)
      | (with_reducible exact LeO.refl _)
      | (with_reducible exact LeO.none _)
      | (with_reducible refine LeO.ite ?_ ?_)
      | (with_reducible refine LeO.bind ?_ (fun _ => ?_))
      | exact ih0 _ _
      | exact ih1 _ _ _ _
      | exact ih2 _ _ _ _ _ _
      | exact ih3 _ _ _ _ _ _ _ _
      | exact ih4 _ _ _ _ _ _ _ _ _ _ _
      | exact ih5 _ _ _ _ _ _ _ _ _ _ _
      | exact ih6 _ _ _ _ _ _ _ _ _ _ _
      | exact ih7 _ _ _ _ _ _ _ _ _ _ _
      | exact ih8 _ _ _ _ _ _ _ _ _ _ _
      | exact impl_Labels.mono _ _
      | exact impl_Next.mono _ _ _
      | exact impl_Prev.mono _ _ _
      | exact impl_SplitName.mono _ _
      | exact impl_Starts.mono _ _
      | exact laws_ascii.mono _ _
      | exact spec_ParseName.mono _ _
      | exact LeO.none _
      | refine LeO.ite ?_ ?_
      | refine LeO.bind ?_ (fun _ => ?_)
    · intro y0 y1 y2 y3 y4 y5 y6 y7
      unfold laws_FnLabels.l0
      repeat' first
      | (with_reducible exact ih0 _ _)
      | (with_reducible exact ih1 _ _ _ _)
      | (with_reducible exact ih2 _ _ _ _ _ _)
      | (with_reducible exact ih3 _ _ _ _ _ _ _ _)
      | (with_reducible exact ih4 _ _ _ _ _ _ _ _ _ _ _)
      | (with_reducible exact ih5 _ _ _ _ _ _ _ _ _ _ _)
      | (with_reducible exact ih6 _ _ _ _ _ _ _ _ _ _ _)
      | (with_reducible exact ih7 _ _ _ _ _ _ _ _ _ _ _)
      | (with_reducible exact ih8 _ _ _ _ _ _ _ _ _ _ _)
      | (with_reducible exact impl_Labels.mono _ _)
      | (with_reducible exact impl_Next.mono _ _ _)
      | (with_reducible exact impl_Prev.mono _ _ _)
      | (with_reducible exact impl_SplitName.mono _ _)
      | (with_reducible exact impl_Starts.mono _ _)
      | (with_reducible exact laws_ascii.mono _ _)
      | (with_reducible exact spec_ParseName.mono _ _)
      | (with_reducible exact LeO.refl _)
      | (with_reducible exact LeO.none _)
      | (with_reducible refine LeO.ite ?_ ?_)
      | (with_reducible refine LeO.bind ?_ (fun _ => ?_))
      | exact ih0 _ _
      | exact ih1 _ _ _ _
      | exact ih2 _ _ _ _ _ _
      | exact ih3 _ _ _ _ _ _ _ _
      | exact ih4 _ _ _ _ _ _ _ _ _ _ _
      | exact ih5 _ _ _ _ _ _ _ _ _ _ _
      | exact ih6 _ _ _ _ _ _ _ _ _ _ _
      | exact ih7 _ _ _ _ _ _ _ _ _ _ _
      | exact ih8 _ _ _ _ _ _ _ _ _ _ _
      | exact impl_Labels.mono _ _
      | exact impl_Next.mono _ _ _
      | exact impl_Prev.mono _ _ _
      | exact impl_SplitName.mono _ _
      | exact impl_Starts.mono _ _
      | exact laws_ascii.mono _ _
      | exact spec_ParseName.mono _ _
      | exact LeO.none _
      | refine LeO.ite ?_ ?_
      | refine LeO.bind ?_ (fun _ => ?_)
    · intro y0 y1 y2 y3 y4 y5 y6 y7 y8 y9 y10
      unfold laws_FnLabels.j4
      repeat' first
      | (with_reducible exact ih0 _ _)
      | (with_reducible exact ih1 _ _ _ _)
      | (with_reducible exact ih2 _ _ _ _ _ _)
      | (with_reducible exact ih3 _ _ _ _ _ _ _ _)
      | (with_reducible exact ih4 _ _ _ _ _ _ _ _ _ _ _)
      | (with_reducible exact ih5 _ _ _ _ _ _ _ _ _ _ _)
      | (with_reducible exact ih6 _ _ _ _ _ _ _ _ _ _ _)
      | (with_reducible exact ih7 _ _ _ _ _ _ _ _ _ _ _)
      | (with_reducible exact ih8 _ _ _ _ _ _ _ _ _ _ _)
      | (with_reducible exact impl_Labels.mono _ _)
      | (with_reducible exact impl_Next.mono _ _ _)
      | (with_reducible exact impl_Prev.mono _ _ _)
      | (with_reducible exact impl_SplitName.mono _ _)
      | (with_reducible exact impl_Starts.mono _ _)
      | (with_reducible exact laws_ascii.mono _ _)
      | (with_reducible exact spec_ParseName.mono _ _)
      | (with_reducible exact LeO.refl _)
      | (with_reducible exact LeO.none _)
      | (with_reducible refine LeO.ite ?_ ?_)
      | (with_reducible refine LeO.bind ?_ (fun _ => ?_))
      | exact ih0 _ _
      | exact ih1 _ _ _ _
      | exact ih2 _ _ _ _ _ _
      | exact ih3 _ _ _ _ _ _ _ _
      | exact ih4 _ _ _ _ _ _ _ _ _ _ _
      | exact ih5 _ _ _ _ _ _ _ _ _ _ _
      | exact ih6 _ _ _ _ _ _ _ _ _ _ _
      | exact ih7 _ _ _ _ _ _ _ _ _ _ _
      | exact ih8 _ _ _ _ _ _ _ _ _ _ _
      | exact impl_Labels.mono _ _
      | exact impl_Next.mono _ _ _
      | exact impl_Prev.mono _ _ _
      | exact impl_SplitName.mono _ _
      | exact impl_Starts.mono _ _
      | exact laws_ascii.mono _ _
      | exact spec_ParseName.mono _ _
      | exact LeO.none _
      | refine LeO.ite ?_ ?_
      | refine LeO.bind ?_ (fun _ => ?_)
    · intro y0 y1 y2 y3 y4 y5 y6 y7 y8 y9 y10
      unfold laws_FnLabels.j5
      repeat' first
      | (with_reducible exact ih0 _ _)
      | (with_reducible exact ih1 _ _ _ _)
      | (with_reducible exact ih2 _ _ _ _ _ _)
      | (with_reducible exact ih3 _ _ _ _ _ _ _ _)
      | (with_reducible exact ih4 _ _ _ _ _ _ _ _ _ _ _)
      | (with_reducible exact ih5 _ _ _ _ _ _ _ _ _ _ _)
      | (with_reducible exact ih6 _ _ _ _ _ _ _ _ _ _ _)
      | (with_reducible exact ih7 _ _ _ _ _ _ _ _ _ _ _)
      | (with_reducible exact ih8 _ _ _ _ _ _ _ _ _ _ _)
      | (with_reducible exact impl_Labels.mono _ _)
      | (with_reducible exact impl_Next.mono _ _ _)
      | (with_reducible exact impl_Prev.mono _ _ _)
      | (with_reducible exact impl_SplitName.mono _ _)
      | (with_reducible exact impl_Starts.mono _ _)
      | (with_reducible exact laws_ascii.mono _ _)
      | (with_reducible exact spec_ParseName.mono _ _)
      | (with_reducible exact LeO.refl _)
      | (with_reducible exact LeO.none _)
      | (with_reducible refine LeO.ite ?_ ?_)
      | (with_reducible refine LeO.bind ?_ (fun _ => ?_))
      | exact ih0 _ _
      | exact ih1 _ _ _ _
      | exact ih2 _ _ _ _ _ _
      | exact ih3 _ _ _ _ _ _ _ _
      | exact ih4 _ _ _ _ _ _ _ _ _ _ _
      | exact ih5 _ _ _ _ _ _ _ _ _ _ _
      | exact ih6 _ _ _ _ _ _ _ _ _ _ _
      | exact ih7 _ _ _ _ _ _ _ _ _ _ _
      | exact ih8 _ _ _ _ _ _ _ _ _ _ _
      | exact impl_Labels.mono _ _
      | exact impl_Next.mono _ _ _
      | exact impl_Prev.mono _ _ _
      | exact impl_SplitName.mono _ _
      | exact impl_Starts.mono _ _
      | exact laws_ascii.mono _ _
      | exact spec_ParseName.mono _ _
      | exact LeO.none _
      | refine LeO.ite ?_ ?_
      | refine LeO.bind ?_ (fun _ => ?_)
    · intro y0 y1 y2 y3 y4 y5 y6 y7 y8 y9 y10
      unfold laws_FnLabels.j6
      repeat' first
      | (with_reducible exact ih0 _ _)
      | (with_reducible exact ih1 _ _ _ _)
      | (with_reducible exact ih2 _ _ _ _ _ _)
      | (with_reducible exact ih3 _ _ _ _ _ _ _ _)
      | (with_reducible exact ih4 _ _ _ _ _ _ _ _ _ _ _)
      | (with_reducible exact ih5 _ _ _ _ _ _ _ _ _ _ _)
      | (with_reducible exact ih6 _ _ _ _ _ _ _ _ _ _ _)
      | (with_reducible exact ih7 _ _ _ _ _ _ _ _ _ _ _)
      | (with_reducible exact ih8 _ _ _ _ _ _ _ _ _ _ _)
      | (with_reducible exact impl_Labels.mono _ _)
      | (with_reducible exact impl_Next.mono _ _ _)
      | (with_reducible exact impl_Prev.mono _ _ _)
      | (with_reducible exact impl_SplitName.mono _ _)
      | (with_reducible exact impl_Starts.mono _ _)
      | (with_reducible exact laws_ascii.mono _ _)
      | (with_reducible exact spec_ParseName.mono _ _)
      | (with_reducible exact LeO.refl _)
      | (with_reducible exact LeO.none _)
      | (with_reducible refine LeO.ite ?_ ?_)
      | (with_reducible refine LeO.bind ?_ (fun _ => ?_))
      | exact ih0 _ _
      | exact ih1 _ _ _ _
      | exact ih2 _ _ _ _ _ _
      | exact ih3 _ _ _ _ _ _ _ _
      | exact ih4 _ _ _ _ _ _ _ _ _ _ _
      | exact ih5 _ _ _ _ _ _ _ _ _ _ _
      | exact ih6 _ _ _ _ _ _ _ _ _ _ _
      | exact ih7 _ _ _ _ _ _ _ _ _ _ _
      | exact ih8 _ _ _ _ _ _ _ _ _ _ _
      | exact impl_Labels.mono _ _
      | exact impl_Next.mono _ _ _
      | exact impl_Prev.mono _ _ _
      | exact impl_SplitName.mono _ _
      | exact impl_Starts.mono _ _
      | exact laws_ascii.mono _ _
      | exact spec_ParseName.mono _ _
      | exact LeO.none _
      | refine LeO.ite ?_ ?_
      | refine LeO.bind ?_ (fun _ => ?_)
    · intro y0 y1 y2 y3 y4 y5 y6 y7 y8 y9 y10
      unfold laws_FnLabels.j7
      repeat' first
      | (with_reducible exact ih0 _ _)
      | (with_reducible exact ih1 _ _ _ _)
      | (with_reducible exact ih2 _ _ _ _ _ _)
      | (with_reducible exact ih3 _ _ _ _ _ _ _ _)
      | (with_reducible exact ih4 _ _ _ _ _ _ _ _ _ _ _)
      | (with_reducible exact ih5 _ _ _ _ _ _ _ _ _ _ _)
      | (with_reducible exact ih6 _ _ _ _ _ _ _ _ _ _ _)
      | (with_reducible exact ih7 _ _ _ _ _ _ _ _ _ _ _)
      | (with_reducible exact ih8 _ _ _ _ _ _ _ _ _ _ _)
      | (with_reducible exact impl_Labels.mono _ _)
      | (with_reducible exact impl_Next.mono _ _ _)
      | (with_reducible exact impl_Prev.mono _ _ _)
      | (with_reducible exact impl_SplitName.mono _ _)
      | (with_reducible exact impl_Starts.mono _ _)
      | (with_reducible exact laws_ascii.mono _ _)
      | (with_reducible exact spec_ParseName.mono _ _)
      | (with_reducible exact LeO.refl _)
      | (with_reducible exact LeO.none _)
      | (with_reducible refine LeO.ite ?_ ?_)
      | (with_reducible refine LeO.bind ?_ (fun _ => ?_))
      | exact ih0 _ _
      | exact ih1 _ _ _ _
      | exact ih2 _ _ _ _ _ _
      | exact ih3 _ _ _ _ _ _ _ _
      | exact ih4 _ _ _ _ _ _ _ _ _ _ _
      | exact ih5 _ _ _ _ _ _ _ _ _ _ _
      | exact ih6 _ _ _ _ _ _ _ _ _ _ _
      | exact ih7 _ _ _ _ _ _ _ _ _ _ _
      | exact ih8 _ _ _ _ _ _ _ _ _ _ _
      | exact impl_Labels.mono _ _
      | exact impl_Next.mono _ _ _
      | exact impl_Prev.mono _ _ _
      | exact impl_SplitName.mono _ _
      | exact impl_Starts.mono _ _
      | exact laws_ascii.mono _ _
      | exact spec_ParseName.mono _ _
      | exact LeO.none _
      | refine LeO.ite ?_ ?_
      | refine LeO.bind ?_ (fun _ => ?_)
    · intro y0 y1 y2 y3 y4 y5 y6 y7 y8 y9 y10
      unfold laws_FnLabels.j8
      repeat' first
      | (with_reducible exact ih0 _ _)
      | (with_reducible exact ih1 _ _ _ _)
      | (with_reducible exact ih2 _ _ _ _ _ _)
      | (with_reducible exact ih3 _ _ _ _ _ _ _ _)
      | (with_reducible exact ih4 _ _ _ _ _ _ _ _ _ _ _)
      | (with_reducible exact ih5 _ _ _ _ _ _ _ _ _ _ _)
      | (with_reducible exact ih6 _ _ _ _ _ _ _ _ _ _ _)
      | (with_reducible exact ih7 _ _ _ _ _ _ _ _ _ _ _)
      | (with_reducible exact ih8 _ _ _ _ _ _ _ _ _ _ _)
      | (with_reducible exact impl_Labels.mono _ _)
      | (with_reducible exact impl_Next.mono _ _ _)
      | (with_reducible exact impl_Prev.mono _ _ _)
      | (with_reducible exact impl_SplitName.mono _ _)
      | (with_reducible exact impl_Starts.mono _ _)
      | (with_reducible exact laws_ascii.mono _ _)
      | (with_reducible exact spec_ParseName.mono _ _)
      | (with_reducible exact LeO.refl _)
      | (with_reducible exact LeO.none _)
      | (with_reducible refine LeO.ite ?_ ?_)
      | (with_reducible refine LeO.bind ?_ (fun _ => ?_))
      | exact ih0 _ _
      | exact ih1 _ _ _ _
      | exact ih2 _ _ _ _ _ _
      | exact ih3 _ _ _ _ _ _ _ _
      | exact ih4 _ _ _ _ _ _ _ _ _ _ _
      | exact ih5 _ _ _ _ _ _ _ _ _ _ _
      | exact ih6 _ _ _ _ _ _ _ _ _ _ _
      | exact ih7 _ _ _ _ _ _ _ _ _ _ _
      | exact ih8 _ _ _ _ _ _ _ _ _ _ _
      | exact impl_Labels.mono _ _
      | exact impl_Next.mono _ _ _
      | exact impl_Prev.mono _ _ _
      | exact impl_SplitName.mono _ _
      | exact impl_Starts.mono _ _
      | exact laws_ascii.mono _ _
      | exact spec_ParseName.mono _ _
      | exact LeO.none _
      | refine LeO.ite ?_ ?_
      | refine LeO.bind ?_ (fun _ => ?_)
theorem laws_FnLabels.mono : ∀ a0 k, LeO (laws_FnLabels.f k a0) (laws_FnLabels.f (k + 1) a0) := by
  intro a0 k
  obtain ⟨ih0, ih1, ih2, ih3, ih4, ih5, ih6, ih7, ih8⟩ := laws_FnLabels.mono_l k
  unfold laws_FnLabels.f
  repeat' first
      | (with_reducible exact ih0 _ _)
      | (with_reducible exact ih1 _ _ _ _)
      | (with_reducible exact ih2 _ _ _ _ _ _)
      | (with_reducible exact ih3 _ _ _ _ _ _ _ _)
      | (with_reducible exact ih4 _ _ _ _ _ _ _ _ _ _ _)
      | (with_reducible exact ih5 _ _ _ _ _ _ _ _ _ _ _)
      | (with_reducible exact ih6 _ _ _ _ _ _ _ _ _ _ _)
      | (with_reducible exact ih7 _ _ _ _ _ _ _ _ _ _ _)
      | (with_reducible exact ih8 _ _ _ _ _ _ _ _ _ _ _)
      | (with_reducible exact impl_Labels.mono _ _)
      | (with_reducible exact impl_Next.mono _ _ _)
      | (with_reducible exact impl_Prev.mono _ _ _)
      | (with_reducible exact impl_SplitName.mono _ _)
      | (with_reducible exact impl_Starts.mono _ _)
      | (with_reducible exact laws_ascii.mono _ _)
      | (with_reducible exact spec_ParseName.mono _ _)
      | (with_reducible exact LeO.refl _)
      | (with_reducible exact LeO.none _)
      | (with_reducible refine LeO.ite ?_ ?_)
      | (with_reducible refine LeO.bind ?_ (fun _ => ?_))
      | exact ih0 _ _
      | exact ih1 _ _ _ _
      | exact ih2 _ _ _ _ _ _
      | exact ih3 _ _ _ _ _ _ _ _
      | exact ih4 _ _ _ _ _ _ _ _ _ _ _
      | exact ih5 _ _ _ _ _ _ _ _ _ _ _
      | exact ih6 _ _ _ _ _ _ _ _ _ _ _
      | exact ih7 _ _ _ _ _ _ _ _ _ _ _
      | exact ih8 _ _ _ _ _ _ _ _ _ _ _
      | exact impl_Labels.mono _ _
      | exact impl_Next.mono _ _ _
      | exact impl_Prev.mono _ _ _
      | exact impl_SplitName.mono _ _
      | exact impl_Starts.mono _ _
      | exact laws_ascii.mono _ _
      | exact spec_ParseName.mono _ _
      | exact LeO.none _
      | refine LeO.ite ?_ ?_
      | refine LeO.bind ?_ (fun _ => ?_)
set_option maxHeartbeats 8000000 in
set_option maxRecDepth 100000 in
theorem laws_FnLabels.calls (k : Nat) (a0 : ByteArray) (r : Bool) (w : World) (h : laws_FnLabels.f k a0 = some r) :
    Calls Tryd.prog 6 #[.string a0] w fun e w' => e = .returned (.bool r) ∧ Below w.heap.size w w' := by
  have HB := Aside0.mk (Below.refl w.heap.size w)
  have H : (if (a0.size : Int) > 2147483647 then (some true) else ((laws_few.f a0).bind fun t190 => (if t190 = true then ((laws_ascii.f k a0).bind fun t191 => (laws_FnLabels.j0 k a0 (!t191))) else (laws_FnLabels.j0 k a0 true)))) = some r := h
  clear h
  by_cases c2 : (a0.size : Int) > 2147483647
  · rw [if_pos c2] at H
    have c2b0 : decide (2147483647 < (a0.size : Int)) = true := decide_eq_true c2
    have c2b1 : decide (2147483647 < a0.size) = true := decide_eq_true (by omega)
    clear c2
    obtain rfl := Option.some.inj H
    go_enter Tryd.func6, Tryd.ntmps6
    go_wp2
    repeat (go_quiet (fail); try go_wp2)
    go_ret
    exact ⟨by first | rfl | (simp [errW_none, errW_some] <;> rfl) | (simp [*, errW_none, errW_some] <;> rfl), by repeat (first | (with_reducible first | exact HB.out | apply below_alloc | apply pw_below_drewN | apply below_drew1) | exact HB.out)⟩
  · rw [if_neg c2] at H
    have c2b0 : decide (2147483647 < (a0.size : Int)) = false := decide_eq_false c2
    have c2b1 : decide (2147483647 < a0.size) = false := decide_eq_false (by omega)
    clear c2
    have HC3 := Aside0.mk H
    clear H
    go_enter Tryd.func6, Tryd.ntmps6
    go_upto_region 3 with (fail)
    repeat (go_quiet (fail); go_upto_region 3 with (fail))
    go_cut [28] (fun v28 wc => ∃ (kq : Nat) (x28_2 : Bool), v28 = .bool x28_2 ∧ Aside0 (laws_FnLabels.j0 kq a0 x28_2 = some r) ∧ Aside0 (kq ≤ k) ∧ Aside0 (Below w.heap.size w wc))
    case first => as_aux_lemma =>
      have H := HC3.out
      clear HC3
      replace H := Option.bind_eq_some_iff.mp H
      obtain ⟨t190, A40, H⟩ := H
      replace H : (if t190 = true then ((laws_ascii.f k a0).bind fun t191 => (laws_FnLabels.j0 k a0 (!t191))) else (laws_FnLabels.j0 k a0 true)) = some r := H
      have A4 := Aside0.mk A40
      clear A40
      by_cases c5 : t190 = true
      · subst c5
        have H1 : ((laws_ascii.f k a0).bind fun t191 => (laws_FnLabels.j0 k a0 (!t191))) = some r := by rw [if_pos rfl] at H; exact H
        clear H
        have H := H1
        clear H1
        replace H := Option.bind_eq_some_iff.mp H
        obtain ⟨t191, A60, H⟩ := H
        replace H : (laws_FnLabels.j0 k a0 (!t191)) = some r := H
        have A6 := Aside0.mk A60
        clear A60
        have H' := Aside0.mk H
        clear H
        go_wp2_with (first | (go_at_call 19; (with_reducible refine (laws_few.calls a0 true _ A4.out).mono ?_); rintro e w' ⟨rfl, ⟨nd, rfl⟩⟩; (try first | exact ⟨rfl, _, World.drewN_drewN _ _ _⟩ | exact ⟨rfl, _, Eq.trans (World.drewN_drewN _ _ _) (congrArg (World.drewN _) (Nat.add_assoc _ _ _))⟩)) | (go_at_call 20; (with_reducible refine (laws_ascii.calls k a0 t191 _ A6.out).mono ?_); rintro e w' ⟨rfl, ⟨nd, rfl⟩⟩; (try first | exact ⟨rfl, _, World.drewN_drewN _ _ _⟩ | exact ⟨rfl, _, Eq.trans (World.drewN_drewN _ _ _) (congrArg (World.drewN _) (Nat.add_assoc _ _ _))⟩)))
        repeat (go_quiet (first | (go_at_call 19; (with_reducible refine (laws_few.calls a0 true _ A4.out).mono ?_); rintro e w' ⟨rfl, ⟨nd, rfl⟩⟩; (try first | exact ⟨rfl, _, World.drewN_drewN _ _ _⟩ | exact ⟨rfl, _, Eq.trans (World.drewN_drewN _ _ _) (congrArg (World.drewN _) (Nat.add_assoc _ _ _))⟩)) | (go_at_call 20; (with_reducible refine (laws_ascii.calls k a0 t191 _ A6.out).mono ?_); rintro e w' ⟨rfl, ⟨nd, rfl⟩⟩; (try first | exact ⟨rfl, _, World.drewN_drewN _ _ _⟩ | exact ⟨rfl, _, Eq.trans (World.drewN_drewN _ _ _) (congrArg (World.drewN _) (Nat.add_assoc _ _ _))⟩))); try go_wp2_with (first | (go_at_call 19; (with_reducible refine (laws_few.calls a0 true _ A4.out).mono ?_); rintro e w' ⟨rfl, ⟨nd, rfl⟩⟩; (try first | exact ⟨rfl, _, World.drewN_drewN _ _ _⟩ | exact ⟨rfl, _, Eq.trans (World.drewN_drewN _ _ _) (congrArg (World.drewN _) (Nat.add_assoc _ _ _))⟩)) | (go_at_call 20; (with_reducible refine (laws_ascii.calls k a0 t191 _ A6.out).mono ?_); rintro e w' ⟨rfl, ⟨nd, rfl⟩⟩; (try first | exact ⟨rfl, _, World.drewN_drewN _ _ _⟩ | exact ⟨rfl, _, Eq.trans (World.drewN_drewN _ _ _) (congrArg (World.drewN _) (Nat.add_assoc _ _ _))⟩))))
        go_meet
        case rel => exact ⟨_, (!t191), (by first | rfl | (simp; done) | (simp [*]; done) | (simp [wrap64]; done)), H', ⟨by first | omega | exact Nat.le_refl _⟩, ⟨by repeat (first | (with_reducible first | exact HB.out | apply below_alloc | apply pw_below_drewN | apply below_drew1) | exact HB.out)⟩⟩
      · replace c5 := Bool.eq_false_iff.mpr c5
        subst c5
        have H1 : (laws_FnLabels.j0 k a0 true) = some r := by rw [if_neg (show ¬ (false = true) by decide)] at H; exact H
        clear H
        have H := H1
        clear H1
        have H' := Aside0.mk H
        clear H
        go_wp2_with (first | (go_at_call 19; (with_reducible refine (laws_few.calls a0 false _ A4.out).mono ?_); rintro e w' ⟨rfl, ⟨nd, rfl⟩⟩; (try first | exact ⟨rfl, _, World.drewN_drewN _ _ _⟩ | exact ⟨rfl, _, Eq.trans (World.drewN_drewN _ _ _) (congrArg (World.drewN _) (Nat.add_assoc _ _ _))⟩)))
        repeat (go_quiet (first | (go_at_call 19; (with_reducible refine (laws_few.calls a0 false _ A4.out).mono ?_); rintro e w' ⟨rfl, ⟨nd, rfl⟩⟩; (try first | exact ⟨rfl, _, World.drewN_drewN _ _ _⟩ | exact ⟨rfl, _, Eq.trans (World.drewN_drewN _ _ _) (congrArg (World.drewN _) (Nat.add_assoc _ _ _))⟩))); try go_wp2_with (first | (go_at_call 19; (with_reducible refine (laws_few.calls a0 false _ A4.out).mono ?_); rintro e w' ⟨rfl, ⟨nd, rfl⟩⟩; (try first | exact ⟨rfl, _, World.drewN_drewN _ _ _⟩ | exact ⟨rfl, _, Eq.trans (World.drewN_drewN _ _ _) (congrArg (World.drewN _) (Nat.add_assoc _ _ _))⟩))))
        go_meet
        case rel => exact ⟨_, (true), (by first | rfl | (simp; done) | (simp [*]; done) | (simp [wrap64]; done)), H', ⟨by first | omega | exact Nat.le_refl _⟩, ⟨by repeat (first | (with_reducible first | exact HB.out | apply below_alloc | apply pw_below_drewN | apply below_drew1) | exact HB.out)⟩⟩
    case rest => as_aux_lemma =>
      clear HC3
      try clear c2
      try clear c2b0
      try clear c2b1
      try clear p2
      try clear c5
      try clear c6
      try clear p6
      obtain ⟨kq, x28_2, rfl, HA, HJ2, HB⟩ := hcut
      cases kq with
      | zero => exact absurd HA.out (by simp [laws_FnLabels.j0])
      | succ kj2 =>
        have H := HA.out
        clear HA
        simp only [laws_FnLabels.j0] at H
        by_cases c7 : x28_2 = true
        · subst c7
          have H1 : (some true) = some r := by rw [if_pos rfl] at H; exact H
          clear H
          have H := H1
          clear H1
          obtain rfl := Option.some.inj H
          go_wp2
          repeat (go_quiet (fail); try go_wp2)
          go_ret
          exact ⟨by first | rfl | (simp [errW_none, errW_some] <;> rfl) | (simp [*, errW_none, errW_some] <;> rfl), by repeat (first | (with_reducible first | exact HB.out | apply below_alloc | apply pw_below_drewN | apply below_drew1) | exact HB.out)⟩
        · replace c7 := Bool.eq_false_iff.mpr c7
          subst c7
          have H1 : ((spec_ParseName.f kj2 a0).bind fun bt192 => (if bt192.2.2 = true then (laws_FnLabels.j1 kj2 a0 bt192.1 bt192.2.1 (a0.toList == ([46] : List UInt8))) else (laws_FnLabels.j1 kj2 a0 bt192.1 bt192.2.1 true))) = some r := by rw [if_neg (show ¬ (false = true) by decide)] at H; exact H
          clear H
          have H := H1
          clear H1
          replace H := Option.bind_eq_some_iff.mp H
          obtain ⟨⟨t192, t193, t194⟩, A80, H⟩ := H
          replace H : (if t194 = true then (laws_FnLabels.j1 kj2 a0 t192 t193 (a0.toList == ([46] : List UInt8))) else (laws_FnLabels.j1 kj2 a0 t192 t193 true)) = some r := H
          have A8 := Aside0.mk A80
          clear A80
          have HC9 := Aside0.mk H
          clear H
          go_upto_region 6 with (first | (go_at_call 17; (with_reducible refine (spec_ParseName.calls kj2 a0 t192 t193 t194 _ A8.out).mono ?_); rintro e w10 ⟨v195, rfl, ho0, hb⟩; have n0_ := Aside0.mk (Kd.R_lower ho0 (below_size (by repeat (first | (with_reducible first | exact HB.out | apply below_alloc | apply pw_below_drewN | apply below_drew1) | exact HB.out)))); have n1_ := Aside0.mk (below_step (by repeat (first | (with_reducible first | exact HB.out | apply below_alloc | apply pw_below_drewN | apply below_drew1) | exact HB.out)) hb); clear HB; have HO196 := n0_; have HB := n1_; clear n0_ n1_; (try clear hb); (try clear hb2); (try clear hk); (try clear hi); (try clear ho0)))
          repeat (go_quiet (first | (go_at_call 17; (with_reducible refine (spec_ParseName.calls kj2 a0 t192 t193 t194 _ A8.out).mono ?_); rintro e w10 ⟨v195, rfl, ho0, hb⟩; have n0_ := Aside0.mk (Kd.R_lower ho0 (below_size (by repeat (first | (with_reducible first | exact HB.out | apply below_alloc | apply pw_below_drewN | apply below_drew1) | exact HB.out)))); have n1_ := Aside0.mk (below_step (by repeat (first | (with_reducible first | exact HB.out | apply below_alloc | apply pw_below_drewN | apply below_drew1) | exact HB.out)) hb); clear HB; have HO196 := n0_; have HB := n1_; clear n0_ n1_; (try clear hb); (try clear hb2); (try clear hk); (try clear hi); (try clear ho0))); go_upto_region 6 with (first | (go_at_call 17; (with_reducible refine (spec_ParseName.calls kj2 a0 t192 t193 t194 _ A8.out).mono ?_); rintro e w10 ⟨v195, rfl, ho0, hb⟩; have n0_ := Aside0.mk (Kd.R_lower ho0 (below_size (by repeat (first | (with_reducible first | exact HB.out | apply below_alloc | apply pw_below_drewN | apply below_drew1) | exact HB.out)))); have n1_ := Aside0.mk (below_step (by repeat (first | (with_reducible first | exact HB.out | apply below_alloc | apply pw_below_drewN | apply below_drew1) | exact HB.out)) hb); clear HB; have HO196 := n0_; have HB := n1_; clear n0_ n1_; (try clear hb); (try clear hb2); (try clear hk); (try clear hi); (try clear ho0))))
          (try simp only [Act.put, List.setIfInBounds_toArray, List.set_cons_zero, List.set_cons_succ])
          go_cut [40] (fun v40 wc => ∃ (kq : Nat) (x40_8 : Bool), v40 = .bool x40_8 ∧ Aside0 (laws_FnLabels.j1 kq a0 t192 t193 x40_8 = some r) ∧ Aside0 (kq ≤ kj2) ∧ Aside0 (Kd.R Kd.string 9 wc w.heap.size (fun _ => True) v195 t192) ∧ Aside0 (Below w.heap.size w wc))
          case first => as_aux_lemma =>
            have H := HC9.out
            clear HC9
            by_cases c11 : t194 = true
            · subst c11
              have H1 : (laws_FnLabels.j1 kj2 a0 t192 t193 (a0.toList == ([46] : List UInt8))) = some r := by rw [if_pos rfl] at H; exact H
              clear H
              have H := H1
              clear H1
              have H' := Aside0.mk H
              clear H
              go_wp2
              repeat (go_quiet (fail); try go_wp2)
              go_meet
              case rel => exact ⟨_, ((a0.toList == ([46] : List UInt8))), (by first | rfl | (simp; done) | (simp [*]; done) | (simp [wrap64]; done)), H', ⟨by have := HJ2.out; first | omega | exact Nat.le_refl _⟩, ⟨by (with_reducible repeat (first | apply Kd.R_alloc | apply Kd.R_drewN | apply Kd.R_drew)); exact HO196.out⟩, ⟨by repeat (first | (with_reducible first | exact HB.out | apply below_alloc | apply pw_below_drewN | apply below_drew1) | exact HB.out)⟩⟩
            · replace c11 := Bool.eq_false_iff.mpr c11
              subst c11
              have H1 : (laws_FnLabels.j1 kj2 a0 t192 t193 true) = some r := by rw [if_neg (show ¬ (false = true) by decide)] at H; exact H
              clear H
              have H := H1
              clear H1
              have H' := Aside0.mk H
              clear H
              go_wp2
              repeat (go_quiet (fail); try go_wp2)
              go_meet
              case rel => exact ⟨_, (true), (by first | rfl | (simp; done) | (simp [*]; done) | (simp [wrap64]; done)), H', ⟨by have := HJ2.out; first | omega | exact Nat.le_refl _⟩, ⟨by (with_reducible repeat (first | apply Kd.R_alloc | apply Kd.R_drewN | apply Kd.R_drew)); exact HO196.out⟩, ⟨by repeat (first | (with_reducible first | exact HB.out | apply below_alloc | apply pw_below_drewN | apply below_drew1) | exact HB.out)⟩⟩
          case rest => as_aux_lemma =>
            clear HC9
            try clear c1
            try clear c2
            try clear c2b0
            try clear c2b1
            try clear p2
            try clear c5
            try clear c6
            try clear p6
            try clear c7
            try clear c11
            try clear p2
            try clear p6
            obtain ⟨kq, x40_8, rfl, HA, HJ8, HO_3, HB⟩ := hcut
            cases kq with
            | zero => exact absurd HA.out (by simp [laws_FnLabels.j1])
            | succ kj8 =>
              have H := HA.out
              clear HA
              simp only [laws_FnLabels.j1] at H
              by_cases c12 : x40_8 = true
              · subst c12
                have H1 : (some true) = some r := by rw [if_pos rfl] at H; exact H
                clear H
                have H := H1
                clear H1
                obtain rfl := Option.some.inj H
                go_wp2
                repeat (go_quiet (fail); try go_wp2)
                go_ret
                exact ⟨by first | rfl | (simp [errW_none, errW_some] <;> rfl) | (simp [*, errW_none, errW_some] <;> rfl), by repeat (first | (with_reducible first | exact HB.out | apply below_alloc | apply pw_below_drewN | apply below_drew1) | exact HB.out)⟩
              · replace c12 := Bool.eq_false_iff.mpr c12
                subst c12
                have H1 : ((impl_Starts.f kj8 a0).bind fun t197 => ((impl_SplitName.f kj8 a0).bind fun t200 => ((impl_Labels.f kj8 a0).bind fun t203 => (if t203 = (t192.length : Int) then (if (t197.length : Int) = (t192.length : Int) then (laws_FnLabels.j2 kj8 a0 t192 t193 t197 t200 ((t200.length : Int) != (t192.length : Int))) else (laws_FnLabels.j2 kj8 a0 t192 t193 t197 t200 true)) else (laws_FnLabels.j2 kj8 a0 t192 t193 t197 t200 true))))) = some r := by rw [if_neg (show ¬ (false = true) by decide)] at H; exact H
                clear H
                have H := H1
                clear H1
                replace H := Option.bind_eq_some_iff.mp H
                obtain ⟨t197, A130, H⟩ := H
                replace H : ((impl_SplitName.f kj8 a0).bind fun t200 => ((impl_Labels.f kj8 a0).bind fun t203 => (if t203 = (t192.length : Int) then (if (t197.length : Int) = (t192.length : Int) then (laws_FnLabels.j2 kj8 a0 t192 t193 t197 t200 ((t200.length : Int) != (t192.length : Int))) else (laws_FnLabels.j2 kj8 a0 t192 t193 t197 t200 true)) else (laws_FnLabels.j2 kj8 a0 t192 t193 t197 t200 true)))) = some r := H
                have A13 := Aside0.mk A130
                clear A130
                replace H := Option.bind_eq_some_iff.mp H
                obtain ⟨t200, A140, H⟩ := H
                replace H : ((impl_Labels.f kj8 a0).bind fun t203 => (if t203 = (t192.length : Int) then (if (t197.length : Int) = (t192.length : Int) then (laws_FnLabels.j2 kj8 a0 t192 t193 t197 t200 ((t200.length : Int) != (t192.length : Int))) else (laws_FnLabels.j2 kj8 a0 t192 t193 t197 t200 true)) else (laws_FnLabels.j2 kj8 a0 t192 t193 t197 t200 true))) = some r := H
                have A14 := Aside0.mk A140
                clear A140
                have HC15 := Aside0.mk H
                clear H
                go_upto_region 10 with (first | (go_at_call 26; (with_reducible refine (impl_Starts.calls kj8 a0 t197 _ A13.out).mono ?_); rintro e w16 ⟨v198, rfl, ho0, hb⟩; have n0_ := Aside0.mk (Kd.R_below (by (with_reducible repeat (first | apply Kd.R_alloc | apply Kd.R_drewN | apply Kd.R_drew)); exact HO_3.out) hb); have n1_ := Aside0.mk (Kd.R_lower ho0 (below_size (by repeat (first | (with_reducible first | exact HB.out | apply below_alloc | apply pw_below_drewN | apply below_drew1) | exact HB.out)))); have n2_ := Aside0.mk (below_step (by repeat (first | (with_reducible first | exact HB.out | apply below_alloc | apply pw_below_drewN | apply below_drew1) | exact HB.out)) hb); clear HO_3; clear HB; have HO_3 := n0_; have HO199 := n1_; have HB := n2_; clear n0_ n1_ n2_; (try clear hb); (try clear hb2); (try clear hk); (try clear hi); (try clear ho0)) | (go_at_call 27; (with_reducible refine (impl_SplitName.calls kj8 a0 t200 _ A14.out).mono ?_); rintro e w17 ⟨v201, rfl, ho0, hb⟩; have n0_ := Aside0.mk (Kd.R_elder' (by (with_reducible repeat (first | apply Kd.R_alloc | apply Kd.R_drewN | apply Kd.R_drew)); exact HO_3.out) (Kd.R_base ho0) hb); have n1_ := Aside0.mk (Kd.R_below (by (with_reducible repeat (first | apply Kd.R_alloc | apply Kd.R_drewN | apply Kd.R_drew)); exact HO199.out) hb); have n2_ := Aside0.mk (Kd.R_lower (Kd.R_new' ho0 (Kd.R_lt (by (with_reducible repeat (first | apply Kd.R_alloc | apply Kd.R_drewN | apply Kd.R_drew)); exact HO_3.out))) (below_size (by repeat (first | (with_reducible first | exact HB.out | apply below_alloc | apply pw_below_drewN | apply below_drew1) | exact HB.out)))); have n3_ := Aside0.mk (below_step (by repeat (first | (with_reducible first | exact HB.out | apply below_alloc | apply pw_below_drewN | apply below_drew1) | exact HB.out)) hb); clear HO_3; clear HO199; clear HB; have HO_3 := n0_; have HO199 := n1_; have HO202 := n2_; have HB := n3_; clear n0_ n1_ n2_ n3_; (try clear hb); (try clear hb2); (try clear hk); (try clear hi); (try clear ho0)))
                repeat (go_quiet (first | (go_at_call 26; (with_reducible refine (impl_Starts.calls kj8 a0 t197 _ A13.out).mono ?_); rintro e w16 ⟨v198, rfl, ho0, hb⟩; have n0_ := Aside0.mk (Kd.R_below (by (with_reducible repeat (first | apply Kd.R_alloc | apply Kd.R_drewN | apply Kd.R_drew)); exact HO_3.out) hb); have n1_ := Aside0.mk (Kd.R_lower ho0 (below_size (by repeat (first | (with_reducible first | exact HB.out | apply below_alloc | apply pw_below_drewN | apply below_drew1) | exact HB.out)))); have n2_ := Aside0.mk (below_step (by repeat (first | (with_reducible first | exact HB.out | apply below_alloc | apply pw_below_drewN | apply below_drew1) | exact HB.out)) hb); clear HO_3; clear HB; have HO_3 := n0_; have HO199 := n1_; have HB := n2_; clear n0_ n1_ n2_; (try clear hb); (try clear hb2); (try clear hk); (try clear hi); (try clear ho0)) | (go_at_call 27; (with_reducible refine (impl_SplitName.calls kj8 a0 t200 _ A14.out).mono ?_); rintro e w17 ⟨v201, rfl, ho0, hb⟩; have n0_ := Aside0.mk (Kd.R_elder' (by (with_reducible repeat (first | apply Kd.R_alloc | apply Kd.R_drewN | apply Kd.R_drew)); exact HO_3.out) (Kd.R_base ho0) hb); have n1_ := Aside0.mk (Kd.R_below (by (with_reducible repeat (first | apply Kd.R_alloc | apply Kd.R_drewN | apply Kd.R_drew)); exact HO199.out) hb); have n2_ := Aside0.mk (Kd.R_lower (Kd.R_new' ho0 (Kd.R_lt (by (with_reducible repeat (first | apply Kd.R_alloc | apply Kd.R_drewN | apply Kd.R_drew)); exact HO_3.out))) (below_size (by repeat (first | (with_reducible first | exact HB.out | apply below_alloc | apply pw_below_drewN | apply below_drew1) | exact HB.out)))); have n3_ := Aside0.mk (below_step (by repeat (first | (with_reducible first | exact HB.out | apply below_alloc | apply pw_below_drewN | apply below_drew1) | exact HB.out)) hb); clear HO_3; clear HO199; clear HB; have HO_3 := n0_; have HO199 := n1_; have HO202 := n2_; have HB := n3_; clear n0_ n1_ n2_ n3_; (try clear hb); (try clear hb2); (try clear hk); (try clear hi); (try clear ho0))); go_upto_region 10 with (first | (go_at_call 26; (with_reducible refine (impl_Starts.calls kj8 a0 t197 _ A13.out).mono ?_); rintro e w16 ⟨v198, rfl, ho0, hb⟩; have n0_ := Aside0.mk (Kd.R_below (by (with_reducible repeat (first | apply Kd.R_alloc | apply Kd.R_drewN | apply Kd.R_drew)); exact HO_3.out) hb); have n1_ := Aside0.mk (Kd.R_lower ho0 (below_size (by repeat (first | (with_reducible first | exact HB.out | apply below_alloc | apply pw_below_drewN | apply below_drew1) | exact HB.out)))); have n2_ := Aside0.mk (below_step (by repeat (first | (with_reducible first | exact HB.out | apply below_alloc | apply pw_below_drewN | apply below_drew1) | exact HB.out)) hb); clear HO_3; clear HB; have HO_3 := n0_; have HO199 := n1_; have HB := n2_; clear n0_ n1_ n2_; (try clear hb); (try clear hb2); (try clear hk); (try clear hi); (try clear ho0)) | (go_at_call 27; (with_reducible refine (impl_SplitName.calls kj8 a0 t200 _ A14.out).mono ?_); rintro e w17 ⟨v201, rfl, ho0, hb⟩; have n0_ := Aside0.mk (Kd.R_elder' (by (with_reducible repeat (first | apply Kd.R_alloc | apply Kd.R_drewN | apply Kd.R_drew)); exact HO_3.out) (Kd.R_base ho0) hb); have n1_ := Aside0.mk (Kd.R_below (by (with_reducible repeat (first | apply Kd.R_alloc | apply Kd.R_drewN | apply Kd.R_drew)); exact HO199.out) hb); have n2_ := Aside0.mk (Kd.R_lower (Kd.R_new' ho0 (Kd.R_lt (by (with_reducible repeat (first | apply Kd.R_alloc | apply Kd.R_drewN | apply Kd.R_drew)); exact HO_3.out))) (below_size (by repeat (first | (with_reducible first | exact HB.out | apply below_alloc | apply pw_below_drewN | apply below_drew1) | exact HB.out)))); have n3_ := Aside0.mk (below_step (by repeat (first | (with_reducible first | exact HB.out | apply below_alloc | apply pw_below_drewN | apply below_drew1) | exact HB.out)) hb); clear HO_3; clear HO199; clear HB; have HO_3 := n0_; have HO199 := n1_; have HO202 := n2_; have HB := n3_; clear n0_ n1_ n2_ n3_; (try clear hb); (try clear hb2); (try clear hk); (try clear hi); (try clear ho0))))
                (try simp only [Act.put, List.setIfInBounds_toArray, List.set_cons_zero, List.set_cons_succ])
                go_cut [63] (fun v63 wc => ∃ (kq : Nat) (x63_14 : Bool), v63 = .bool x63_14 ∧ Aside0 (laws_FnLabels.j2 kq a0 t192 t193 t197 t200 x63_14 = some r) ∧ Aside0 (kq ≤ kj8) ∧ Aside0 (Kd.R Kd.string 9 wc w.heap.size (fun k_ => some k_ ≠ (v201 : Value).ownBlock) v195 t192) ∧ Aside0 (Kd.R (Kd.int .i64) 3 wc w.heap.size (fun _ => True) v198 t197) ∧ Aside0 (Kd.R Kd.string 9 wc w.heap.size (fun k_ => some k_ ≠ (v195 : Value).ownBlock) v201 t200) ∧ Aside0 (Below w.heap.size w wc))
                case first => as_aux_lemma =>
                  have H := HC15.out
                  clear HC15
                  replace H := Option.bind_eq_some_iff.mp H
                  obtain ⟨t203, A180, H⟩ := H
                  replace H : (if t203 = (t192.length : Int) then (if (t197.length : Int) = (t192.length : Int) then (laws_FnLabels.j2 kj8 a0 t192 t193 t197 t200 ((t200.length : Int) != (t192.length : Int))) else (laws_FnLabels.j2 kj8 a0 t192 t193 t197 t200 true)) else (laws_FnLabels.j2 kj8 a0 t192 t193 t197 t200 true)) = some r := H
                  have A18 := Aside0.mk A180
                  clear A180
                  by_cases c19 : t203 = (t192.length : Int)
                  · rw [if_pos c19] at H
                    have c19b0 : (t203 == (t192.length : Int)) = true := beq_iff_eq.mpr c19
                    have c19b1 : (t203 != (t192.length : Int)) = false := bne_eq_false_iff_eq.mpr c19
                    clear c19
                    (first | rw [c19b0] | (simp only [i64_w, i32_w]; rw [c19b0]) | skip)
                    by_cases c20 : (t197.length : Int) = (t192.length : Int)
                    · rw [if_pos c20] at H
                      have c20b0 : ((t197.length : Int) == (t192.length : Int)) = true := beq_iff_eq.mpr c20
                      have c20b1 : ((t197.length : Int) != (t192.length : Int)) = false := bne_eq_false_iff_eq.mpr c20
                      have c20b2 : (t197.length == t192.length) = true := by first | simpa using c20 | (simp at c20 ⊢; omega)
                      clear c20
                      have H' := Aside0.mk H
                      clear H
                      go_wp2_with (first | (go_at_call 28; (with_reducible refine (impl_Labels.calls kj8 a0 t203 _ A18.out).mono ?_); rintro e w' ⟨rfl, ⟨nd, rfl⟩⟩; (try first | exact ⟨rfl, _, World.drewN_drewN _ _ _⟩ | exact ⟨rfl, _, Eq.trans (World.drewN_drewN _ _ _) (congrArg (World.drewN _) (Nat.add_assoc _ _ _))⟩); obtain ⟨Ao21, co21, eo21⟩ := Kd.R_slice HO_3.out; subst eo21; obtain ⟨Ao22, co22, eo22⟩ := Kd.R_slice HO199.out; subst eo22; obtain ⟨Ao23, co23, eo23⟩ := Kd.R_slice HO202.out; subst eo23))
                      repeat (go_quiet (first | (go_at_call 28; (with_reducible refine (impl_Labels.calls kj8 a0 t203 _ A18.out).mono ?_); rintro e w' ⟨rfl, ⟨nd, rfl⟩⟩; (try first | exact ⟨rfl, _, World.drewN_drewN _ _ _⟩ | exact ⟨rfl, _, Eq.trans (World.drewN_drewN _ _ _) (congrArg (World.drewN _) (Nat.add_assoc _ _ _))⟩); obtain ⟨Ao21, co21, eo21⟩ := Kd.R_slice HO_3.out; subst eo21; obtain ⟨Ao22, co22, eo22⟩ := Kd.R_slice HO199.out; subst eo22; obtain ⟨Ao23, co23, eo23⟩ := Kd.R_slice HO202.out; subst eo23)); try go_wp2_with (first | (go_at_call 28; (with_reducible refine (impl_Labels.calls kj8 a0 t203 _ A18.out).mono ?_); rintro e w' ⟨rfl, ⟨nd, rfl⟩⟩; (try first | exact ⟨rfl, _, World.drewN_drewN _ _ _⟩ | exact ⟨rfl, _, Eq.trans (World.drewN_drewN _ _ _) (congrArg (World.drewN _) (Nat.add_assoc _ _ _))⟩); obtain ⟨Ao21, co21, eo21⟩ := Kd.R_slice HO_3.out; subst eo21; obtain ⟨Ao22, co22, eo22⟩ := Kd.R_slice HO199.out; subst eo22; obtain ⟨Ao23, co23, eo23⟩ := Kd.R_slice HO202.out; subst eo23)))
                      go_meet
                      case rel => exact ⟨_, (((t200.length : Int) != (t192.length : Int))), (by first | rfl | (simp; done) | (simp [*]; done) | (simp [wrap64]; done)), H', ⟨by have := HJ2.out; have := HJ8.out; first | omega | exact Nat.le_refl _⟩, ⟨by (with_reducible repeat (first | apply Kd.R_alloc | apply Kd.R_drewN | apply Kd.R_drew)); exact Kd.R_mono HO_3.out (fun _ hk => hk.2)⟩, ⟨by (with_reducible repeat (first | apply Kd.R_alloc | apply Kd.R_drewN | apply Kd.R_drew)); exact HO199.out⟩, ⟨by (with_reducible repeat (first | apply Kd.R_alloc | apply Kd.R_drewN | apply Kd.R_drew)); exact Kd.R_mono HO202.out (fun _ hk => hk.2)⟩, ⟨by repeat (first | (with_reducible first | exact HB.out | apply below_alloc | apply pw_below_drewN | apply below_drew1) | exact HB.out)⟩⟩
                    · rw [if_neg c20] at H
                      have c20b0 : ((t197.length : Int) == (t192.length : Int)) = false := beq_eq_false_iff_ne.mpr c20
                      have c20b1 : ((t197.length : Int) != (t192.length : Int)) = true := bne_iff_ne.mpr c20
                      have c20b2 : (t197.length == t192.length) = false := by first | simpa using c20 | (simp at c20 ⊢; omega)
                      have H' := Aside0.mk H
                      clear H
                      go_wp2_with (first | (go_at_call 28; (with_reducible refine (impl_Labels.calls kj8 a0 t203 _ A18.out).mono ?_); rintro e w' ⟨rfl, ⟨nd, rfl⟩⟩; (try first | exact ⟨rfl, _, World.drewN_drewN _ _ _⟩ | exact ⟨rfl, _, Eq.trans (World.drewN_drewN _ _ _) (congrArg (World.drewN _) (Nat.add_assoc _ _ _))⟩); obtain ⟨Ao24, co24, eo24⟩ := Kd.R_slice HO_3.out; subst eo24; obtain ⟨Ao25, co25, eo25⟩ := Kd.R_slice HO199.out; subst eo25))
                      repeat (go_quiet (first | (go_at_call 28; (with_reducible refine (impl_Labels.calls kj8 a0 t203 _ A18.out).mono ?_); rintro e w' ⟨rfl, ⟨nd, rfl⟩⟩; (try first | exact ⟨rfl, _, World.drewN_drewN _ _ _⟩ | exact ⟨rfl, _, Eq.trans (World.drewN_drewN _ _ _) (congrArg (World.drewN _) (Nat.add_assoc _ _ _))⟩); obtain ⟨Ao24, co24, eo24⟩ := Kd.R_slice HO_3.out; subst eo24; obtain ⟨Ao25, co25, eo25⟩ := Kd.R_slice HO199.out; subst eo25)); try go_wp2_with (first | (go_at_call 28; (with_reducible refine (impl_Labels.calls kj8 a0 t203 _ A18.out).mono ?_); rintro e w' ⟨rfl, ⟨nd, rfl⟩⟩; (try first | exact ⟨rfl, _, World.drewN_drewN _ _ _⟩ | exact ⟨rfl, _, Eq.trans (World.drewN_drewN _ _ _) (congrArg (World.drewN _) (Nat.add_assoc _ _ _))⟩); obtain ⟨Ao24, co24, eo24⟩ := Kd.R_slice HO_3.out; subst eo24; obtain ⟨Ao25, co25, eo25⟩ := Kd.R_slice HO199.out; subst eo25)))
                      go_meet
                      case rel => exact ⟨_, (true), (by first | rfl | (simp; done) | (simp [*]; done) | (simp [wrap64]; done)), H', ⟨by have := HJ2.out; have := HJ8.out; first | omega | exact Nat.le_refl _⟩, ⟨by (with_reducible repeat (first | apply Kd.R_alloc | apply Kd.R_drewN | apply Kd.R_drew)); exact Kd.R_mono HO_3.out (fun _ hk => hk.2)⟩, ⟨by (with_reducible repeat (first | apply Kd.R_alloc | apply Kd.R_drewN | apply Kd.R_drew)); exact HO199.out⟩, ⟨by (with_reducible repeat (first | apply Kd.R_alloc | apply Kd.R_drewN | apply Kd.R_drew)); exact Kd.R_mono HO202.out (fun _ hk => hk.2)⟩, ⟨by repeat (first | (with_reducible first | exact HB.out | apply below_alloc | apply pw_below_drewN | apply below_drew1) | exact HB.out)⟩⟩
                  · rw [if_neg c19] at H
                    have c19b0 : (t203 == (t192.length : Int)) = false := beq_eq_false_iff_ne.mpr c19
                    have c19b1 : (t203 != (t192.length : Int)) = true := bne_iff_ne.mpr c19
                    (first | rw [c19b0] | (simp only [i64_w, i32_w]; rw [c19b0]) | skip)
                    have H' := Aside0.mk H
                    clear H
                    go_wp2_with (first | (go_at_call 28; (with_reducible refine (impl_Labels.calls kj8 a0 t203 _ A18.out).mono ?_); rintro e w' ⟨rfl, ⟨nd, rfl⟩⟩; (try first | exact ⟨rfl, _, World.drewN_drewN _ _ _⟩ | exact ⟨rfl, _, Eq.trans (World.drewN_drewN _ _ _) (congrArg (World.drewN _) (Nat.add_assoc _ _ _))⟩); obtain ⟨Ao26, co26, eo26⟩ := Kd.R_slice HO_3.out; subst eo26))
                    repeat (go_quiet (first | (go_at_call 28; (with_reducible refine (impl_Labels.calls kj8 a0 t203 _ A18.out).mono ?_); rintro e w' ⟨rfl, ⟨nd, rfl⟩⟩; (try first | exact ⟨rfl, _, World.drewN_drewN _ _ _⟩ | exact ⟨rfl, _, Eq.trans (World.drewN_drewN _ _ _) (congrArg (World.drewN _) (Nat.add_assoc _ _ _))⟩); obtain ⟨Ao26, co26, eo26⟩ := Kd.R_slice HO_3.out; subst eo26)); try go_wp2_with (first | (go_at_call 28; (with_reducible refine (impl_Labels.calls kj8 a0 t203 _ A18.out).mono ?_); rintro e w' ⟨rfl, ⟨nd, rfl⟩⟩; (try first | exact ⟨rfl, _, World.drewN_drewN _ _ _⟩ | exact ⟨rfl, _, Eq.trans (World.drewN_drewN _ _ _) (congrArg (World.drewN _) (Nat.add_assoc _ _ _))⟩); obtain ⟨Ao26, co26, eo26⟩ := Kd.R_slice HO_3.out; subst eo26)))
                    go_meet
                    case rel => exact ⟨_, (true), (by first | rfl | (simp; done) | (simp [*]; done) | (simp [wrap64]; done)), H', ⟨by have := HJ2.out; have := HJ8.out; first | omega | exact Nat.le_refl _⟩, ⟨by (with_reducible repeat (first | apply Kd.R_alloc | apply Kd.R_drewN | apply Kd.R_drew)); exact Kd.R_mono HO_3.out (fun _ hk => hk.2)⟩, ⟨by (with_reducible repeat (first | apply Kd.R_alloc | apply Kd.R_drewN | apply Kd.R_drew)); exact HO199.out⟩, ⟨by (with_reducible repeat (first | apply Kd.R_alloc | apply Kd.R_drewN | apply Kd.R_drew)); exact Kd.R_mono HO202.out (fun _ hk => hk.2)⟩, ⟨by repeat (first | (with_reducible first | exact HB.out | apply below_alloc | apply pw_below_drewN | apply below_drew1) | exact HB.out)⟩⟩
                case rest => as_aux_lemma =>
                  clear HC15
                  try clear c1
                  try clear c2
                  try clear c2b0
                  try clear c2b1
                  try clear p2
                  try clear c5
                  try clear c6
                  try clear p6
                  try clear c7
                  try clear c11
                  try clear c12
                  try clear c19
                  try clear c19b0
                  try clear c19b1
                  try clear c20
                  try clear c20b0
                  try clear c20b1
                  try clear c20b2
                  try clear p2
                  try clear p6
                  obtain ⟨kq, x63_14, rfl, HA, HJ14, HO_3, HO_6, HO_7, HB⟩ := hcut
                  cases kq with
                  | zero => exact absurd HA.out (by simp [laws_FnLabels.j2])
                  | succ kj14 =>
                    have H := HA.out
                    clear HA
                    simp only [laws_FnLabels.j2] at H
                    by_cases c27 : x63_14 = true
                    · subst c27
                      have H1 : (some false) = some r := by rw [if_pos rfl] at H; exact H
                      clear H
                      have H := H1
                      clear H1
                      obtain rfl := Option.some.inj H
                      go_wp2
                      repeat (go_quiet (fail); try go_wp2)
                      go_ret
                      exact ⟨by first | rfl | (simp [errW_none, errW_some] <;> rfl) | (simp [*, errW_none, errW_some] <;> rfl), by repeat (first | (with_reducible first | exact HB.out | apply below_alloc | apply pw_below_drewN | apply below_drew1) | exact HB.out)⟩
                    · replace c27 := Bool.eq_false_iff.mpr c27
                      subst c27
                      have H1 : (laws_FnLabels.l0 kj14 a0 t192 t193 t197 t200 t197 (t197.length : Int) 0) = some r := by rw [if_neg (show ¬ (false = true) by decide)] at H; exact H
                      clear H
                      have H := H1
                      clear H1
                      have H' := Aside0.mk H
                      clear H
                      obtain ⟨Ao28, co28, eo28⟩ := Kd.R_slice HO_6.out
                      subst eo28
                      go_wp2
                      repeat (go_quiet (fail); try go_wp2)
                      go_loopg [66] kj14 (fun kq v66 w' => ∃ (x66_4 : Int), v66 = .int .i64 x66_4 ∧ Aside0 (laws_FnLabels.l0 kq a0 t192 t193 t197 t200 t197 (t197.length : Int) x66_4 = some r) ∧ Aside0 (kq ≤ kj14) ∧ Aside0 (Kd.R Kd.string 9 w' w.heap.size (fun k_ => some k_ ≠ (v201 : Value).ownBlock) v195 t192) ∧ Aside0 (Kd.R (Kd.int .i64) 3 w' w.heap.size (fun _ => True) (.slice Ao28 t197.length co28) t197) ∧ Aside0 (Kd.R Kd.string 9 w' w.heap.size (fun k_ => some k_ ≠ (v195 : Value).ownBlock) v201 t200) ∧ Aside0 (Kd.R (Kd.int .i64) 3 w' w.heap.size (fun _ => True) (.slice Ao28 t197.length co28) t197) ∧ Aside0 (Below w.heap.size w w'))
                      case atStart => exact ⟨(0), (by first | rfl | (simp; done) | (simp [*]; done) | (simp [wrap64]; done)), H', ⟨Nat.le_refl _⟩, ⟨by (with_reducible repeat (first | apply Kd.R_alloc | apply Kd.R_drewN | apply Kd.R_drew)); exact HO_3.out⟩, ⟨by (with_reducible repeat (first | apply Kd.R_alloc | apply Kd.R_drewN | apply Kd.R_drew)); exact HO_6.out⟩, ⟨by (with_reducible repeat (first | apply Kd.R_alloc | apply Kd.R_drewN | apply Kd.R_drew)); exact HO_7.out⟩, ⟨by (with_reducible repeat (first | apply Kd.R_alloc | apply Kd.R_drewN | apply Kd.R_drew)); exact HO_6.out⟩, ⟨by repeat (first | (with_reducible first | exact HB.out | apply below_alloc | apply pw_below_drewN | apply below_drew1) | exact HB.out)⟩⟩
                      case round => as_aux_lemma =>
                        clear H'
                        try clear c1
                        try clear c2
                        try clear c2b0
                        try clear c2b1
                        try clear p2
                        try clear c5
                        try clear c6
                        try clear p6
                        try clear c7
                        try clear c11
                        try clear c12
                        try clear c19
                        try clear c19b0
                        try clear c19b1
                        try clear c20
                        try clear c20b0
                        try clear c20b1
                        try clear c20b2
                        try clear c27
                        try clear p2
                        try clear p6
                        obtain ⟨x66_4, rfl, HA, HK4, HO_3, HO_6, HO_7, HO_64, HB⟩ := hrel
                        cases gk with
                        | zero => exact absurd HA.out (by simp [laws_FnLabels.l0])
                        | succ k4 =>
                          have H := HA.out
                          clear HA
                          simp only [laws_FnLabels.l0] at H
                          by_cases c29 : x66_4 < (t197.length : Int)
                          · rw [if_pos c29] at H
                            have c29b0 : decide (x66_4 < (t197.length : Int)) = true := decide_eq_true c29
                            clear c29
                            by_cases c30 : 0 ≤ x66_4
                            · rw [if_pos c30] at H
                              have c30b0 : decide (0 ≤ x66_4) = true := decide_eq_true c30
                              clear c30
                              by_cases c31 : x66_4 < (t197.length : Int)
                              · rw [if_pos c31] at H
                                have c31b0 : decide (x66_4 < (t197.length : Int)) = true := decide_eq_true c31
                                clear c31
                                have HC32 := Aside0.mk H
                                clear H
                                have p204 : 0 ≤ (x66_4 : Int) := of_decide_eq_true (by first | (with_reducible assumption) | assumption)
                                have q204 : x66_4 < (t197.length : Int) := of_decide_eq_true (by first | (with_reducible assumption) | assumption)
                                obtain ⟨ad204, e204, hx204_0⟩ := Kd.at_int (Kd.R_reads' HO_64.out).2.2 x66_4 p204 q204
                                cases e204
                                replace p204 := eq_true p204
                                replace q204 := eq_true q204
                                go_upto_if 73 with (fail)
                                repeat (go_quiet (fail); go_upto_if 73 with (fail))
                                go_cut [10] (fun v10 wc => ∃ (kq : Nat) (x10_31 : Int), v10 = .int .i64 x10_31 ∧ Aside0 (laws_FnLabels.j4 kq a0 t192 t193 t197 t200 x66_4 (rd t197 x66_4) x10_31 t197 (t197.length : Int) x66_4 = some r) ∧ Aside0 (kq ≤ k4) ∧ Aside0 (Kd.R Kd.string 9 wc w.heap.size (fun k_ => some k_ ≠ (v201 : Value).ownBlock) v195 t192) ∧ Aside0 (Kd.R (Kd.int .i64) 3 wc w.heap.size (fun _ => True) (.slice (some ad204) t197.length co28) t197) ∧ Aside0 (Kd.R Kd.string 9 wc w.heap.size (fun k_ => some k_ ≠ (v195 : Value).ownBlock) v201 t200) ∧ Aside0 (Kd.R (Kd.int .i64) 3 wc w.heap.size (fun _ => True) (.slice (some ad204) t197.length co28) t197) ∧ Aside0 (Below w.heap.size w wc))
                                case first => as_aux_lemma =>
                                  have H := HC32.out
                                  clear HC32
                                  by_cases c33 : t193 = true
                                  · subst c33
                                    have H1 : (laws_FnLabels.j4 k4 a0 t192 true t197 t200 x66_4 (rd t197 x66_4) (wrap64 ((a0.size : Int) - 1)) t197 (t197.length : Int) x66_4) = some r := by rw [if_pos rfl] at H; exact H
                                    clear H
                                    have H := H1
                                    clear H1
                                    have H' := Aside0.mk H
                                    clear H
                                    go_wp2
                                    repeat (go_quiet (fail); try go_wp2)
                                    go_meet
                                    case rel => exact ⟨_, (wrap64 ((a0.size : Int) - 1)), (by first | rfl | (simp; done) | (simp [*]; done) | (simp [wrap64]; done)), H', ⟨by have := HJ2.out; have := HJ8.out; have := HJ14.out; have := HK4.out; first | omega | exact Nat.le_refl _⟩, ⟨by (with_reducible repeat (first | apply Kd.R_alloc | apply Kd.R_drewN | apply Kd.R_drew)); exact HO_3.out⟩, ⟨by (with_reducible repeat (first | apply Kd.R_alloc | apply Kd.R_drewN | apply Kd.R_drew)); exact HO_6.out⟩, ⟨by (with_reducible repeat (first | apply Kd.R_alloc | apply Kd.R_drewN | apply Kd.R_drew)); exact HO_7.out⟩, ⟨by (with_reducible repeat (first | apply Kd.R_alloc | apply Kd.R_drewN | apply Kd.R_drew)); exact HO_64.out⟩, ⟨by repeat (first | (with_reducible first | exact HB.out | apply below_alloc | apply pw_below_drewN | apply below_drew1) | exact HB.out)⟩⟩
                                  · replace c33 := Bool.eq_false_iff.mpr c33
                                    subst c33
                                    have H1 : (laws_FnLabels.j4 k4 a0 t192 false t197 t200 x66_4 (rd t197 x66_4) (a0.size : Int) t197 (t197.length : Int) x66_4) = some r := by rw [if_neg (show ¬ (false = true) by decide)] at H; exact H
                                    clear H
                                    have H := H1
                                    clear H1
                                    have H' := Aside0.mk H
                                    clear H
                                    go_wp2
                                    repeat (go_quiet (fail); try go_wp2)
                                    go_meet
                                    case rel => exact ⟨_, ((a0.size : Int)), (by first | rfl | (simp; done) | (simp [*]; done) | (simp [wrap64]; done)), H', ⟨by have := HJ2.out; have := HJ8.out; have := HJ14.out; have := HK4.out; first | omega | exact Nat.le_refl _⟩, ⟨by (with_reducible repeat (first | apply Kd.R_alloc | apply Kd.R_drewN | apply Kd.R_drew)); exact HO_3.out⟩, ⟨by (with_reducible repeat (first | apply Kd.R_alloc | apply Kd.R_drewN | apply Kd.R_drew)); exact HO_6.out⟩, ⟨by (with_reducible repeat (first | apply Kd.R_alloc | apply Kd.R_drewN | apply Kd.R_drew)); exact HO_7.out⟩, ⟨by (with_reducible repeat (first | apply Kd.R_alloc | apply Kd.R_drewN | apply Kd.R_drew)); exact HO_64.out⟩, ⟨by repeat (first | (with_reducible first | exact HB.out | apply below_alloc | apply pw_below_drewN | apply below_drew1) | exact HB.out)⟩⟩
                                case rest => as_aux_lemma =>
                                  clear HC32
                                  try clear c1
                                  try clear c2
                                  try clear c2b0
                                  try clear c2b1
                                  try clear p2
                                  try clear q2
                                  try clear hx2
                                  try clear c3
                                  try clear c5
                                  try clear c6
                                  try clear p6
                                  try clear c7
                                  try clear c11
                                  try clear c12
                                  try clear c19
                                  try clear c19b0
                                  try clear c19b1
                                  try clear c20
                                  try clear c20b0
                                  try clear c20b1
                                  try clear c20b2
                                  try clear p20
                                  try clear q20
                                  try clear hx20
                                  try clear c27
                                  try clear c29
                                  try clear c29b0
                                  try clear c30
                                  try clear c30b0
                                  try clear c31
                                  try clear c31b0
                                  try clear c33
                                  try clear hx204_0
                                  try clear p2
                                  try clear p204
                                  try clear p6
                                  try clear q204
                                  obtain ⟨kq, x10_31, rfl, HA, HJ31, HO_3, HO_6, HO_7, HO_64, HB⟩ := hcut
                                  cases kq with
                                  | zero => exact absurd HA.out (by simp [laws_FnLabels.j4])
                                  | succ kj31 =>
                                    have H := HA.out
                                    clear HA
                                    simp only [laws_FnLabels.j4] at H
                                    have HC34 := Aside0.mk H
                                    clear H
                                    go_upto_if 80 with (fail)
                                    repeat (go_quiet (fail); go_upto_if 80 with (fail))
                                    go_cut [10] (fun v10 wc => ∃ (kq : Nat) (x10_33 : Int), v10 = .int .i64 x10_33 ∧ Aside0 (laws_FnLabels.j5 kq a0 t192 t193 t197 t200 x66_4 (rd t197 x66_4) x10_33 t197 (t197.length : Int) x66_4 = some r) ∧ Aside0 (kq ≤ kj31) ∧ Aside0 (Kd.R Kd.string 9 wc w.heap.size (fun k_ => some k_ ≠ (v201 : Value).ownBlock) v195 t192) ∧ Aside0 (Kd.R (Kd.int .i64) 3 wc w.heap.size (fun _ => True) (.slice (some ad204) t197.length co28) t197) ∧ Aside0 (Kd.R Kd.string 9 wc w.heap.size (fun k_ => some k_ ≠ (v195 : Value).ownBlock) v201 t200) ∧ Aside0 (Kd.R (Kd.int .i64) 3 wc w.heap.size (fun _ => True) (.slice (some ad204) t197.length co28) t197) ∧ Aside0 (Below w.heap.size w wc))
                                    case first => as_aux_lemma =>
                                      have H := HC34.out
                                      clear HC34
                                      by_cases c35 : (wrap64 (x66_4 + 1)) < (t197.length : Int)
                                      · rw [if_pos c35] at H
                                        have c35b0 : decide ((wrap64 (x66_4 + 1)) < (t197.length : Int)) = true := decide_eq_true c35
                                        clear c35
                                        (first | rw [c35b0] | (simp only [i64_w, i32_w]; rw [c35b0]) | skip)
                                        obtain ⟨ji36, hji36⟩ : ∃ j_ : Int, (wrap64 (x66_4 + 1)) = j_ := ⟨_, rfl⟩
                                        replace H : (if 0 ≤ (ji36) then (laws_FnLabels.j5 kj31 a0 t192 t193 t197 t200 x66_4 (rd t197 x66_4) (wrap64 ((rd t197 (ji36)) - 1)) t197 (t197.length : Int) x66_4) else (none)) = some r := by first | (rw [hji36] at H; exact H) | (simp only [hji36] at H ⊢; exact H)
                                        (try rw [hji36] at c35b0)
                                        have hji36w : (IntKind.i64.wrap (x66_4 + 1)) = ji36 := (i64_w _).trans hji36
                                        by_cases c37 : 0 ≤ (ji36)
                                        · rw [if_pos c37] at H
                                          have c37b0 : decide (0 ≤ (ji36)) = true := decide_eq_true c37
                                          clear c37
                                          have H' := Aside0.mk H
                                          clear H
                                          have p205 : 0 ≤ ((ji36) : Int) := of_decide_eq_true (by first | (with_reducible assumption) | assumption)
                                          have q205 : (ji36) < (t197.length : Int) := of_decide_eq_true (by first | (with_reducible assumption) | assumption)
                                          obtain ⟨ad205, e205, hx205_0⟩ := Kd.at_int (Kd.R_reads' HO_6.out).2.2 (ji36) p205 q205
                                          obtain rfl : ad204 = ad205 := (by injection e205)
                                          replace p205 := eq_true p205
                                          replace q205 := eq_true q205
                                          go_wp2
                                          repeat (go_quiet (fail); try go_wp2)
                                          go_meet
                                          case rel => exact ⟨_, (wrap64 ((rd t197 (ji36)) - 1)), (by first | rfl | (simp; done) | (simp only [← hji36] <;> (first | rfl | simp)) | (simp [*]; done)), H', ⟨by have := HJ2.out; have := HJ8.out; have := HJ14.out; have := HK4.out; have := HJ31.out; first | omega | exact Nat.le_refl _⟩, ⟨by (with_reducible repeat (first | apply Kd.R_alloc | apply Kd.R_drewN | apply Kd.R_drew)); exact HO_3.out⟩, ⟨by (with_reducible repeat (first | apply Kd.R_alloc | apply Kd.R_drewN | apply Kd.R_drew)); exact HO_6.out⟩, ⟨by (with_reducible repeat (first | apply Kd.R_alloc | apply Kd.R_drewN | apply Kd.R_drew)); exact HO_7.out⟩, ⟨by (with_reducible repeat (first | apply Kd.R_alloc | apply Kd.R_drewN | apply Kd.R_drew)); exact HO_64.out⟩, ⟨by repeat (first | (with_reducible first | exact HB.out | apply below_alloc | apply pw_below_drewN | apply below_drew1) | exact HB.out)⟩⟩
                                        · rw [if_neg c37] at H
                                          exact absurd H (by simp)
                                      · rw [if_neg c35] at H
                                        have c35b0 : decide ((wrap64 (x66_4 + 1)) < (t197.length : Int)) = false := decide_eq_false c35
                                        clear c35
                                        (first | rw [c35b0] | (simp only [i64_w, i32_w]; rw [c35b0]) | skip)
                                        have H' := Aside0.mk H
                                        clear H
                                        go_wp2
                                        repeat (go_quiet (fail); try go_wp2)
                                        go_meet
                                        case rel => exact ⟨_, (x10_31), (by first | rfl | (simp; done) | (simp [*]; done) | (simp [wrap64]; done)), H', ⟨by have := HJ2.out; have := HJ8.out; have := HJ14.out; have := HK4.out; have := HJ31.out; first | omega | exact Nat.le_refl _⟩, ⟨by (with_reducible repeat (first | apply Kd.R_alloc | apply Kd.R_drewN | apply Kd.R_drew)); exact HO_3.out⟩, ⟨by (with_reducible repeat (first | apply Kd.R_alloc | apply Kd.R_drewN | apply Kd.R_drew)); exact HO_6.out⟩, ⟨by (with_reducible repeat (first | apply Kd.R_alloc | apply Kd.R_drewN | apply Kd.R_drew)); exact HO_7.out⟩, ⟨by (with_reducible repeat (first | apply Kd.R_alloc | apply Kd.R_drewN | apply Kd.R_drew)); exact HO_64.out⟩, ⟨by repeat (first | (with_reducible first | exact HB.out | apply below_alloc | apply pw_below_drewN | apply below_drew1) | exact HB.out)⟩⟩
                                    case rest => as_aux_lemma =>
                                      clear HC34
                                      try clear c1
                                      try clear c2
                                      try clear c2b0
                                      try clear c2b1
                                      try clear p2
                                      try clear q2
                                      try clear hx2
                                      try clear c3
                                      try clear c5
                                      try clear c6
                                      try clear p6
                                      try clear c7
                                      try clear c11
                                      try clear c12
                                      try clear c19
                                      try clear c19b0
                                      try clear c19b1
                                      try clear c20
                                      try clear c20b0
                                      try clear c20b1
                                      try clear c20b2
                                      try clear p20
                                      try clear q20
                                      try clear hx20
                                      try clear c27
                                      try clear c29
                                      try clear c29b0
                                      try clear c30
                                      try clear c30b0
                                      try clear c31
                                      try clear c31b0
                                      try clear c33
                                      try clear c35
                                      try clear c35b0
                                      try clear c37
                                      try clear c37b0
                                      try clear hx204_0
                                      try clear hx205_0
                                      try clear p2
                                      try clear p20
                                      try clear p204
                                      try clear p205
                                      try clear p6
                                      try clear q2
                                      try clear q20
                                      try clear q204
                                      try clear q205
                                      obtain ⟨kq, x10_33, rfl, HA, HJ33, HO_3, HO_6, HO_7, HO_64, HB⟩ := hcut
                                      cases kq with
                                      | zero => exact absurd HA.out (by simp [laws_FnLabels.j5])
                                      | succ kj33 =>
                                        have H := HA.out
                                        clear HA
                                        simp only [laws_FnLabels.j5] at H
                                        have HC38 := Aside0.mk H
                                        clear H
                                        go_upto_region 20 with (fail)
                                        repeat (go_quiet (fail); go_upto_region 20 with (fail))
                                        go_cut [110] (fun v110 wc => ∃ (kq : Nat) (x110_37 : Bool), v110 = .bool x110_37 ∧ Aside0 (laws_FnLabels.j6 kq a0 t192 t193 t197 t200 x66_4 (rd t197 x66_4) t197 (t197.length : Int) x66_4 x110_37 = some r) ∧ Aside0 (kq ≤ kj33) ∧ Aside0 (Kd.R Kd.string 9 wc w.heap.size (fun k_ => some k_ ≠ (v201 : Value).ownBlock) v195 t192) ∧ Aside0 (Kd.R (Kd.int .i64) 3 wc w.heap.size (fun _ => True) (.slice (some ad204) t197.length co28) t197) ∧ Aside0 (Kd.R Kd.string 9 wc w.heap.size (fun k_ => some k_ ≠ (v195 : Value).ownBlock) v201 t200) ∧ Aside0 (Kd.R (Kd.int .i64) 3 wc w.heap.size (fun _ => True) (.slice (some ad204) t197.length co28) t197) ∧ Aside0 (Below w.heap.size w wc))
                                        case first => as_aux_lemma =>
                                          have H := HC38.out
                                          clear HC38
                                          by_cases c39 : (rd t197 x66_4) < 0
                                          · rw [if_pos c39] at H
                                            have c39b0 : decide ((rd t197 x66_4) < 0) = true := decide_eq_true c39
                                            clear c39
                                            (first | rw [c39b0] | (simp only [i64_w, i32_w]; rw [c39b0]) | skip)
                                            have H' := Aside0.mk H
                                            clear H
                                            go_wp2
                                            repeat (go_quiet (fail); try go_wp2)
                                            go_meet
                                            case rel => exact ⟨_, (true), (by first | rfl | (simp; done) | (simp [*]; done) | (simp [wrap64]; done)), H', ⟨by have := HJ2.out; have := HJ8.out; have := HJ14.out; have := HK4.out; have := HJ31.out; have := HJ33.out; first | omega | exact Nat.le_refl _⟩, ⟨by (with_reducible repeat (first | apply Kd.R_alloc | apply Kd.R_drewN | apply Kd.R_drew)); exact HO_3.out⟩, ⟨by (with_reducible repeat (first | apply Kd.R_alloc | apply Kd.R_drewN | apply Kd.R_drew)); exact HO_6.out⟩, ⟨by (with_reducible repeat (first | apply Kd.R_alloc | apply Kd.R_drewN | apply Kd.R_drew)); exact HO_7.out⟩, ⟨by (with_reducible repeat (first | apply Kd.R_alloc | apply Kd.R_drewN | apply Kd.R_drew)); exact HO_64.out⟩, ⟨by repeat (first | (with_reducible first | exact HB.out | apply below_alloc | apply pw_below_drewN | apply below_drew1) | exact HB.out)⟩⟩
                                          · rw [if_neg c39] at H
                                            have c39b0 : decide ((rd t197 x66_4) < 0) = false := decide_eq_false c39
                                            clear c39
                                            (first | rw [c39b0] | (simp only [i64_w, i32_w]; rw [c39b0]) | skip)
                                            by_cases c40 : (rd t197 x66_4) > x10_33
                                            · rw [if_pos c40] at H
                                              have c40b0 : decide (x10_33 < (rd t197 x66_4)) = true := decide_eq_true c40
                                              clear c40
                                              have H' := Aside0.mk H
                                              clear H
                                              go_wp2
                                              repeat (go_quiet (fail); try go_wp2)
                                              go_meet
                                              case rel => exact ⟨_, (true), (by first | rfl | (simp; done) | (simp [*]; done) | (simp [wrap64]; done)), H', ⟨by have := HJ2.out; have := HJ8.out; have := HJ14.out; have := HK4.out; have := HJ31.out; have := HJ33.out; first | omega | exact Nat.le_refl _⟩, ⟨by (with_reducible repeat (first | apply Kd.R_alloc | apply Kd.R_drewN | apply Kd.R_drew)); exact HO_3.out⟩, ⟨by (with_reducible repeat (first | apply Kd.R_alloc | apply Kd.R_drewN | apply Kd.R_drew)); exact HO_6.out⟩, ⟨by (with_reducible repeat (first | apply Kd.R_alloc | apply Kd.R_drewN | apply Kd.R_drew)); exact HO_7.out⟩, ⟨by (with_reducible repeat (first | apply Kd.R_alloc | apply Kd.R_drewN | apply Kd.R_drew)); exact HO_64.out⟩, ⟨by repeat (first | (with_reducible first | exact HB.out | apply below_alloc | apply pw_below_drewN | apply below_drew1) | exact HB.out)⟩⟩
                                            · rw [if_neg c40] at H
                                              have c40b0 : decide (x10_33 < (rd t197 x66_4)) = false := decide_eq_false c40
                                              clear c40
                                              by_cases c41 : x10_33 > (a0.size : Int)
                                              · rw [if_pos c41] at H
                                                have c41b0 : decide ((a0.size : Int) < x10_33) = true := decide_eq_true c41
                                                clear c41
                                                have H' := Aside0.mk H
                                                clear H
                                                go_wp2
                                                repeat (go_quiet (fail); try go_wp2)
                                                go_meet
                                                case rel => exact ⟨_, (true), (by first | rfl | (simp; done) | (simp [*]; done) | (simp [wrap64]; done)), H', ⟨by have := HJ2.out; have := HJ8.out; have := HJ14.out; have := HK4.out; have := HJ31.out; have := HJ33.out; first | omega | exact Nat.le_refl _⟩, ⟨by (with_reducible repeat (first | apply Kd.R_alloc | apply Kd.R_drewN | apply Kd.R_drew)); exact HO_3.out⟩, ⟨by (with_reducible repeat (first | apply Kd.R_alloc | apply Kd.R_drewN | apply Kd.R_drew)); exact HO_6.out⟩, ⟨by (with_reducible repeat (first | apply Kd.R_alloc | apply Kd.R_drewN | apply Kd.R_drew)); exact HO_7.out⟩, ⟨by (with_reducible repeat (first | apply Kd.R_alloc | apply Kd.R_drewN | apply Kd.R_drew)); exact HO_64.out⟩, ⟨by repeat (first | (with_reducible first | exact HB.out | apply below_alloc | apply pw_below_drewN | apply below_drew1) | exact HB.out)⟩⟩
                                              · rw [if_neg c41] at H
                                                have c41b0 : decide ((a0.size : Int) < x10_33) = false := decide_eq_false c41
                                                clear c41
                                                by_cases c42 : 0 ≤ (rd t197 x66_4)
                                                · rw [if_pos c42] at H
                                                  have c42b0 := eq_true c42
                                                  have c42b1 : decide (0 ≤ (rd t197 x66_4)) = true := decide_eq_true c42
                                                  clear c42
                                                  by_cases c43 : (rd t197 x66_4) ≤ x10_33
                                                  · rw [if_pos c43] at H
                                                    have c43b0 := eq_true c43
                                                    have c43b1 : decide ((rd t197 x66_4) ≤ x10_33) = true := decide_eq_true c43
                                                    clear c43
                                                    by_cases c44 : x10_33 ≤ (a0.size : Int)
                                                    · rw [if_pos c44] at H
                                                      have c44b0 := eq_true c44
                                                      have c44b1 : decide (x10_33 ≤ (a0.size : Int)) = true := decide_eq_true c44
                                                      clear c44
                                                      by_cases c45 : 0 ≤ x66_4
                                                      · rw [if_pos c45] at H
                                                        have c45b0 : decide (0 ≤ x66_4) = true := decide_eq_true c45
                                                        clear c45
                                                        by_cases c46 : x66_4 < (t200.length : Int)
                                                        · rw [if_pos c46] at H
                                                          have c46b0 : decide (x66_4 < (t200.length : Int)) = true := decide_eq_true c46
                                                          clear c46
                                                          have H' := Aside0.mk H
                                                          clear H
                                                          obtain ⟨Ao47, co47, eo47⟩ := Kd.R_slice HO_7.out
                                                          subst eo47
                                                          have p206 : 0 ≤ (x66_4 : Int) := of_decide_eq_true (by first | (with_reducible assumption) | assumption)
                                                          have q206 : x66_4 < (t200.length : Int) := of_decide_eq_true (by first | (with_reducible assumption) | assumption)
                                                          obtain ⟨ad206, e206, hx206_0⟩ := Kd.at_string (Kd.R_reads' HO_7.out).2.2 x66_4 p206 q206
                                                          cases e206
                                                          replace p206 := eq_true p206
                                                          replace q206 := eq_true q206
                                                          go_wp2
                                                          repeat (go_quiet (fail); try go_wp2)
                                                          go_meet
                                                          case rel => exact ⟨_, (((a0.extract ((rd t197 x66_4) : Int).toNat (x10_33 : Int).toNat).toList != (rdOf ByteArray.empty t200 x66_4).toList)), (by first | rfl | (simp; done) | (simp [*]; done) | (simp [wrap64]; done)), H', ⟨by have := HJ2.out; have := HJ8.out; have := HJ14.out; have := HK4.out; have := HJ31.out; have := HJ33.out; first | omega | exact Nat.le_refl _⟩, ⟨by (with_reducible repeat (first | apply Kd.R_alloc | apply Kd.R_drewN | apply Kd.R_drew)); exact HO_3.out⟩, ⟨by (with_reducible repeat (first | apply Kd.R_alloc | apply Kd.R_drewN | apply Kd.R_drew)); exact HO_6.out⟩, ⟨by (with_reducible repeat (first | apply Kd.R_alloc | apply Kd.R_drewN | apply Kd.R_drew)); exact HO_7.out⟩, ⟨by (with_reducible repeat (first | apply Kd.R_alloc | apply Kd.R_drewN | apply Kd.R_drew)); exact HO_64.out⟩, ⟨by repeat (first | (with_reducible first | exact HB.out | apply below_alloc | apply pw_below_drewN | apply below_drew1) | exact HB.out)⟩⟩
                                                        · rw [if_neg c46] at H
                                                          exact absurd H (by simp)
                                                      · rw [if_neg c45] at H
                                                        exact absurd H (by simp)
                                                    · rw [if_neg c44] at H
                                                      exact absurd H (by simp)
                                                  · rw [if_neg c43] at H
                                                    exact absurd H (by simp)
                                                · rw [if_neg c42] at H
                                                  exact absurd H (by simp)
                                        case rest => as_aux_lemma =>
                                          clear HC38
                                          try clear c1
                                          try clear c2
                                          try clear c2b0
                                          try clear c2b1
                                          try clear p2
                                          try clear q2
                                          try clear hx2
                                          try clear c3
                                          try clear c4
                                          try clear c5
                                          try clear c6
                                          try clear p6
                                          try clear c7
                                          try clear c11
                                          try clear c12
                                          try clear c19
                                          try clear c19b0
                                          try clear c19b1
                                          try clear c20
                                          try clear c20b0
                                          try clear c20b1
                                          try clear c20b2
                                          try clear p20
                                          try clear q20
                                          try clear hx20
                                          try clear c27
                                          try clear c29
                                          try clear c29b0
                                          try clear c30
                                          try clear c30b0
                                          try clear c31
                                          try clear c31b0
                                          try clear c33
                                          try clear c35
                                          try clear c35b0
                                          try clear c37
                                          try clear c37b0
                                          try clear c39
                                          try clear c39b0
                                          try clear c40
                                          try clear c40b0
                                          try clear c41
                                          try clear c41b0
                                          try clear c42
                                          try clear c42b0
                                          try clear c42b1
                                          try clear c43
                                          try clear c43b0
                                          try clear c43b1
                                          try clear c44
                                          try clear c44b0
                                          try clear c44b1
                                          try clear c45
                                          try clear c45b0
                                          try clear c46
                                          try clear c46b0
                                          try clear hx204_0
                                          try clear hx205_0
                                          try clear hx206_0
                                          try clear p2
                                          try clear p20
                                          try clear p204
                                          try clear p205
                                          try clear p206
                                          try clear p6
                                          try clear q2
                                          try clear q20
                                          try clear q204
                                          try clear q205
                                          try clear q206
                                          obtain ⟨kq, x110_37, rfl, HA, HJ37, HO_3, HO_6, HO_7, HO_64, HB⟩ := hcut
                                          cases kq with
                                          | zero => exact absurd HA.out (by simp [laws_FnLabels.j6])
                                          | succ kj37 =>
                                            have H := HA.out
                                            clear HA
                                            simp only [laws_FnLabels.j6] at H
                                            by_cases c48 : x110_37 = true
                                            · subst c48
                                              have H1 : (some false) = some r := by rw [if_pos rfl] at H; exact H
                                              clear H
                                              have H := H1
                                              clear H1
                                              obtain rfl := Option.some.inj H
                                              go_wp2
                                              repeat (go_quiet (fail); try go_wp2)
                                              go_ret
                                              exact ⟨by first | rfl | (simp [errW_none, errW_some] <;> rfl) | (simp [*, errW_none, errW_some] <;> rfl), by repeat (first | (with_reducible first | exact HB.out | apply below_alloc | apply pw_below_drewN | apply below_drew1) | exact HB.out)⟩
                                            · replace c48 := Bool.eq_false_iff.mpr c48
                                              subst c48
                                              have H1 : (if 0 ≤ x66_4 then (if x66_4 < (t200.length : Int) then ((spec_ParseName.f kj37 (rdOf ByteArray.empty t200 x66_4)).bind fun bt208 => (if bt208.2.2 = true then (if (bt208.1.length : Int) = 1 then (if 0 < (bt208.1.length : Int) then (if x66_4 < (t192.length : Int) then (laws_FnLabels.j7 kj37 a0 t192 t193 t197 t200 x66_4 (rd t197 x66_4) t197 (t197.length : Int) x66_4 ((rdOf ByteArray.empty bt208.1 0).toList != (rdOf ByteArray.empty t192 x66_4).toList)) else (none)) else (none)) else (laws_FnLabels.j7 kj37 a0 t192 t193 t197 t200 x66_4 (rd t197 x66_4) t197 (t197.length : Int) x66_4 true)) else (laws_FnLabels.j7 kj37 a0 t192 t193 t197 t200 x66_4 (rd t197 x66_4) t197 (t197.length : Int) x66_4 true))) else (none)) else (none)) = some r := by rw [if_neg (show ¬ (false = true) by decide)] at H; exact H
                                              clear H
                                              have H := H1
                                              clear H1
                                              by_cases c49 : 0 ≤ x66_4
                                              · rw [if_pos c49] at H
                                                have c49b0 : decide (0 ≤ x66_4) = true := decide_eq_true c49
                                                clear c49
                                                by_cases c50 : x66_4 < (t200.length : Int)
                                                · rw [if_pos c50] at H
                                                  have c50b0 : decide (x66_4 < (t200.length : Int)) = true := decide_eq_true c50
                                                  clear c50
                                                  replace H := Option.bind_eq_some_iff.mp H
                                                  obtain ⟨⟨t208, t209, t210⟩, A510, H⟩ := H
                                                  replace H : (if t210 = true then (if (t208.length : Int) = 1 then (if 0 < (t208.length : Int) then (if x66_4 < (t192.length : Int) then (laws_FnLabels.j7 kj37 a0 t192 t193 t197 t200 x66_4 (rd t197 x66_4) t197 (t197.length : Int) x66_4 ((rdOf ByteArray.empty t208 0).toList != (rdOf ByteArray.empty t192 x66_4).toList)) else (none)) else (none)) else (laws_FnLabels.j7 kj37 a0 t192 t193 t197 t200 x66_4 (rd t197 x66_4) t197 (t197.length : Int) x66_4 true)) else (laws_FnLabels.j7 kj37 a0 t192 t193 t197 t200 x66_4 (rd t197 x66_4) t197 (t197.length : Int) x66_4 true)) = some r := H
                                                  have A51 := Aside0.mk A510
                                                  clear A510
                                                  have HC52 := Aside0.mk H
                                                  clear H
                                                  obtain ⟨Ao53, co53, eo53⟩ := Kd.R_slice HO_7.out
                                                  subst eo53
                                                  have p207 : 0 ≤ (x66_4 : Int) := of_decide_eq_true (by first | (with_reducible assumption) | assumption)
                                                  have q207 : x66_4 < (t200.length : Int) := of_decide_eq_true (by first | (with_reducible assumption) | assumption)
                                                  obtain ⟨ad207, e207, hx207_0⟩ := Kd.at_string (Kd.R_reads' HO_7.out).2.2 x66_4 p207 q207
                                                  cases e207
                                                  replace p207 := eq_true p207
                                                  replace q207 := eq_true q207
                                                  go_upto_region 23 with (first | (go_at_call 17; (with_reducible refine (spec_ParseName.calls kj37 (rdOf ByteArray.empty t200 x66_4) t208 t209 t210 _ A51.out).mono ?_); rintro e w54 ⟨v211, rfl, ho0, hb⟩; have n0_ := Aside0.mk (Kd.R_elder' (by (with_reducible repeat (first | apply Kd.R_alloc | apply Kd.R_drewN | apply Kd.R_drew)); exact HO_3.out) (Kd.R_base ho0) hb); have n1_ := Aside0.mk (Kd.R_below (by (with_reducible repeat (first | apply Kd.R_alloc | apply Kd.R_drewN | apply Kd.R_drew)); exact HO_6.out) hb); have n2_ := Aside0.mk (Kd.R_elder' (by (with_reducible repeat (first | apply Kd.R_alloc | apply Kd.R_drewN | apply Kd.R_drew)); exact HO_7.out) (Kd.R_base ho0) hb); have n3_ := Aside0.mk (Kd.R_below (by (with_reducible repeat (first | apply Kd.R_alloc | apply Kd.R_drewN | apply Kd.R_drew)); exact HO_64.out) hb); have n4_ := Aside0.mk (Kd.R_lower (Kd.R_new' (Kd.R_new' ho0 (Kd.R_lt (by (with_reducible repeat (first | apply Kd.R_alloc | apply Kd.R_drewN | apply Kd.R_drew)); exact HO_3.out))) (Kd.R_lt (by (with_reducible repeat (first | apply Kd.R_alloc | apply Kd.R_drewN | apply Kd.R_drew)); exact HO_7.out))) (below_size (by repeat (first | (with_reducible first | exact HB.out | apply below_alloc | apply pw_below_drewN | apply below_drew1) | exact HB.out)))); have n5_ := Aside0.mk (below_step (by repeat (first | (with_reducible first | exact HB.out | apply below_alloc | apply pw_below_drewN | apply below_drew1) | exact HB.out)) hb); clear HO_3; clear HO_6; clear HO_7; clear HO_64; clear HB; have HO_3 := n0_; have HO_6 := n1_; have HO_7 := n2_; have HO_64 := n3_; have HO212 := n4_; have HB := n5_; clear n0_ n1_ n2_ n3_ n4_ n5_; (try clear hb); (try clear hb2); (try clear hk); (try clear hi); (try clear ho0)))
                                                  repeat (go_quiet (first | (go_at_call 17; (with_reducible refine (spec_ParseName.calls kj37 (rdOf ByteArray.empty t200 x66_4) t208 t209 t210 _ A51.out).mono ?_); rintro e w54 ⟨v211, rfl, ho0, hb⟩; have n0_ := Aside0.mk (Kd.R_elder' (by (with_reducible repeat (first | apply Kd.R_alloc | apply Kd.R_drewN | apply Kd.R_drew)); exact HO_3.out) (Kd.R_base ho0) hb); have n1_ := Aside0.mk (Kd.R_below (by (with_reducible repeat (first | apply Kd.R_alloc | apply Kd.R_drewN | apply Kd.R_drew)); exact HO_6.out) hb); have n2_ := Aside0.mk (Kd.R_elder' (by (with_reducible repeat (first | apply Kd.R_alloc | apply Kd.R_drewN | apply Kd.R_drew)); exact HO_7.out) (Kd.R_base ho0) hb); have n3_ := Aside0.mk (Kd.R_below (by (with_reducible repeat (first | apply Kd.R_alloc | apply Kd.R_drewN | apply Kd.R_drew)); exact HO_64.out) hb); have n4_ := Aside0.mk (Kd.R_lower (Kd.R_new' (Kd.R_new' ho0 (Kd.R_lt (by (with_reducible repeat (first | apply Kd.R_alloc | apply Kd.R_drewN | apply Kd.R_drew)); exact HO_3.out))) (Kd.R_lt (by (with_reducible repeat (first | apply Kd.R_alloc | apply Kd.R_drewN | apply Kd.R_drew)); exact HO_7.out))) (below_size (by repeat (first | (with_reducible first | exact HB.out | apply below_alloc | apply pw_below_drewN | apply below_drew1) | exact HB.out)))); have n5_ := Aside0.mk (below_step (by repeat (first | (with_reducible first | exact HB.out | apply below_alloc | apply pw_below_drewN | apply below_drew1) | exact HB.out)) hb); clear HO_3; clear HO_6; clear HO_7; clear HO_64; clear HB; have HO_3 := n0_; have HO_6 := n1_; have HO_7 := n2_; have HO_64 := n3_; have HO212 := n4_; have HB := n5_; clear n0_ n1_ n2_ n3_ n4_ n5_; (try clear hb); (try clear hb2); (try clear hk); (try clear hi); (try clear ho0))); go_upto_region 23 with (first | (go_at_call 17; (with_reducible refine (spec_ParseName.calls kj37 (rdOf ByteArray.empty t200 x66_4) t208 t209 t210 _ A51.out).mono ?_); rintro e w54 ⟨v211, rfl, ho0, hb⟩; have n0_ := Aside0.mk (Kd.R_elder' (by (with_reducible repeat (first | apply Kd.R_alloc | apply Kd.R_drewN | apply Kd.R_drew)); exact HO_3.out) (Kd.R_base ho0) hb); have n1_ := Aside0.mk (Kd.R_below (by (with_reducible repeat (first | apply Kd.R_alloc | apply Kd.R_drewN | apply Kd.R_drew)); exact HO_6.out) hb); have n2_ := Aside0.mk (Kd.R_elder' (by (with_reducible repeat (first | apply Kd.R_alloc | apply Kd.R_drewN | apply Kd.R_drew)); exact HO_7.out) (Kd.R_base ho0) hb); have n3_ := Aside0.mk (Kd.R_below (by (with_reducible repeat (first | apply Kd.R_alloc | apply Kd.R_drewN | apply Kd.R_drew)); exact HO_64.out) hb); have n4_ := Aside0.mk (Kd.R_lower (Kd.R_new' (Kd.R_new' ho0 (Kd.R_lt (by (with_reducible repeat (first | apply Kd.R_alloc | apply Kd.R_drewN | apply Kd.R_drew)); exact HO_3.out))) (Kd.R_lt (by (with_reducible repeat (first | apply Kd.R_alloc | apply Kd.R_drewN | apply Kd.R_drew)); exact HO_7.out))) (below_size (by repeat (first | (with_reducible first | exact HB.out | apply below_alloc | apply pw_below_drewN | apply below_drew1) | exact HB.out)))); have n5_ := Aside0.mk (below_step (by repeat (first | (with_reducible first | exact HB.out | apply below_alloc | apply pw_below_drewN | apply below_drew1) | exact HB.out)) hb); clear HO_3; clear HO_6; clear HO_7; clear HO_64; clear HB; have HO_3 := n0_; have HO_6 := n1_; have HO_7 := n2_; have HO_64 := n3_; have HO212 := n4_; have HB := n5_; clear n0_ n1_ n2_ n3_ n4_ n5_; (try clear hb); (try clear hb2); (try clear hk); (try clear hi); (try clear ho0))))
                                                  (try simp only [Act.put, List.setIfInBounds_toArray, List.set_cons_zero, List.set_cons_succ])
                                                  go_cut [136] (fun v136 wc => ∃ (kq : Nat) (x136_51 : Bool), v136 = .bool x136_51 ∧ Aside0 (laws_FnLabels.j7 kq a0 t192 t193 t197 t200 x66_4 (rd t197 x66_4) t197 (t197.length : Int) x66_4 x136_51 = some r) ∧ Aside0 (kq ≤ kj37) ∧ Aside0 (Kd.R Kd.string 9 wc w.heap.size (fun k_ => some k_ ≠ ((.slice (some ad207) t200.length co53) : Value).ownBlock) v195 t192) ∧ Aside0 (Kd.R (Kd.int .i64) 3 wc w.heap.size (fun _ => True) (.slice (some ad204) t197.length co28) t197) ∧ Aside0 (Kd.R Kd.string 9 wc w.heap.size (fun k_ => some k_ ≠ (v195 : Value).ownBlock) (.slice (some ad207) t200.length co53) t200) ∧ Aside0 (Kd.R (Kd.int .i64) 3 wc w.heap.size (fun _ => True) (.slice (some ad204) t197.length co28) t197) ∧ Aside0 (Below w.heap.size w wc))
                                                  case first => as_aux_lemma =>
                                                    have H := HC52.out
                                                    clear HC52
                                                    by_cases c55 : t210 = true
                                                    · subst c55
                                                      have H1 : (if (t208.length : Int) = 1 then (if 0 < (t208.length : Int) then (if x66_4 < (t192.length : Int) then (laws_FnLabels.j7 kj37 a0 t192 t193 t197 t200 x66_4 (rd t197 x66_4) t197 (t197.length : Int) x66_4 ((rdOf ByteArray.empty t208 0).toList != (rdOf ByteArray.empty t192 x66_4).toList)) else (none)) else (none)) else (laws_FnLabels.j7 kj37 a0 t192 t193 t197 t200 x66_4 (rd t197 x66_4) t197 (t197.length : Int) x66_4 true)) = some r := by rw [if_pos rfl] at H; exact H
                                                      clear H
                                                      have H := H1
                                                      clear H1
                                                      by_cases c56 : (t208.length : Int) = 1
                                                      · rw [if_pos c56] at H
                                                        have c56b0 : ((t208.length : Int) == 1) = true := beq_iff_eq.mpr c56
                                                        have c56b1 : ((t208.length : Int) != 1) = false := bne_eq_false_iff_eq.mpr c56
                                                        clear c56
                                                        (first | rw [c56b0] | (simp only [i64_w, i32_w]; rw [c56b0]) | skip)
                                                        by_cases c57 : 0 < (t208.length : Int)
                                                        · rw [if_pos c57] at H
                                                          have c57b0 : decide (0 < (t208.length : Int)) = true := decide_eq_true c57
                                                          have c57b1 : decide (0 < t208.length) = true := decide_eq_true (by omega)
                                                          clear c57
                                                          by_cases c58 : x66_4 < (t192.length : Int)
                                                          · rw [if_pos c58] at H
                                                            have c58b0 : decide (x66_4 < (t192.length : Int)) = true := decide_eq_true c58
                                                            clear c58
                                                            have H' := Aside0.mk H
                                                            clear H
                                                            obtain ⟨Ao59, co59, eo59⟩ := Kd.R_slice HO212.out
                                                            subst eo59
                                                            have p213 : 0 ≤ (0 : Int) := (by omega)
                                                            have q213 : 0 < (t208.length : Int) := of_decide_eq_true (by first | (with_reducible assumption) | assumption)
                                                            obtain ⟨ad213, e213, hx213_0⟩ := Kd.at_string (Kd.R_reads' HO212.out).2.2 0 p213 q213
                                                            cases e213
                                                            have qi213 : (0 < t208.length) = True := eq_true (by omega)
                                                            (try rw [show ((0 : Int)).toNat = 0 from rfl] at hx213_0)
                                                            (try rw [Addr.add_zero'] at hx213_0)
                                                            replace p213 := eq_true p213
                                                            replace q213 := eq_true q213
                                                            obtain ⟨Ao60, co60, eo60⟩ := Kd.R_slice HO_3.out
                                                            subst eo60
                                                            have p214 : 0 ≤ (x66_4 : Int) := of_decide_eq_true (by first | (with_reducible assumption) | assumption)
                                                            have q214 : x66_4 < (t192.length : Int) := of_decide_eq_true (by first | (with_reducible assumption) | assumption)
                                                            obtain ⟨ad214, e214, hx214_0⟩ := Kd.at_string (Kd.R_reads' HO_3.out).2.2 x66_4 p214 q214
                                                            cases e214
                                                            replace p214 := eq_true p214
                                                            replace q214 := eq_true q214
                                                            go_wp2
                                                            repeat (go_quiet (fail); try go_wp2)
                                                            go_meet
                                                            case rel => exact ⟨_, (((rdOf ByteArray.empty t208 0).toList != (rdOf ByteArray.empty t192 x66_4).toList)), (by first | rfl | (simp; done) | (simp [*]; done) | (simp [wrap64]; done)), H', ⟨by have := HJ2.out; have := HJ8.out; have := HJ14.out; have := HK4.out; have := HJ31.out; have := HJ33.out; have := HJ37.out; first | omega | exact Nat.le_refl _⟩, ⟨by (with_reducible repeat (first | apply Kd.R_alloc | apply Kd.R_drewN | apply Kd.R_drew)); exact Kd.R_mono HO_3.out (fun _ hk => hk.1)⟩, ⟨by (with_reducible repeat (first | apply Kd.R_alloc | apply Kd.R_drewN | apply Kd.R_drew)); exact HO_6.out⟩, ⟨by (with_reducible repeat (first | apply Kd.R_alloc | apply Kd.R_drewN | apply Kd.R_drew)); exact Kd.R_mono HO_7.out (fun _ hk => hk.1)⟩, ⟨by (with_reducible repeat (first | apply Kd.R_alloc | apply Kd.R_drewN | apply Kd.R_drew)); exact HO_64.out⟩, ⟨by repeat (first | (with_reducible first | exact HB.out | apply below_alloc | apply pw_below_drewN | apply below_drew1) | exact HB.out)⟩⟩
                                                          · rw [if_neg c58] at H
                                                            exact absurd H (by simp)
                                                        · rw [if_neg c57] at H
                                                          exact absurd H (by simp)
                                                      · rw [if_neg c56] at H
                                                        have c56b0 : ((t208.length : Int) == 1) = false := beq_eq_false_iff_ne.mpr c56
                                                        have c56b1 : ((t208.length : Int) != 1) = true := bne_iff_ne.mpr c56
                                                        (first | rw [c56b0] | (simp only [i64_w, i32_w]; rw [c56b0]) | skip)
                                                        have H' := Aside0.mk H
                                                        clear H
                                                        obtain ⟨Ao61, co61, eo61⟩ := Kd.R_slice HO212.out
                                                        subst eo61
                                                        go_wp2
                                                        repeat (go_quiet (fail); try go_wp2)
                                                        go_meet
                                                        case rel => exact ⟨_, (true), (by first | rfl | (simp; done) | (simp [*]; done) | (simp [wrap64]; done)), H', ⟨by have := HJ2.out; have := HJ8.out; have := HJ14.out; have := HK4.out; have := HJ31.out; have := HJ33.out; have := HJ37.out; first | omega | exact Nat.le_refl _⟩, ⟨by (with_reducible repeat (first | apply Kd.R_alloc | apply Kd.R_drewN | apply Kd.R_drew)); exact Kd.R_mono HO_3.out (fun _ hk => hk.1)⟩, ⟨by (with_reducible repeat (first | apply Kd.R_alloc | apply Kd.R_drewN | apply Kd.R_drew)); exact HO_6.out⟩, ⟨by (with_reducible repeat (first | apply Kd.R_alloc | apply Kd.R_drewN | apply Kd.R_drew)); exact Kd.R_mono HO_7.out (fun _ hk => hk.1)⟩, ⟨by (with_reducible repeat (first | apply Kd.R_alloc | apply Kd.R_drewN | apply Kd.R_drew)); exact HO_64.out⟩, ⟨by repeat (first | (with_reducible first | exact HB.out | apply below_alloc | apply pw_below_drewN | apply below_drew1) | exact HB.out)⟩⟩
                                                    · replace c55 := Bool.eq_false_iff.mpr c55
                                                      subst c55
                                                      have H1 : (laws_FnLabels.j7 kj37 a0 t192 t193 t197 t200 x66_4 (rd t197 x66_4) t197 (t197.length : Int) x66_4 true) = some r := by rw [if_neg (show ¬ (false = true) by decide)] at H; exact H
                                                      clear H
                                                      have H := H1
                                                      clear H1
                                                      have H' := Aside0.mk H
                                                      clear H
                                                      go_wp2
                                                      repeat (go_quiet (fail); try go_wp2)
                                                      go_meet
                                                      case rel => exact ⟨_, (true), (by first | rfl | (simp; done) | (simp [*]; done) | (simp [wrap64]; done)), H', ⟨by have := HJ2.out; have := HJ8.out; have := HJ14.out; have := HK4.out; have := HJ31.out; have := HJ33.out; have := HJ37.out; first | omega | exact Nat.le_refl _⟩, ⟨by (with_reducible repeat (first | apply Kd.R_alloc | apply Kd.R_drewN | apply Kd.R_drew)); exact Kd.R_mono HO_3.out (fun _ hk => hk.1)⟩, ⟨by (with_reducible repeat (first | apply Kd.R_alloc | apply Kd.R_drewN | apply Kd.R_drew)); exact HO_6.out⟩, ⟨by (with_reducible repeat (first | apply Kd.R_alloc | apply Kd.R_drewN | apply Kd.R_drew)); exact Kd.R_mono HO_7.out (fun _ hk => hk.1)⟩, ⟨by (with_reducible repeat (first | apply Kd.R_alloc | apply Kd.R_drewN | apply Kd.R_drew)); exact HO_64.out⟩, ⟨by repeat (first | (with_reducible first | exact HB.out | apply below_alloc | apply pw_below_drewN | apply below_drew1) | exact HB.out)⟩⟩
                                                  case rest => as_aux_lemma =>
                                                    clear HC52
                                                    try clear c1
                                                    try clear c2
                                                    try clear c2b0
                                                    try clear c2b1
                                                    try clear p2
                                                    try clear q2
                                                    try clear hx2
                                                    try clear qi2
                                                    try clear c3
                                                    try clear c4
                                                    try clear c5
                                                    try clear c6
                                                    try clear p6
                                                    try clear c7
                                                    try clear c11
                                                    try clear c12
                                                    try clear c19
                                                    try clear c19b0
                                                    try clear c19b1
                                                    try clear c20
                                                    try clear c20b0
                                                    try clear c20b1
                                                    try clear c20b2
                                                    try clear p20
                                                    try clear q20
                                                    try clear hx20
                                                    try clear p21
                                                    try clear q21
                                                    try clear hx21
                                                    try clear qi21
                                                    try clear c27
                                                    try clear c29
                                                    try clear c29b0
                                                    try clear c30
                                                    try clear c30b0
                                                    try clear c31
                                                    try clear c31b0
                                                    try clear c33
                                                    try clear c35
                                                    try clear c35b0
                                                    try clear c37
                                                    try clear c37b0
                                                    try clear c39
                                                    try clear c39b0
                                                    try clear c40
                                                    try clear c40b0
                                                    try clear c41
                                                    try clear c41b0
                                                    try clear c42
                                                    try clear c42b0
                                                    try clear c42b1
                                                    try clear c43
                                                    try clear c43b0
                                                    try clear c43b1
                                                    try clear c44
                                                    try clear c44b0
                                                    try clear c44b1
                                                    try clear c45
                                                    try clear c45b0
                                                    try clear c46
                                                    try clear c46b0
                                                    try clear c48
                                                    try clear c49
                                                    try clear c49b0
                                                    try clear c50
                                                    try clear c50b0
                                                    try clear c55
                                                    try clear c56
                                                    try clear c56b0
                                                    try clear c56b1
                                                    try clear c57
                                                    try clear c57b0
                                                    try clear c57b1
                                                    try clear c58
                                                    try clear c58b0
                                                    try clear hx204_0
                                                    try clear hx205_0
                                                    try clear hx206_0
                                                    try clear hx207_0
                                                    try clear hx213_0
                                                    try clear hx214_0
                                                    try clear p2
                                                    try clear p20
                                                    try clear p204
                                                    try clear p205
                                                    try clear p206
                                                    try clear p207
                                                    try clear p213
                                                    try clear p214
                                                    try clear p6
                                                    try clear q2
                                                    try clear q20
                                                    try clear q204
                                                    try clear q205
                                                    try clear q206
                                                    try clear q207
                                                    try clear q213
                                                    try clear q214
                                                    obtain ⟨kq, x136_51, rfl, HA, HJ51, HO_3, HO_6, HO_7, HO_64, HB⟩ := hcut
                                                    cases kq with
                                                    | zero => exact absurd HA.out (by simp [laws_FnLabels.j7])
                                                    | succ kj51 =>
                                                      have H := HA.out
                                                      clear HA
                                                      simp only [laws_FnLabels.j7] at H
                                                      by_cases c62 : x136_51 = true
                                                      · subst c62
                                                        have H1 : (some false) = some r := by rw [if_pos rfl] at H; exact H
                                                        clear H
                                                        have H := H1
                                                        clear H1
                                                        obtain rfl := Option.some.inj H
                                                        go_wp2
                                                        repeat (go_quiet (fail); try go_wp2)
                                                        go_ret
                                                        exact ⟨by first | rfl | (simp [errW_none, errW_some] <;> rfl) | (simp [*, errW_none, errW_some] <;> rfl), by repeat (first | (with_reducible first | exact HB.out | apply below_alloc | apply pw_below_drewN | apply below_drew1) | exact HB.out)⟩
                                                      · replace c62 := Bool.eq_false_iff.mpr c62
                                                        subst c62
                                                        have H1 : ((impl_Next.f kj51 a0 (rd t197 x66_4)).bind fun bt215 => (if (wrap64 (x66_4 + 1)) < (t197.length : Int) then (if bt215.2 = true then (laws_FnLabels.j8 kj51 a0 t192 t193 t197 t200 x66_4 (rd t197 x66_4) t197 (t197.length : Int) x66_4 true) else (if 0 ≤ (wrap64 (x66_4 + 1)) then (if bt215.1 = (rd t197 (wrap64 (x66_4 + 1))) then (if (wrap64 (x66_4 + 1)) = (t197.length : Int) then (laws_FnLabels.j8 kj51 a0 t192 t193 t197 t200 x66_4 (rd t197 x66_4) t197 (t197.length : Int) x66_4 (!bt215.2)) else (laws_FnLabels.j8 kj51 a0 t192 t193 t197 t200 x66_4 (rd t197 x66_4) t197 (t197.length : Int) x66_4 false)) else (laws_FnLabels.j8 kj51 a0 t192 t193 t197 t200 x66_4 (rd t197 x66_4) t197 (t197.length : Int) x66_4 true)) else (none))) else (if (wrap64 (x66_4 + 1)) = (t197.length : Int) then (laws_FnLabels.j8 kj51 a0 t192 t193 t197 t200 x66_4 (rd t197 x66_4) t197 (t197.length : Int) x66_4 (!bt215.2)) else (laws_FnLabels.j8 kj51 a0 t192 t193 t197 t200 x66_4 (rd t197 x66_4) t197 (t197.length : Int) x66_4 false)))) = some r := by rw [if_neg (show ¬ (false = true) by decide)] at H; exact H
                                                        clear H
                                                        have H := H1
                                                        clear H1
                                                        replace H := Option.bind_eq_some_iff.mp H
                                                        obtain ⟨⟨t215, t216⟩, A630, H⟩ := H
                                                        replace H : (if (wrap64 (x66_4 + 1)) < (t197.length : Int) then (if t216 = true then (laws_FnLabels.j8 kj51 a0 t192 t193 t197 t200 x66_4 (rd t197 x66_4) t197 (t197.length : Int) x66_4 true) else (if 0 ≤ (wrap64 (x66_4 + 1)) then (if t215 = (rd t197 (wrap64 (x66_4 + 1))) then (if (wrap64 (x66_4 + 1)) = (t197.length : Int) then (laws_FnLabels.j8 kj51 a0 t192 t193 t197 t200 x66_4 (rd t197 x66_4) t197 (t197.length : Int) x66_4 (!t216)) else (laws_FnLabels.j8 kj51 a0 t192 t193 t197 t200 x66_4 (rd t197 x66_4) t197 (t197.length : Int) x66_4 false)) else (laws_FnLabels.j8 kj51 a0 t192 t193 t197 t200 x66_4 (rd t197 x66_4) t197 (t197.length : Int) x66_4 true)) else (none))) else (if (wrap64 (x66_4 + 1)) = (t197.length : Int) then (laws_FnLabels.j8 kj51 a0 t192 t193 t197 t200 x66_4 (rd t197 x66_4) t197 (t197.length : Int) x66_4 (!t216)) else (laws_FnLabels.j8 kj51 a0 t192 t193 t197 t200 x66_4 (rd t197 x66_4) t197 (t197.length : Int) x66_4 false))) = some r := H
                                                        have A63 := Aside0.mk A630
                                                        clear A630
                                                        have HC64 := Aside0.mk H
                                                        clear H
                                                        go_upto_region 26 with (first | (go_at_call 29; (with_reducible refine (impl_Next.calls kj51 a0 (rd t197 x66_4) t215 t216 _ A63.out).mono ?_); rintro e w' ⟨rfl, ⟨nd, rfl⟩⟩; (try first | exact ⟨rfl, _, World.drewN_drewN _ _ _⟩ | exact ⟨rfl, _, Eq.trans (World.drewN_drewN _ _ _) (congrArg (World.drewN _) (Nat.add_assoc _ _ _))⟩)))
                                                        repeat (go_quiet (first | (go_at_call 29; (with_reducible refine (impl_Next.calls kj51 a0 (rd t197 x66_4) t215 t216 _ A63.out).mono ?_); rintro e w' ⟨rfl, ⟨nd, rfl⟩⟩; (try first | exact ⟨rfl, _, World.drewN_drewN _ _ _⟩ | exact ⟨rfl, _, Eq.trans (World.drewN_drewN _ _ _) (congrArg (World.drewN _) (Nat.add_assoc _ _ _))⟩))); go_upto_region 26 with (first | (go_at_call 29; (with_reducible refine (impl_Next.calls kj51 a0 (rd t197 x66_4) t215 t216 _ A63.out).mono ?_); rintro e w' ⟨rfl, ⟨nd, rfl⟩⟩; (try first | exact ⟨rfl, _, World.drewN_drewN _ _ _⟩ | exact ⟨rfl, _, Eq.trans (World.drewN_drewN _ _ _) (congrArg (World.drewN _) (Nat.add_assoc _ _ _))⟩))))
                                                        (try simp only [Act.put, List.setIfInBounds_toArray, List.set_cons_zero, List.set_cons_succ])
                                                        go_cut [170] (fun v170 wc => ∃ (kq : Nat) (x170_63 : Bool), v170 = .bool x170_63 ∧ Aside0 (laws_FnLabels.j8 kq a0 t192 t193 t197 t200 x66_4 (rd t197 x66_4) t197 (t197.length : Int) x66_4 x170_63 = some r) ∧ Aside0 (kq ≤ kj51) ∧ Aside0 (Kd.R Kd.string 9 wc w.heap.size (fun k_ => some k_ ≠ ((.slice (some ad207) t200.length co53) : Value).ownBlock) v195 t192) ∧ Aside0 (Kd.R (Kd.int .i64) 3 wc w.heap.size (fun _ => True) (.slice (some ad204) t197.length co28) t197) ∧ Aside0 (Kd.R Kd.string 9 wc w.heap.size (fun k_ => some k_ ≠ (v195 : Value).ownBlock) (.slice (some ad207) t200.length co53) t200) ∧ Aside0 (Kd.R (Kd.int .i64) 3 wc w.heap.size (fun _ => True) (.slice (some ad204) t197.length co28) t197) ∧ Aside0 (Below w.heap.size w wc))
                                                        case first => as_aux_lemma =>
                                                          have H := HC64.out
                                                          clear HC64
                                                          by_cases c65 : (wrap64 (x66_4 + 1)) < (t197.length : Int)
                                                          · rw [if_pos c65] at H
                                                            have c65b0 : decide ((wrap64 (x66_4 + 1)) < (t197.length : Int)) = true := decide_eq_true c65
                                                            clear c65
                                                            (first | rw [c65b0] | (simp only [i64_w, i32_w]; rw [c65b0]) | skip)
                                                            by_cases c66 : t216 = true
                                                            · subst c66
                                                              have H1 : (laws_FnLabels.j8 kj51 a0 t192 t193 t197 t200 x66_4 (rd t197 x66_4) t197 (t197.length : Int) x66_4 true) = some r := by rw [if_pos rfl] at H; exact H
                                                              clear H
                                                              have H := H1
                                                              clear H1
                                                              have H' := Aside0.mk H
                                                              clear H
                                                              go_wp2
                                                              repeat (go_quiet (fail); try go_wp2)
                                                              go_meet
                                                              case rel => exact ⟨_, (true), (by first | rfl | (simp; done) | (simp [*]; done) | (simp [wrap64]; done)), H', ⟨by have := HJ2.out; have := HJ8.out; have := HJ14.out; have := HK4.out; have := HJ31.out; have := HJ33.out; have := HJ37.out; have := HJ51.out; first | omega | exact Nat.le_refl _⟩, ⟨by (with_reducible repeat (first | apply Kd.R_alloc | apply Kd.R_drewN | apply Kd.R_drew)); exact HO_3.out⟩, ⟨by (with_reducible repeat (first | apply Kd.R_alloc | apply Kd.R_drewN | apply Kd.R_drew)); exact HO_6.out⟩, ⟨by (with_reducible repeat (first | apply Kd.R_alloc | apply Kd.R_drewN | apply Kd.R_drew)); exact HO_7.out⟩, ⟨by (with_reducible repeat (first | apply Kd.R_alloc | apply Kd.R_drewN | apply Kd.R_drew)); exact HO_64.out⟩, ⟨by repeat (first | (with_reducible first | exact HB.out | apply below_alloc | apply pw_below_drewN | apply below_drew1) | exact HB.out)⟩⟩
                                                            · replace c66 := Bool.eq_false_iff.mpr c66
                                                              subst c66
                                                              have H1 : (if 0 ≤ (wrap64 (x66_4 + 1)) then (if t215 = (rd t197 (wrap64 (x66_4 + 1))) then (if (wrap64 (x66_4 + 1)) = (t197.length : Int) then (laws_FnLabels.j8 kj51 a0 t192 t193 t197 t200 x66_4 (rd t197 x66_4) t197 (t197.length : Int) x66_4 (!false)) else (laws_FnLabels.j8 kj51 a0 t192 t193 t197 t200 x66_4 (rd t197 x66_4) t197 (t197.length : Int) x66_4 false)) else (laws_FnLabels.j8 kj51 a0 t192 t193 t197 t200 x66_4 (rd t197 x66_4) t197 (t197.length : Int) x66_4 true)) else (none)) = some r := by rw [if_neg (show ¬ (false = true) by decide)] at H; exact H
                                                              clear H
                                                              have H := H1
                                                              clear H1
                                                              obtain ⟨ji67, hji67⟩ : ∃ j_ : Int, (wrap64 (x66_4 + 1)) = j_ := ⟨_, rfl⟩
                                                              replace H : (if 0 ≤ (ji67) then (if t215 = (rd t197 (ji67)) then (if (ji67) = (t197.length : Int) then (laws_FnLabels.j8 kj51 a0 t192 t193 t197 t200 x66_4 (rd t197 x66_4) t197 (t197.length : Int) x66_4 (!false)) else (laws_FnLabels.j8 kj51 a0 t192 t193 t197 t200 x66_4 (rd t197 x66_4) t197 (t197.length : Int) x66_4 false)) else (laws_FnLabels.j8 kj51 a0 t192 t193 t197 t200 x66_4 (rd t197 x66_4) t197 (t197.length : Int) x66_4 true)) else (none)) = some r := by first | (rw [hji67] at H; exact H) | (simp only [hji67] at H ⊢; exact H)
                                                              (try rw [hji67] at c65b0)
                                                              have hji67w : (IntKind.i64.wrap (x66_4 + 1)) = ji67 := (i64_w _).trans hji67
                                                              by_cases c68 : 0 ≤ (ji67)
                                                              · rw [if_pos c68] at H
                                                                have c68b0 : decide (0 ≤ (ji67)) = true := decide_eq_true c68
                                                                clear c68
                                                                by_cases c69 : t215 = (rd t197 (ji67))
                                                                · rw [if_pos c69] at H
                                                                  have c69b0 : (t215 == (rd t197 (ji67))) = true := beq_iff_eq.mpr c69
                                                                  have c69b1 : (t215 != (rd t197 (ji67))) = false := bne_eq_false_iff_eq.mpr c69
                                                                  clear c69
                                                                  by_cases c70 : (ji67) = (t197.length : Int)
                                                                  · rw [if_pos c70] at H
                                                                    have c70b0 : ((ji67) == (t197.length : Int)) = true := beq_iff_eq.mpr c70
                                                                    have c70b1 : ((ji67) != (t197.length : Int)) = false := bne_eq_false_iff_eq.mpr c70
                                                                    clear c70
                                                                    have H' := Aside0.mk H
                                                                    clear H
                                                                    have p217 : 0 ≤ ((ji67) : Int) := of_decide_eq_true (by first | (with_reducible assumption) | assumption)
                                                                    have q217 : (ji67) < (t197.length : Int) := of_decide_eq_true (by first | (with_reducible assumption) | assumption)
                                                                    obtain ⟨ad217, e217, hx217_0⟩ := Kd.at_int (Kd.R_reads' HO_6.out).2.2 (ji67) p217 q217
                                                                    obtain rfl : ad204 = ad217 := (by injection e217)
                                                                    replace p217 := eq_true p217
                                                                    replace q217 := eq_true q217
                                                                    go_wp2
                                                                    repeat (go_quiet (fail); try go_wp2)
                                                                    go_meet
                                                                    case rel => exact ⟨_, (!false), (by first | rfl | (simp; done) | (simp [*]; done) | (simp [wrap64]; done)), H', ⟨by have := HJ2.out; have := HJ8.out; have := HJ14.out; have := HK4.out; have := HJ31.out; have := HJ33.out; have := HJ37.out; have := HJ51.out; first | omega | exact Nat.le_refl _⟩, ⟨by (with_reducible repeat (first | apply Kd.R_alloc | apply Kd.R_drewN | apply Kd.R_drew)); exact HO_3.out⟩, ⟨by (with_reducible repeat (first | apply Kd.R_alloc | apply Kd.R_drewN | apply Kd.R_drew)); exact HO_6.out⟩, ⟨by (with_reducible repeat (first | apply Kd.R_alloc | apply Kd.R_drewN | apply Kd.R_drew)); exact HO_7.out⟩, ⟨by (with_reducible repeat (first | apply Kd.R_alloc | apply Kd.R_drewN | apply Kd.R_drew)); exact HO_64.out⟩, ⟨by repeat (first | (with_reducible first | exact HB.out | apply below_alloc | apply pw_below_drewN | apply below_drew1) | exact HB.out)⟩⟩
                                                                  · rw [if_neg c70] at H
                                                                    have c70b0 : ((ji67) == (t197.length : Int)) = false := beq_eq_false_iff_ne.mpr c70
                                                                    have c70b1 : ((ji67) != (t197.length : Int)) = true := bne_iff_ne.mpr c70
                                                                    have H' := Aside0.mk H
                                                                    clear H
                                                                    have p217 : 0 ≤ ((ji67) : Int) := of_decide_eq_true (by first | (with_reducible assumption) | assumption)
                                                                    have q217 : (ji67) < (t197.length : Int) := of_decide_eq_true (by first | (with_reducible assumption) | assumption)
                                                                    obtain ⟨ad217, e217, hx217_0⟩ := Kd.at_int (Kd.R_reads' HO_6.out).2.2 (ji67) p217 q217
                                                                    obtain rfl : ad204 = ad217 := (by injection e217)
                                                                    replace p217 := eq_true p217
                                                                    replace q217 := eq_true q217
                                                                    go_wp2
                                                                    repeat (go_quiet (fail); try go_wp2)
                                                                    go_meet
                                                                    case rel => exact ⟨_, (false), (by first | rfl | (simp; done) | (simp [*]; done) | (simp [wrap64]; done)), H', ⟨by have := HJ2.out; have := HJ8.out; have := HJ14.out; have := HK4.out; have := HJ31.out; have := HJ33.out; have := HJ37.out; have := HJ51.out; first | omega | exact Nat.le_refl _⟩, ⟨by (with_reducible repeat (first | apply Kd.R_alloc | apply Kd.R_drewN | apply Kd.R_drew)); exact HO_3.out⟩, ⟨by (with_reducible repeat (first | apply Kd.R_alloc | apply Kd.R_drewN | apply Kd.R_drew)); exact HO_6.out⟩, ⟨by (with_reducible repeat (first | apply Kd.R_alloc | apply Kd.R_drewN | apply Kd.R_drew)); exact HO_7.out⟩, ⟨by (with_reducible repeat (first | apply Kd.R_alloc | apply Kd.R_drewN | apply Kd.R_drew)); exact HO_64.out⟩, ⟨by repeat (first | (with_reducible first | exact HB.out | apply below_alloc | apply pw_below_drewN | apply below_drew1) | exact HB.out)⟩⟩
                                                                · rw [if_neg c69] at H
                                                                  have c69b0 : (t215 == (rd t197 (ji67))) = false := beq_eq_false_iff_ne.mpr c69
                                                                  have c69b1 : (t215 != (rd t197 (ji67))) = true := bne_iff_ne.mpr c69
                                                                  have H' := Aside0.mk H
                                                                  clear H
                                                                  have p217 : 0 ≤ ((ji67) : Int) := of_decide_eq_true (by first | (with_reducible assumption) | assumption)
                                                                  have q217 : (ji67) < (t197.length : Int) := of_decide_eq_true (by first | (with_reducible assumption) | assumption)
                                                                  obtain ⟨ad217, e217, hx217_0⟩ := Kd.at_int (Kd.R_reads' HO_6.out).2.2 (ji67) p217 q217
                                                                  obtain rfl : ad204 = ad217 := (by injection e217)
                                                                  replace p217 := eq_true p217
                                                                  replace q217 := eq_true q217
                                                                  go_wp2
                                                                  repeat (go_quiet (fail); try go_wp2)
                                                                  go_meet
                                                                  case rel => exact ⟨_, (true), (by first | rfl | (simp; done) | (simp [*]; done) | (simp [wrap64]; done)), H', ⟨by have := HJ2.out; have := HJ8.out; have := HJ14.out; have := HK4.out; have := HJ31.out; have := HJ33.out; have := HJ37.out; have := HJ51.out; first | omega | exact Nat.le_refl _⟩, ⟨by (with_reducible repeat (first | apply Kd.R_alloc | apply Kd.R_drewN | apply Kd.R_drew)); exact HO_3.out⟩, ⟨by (with_reducible repeat (first | apply Kd.R_alloc | apply Kd.R_drewN | apply Kd.R_drew)); exact HO_6.out⟩, ⟨by (with_reducible repeat (first | apply Kd.R_alloc | apply Kd.R_drewN | apply Kd.R_drew)); exact HO_7.out⟩, ⟨by (with_reducible repeat (first | apply Kd.R_alloc | apply Kd.R_drewN | apply Kd.R_drew)); exact HO_64.out⟩, ⟨by repeat (first | (with_reducible first | exact HB.out | apply below_alloc | apply pw_below_drewN | apply below_drew1) | exact HB.out)⟩⟩
                                                              · rw [if_neg c68] at H
                                                                exact absurd H (by simp)
                                                          · rw [if_neg c65] at H
                                                            have c65b0 : decide ((wrap64 (x66_4 + 1)) < (t197.length : Int)) = false := decide_eq_false c65
                                                            clear c65
                                                            (first | rw [c65b0] | (simp only [i64_w, i32_w]; rw [c65b0]) | skip)
                                                            by_cases c71 : (wrap64 (x66_4 + 1)) = (t197.length : Int)
                                                            · rw [if_pos c71] at H
                                                              have c71b0 : ((wrap64 (x66_4 + 1)) == (t197.length : Int)) = true := beq_iff_eq.mpr c71
                                                              have c71b1 : ((wrap64 (x66_4 + 1)) != (t197.length : Int)) = false := bne_eq_false_iff_eq.mpr c71
                                                              clear c71
                                                              have H' := Aside0.mk H
                                                              clear H
                                                              go_wp2
                                                              repeat (go_quiet (fail); try go_wp2)
                                                              go_meet
                                                              case rel => exact ⟨_, (!t216), (by first | rfl | (simp; done) | (simp [*]; done) | (simp [wrap64]; done)), H', ⟨by have := HJ2.out; have := HJ8.out; have := HJ14.out; have := HK4.out; have := HJ31.out; have := HJ33.out; have := HJ37.out; have := HJ51.out; first | omega | exact Nat.le_refl _⟩, ⟨by (with_reducible repeat (first | apply Kd.R_alloc | apply Kd.R_drewN | apply Kd.R_drew)); exact HO_3.out⟩, ⟨by (with_reducible repeat (first | apply Kd.R_alloc | apply Kd.R_drewN | apply Kd.R_drew)); exact HO_6.out⟩, ⟨by (with_reducible repeat (first | apply Kd.R_alloc | apply Kd.R_drewN | apply Kd.R_drew)); exact HO_7.out⟩, ⟨by (with_reducible repeat (first | apply Kd.R_alloc | apply Kd.R_drewN | apply Kd.R_drew)); exact HO_64.out⟩, ⟨by repeat (first | (with_reducible first | exact HB.out | apply below_alloc | apply pw_below_drewN | apply below_drew1) | exact HB.out)⟩⟩
                                                            · rw [if_neg c71] at H
                                                              have c71b0 : ((wrap64 (x66_4 + 1)) == (t197.length : Int)) = false := beq_eq_false_iff_ne.mpr c71
                                                              have c71b1 : ((wrap64 (x66_4 + 1)) != (t197.length : Int)) = true := bne_iff_ne.mpr c71
                                                              have H' := Aside0.mk H
                                                              clear H
                                                              go_wp2
                                                              repeat (go_quiet (fail); try go_wp2)
                                                              go_meet
                                                              case rel => exact ⟨_, (false), (by first | rfl | (simp; done) | (simp [*]; done) | (simp [wrap64]; done)), H', ⟨by have := HJ2.out; have := HJ8.out; have := HJ14.out; have := HK4.out; have := HJ31.out; have := HJ33.out; have := HJ37.out; have := HJ51.out; first | omega | exact Nat.le_refl _⟩, ⟨by (with_reducible repeat (first | apply Kd.R_alloc | apply Kd.R_drewN | apply Kd.R_drew)); exact HO_3.out⟩, ⟨by (with_reducible repeat (first | apply Kd.R_alloc | apply Kd.R_drewN | apply Kd.R_drew)); exact HO_6.out⟩, ⟨by (with_reducible repeat (first | apply Kd.R_alloc | apply Kd.R_drewN | apply Kd.R_drew)); exact HO_7.out⟩, ⟨by (with_reducible repeat (first | apply Kd.R_alloc | apply Kd.R_drewN | apply Kd.R_drew)); exact HO_64.out⟩, ⟨by repeat (first | (with_reducible first | exact HB.out | apply below_alloc | apply pw_below_drewN | apply below_drew1) | exact HB.out)⟩⟩
                                                        case rest => as_aux_lemma =>
                                                          clear HC64
                                                          try clear c1
                                                          try clear c2
                                                          try clear c2b0
                                                          try clear c2b1
                                                          try clear p2
                                                          try clear q2
                                                          try clear hx2
                                                          try clear qi2
                                                          try clear c3
                                                          try clear c4
                                                          try clear c5
                                                          try clear c6
                                                          try clear p6
                                                          try clear c7
                                                          try clear c11
                                                          try clear c12
                                                          try clear c19
                                                          try clear c19b0
                                                          try clear c19b1
                                                          try clear c20
                                                          try clear c20b0
                                                          try clear c20b1
                                                          try clear c20b2
                                                          try clear p20
                                                          try clear q20
                                                          try clear hx20
                                                          try clear p21
                                                          try clear q21
                                                          try clear hx21
                                                          try clear qi21
                                                          try clear c27
                                                          try clear c29
                                                          try clear c29b0
                                                          try clear c30
                                                          try clear c30b0
                                                          try clear c31
                                                          try clear c31b0
                                                          try clear c33
                                                          try clear c35
                                                          try clear c35b0
                                                          try clear c37
                                                          try clear c37b0
                                                          try clear c39
                                                          try clear c39b0
                                                          try clear c40
                                                          try clear c40b0
                                                          try clear c41
                                                          try clear c41b0
                                                          try clear c42
                                                          try clear c42b0
                                                          try clear c42b1
                                                          try clear c43
                                                          try clear c43b0
                                                          try clear c43b1
                                                          try clear c44
                                                          try clear c44b0
                                                          try clear c44b1
                                                          try clear c45
                                                          try clear c45b0
                                                          try clear c46
                                                          try clear c46b0
                                                          try clear c48
                                                          try clear c49
                                                          try clear c49b0
                                                          try clear c50
                                                          try clear c50b0
                                                          try clear c55
                                                          try clear c56
                                                          try clear c56b0
                                                          try clear c56b1
                                                          try clear c57
                                                          try clear c57b0
                                                          try clear c57b1
                                                          try clear c58
                                                          try clear c58b0
                                                          try clear c62
                                                          try clear p64
                                                          try clear c65
                                                          try clear c65b0
                                                          try clear c66
                                                          try clear c68
                                                          try clear c68b0
                                                          try clear c69
                                                          try clear c69b0
                                                          try clear c69b1
                                                          try clear c70
                                                          try clear c70b0
                                                          try clear c70b1
                                                          try clear c71
                                                          try clear c71b0
                                                          try clear c71b1
                                                          try clear hx204_0
                                                          try clear hx205_0
                                                          try clear hx206_0
                                                          try clear hx207_0
                                                          try clear hx213_0
                                                          try clear hx214_0
                                                          try clear hx217_0
                                                          try clear p2
                                                          try clear p20
                                                          try clear p204
                                                          try clear p205
                                                          try clear p206
                                                          try clear p207
                                                          try clear p21
                                                          try clear p213
                                                          try clear p214
                                                          try clear p217
                                                          try clear p6
                                                          try clear q2
                                                          try clear q20
                                                          try clear q204
                                                          try clear q205
                                                          try clear q206
                                                          try clear q207
                                                          try clear q21
                                                          try clear q213
                                                          try clear q214
                                                          try clear q217
                                                          obtain ⟨kq, x170_63, rfl, HA, HJ63, HO_3, HO_6, HO_7, HO_64, HB⟩ := hcut
                                                          cases kq with
                                                          | zero => exact absurd HA.out (by simp [laws_FnLabels.j8])
                                                          | succ kj63 =>
                                                            have H := HA.out
                                                            clear HA
                                                            simp only [laws_FnLabels.j8] at H
                                                            by_cases c72 : x170_63 = true
                                                            · subst c72
                                                              have H1 : (some false) = some r := by rw [if_pos rfl] at H; exact H
                                                              clear H
                                                              have H := H1
                                                              clear H1
                                                              obtain rfl := Option.some.inj H
                                                              go_wp2
                                                              repeat (go_quiet (fail); try go_wp2)
                                                              go_ret
                                                              exact ⟨by first | rfl | (simp [errW_none, errW_some] <;> rfl) | (simp [*, errW_none, errW_some] <;> rfl), by repeat (first | (with_reducible first | exact HB.out | apply below_alloc | apply pw_below_drewN | apply below_drew1) | exact HB.out)⟩
                                                            · replace c72 := Bool.eq_false_iff.mpr c72
                                                              subst c72
                                                              have H1 : ((impl_Prev.f kj63 a0 (wrap64 ((t197.length : Int) - x66_4))).bind fun bt218 => (if bt218.1 = (rd t197 x66_4) then (if bt218.2 = true then (some false) else (laws_FnLabels.l0 kj63 a0 t192 t193 t197 t200 t197 (t197.length : Int) (wrap64 (x66_4 + 1)))) else (some false))) = some r := by rw [if_neg (show ¬ (false = true) by decide)] at H; exact H
                                                              clear H
                                                              have H := H1
                                                              clear H1
                                                              replace H := Option.bind_eq_some_iff.mp H
                                                              obtain ⟨⟨t218, t219⟩, A730, H⟩ := H
                                                              replace H : (if t218 = (rd t197 x66_4) then (if t219 = true then (some false) else (laws_FnLabels.l0 kj63 a0 t192 t193 t197 t200 t197 (t197.length : Int) (wrap64 (x66_4 + 1)))) else (some false)) = some r := H
                                                              have A73 := Aside0.mk A730
                                                              clear A730
                                                              by_cases c74 : t218 = (rd t197 x66_4)
                                                              · rw [if_pos c74] at H
                                                                have c74b0 : (t218 == (rd t197 x66_4)) = true := beq_iff_eq.mpr c74
                                                                have c74b1 : (t218 != (rd t197 x66_4)) = false := bne_eq_false_iff_eq.mpr c74
                                                                clear c74
                                                                by_cases c75 : t219 = true
                                                                · subst c75
                                                                  have H1 : (some false) = some r := by rw [if_pos rfl] at H; exact H
                                                                  clear H
                                                                  have H := H1
                                                                  clear H1
                                                                  obtain rfl := Option.some.inj H
                                                                  go_wp2_with (first | (go_at_call 30; (with_reducible refine (impl_Prev.calls kj63 a0 (wrap64 ((t197.length : Int) - x66_4)) t218 true _ A73.out).mono ?_); rintro e w' ⟨rfl, ⟨nd, rfl⟩⟩; (try first | exact ⟨rfl, _, World.drewN_drewN _ _ _⟩ | exact ⟨rfl, _, Eq.trans (World.drewN_drewN _ _ _) (congrArg (World.drewN _) (Nat.add_assoc _ _ _))⟩)))
                                                                  repeat (go_quiet (first | (go_at_call 30; (with_reducible refine (impl_Prev.calls kj63 a0 (wrap64 ((t197.length : Int) - x66_4)) t218 true _ A73.out).mono ?_); rintro e w' ⟨rfl, ⟨nd, rfl⟩⟩; (try first | exact ⟨rfl, _, World.drewN_drewN _ _ _⟩ | exact ⟨rfl, _, Eq.trans (World.drewN_drewN _ _ _) (congrArg (World.drewN _) (Nat.add_assoc _ _ _))⟩))); try go_wp2_with (first | (go_at_call 30; (with_reducible refine (impl_Prev.calls kj63 a0 (wrap64 ((t197.length : Int) - x66_4)) t218 true _ A73.out).mono ?_); rintro e w' ⟨rfl, ⟨nd, rfl⟩⟩; (try first | exact ⟨rfl, _, World.drewN_drewN _ _ _⟩ | exact ⟨rfl, _, Eq.trans (World.drewN_drewN _ _ _) (congrArg (World.drewN _) (Nat.add_assoc _ _ _))⟩))))
                                                                  go_ret
                                                                  exact ⟨by first | rfl | (simp [errW_none, errW_some] <;> rfl) | (simp [*, errW_none, errW_some] <;> rfl), by repeat (first | (with_reducible first | exact HB.out | apply below_alloc | apply pw_below_drewN | apply below_drew1) | exact HB.out)⟩
                                                                · replace c75 := Bool.eq_false_iff.mpr c75
                                                                  subst c75
                                                                  have H1 : (laws_FnLabels.l0 kj63 a0 t192 t193 t197 t200 t197 (t197.length : Int) (wrap64 (x66_4 + 1))) = some r := by rw [if_neg (show ¬ (false = true) by decide)] at H; exact H
                                                                  clear H
                                                                  have H := H1
                                                                  clear H1
                                                                  have H' := Aside0.mk H
                                                                  clear H
                                                                  go_wp2_with (first | (go_at_call 30; (with_reducible refine (impl_Prev.calls kj63 a0 (wrap64 ((t197.length : Int) - x66_4)) t218 false _ A73.out).mono ?_); rintro e w' ⟨rfl, ⟨nd, rfl⟩⟩; (try first | exact ⟨rfl, _, World.drewN_drewN _ _ _⟩ | exact ⟨rfl, _, Eq.trans (World.drewN_drewN _ _ _) (congrArg (World.drewN _) (Nat.add_assoc _ _ _))⟩)))
                                                                  repeat (go_quiet (first | (go_at_call 30; (with_reducible refine (impl_Prev.calls kj63 a0 (wrap64 ((t197.length : Int) - x66_4)) t218 false _ A73.out).mono ?_); rintro e w' ⟨rfl, ⟨nd, rfl⟩⟩; (try first | exact ⟨rfl, _, World.drewN_drewN _ _ _⟩ | exact ⟨rfl, _, Eq.trans (World.drewN_drewN _ _ _) (congrArg (World.drewN _) (Nat.add_assoc _ _ _))⟩))); try go_wp2_with (first | (go_at_call 30; (with_reducible refine (impl_Prev.calls kj63 a0 (wrap64 ((t197.length : Int) - x66_4)) t218 false _ A73.out).mono ?_); rintro e w' ⟨rfl, ⟨nd, rfl⟩⟩; (try first | exact ⟨rfl, _, World.drewN_drewN _ _ _⟩ | exact ⟨rfl, _, Eq.trans (World.drewN_drewN _ _ _) (congrArg (World.drewN _) (Nat.add_assoc _ _ _))⟩))))
                                                                  go_roundg kj63
                                                                  case measure => have := HJ2.out; have := HJ8.out; have := HJ14.out; have := HK4.out; have := HJ31.out; have := HJ33.out; have := HJ37.out; have := HJ51.out; have := HJ63.out; omega
                                                                  case rel => exact ⟨(wrap64 (x66_4 + 1)), (by first | rfl | (simp; done) | (simp [*]; done) | (simp [wrap64]; done)), H', ⟨by have := HJ2.out; have := HJ8.out; have := HJ14.out; have := HK4.out; have := HJ31.out; have := HJ33.out; have := HJ37.out; have := HJ51.out; have := HJ63.out; omega⟩, ⟨by (with_reducible repeat (first | apply Kd.R_alloc | apply Kd.R_drewN | apply Kd.R_drew)); exact HO_3.out⟩, ⟨by (with_reducible repeat (first | apply Kd.R_alloc | apply Kd.R_drewN | apply Kd.R_drew)); exact HO_6.out⟩, ⟨by (with_reducible repeat (first | apply Kd.R_alloc | apply Kd.R_drewN | apply Kd.R_drew)); exact HO_7.out⟩, ⟨by (with_reducible repeat (first | apply Kd.R_alloc | apply Kd.R_drewN | apply Kd.R_drew)); exact HO_64.out⟩, ⟨by repeat (first | (with_reducible first | exact HB.out | apply below_alloc | apply pw_below_drewN | apply below_drew1) | exact HB.out)⟩⟩
                                                              · rw [if_neg c74] at H
                                                                have c74b0 : (t218 == (rd t197 x66_4)) = false := beq_eq_false_iff_ne.mpr c74
                                                                have c74b1 : (t218 != (rd t197 x66_4)) = true := bne_iff_ne.mpr c74
                                                                obtain rfl := Option.some.inj H
                                                                go_wp2_with (first | (go_at_call 30; (with_reducible refine (impl_Prev.calls kj63 a0 (wrap64 ((t197.length : Int) - x66_4)) t218 t219 _ A73.out).mono ?_); rintro e w' ⟨rfl, ⟨nd, rfl⟩⟩; (try first | exact ⟨rfl, _, World.drewN_drewN _ _ _⟩ | exact ⟨rfl, _, Eq.trans (World.drewN_drewN _ _ _) (congrArg (World.drewN _) (Nat.add_assoc _ _ _))⟩)))
                                                                repeat (go_quiet (first | (go_at_call 30; (with_reducible refine (impl_Prev.calls kj63 a0 (wrap64 ((t197.length : Int) - x66_4)) t218 t219 _ A73.out).mono ?_); rintro e w' ⟨rfl, ⟨nd, rfl⟩⟩; (try first | exact ⟨rfl, _, World.drewN_drewN _ _ _⟩ | exact ⟨rfl, _, Eq.trans (World.drewN_drewN _ _ _) (congrArg (World.drewN _) (Nat.add_assoc _ _ _))⟩))); try go_wp2_with (first | (go_at_call 30; (with_reducible refine (impl_Prev.calls kj63 a0 (wrap64 ((t197.length : Int) - x66_4)) t218 t219 _ A73.out).mono ?_); rintro e w' ⟨rfl, ⟨nd, rfl⟩⟩; (try first | exact ⟨rfl, _, World.drewN_drewN _ _ _⟩ | exact ⟨rfl, _, Eq.trans (World.drewN_drewN _ _ _) (congrArg (World.drewN _) (Nat.add_assoc _ _ _))⟩))))
                                                                go_ret
                                                                exact ⟨by first | rfl | (simp [errW_none, errW_some] <;> rfl) | (simp [*, errW_none, errW_some] <;> rfl), by repeat (first | (with_reducible first | exact HB.out | apply below_alloc | apply pw_below_drewN | apply below_drew1) | exact HB.out)⟩
                                                · rw [if_neg c50] at H
                                                  exact absurd H (by simp)
                                              · rw [if_neg c49] at H
                                                exact absurd H (by simp)
                              · rw [if_neg c31] at H
                                exact absurd H (by simp)
                            · rw [if_neg c30] at H
                              exact absurd H (by simp)
                          · rw [if_neg c29] at H
                            have c29b0 : decide (x66_4 < (t197.length : Int)) = false := decide_eq_false c29
                            clear c29
                            obtain rfl := Option.some.inj H
                            go_wp2
                            repeat (go_quiet (fail); try go_wp2)
                            go_ret
                            exact ⟨by first | rfl | (simp [errW_none, errW_some] <;> rfl) | (simp [*, errW_none, errW_some] <;> rfl), by repeat (first | (with_reducible first | exact HB.out | apply below_alloc | apply pw_below_drewN | apply below_drew1) | exact HB.out)⟩

/-- THE ONE PURE STATEMENT of laws_FnLabels: yours. -/
def laws_FnLabels.Pure : Prop := ∀ (a0 : ByteArray), a0.size ≤ 140737488351232 → ∃ k, laws_FnLabels.f k a0 = some true
theorem laws_FnLabels.walk (P : laws_FnLabels.Pure) (a0 : ByteArray) (w : World) (w0 : a0.size ≤ 140737488351232) :
    Calls Tryd.prog 6 #[.string a0] w fun e w' => e = .returned (.bool true) ∧ Below w.heap.size w w' := by
  obtain ⟨k, h⟩ := P a0 w0
  refine (laws_FnLabels.calls k a0 true w h).mono ?_
  rintro e w' ⟨rfl, hd⟩
  exact ⟨rfl, hd⟩

end Go.Proofs.YtiilihafcdmccaaDoor.P
