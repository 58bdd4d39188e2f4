/- What is proved: for every two texts the law FnCommon answers true: names of ASCII without escapes have as many labels in common from the end as are alike, with letters of either size. Conditions: none beyond the row's own (each text takes at most 2^47 - 4096 bytes). -/
import Derived.Test.YtiilihafcdmccaaEvalC
namespace Go.Proofs.Ytiilihafcdmccaa.Pure
open Go.RowKit Go.Proofs.Ytiilihafcdmccaa.P Go.Proofs.YtiilihafcdmccaaW.PrintWords Go.Proofs.YtiilihafcdmccaaW.PrintLast
set_option linter.unusedVariables false
set_option linter.unusedSimpArgs false

theorem few_f (s : ByteArray) : laws_few.f s = some (decide (s.size ≤ 4096)) := by
  unfold laws_few.f
  congr 1
  exact decide_eq_decide.2 (by omega)
theorem j0_true (a b : ByteArray) : Ev (fun k => laws_FnCommon.j0 k a b true) true := by
  refine ⟨1, fun k hk => ?_⟩
  obtain ⟨m, rfl⟩ : ∃ m, k = m + 1 := ⟨k - 1, by omega⟩
  simp only [laws_FnCommon.j0]
  rw [if_pos trivial]
theorem j1_true (a b : ByteArray) : Ev (fun k => laws_FnCommon.j1 k a b true) true := by
  refine ⟨1, fun k hk => ?_⟩
  obtain ⟨m, rfl⟩ : ∃ m, k = m + 1 := ⟨k - 1, by omega⟩
  simp only [laws_FnCommon.j1]
  rw [if_pos trivial]
theorem j2_true (a b : ByteArray) (n m : List ByteArray) : Ev (fun k => laws_FnCommon.j2 k a b n m true) true := by
  refine ⟨1, fun k hk => ?_⟩
  obtain ⟨m, rfl⟩ : ∃ m, k = m + 1 := ⟨k - 1, by omega⟩
  simp only [laws_FnCommon.j2]
  rw [if_pos trivial]
theorem j2_ev (a b : ByteArray) (ha : a.size ≤ 4096) (hb : b.size ≤ 4096) {A B : List (List Int)} (zA : sizeL A ≤ 255) (zB : sizeL B ≤ 255) (bA : ∀ l ∈ A, IsB l) (bB : ∀ l ∈ B, IsB l)
    (hA : (A = [] ∧ bytesOf a = [46]) ∨ (A ≠ [] ∧ Labs A A ∧ bytesOf a = joinD A)) (hB : (B = [] ∧ bytesOf b = [46]) ∨ (B ≠ [] ∧ Labs B B ∧ bytesOf b = joinD B)) :
    Ev (fun k => laws_FnCommon.j2 k a b (A.map strOfNums) (B.map strOfNums) false) true := by
  obtain ⟨w, hw⟩ := com_of (A.map (List.map lowI)) (B.map (List.map lowI))
  have h1 := spec_common_ev A B bA bB (by omega) (by omega) hw
  have la := hw.la
  have lb := hw.lb
  rw [List.length_map] at la lb
  have hc : Ev (fun k => dns_CompareDomainName.f k a b) (w : Int) ∧ Ev (fun k => dns_CompareDomainName.f k b a) (w : Int) := by
    rcases hA with ⟨rfl, eA⟩ | ⟨nA, lA, eA⟩
    · obtain rfl : w = 0 := by simpa using la
      exact ⟨compare_dot (.inl eA), compare_dot (.inr eA)⟩
    · rcases hB with ⟨rfl, eB⟩ | ⟨nB, lB, eB⟩
      · obtain rfl : w = 0 := by simpa using lb
        exact ⟨compare_dot (.inr eB), compare_dot (.inl eB)⟩
      · exact ⟨compare_ev (by omega) (by omega) eA eB lA lB nA nB hw, compare_ev (by omega) (by omega) eB eA lB lA nB nA hw.symm⟩
  have hn : Ev (fun k => dns_CountLabel.f k a) (A.length : Int) := by
    rcases hA with ⟨rfl, eA⟩ | ⟨nA, lA, eA⟩
    · refine ⟨0, fun k _ => ?_⟩
      show dns_CountLabel.f k a = _
      unfold dns_CountLabel.f
      rw [if_pos ((toList_dot a).2 eA)]
      rfl
    · have h := count_ev (s := a) (by omega) lA .nil (by rw [eA, List.append_nil]) (by
        rw [eA]
        cases A with
        | nil => exact absurd rfl nA
        | cons r rs => simp [joinD])
      rwa [namesOf, if_pos rfl] at h
  have i1 : Ev (fun k => impl_Common.f k a b) (w : Int) := Ev.bind (f := fun _ t => some t) hc.1 (Ev.now _)
  have i2 : Ev (fun k => impl_Common.f k b a) (w : Int) := Ev.bind (f := fun _ t => some t) hc.2 (Ev.now _)
  have i3 : Ev (fun k => impl_IsSub.f k a b) ((w : Int) == (A.length : Int)) :=
    Ev.bind (f := fun _ t => some t) (Ev.bind (f := fun k t => (dns_CountLabel.f k a).bind fun u => some (t == u)) hc.1 (Ev.bind (f := fun _ u => some ((w : Int) == u)) hn (Ev.now _))) (Ev.now _)
  refine Ev.step (f := fun k => (spec_Common.f k (A.map strOfNums) (B.map strOfNums)).bind fun x => (impl_Common.f k a b).bind fun y => if y = x then (impl_Common.f k b a).bind fun z => if z = x then (impl_IsSub.f k a b).bind fun u => some (u == (x == ((A.map strOfNums).length : Int))) else some false else some false) (fun k => ?_)
    (Ev.bind (f := fun k x => (impl_Common.f k a b).bind fun y => if y = x then (impl_Common.f k b a).bind fun z => if z = x then (impl_IsSub.f k a b).bind fun u => some (u == (x == ((A.map strOfNums).length : Int))) else some false else some false) h1
    (Ev.bind (f := fun k y => if y = (w : Int) then (impl_Common.f k b a).bind fun z => if z = (w : Int) then (impl_IsSub.f k a b).bind fun u => some (u == ((w : Int) == ((A.map strOfNums).length : Int))) else some false else some false) i1 ?_))
  · simp only [laws_FnCommon.j2]
    rw [if_neg Bool.false_ne_true]
  · simp only [if_true]
    refine Ev.bind (f := fun k z => if z = (w : Int) then (impl_IsSub.f k a b).bind fun u => some (u == ((w : Int) == ((A.map strOfNums).length : Int))) else some false) i2 ?_
    simp only [if_true]
    refine Ev.bind (f := fun k u => some (u == ((w : Int) == ((A.map strOfNums).length : Int)))) i3 ?_
    rw [List.length_map]
    refine ⟨0, fun k _ => ?_⟩
    simp
theorem j1_ev (a b : ByteArray) (ha : a.size ≤ 4096) (hb : b.size ≤ 4096) (fl : Bool) : Ev (fun k => laws_FnCommon.j1 k a b fl) true := by
  cases fl with
  | true => exact j1_true a b
  | false =>
    obtain ⟨n, w, o, h1, k1⟩ := lplain_ev ha
    obtain ⟨n', w', o', h2, k2⟩ := lplain_ev hb
    refine Ev.step (f := fun k => (laws_plain.f k a).bind fun x => (laws_plain.f k b).bind fun y => (if x.2.2 = true then (if y.2.2 = true then (if x.2.1 = true then (laws_FnCommon.j2 k a b x.1 y.1 (!y.2.1)) else (laws_FnCommon.j2 k a b x.1 y.1 true)) else (laws_FnCommon.j2 k a b x.1 y.1 true)) else (laws_FnCommon.j2 k a b x.1 y.1 true))) (fun k => ?_)
      (Ev.bind (f := fun k x => (laws_plain.f k b).bind fun y => (if x.2.2 = true then (if y.2.2 = true then (if x.2.1 = true then (laws_FnCommon.j2 k a b x.1 y.1 (!y.2.1)) else (laws_FnCommon.j2 k a b x.1 y.1 true)) else (laws_FnCommon.j2 k a b x.1 y.1 true)) else (laws_FnCommon.j2 k a b x.1 y.1 true))) h1
      (Ev.bind (f := fun k y => (if o = true then (if y.2.2 = true then (if w = true then (laws_FnCommon.j2 k a b n y.1 (!y.2.1)) else (laws_FnCommon.j2 k a b n y.1 true)) else (laws_FnCommon.j2 k a b n y.1 true)) else (laws_FnCommon.j2 k a b n y.1 true))) h2 ?_))
    · simp only [laws_FnCommon.j1]
      rw [if_neg Bool.false_ne_true]
    · cases o with
      | false => exact j2_true a b n n'
      | true =>
        cases o' with
        | false => exact j2_true a b n n'
        | true =>
          cases w with
          | false => exact j2_true a b n n'
          | true =>
            cases w' with
            | false => exact j2_true a b n n'
            | true =>
              obtain ⟨A, rfl, zA, bA, hA⟩ := k1 rfl rfl
              obtain ⟨B, rfl, zB, bB, hB⟩ := k2 rfl rfl
              exact j2_ev a b ha hb zA zB bA bB hA hB
theorem j0_ev (a b : ByteArray) (fl : Bool) (ha : a.size ≤ 140737488351232) (hb : b.size ≤ 140737488351232) : Ev (fun k => laws_FnCommon.j0 k a b fl) true := by
  cases fl with
  | true => exact j0_true a b
  | false =>
    by_cases h1 : a.size ≤ 4096
    · by_cases h2 : b.size ≤ 4096
      · refine Ev.step (f := fun k => (laws_ascii.f k a).bind fun x => if x = true then (laws_ascii.f k b).bind fun y => laws_FnCommon.j1 k a b (!y) else laws_FnCommon.j1 k a b true) (fun k => ?_) (Ev.bind (f := fun k x => if x = true then (laws_ascii.f k b).bind fun y => laws_FnCommon.j1 k a b (!y) else laws_FnCommon.j1 k a b true) (ascii_ev ha) ?_)
        · simp only [laws_FnCommon.j0]
          rw [if_neg Bool.false_ne_true, few_f, few_f, decide_eq_true h1, decide_eq_true h2]
          rfl
        · cases (bytesOf a).all fun x => decide (x < 128) with
          | false => exact j1_true a b
          | true => exact Ev.bind (f := fun k y => laws_FnCommon.j1 k a b (!y)) (ascii_ev hb) (j1_ev a b h1 h2 _)
      · refine Ev.step (f := fun k => laws_FnCommon.j1 k a b true) (fun k => ?_) (j1_true a b)
        simp only [laws_FnCommon.j0]
        rw [if_neg Bool.false_ne_true, few_f, few_f, decide_eq_true h1, decide_eq_false h2]
        rfl
    · refine Ev.step (f := fun k => laws_FnCommon.j1 k a b true) (fun k => ?_) (j1_true a b)
      simp only [laws_FnCommon.j0]
      rw [if_neg Bool.false_ne_true, few_f, decide_eq_false h1]
      rfl
theorem FnCommon : laws_FnCommon.Pure := by
  intro a b ha hb
  refine Ev.rounds ?_
  by_cases h : (a.size : Int) > 2147483647
  · refine Ev.congr (fun k => ?_) (j0_true a b)
    unfold laws_FnCommon.f
    rw [if_pos h]
  · refine Ev.congr (fun k => ?_) (j0_ev a b (decide ((b.size : Int) > 2147483647)) ha hb)
    unfold laws_FnCommon.f
    rw [if_neg h]

end Go.Proofs.Ytiilihafcdmccaa.Pure
