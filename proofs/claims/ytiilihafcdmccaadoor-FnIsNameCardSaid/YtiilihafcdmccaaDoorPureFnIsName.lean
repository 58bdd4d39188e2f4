/- What is proved: for every text the law FnIsName answers true: a text of ASCII is a name just if its labels have 1 to 63 bytes each, escapes counted as the byte that they are, and all of it has room in 255 bytes; its labels are counted. Conditions: none beyond the row's own. -/
import Derived.Test.YtiilihafcdmccaaDoorEvalI
import Derived.Test.YtiilihafcdmccaaDoorPF5
import Derived.Test.YtiilihafcdmccaaDoorPF25
namespace Go.Proofs.YtiilihafcdmccaaDoor.Pure
open Go.RowKit Go.Proofs.YtiilihafcdmccaaDoor.P Go.Proofs.YtiilihafcdmccaaDoorW.PrintWords Go.Proofs.YtiilihafcdmccaaDoorW.PrintLast
set_option linter.unusedVariables false
set_option linter.unusedSimpArgs false
theorem isname_j0_true (a : ByteArray) : Ev (fun k => laws_FnIsName.j0 k a true) true := by
  refine ⟨1, fun k hk => ?_⟩
  obtain ⟨m, rfl⟩ : ∃ m, k = m + 1 := ⟨k - 1, by omega⟩
  simp only [laws_FnIsName.j0]
  rw [if_pos trivial]
theorem isname_core (a : ByteArray) {n : List ByteArray} {w ok b : Bool} {z c : Int} (h1 : Ev (fun k => spec_ParseName.f k a) (n, w, ok)) (h2 : Ev (fun k => spec_Name_Size.f k n) z) (h3 : Ev (fun k => impl_IsName.f k a) (c, b))
    (hok : ok = true → b = true ∧ c = n.length) (hno : ok = false → (z > 255 ∧ z < 260) ∨ b = false) : Ev (fun k => laws_FnIsName.j0 k a false) true := by
  refine Ev.step (f := fun k => (spec_ParseName.f k a).bind fun x => (spec_Name_Size.f k x.1).bind fun t => (if x.2.2 = true then ((impl_IsName.f k a).bind fun y => (if (y.2 == x.2.2) = true then (some (y.1 == (x.1.length : Int))) else (some false))) else (if t > 255 then (if t < 260 then (some true) else ((impl_IsName.f k a).bind fun y => (if (y.2 == x.2.2) = true then (some true) else (some false)))) else ((impl_IsName.f k a).bind fun y => (if (y.2 == x.2.2) = true then (some true) else (some false)))))) (fun k => ?_) (Ev.bind (f := fun k x => (spec_Name_Size.f k x.1).bind fun t => (if x.2.2 = true then ((impl_IsName.f k a).bind fun y => (if (y.2 == x.2.2) = true then (some (y.1 == (x.1.length : Int))) else (some false))) else (if t > 255 then (if t < 260 then (some true) else ((impl_IsName.f k a).bind fun y => (if (y.2 == x.2.2) = true then (some true) else (some false)))) else ((impl_IsName.f k a).bind fun y => (if (y.2 == x.2.2) = true then (some true) else (some false)))))) h1 ?_)
  · simp only [laws_FnIsName.j0]
    rw [if_neg Bool.false_ne_true]
  · refine Ev.bind (f := fun k t => (if ok = true then ((impl_IsName.f k a).bind fun y => (if (y.2 == ok) = true then (some (y.1 == (n.length : Int))) else (some false))) else (if t > 255 then (if t < 260 then (some true) else ((impl_IsName.f k a).bind fun y => (if (y.2 == ok) = true then (some true) else (some false)))) else ((impl_IsName.f k a).bind fun y => (if (y.2 == ok) = true then (some true) else (some false)))))) h2 ?_
    cases ok with
    | true =>
      obtain ⟨rfl, rfl⟩ := hok rfl
      refine Ev.bind (f := fun k y => (if (y.2 == true) = true then (some (y.1 == (n.length : Int))) else (some false))) h3 ⟨0, fun k _ => ?_⟩
      simp
    | false =>
      rcases hno rfl with ⟨g1, g2⟩ | rfl
      · refine ⟨0, fun k _ => ?_⟩
        simp only [Bool.false_eq_true, if_false]
        rw [if_pos g1, if_pos g2]
      · have h4 : Ev (fun k => (impl_IsName.f k a).bind fun y => (if (y.2 == false) = true then (some true) else (some false))) true :=
          Ev.bind (f := fun k y => (if (y.2 == false) = true then (some true) else (some false))) h3 ⟨0, fun k _ => by simp⟩
        by_cases g1 : z > 255
        · by_cases g2 : z < 260
          · refine ⟨0, fun k _ => ?_⟩
            simp only [Bool.false_eq_true, if_false]
            rw [if_pos g1, if_pos g2]
          · refine Ev.congr (fun k => ?_) h4
            simp only [Bool.false_eq_true, if_false]
            rw [if_pos g1, if_neg g2]
        · refine Ev.congr (fun k => ?_) h4
          simp only [Bool.false_eq_true, if_false]
          rw [if_neg g1]
theorem isname_of {a f : ByteArray} {c : Int} {b : Bool} (h0 : a.size ≠ 0) (hf : dns_Fqdn.f a = some f) (h : Ev (fun k => dns_IsDomainName.l0 k f 0 0 0 false false 0) (c, b)) : Ev (fun k => impl_IsName.f k a) (c, b) := by
  refine Ev.bind (f := fun k x => some (x.1, x.2)) (Ev.congr (fun k => ?_) h) (Ev.now _)
  unfold dns_IsDomainName.f
  rw [if_neg (by omega), hf]
  rfl
theorem okB_of {n : List (List Int)} (h : okB n = true) : ∀ l ∈ n, l.length ≤ 63 := by
  intro l hl
  have := List.all_eq_true.1 h l hl
  exact (of_decide_eq_true this).2
theorem isname_j0 (a : ByteArray) (hs : a.size ≤ 4096) (h0 : bytesOf a ≠ []) (h46 : bytesOf a ≠ [46]) (hA : isAscii (bytesOf a) = true) (b : Bool) (hb : Ev (fun k => laws_escapes.f k a) b) : Ev (fun k => laws_FnIsName.j0 k a (!b)) true := by
  cases b with
  | false => exact isname_j0_true a
  | true =>
    have hB := bytesOf_isB a
    have hsz0 : a.size ≠ 0 := by
      intro h
      apply h0
      apply List.eq_nil_of_length_eq_zero
      rw [bytesOf_length, h]
    rcases dec (bytesOf a) with ⟨rs, ls, r, l, h1, h2, e⟩ | ⟨rs, ls, rest, h1, e⟩ | ⟨rs, ls, r, l, rest, h1, h2, e, hno⟩
    · have hp := parse_ok (by omega) h1 h2 e
      obtain ⟨f, hf, ef⟩ := fqdn_text hA (by omega) h1 h2 e h0
      have hN := namesOf_labs h1 h2
      have hz := namesOf_size h1 h2
      have hl := bytesOf_length a
      rw [e, List.length_append] at hl
      have hzz := size_ev (namesOf ls l) (by omega)
      have hfs : f.size ≤ 1000000 := by
        obtain ⟨f', hf', ef'⟩ := fqdn_f hA (show a.size ≤ 1000000 by omega)
        rw [hf] at hf'
        injection hf' with hf'
        rw [← bytesOf_length f, hf', ef', List.length_append, bytesOf_length]
        split <;> simp <;> omega
      have hne : namesOf rs r ≠ [] := by
        unfold namesOf
        split
        · rename_i hr
          subst hr
          intro h
          subst h
          exact h0 e
        · simp
      obtain ⟨i1, i2⟩ := idn_whole hfs hN ef hne
      have hne2 : namesOf ls l ≠ [] := fun h => hne (List.eq_nil_of_length_eq_zero (by rw [hN.length, h]; rfl))
      have hsum := sumL_size (namesOf ls l)
      by_cases hfit : fits 0 (namesOf ls l)
      · have h3 := isname_of hsz0 hf (i1 hfit)
        refine isname_core a hp hzz h3 (fun _ => ⟨rfl, by rw [List.length_map]⟩) (fun hk => ?_)
        left
        rw [decide_eq_true hne2, Bool.true_and] at hk
        have hok : okB (namesOf ls l) = true := by
          apply List.all_eq_true.2
          intro x hx
          have h1 := hfit.1 x hx
          have h2 := hN.ne x hx
          have : 0 < x.length := List.length_pos_iff.2 h2
          exact decide_eq_true ⟨by omega, h1⟩
        unfold validB at hk
        rw [hok, Bool.true_and] at hk
        have := of_decide_eq_false hk
        have := hfit.2
        omega
      · obtain ⟨x, hx⟩ := i2 hfit
        have h3 := isname_of hsz0 hf hx
        refine isname_core a hp hzz h3 (fun hk => ?_) (fun _ => .inr rfl)
        exfalso
        rw [decide_eq_true hne2, Bool.true_and] at hk
        unfold validB at hk
        rw [Bool.and_eq_true] at hk
        exact hfit ⟨okB_of hk.1, by have := of_decide_eq_true hk.2; omega⟩
    · have hp := parse_empty (by omega) h1 e h46
      obtain ⟨f, hf, ef⟩ := fqdn_f hA (show a.size ≤ 1000000 by omega)
      have hfl := bytesOf_length f
      have hal := bytesOf_length a
      have hfs : f.size ≤ 1000000 ∧ a.size ≤ f.size := by
        rw [ef, List.length_append] at hfl
        split at hfl <;> simp at hfl <;> omega
      have hf1 : 1 < f.size := by
        rcases Nat.lt_or_ge 1 f.size with h | h
        · exact h
        · exfalso
          have ha1 : a.size = 1 := by omega
          rw [e, List.length_append, List.length_cons, ha1] at hal
          have hj : joinD rs = [] := List.eq_nil_of_length_eq_zero (by omega)
          have hr : rest = [] := List.eq_nil_of_length_eq_zero (by omega)
          rw [hj, hr] at e
          exact h46 e
      obtain ⟨x, hx⟩ := idn_empty (rest := rest ++ (if fqB a = true then [] else [46])) hfs.1 h1 (by rw [ef, e]; simp) hf1
      have hzz := size_ev [] (by simp [sizeL])
      exact isname_core a hp hzz (isname_of hsz0 hf hx) (fun h => by cases h) (fun _ => .inr rfl)
    · have h := escapes_bad (show a.size ≤ 1000000 by omega) h1 h2 e hno
      obtain ⟨K, hK⟩ := h
      obtain ⟨K', hK'⟩ := hb
      have g1 := hK (max K K') (by omega)
      have g2 := hK' (max K K') (by omega)
      rw [g1] at g2
      cases g2
theorem FnIsName : laws_FnIsName.Pure := by
  intro a ha
  refine Ev.rounds ?_
  by_cases h : (a.size : Int) > 2147483647
  · refine Ev.congr (fun k => ?_) (Ev.now true)
    unfold laws_FnIsName.f
    rw [if_pos h]
  · by_cases h0 : bytesOf a = []
    · refine Ev.congr (fun k => ?_) (isname_j0_true a)
      unfold laws_FnIsName.f
      rw [if_neg h, if_pos ((toList_nil a).2 h0)]
    · by_cases h46 : bytesOf a = [46]
      · refine Ev.congr (fun k => ?_) (isname_j0_true a)
        unfold laws_FnIsName.f
        rw [if_neg h, if_neg (by rw [toList_nil]; exact h0), if_pos ((toList_dot a).2 h46)]
      · by_cases hs : a.size ≤ 4096
        · refine Ev.congr (f := fun k => (laws_ascii.f k a).bind fun t => if t = true then ((laws_escapes.f k a).bind fun u => laws_FnIsName.j0 k a (!u)) else laws_FnIsName.j0 k a true) (fun k => ?_) (Ev.bind (f := fun k t => if t = true then ((laws_escapes.f k a).bind fun u => laws_FnIsName.j0 k a (!u)) else laws_FnIsName.j0 k a true) (ascii_ev ha) ?_)
          · unfold laws_FnIsName.f
            rw [if_neg h, if_neg (by rw [toList_nil]; exact h0), if_neg (by rw [toList_dot]; exact h46), few_f, decide_eq_true hs]
            rfl
          · cases hA : (bytesOf a).all fun x => decide (x < 128) with
            | false => exact isname_j0_true a
            | true =>
              obtain ⟨b, hb⟩ := escapes_some (show a.size ≤ 1000000 by omega)
              exact Ev.bind (f := fun k u => laws_FnIsName.j0 k a (!u)) hb (isname_j0 a hs h0 h46 hA b hb)
        · refine Ev.congr (fun k => ?_) (isname_j0_true a)
          unfold laws_FnIsName.f
          rw [if_neg h, if_neg (by rw [toList_nil]; exact h0), if_neg (by rw [toList_dot]; exact h46), few_f, decide_eq_false hs]
          rfl
end Go.Proofs.YtiilihafcdmccaaDoor.Pure
