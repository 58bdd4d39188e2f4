/- What is proved: for every text the law FnFqdn answers true: a whole name (of ASCII) ends with a point that is no escape; another one becomes whole by a point. Conditions: none beyond the row's own. -/
import Derived.Test.YtiilihafcdmccaaDoorEvalG
import Derived.Test.YtiilihafcdmccaaDoorPF4
namespace Go.Proofs.YtiilihafcdmccaaDoor.Pure
open Go.RowKit Go.Proofs.YtiilihafcdmccaaDoor.P Go.Proofs.YtiilihafcdmccaaDoorW.PrintWords Go.Proofs.YtiilihafcdmccaaDoorW.PrintLast
set_option linter.unusedVariables false
set_option linter.unusedSimpArgs false
theorem fqdn_j0_true (a : ByteArray) : Ev (fun k => laws_FnFqdn.j0 k a true) true := by
  refine ⟨1, fun k hk => ?_⟩
  obtain ⟨m, rfl⟩ : ∃ m, k = m + 1 := ⟨k - 1, by omega⟩
  simp only [laws_FnFqdn.j0]
  rw [if_pos trivial]
/-- The law's core: what is parsed, what Fqdn gives, what that is parsed as. -/
theorem fqdn_core (a f : ByteArray) {n m : List ByteArray} {w : Bool} (h1 : Ev (fun k => spec_ParseName.f k a) (n, w, true)) (hf : impl_Fqdn.f a = some f) (h2 : Ev (fun k => spec_ParseName.f k f) (m, true, true))
    (i1 : impl_IsFqdn.f a = some w) (i2 : impl_IsFqdn.f f = some true) (he : Ev (fun k => spec_Name_Equal.f k m n) true) (hw : w = true → f = a) : Ev (fun k => laws_FnFqdn.j0 k a false) true := by
  refine Ev.step (f := fun k => (spec_ParseName.f k a).bind fun x => if x.2.2 = true then ((impl_Fqdn.f a).bind fun y => ((spec_ParseName.f k y).bind fun z => ((impl_IsFqdn.f a).bind fun t141 => (if (t141 != x.2.1) = true then (some false) else ((impl_IsFqdn.f y).bind fun t142 => (if t142 = true then (if z.2.2 = true then (if z.2.1 = true then ((spec_Name_Equal.f k z.1 x.1).bind fun t143 => (if t143 = true then (if x.2.1 = true then (some (y.toList == a.toList)) else (some true)) else (some false))) else (some false)) else (some false)) else (some false))))))) else some true) (fun k => ?_) (Ev.bind (f := fun k x => if x.2.2 = true then ((impl_Fqdn.f a).bind fun y => ((spec_ParseName.f k y).bind fun z => ((impl_IsFqdn.f a).bind fun t141 => (if (t141 != x.2.1) = true then (some false) else ((impl_IsFqdn.f y).bind fun t142 => (if t142 = true then (if z.2.2 = true then (if z.2.1 = true then ((spec_Name_Equal.f k z.1 x.1).bind fun t143 => (if t143 = true then (if x.2.1 = true then (some (y.toList == a.toList)) else (some true)) else (some false))) else (some false)) else (some false)) else (some false))))))) else some true) h1 ?_)
  · simp only [laws_FnFqdn.j0]
    rw [if_neg Bool.false_ne_true]
  · simp only [if_true, hf, i1, Option.bind_some]
    refine Ev.bind (f := fun k z => if (w != w) = true then some false else ((impl_IsFqdn.f f).bind fun t142 => (if t142 = true then (if z.2.2 = true then (if z.2.1 = true then ((spec_Name_Equal.f k z.1 n).bind fun t143 => (if t143 = true then (if w = true then (some (f.toList == a.toList)) else (some true)) else (some false))) else (some false)) else (some false)) else (some false)))) h2 ?_
    have hww : (w != w) = false := by simp
    simp only [hww, i2, Option.bind_some, if_true, Bool.false_eq_true, if_false]
    refine Ev.bind (f := fun k t => if t = true then (if w = true then some (f.toList == a.toList) else some true) else some false) he ?_
    simp only [if_true]
    cases w with
    | false => exact Ev.now _
    | true =>
      rw [hw rfl]
      refine ⟨0, fun k _ => ?_⟩
      simp
theorem fqdn_fail (a : ByteArray) {n : List ByteArray} {w : Bool} (h1 : Ev (fun k => spec_ParseName.f k a) (n, w, false)) : Ev (fun k => laws_FnFqdn.j0 k a false) true := by
  refine Ev.step (f := fun k => (spec_ParseName.f k a).bind fun x => if x.2.2 = true then ((impl_Fqdn.f a).bind fun y => ((spec_ParseName.f k y).bind fun z => ((impl_IsFqdn.f a).bind fun t141 => (if (t141 != x.2.1) = true then (some false) else ((impl_IsFqdn.f y).bind fun t142 => (if t142 = true then (if z.2.2 = true then (if z.2.1 = true then ((spec_Name_Equal.f k z.1 x.1).bind fun t143 => (if t143 = true then (if x.2.1 = true then (some (y.toList == a.toList)) else (some true)) else (some false))) else (some false)) else (some false)) else (some false))))))) else some true) (fun k => ?_) (Ev.bind (f := fun k x => if x.2.2 = true then ((impl_Fqdn.f a).bind fun y => ((spec_ParseName.f k y).bind fun z => ((impl_IsFqdn.f a).bind fun t141 => (if (t141 != x.2.1) = true then (some false) else ((impl_IsFqdn.f y).bind fun t142 => (if t142 = true then (if z.2.2 = true then (if z.2.1 = true then ((spec_Name_Equal.f k z.1 x.1).bind fun t143 => (if t143 = true then (if x.2.1 = true then (some (y.toList == a.toList)) else (some true)) else (some false))) else (some false)) else (some false)) else (some false))))))) else some true) h1 ?_)
  · simp only [laws_FnFqdn.j0]
    rw [if_neg Bool.false_ne_true]
  · exact Ev.now _
theorem fqdn_f_whole {a : ByteArray} (hA : isAscii (bytesOf a) = true) (hs : a.size ≤ 4096) (h : fqB a = true) : impl_Fqdn.f a = some a ∧ impl_IsFqdn.f a = some true := by
  unfold impl_Fqdn.f dns_Fqdn.f impl_IsFqdn.f
  rw [fq_f hA (by omega), h]
  exact ⟨rfl, rfl⟩
theorem fqdn_f_rest {a : ByteArray} (hA : isAscii (bytesOf a) = true) (hs : a.size ≤ 4096) (h : fqB a = false) : impl_Fqdn.f a = some (a ++ (⟨#[46]⟩ : ByteArray)) ∧ impl_IsFqdn.f a = some false := by
  unfold impl_Fqdn.f dns_Fqdn.f impl_IsFqdn.f
  rw [fq_f hA (by omega), h]
  refine ⟨?_, rfl⟩
  simp only [Option.bind_some, Bool.false_eq_true, if_false]
  rw [if_pos (by omega)]
  rfl
theorem fqdn_j0 (a : ByteArray) (hs : a.size ≤ 4096) (fl : Bool) (hA : fl = false → isAscii (bytesOf a) = true) : Ev (fun k => laws_FnFqdn.j0 k a fl) true := by
  cases fl with
  | true => exact fqdn_j0_true a
  | false =>
    have hA := hA rfl
    have hB := bytesOf_isB a
    by_cases h46 : bytesOf a = [46]
    · have hp := parse_dot h46
      have hq : fqB a = true := fq_whole (pre := []) h46 rfl
      obtain ⟨f1, f2⟩ := fqdn_f_whole hA hs hq
      have he := neq_ev [] [] (fun l hl => by cases hl) (fun l hl => by cases hl) (by simp)
      exact fqdn_core a a hp f1 hp f2 f2 he (fun _ => rfl)
    · rcases dec (bytesOf a) with ⟨rs, ls, r, l, h1, h2, e⟩ | ⟨rs, ls, rest, h1, e⟩ | ⟨rs, ls, r, l, rest, h1, h2, e, hno⟩
      · have hp := parse_ok (by omega) h1 h2 e
        have hBe : IsB (joinD rs ++ r) := e ▸ hB
        have lB := h1.isB hBe.left
        have llB := h2.isB hBe.right
        have hev : trail (joinD rs) % 2 = 0 := by have := join_even h1 [] rfl; simpa using this
        cases hok : (decide (namesOf ls l ≠ []) && validB (namesOf ls l)) with
        | false =>
          rw [hok] at hp
          exact fqdn_fail a hp
        | true =>
          rw [hok] at hp
          have hnB : ∀ x ∈ namesOf ls l, IsB x := by
            intro x hx
            unfold namesOf at hx
            split at hx
            · exact lB x hx
            · rcases List.mem_append.1 hx with hx | hx
              · exact lB x hx
              · rw [List.mem_singleton.1 hx]; exact llB
          have hz := namesOf_size h1 h2
          have hlen := len_le_size (namesOf ls l)
          have hsz := bytesOf_length a
          rw [e, List.length_append] at hsz
          have he := neq_ev (namesOf ls l) (namesOf ls l) hnB hnB (by omega)
          rw [decide_eq_true rfl] at he
          by_cases hl : l = []
          · subst hl
            obtain rfl := h2.nil_iff.2 rfl
            have hls : ls ≠ [] := by
              intro h0
              subst h0
              simp [namesOf] at hok
            rw [decide_eq_true ⟨rfl, hls⟩] at hp
            rw [List.append_nil] at e
            have hq : fqB a = true := by
              rcases List.eq_nil_or_concat rs with h0 | ⟨ri, rl, h0⟩
              · subst h0; cases h1; exact absurd rfl hls
              · rw [List.concat_eq_append] at h0
                subst h0
                rw [joinD_snoc, ← List.append_assoc] at e
                refine fq_whole e ?_
                have := join_even h1 [] rfl
                rw [List.nil_append, joinD_snoc, ← List.append_assoc] at this
                rcases Labs.snoc_inv h1 with ⟨li, ll, _, hi, hl, _⟩
                have he0 := join_even hi [] rfl
                rw [List.nil_append] at he0
                exact lab_even hl _ he0
            obtain ⟨f1, f2⟩ := fqdn_f_whole hA hs hq
            exact fqdn_core a a hp f1 hp f2 f2 he (fun _ => rfl)
          · rw [decide_eq_false (fun h => hl h.1)] at hp
            have hr : r ≠ [] := fun h => hl (h2.nil_iff.1 h)
            have hq : fqB a = false := fq_rest e hev h2 hr
            obtain ⟨f1, f2⟩ := fqdn_f_rest hA hs hq
            have ef : bytesOf (a ++ (⟨#[46]⟩ : ByteArray)) = joinD (rs ++ [r]) ++ [] := by
              rw [bytesOf_append, e, joinD_snoc, List.append_nil, List.append_assoc]
              rfl
            have hsf : (a ++ (⟨#[46]⟩ : ByteArray)).size = a.size + 1 := by rw [ByteArray.size_append]; rfl
            have hq2 : fqB (a ++ (⟨#[46]⟩ : ByteArray)) = true := by
              rw [List.append_nil, joinD_snoc, ← List.append_assoc] at ef
              exact fq_whole ef (lab_even h2 _ hev)
            have hp2 := parse_ok (s := a ++ (⟨#[46]⟩ : ByteArray)) (by omega) (h1.snoc h2 hl) .nil ef
            have en : namesOf (ls ++ [l]) [] = namesOf ls l := by rw [namesOf, if_pos rfl, namesOf, if_neg hl]
            rw [en, hok, decide_eq_true ⟨rfl, by simp⟩] at hp2
            have hA2 : isAscii (bytesOf (a ++ (⟨#[46]⟩ : ByteArray))) = true := by
              rw [bytesOf_append, isAscii_append, hA, dotB]
              decide
            have f3 : impl_IsFqdn.f (a ++ (⟨#[46]⟩ : ByteArray)) = some true := by
              unfold impl_IsFqdn.f
              rw [fq_f hA2 (by omega), hq2]
              rfl
            exact fqdn_core a _ hp f1 hp2 f2 f3 he (fun h => by cases h)
      · exact fqdn_fail a (parse_empty (by omega) h1 e h46)
      · exact fqdn_fail a (parse_bad (by omega) h1 h2 e hno)
theorem FnFqdn : laws_FnFqdn.Pure := by
  intro a ha
  refine Ev.rounds ?_
  by_cases h : (a.size : Int) > 2147483647
  · refine Ev.congr (fun k => ?_) (Ev.now true)
    unfold laws_FnFqdn.f
    rw [if_pos h]
  · by_cases hs : a.size ≤ 4096
    · refine Ev.congr (f := fun k => (laws_ascii.f k a).bind fun t => laws_FnFqdn.j0 k a (!t)) (fun k => ?_) (Ev.bind (f := fun k t => laws_FnFqdn.j0 k a (!t)) (ascii_ev ha) (fqdn_j0 a hs _ (fun h => by simpa [isAscii] using h)))
      unfold laws_FnFqdn.f
      rw [if_neg h, few_f, decide_eq_true hs]
      rfl
    · refine Ev.congr (f := fun k => laws_FnFqdn.j0 k a true) (fun k => ?_) (fqdn_j0_true a)
      unfold laws_FnFqdn.f
      rw [if_neg h, few_f, decide_eq_false hs]
      rfl
end Go.Proofs.YtiilihafcdmccaaDoor.Pure
