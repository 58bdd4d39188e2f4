/- What is proved: for every text the law FnCanonical answers true. Conditions: none beyond the row's own. -/
import Derived.Test.YtiilihafcdmccaaDoorEvalK
namespace Go.Proofs.YtiilihafcdmccaaDoor.Pure
open Go.RowKit Go.Proofs.YtiilihafcdmccaaDoor.P Go.Proofs.YtiilihafcdmccaaDoorW.PrintWords Go.Proofs.YtiilihafcdmccaaDoorW.PrintLast
set_option linter.unusedVariables false
set_option linter.unusedSimpArgs false

theorem canon_j0_true (a : ByteArray) : Ev (fun k => laws_FnCanonical.j0 k a true) true := by
  refine Ev.step (f := fun _ => some true) (fun k => ?_) (Ev.now _)
  rw [laws_FnCanonical.j0, if_pos rfl]
theorem canon_j1_true (a : ByteArray) (n : List ByteArray) : Ev (fun k => laws_FnCanonical.j1 k a n true) true := by
  refine Ev.step (f := fun _ => some true) (fun k => ?_) (Ev.now _)
  rw [laws_FnCanonical.j1, if_pos rfl]
abbrev PnT := List ByteArray × Bool × Bool
theorem canon_bad {a : ByteArray} {n : List ByteArray} {w : Bool} (h : Ev (fun k => spec_ParseName.f k a) (n, w, false)) : Ev (fun k => laws_FnCanonical.j0 k a false) true := by
  refine Ev.step (f := fun k => (spec_ParseName.f k a).bind fun (x : PnT) => if x.2.2 = true then ((laws_numbered.f k a).bind fun t => laws_FnCanonical.j1 k a x.1 t) else laws_FnCanonical.j1 k a x.1 true) (fun k => ?_)
    (Ev.bind (f := fun k (x : PnT) => if x.2.2 = true then ((laws_numbered.f k a).bind fun t => laws_FnCanonical.j1 k a x.1 t) else laws_FnCanonical.j1 k a x.1 true) h ?_)
  · rw [laws_FnCanonical.j0, if_neg Bool.false_ne_true]
  · exact Ev.congr (fun k => if_neg Bool.false_ne_true) (canon_j1_true a n)
theorem canon_ok {a : ByteArray} {n : List ByteArray} {w b : Bool} (h : Ev (fun k => spec_ParseName.f k a) (n, w, true)) (hn : Ev (fun k => laws_numbered.f k a) b) (hj : Ev (fun k => laws_FnCanonical.j1 k a n b) true) : Ev (fun k => laws_FnCanonical.j0 k a false) true := by
  refine Ev.step (f := fun k => (spec_ParseName.f k a).bind fun (x : PnT) => if x.2.2 = true then ((laws_numbered.f k a).bind fun t => laws_FnCanonical.j1 k a x.1 t) else laws_FnCanonical.j1 k a x.1 true) (fun k => ?_)
    (Ev.bind (f := fun k (x : PnT) => if x.2.2 = true then ((laws_numbered.f k a).bind fun t => laws_FnCanonical.j1 k a x.1 t) else laws_FnCanonical.j1 k a x.1 true) h ?_)
  · rw [laws_FnCanonical.j0, if_neg Bool.false_ne_true]
  · exact Ev.congr (fun k => if_pos rfl) (Ev.bind (f := fun k t => laws_FnCanonical.j1 k a n t) hn hj)
theorem canon_j1 {a c : ByteArray} {n m nl : List ByteArray} (hc : impl_Canonical.f a = some c) (hp : Ev (fun k => spec_ParseName.f k c) (m, true, true)) (hl : Ev (fun k => spec_Name_Lower.f k n) nl) (he : Ev (fun k => spec_Name_Equal.f k m nl) true) (hcc : impl_Canonical.f c = some c) :
    Ev (fun k => laws_FnCanonical.j1 k a n false) true := by
  refine Ev.step (f := fun k => (spec_ParseName.f k c).bind fun (x : PnT) => if x.2.2 = true then (if x.2.1 = true then ((spec_Name_Lower.f k n).bind fun t => ((spec_Name_Equal.f k x.1 t).bind fun u => if u = true then ((impl_Canonical.f c).bind fun t339 => some (t339.toList == c.toList)) else some false)) else some false) else some false) (fun k => ?_)
    (Ev.bind (f := fun k (x : PnT) => if x.2.2 = true then (if x.2.1 = true then ((spec_Name_Lower.f k n).bind fun t => ((spec_Name_Equal.f k x.1 t).bind fun u => if u = true then ((impl_Canonical.f c).bind fun t339 => some (t339.toList == c.toList)) else some false)) else some false) else some false) hp ?_)
  · rw [laws_FnCanonical.j1, if_neg Bool.false_ne_true, hc, Option.bind_some]
  · refine Ev.congr (f := fun k => (spec_Name_Lower.f k n).bind fun t => ((spec_Name_Equal.f k m t).bind fun u => if u = true then ((impl_Canonical.f c).bind fun t339 => some (t339.toList == c.toList)) else some false)) (fun k => by rw [if_pos rfl, if_pos rfl]) ?_
    refine Ev.bind (f := fun k t => (spec_Name_Equal.f k m t).bind fun u => if u = true then ((impl_Canonical.f c).bind fun t339 => some (t339.toList == c.toList)) else some false) hl ?_
    refine Ev.bind (f := fun k (u : Bool) => if u = true then ((impl_Canonical.f c).bind fun t339 => some (t339.toList == c.toList)) else some false) he ?_
    refine ⟨0, fun k _ => ?_⟩
    show (if true = true then _ else _) = _
    rw [if_pos rfl, hcc, Option.bind_some, beq_self_eq_true]
theorem canon_gen {s : ByteArray} (hA : isAscii (bytesOf s) = true) (hs : s.size ≤ 1000000) : ∃ f c, dns_Fqdn.f s = some f ∧ bytesOf f = bytesOf s ++ (if fqB s = true then [] else [46]) ∧ impl_Canonical.f s = some c ∧ bytesOf c = (bytesOf f).map lowI := by
  obtain ⟨f, hf, ef⟩ := fqdn_f hA hs
  have hfA : isAscii (bytesOf f) = true := by
    rw [ef, isAscii_append, hA]
    split <;> rfl
  have hfs : f.size ≤ 1000001 := by
    rw [size_eq_len, ef, List.length_append]
    rw [size_eq_len] at hs
    split <;> simp <;> omega
  refine ⟨f, _, hf, ef, ?_, bytes_low hfA⟩
  unfold impl_Canonical.f dns_CanonicalName.f
  rw [hf, Option.bind_some, if_pos (by omega)]
  rfl
/-- What is whole and small is its own canonical form. -/
theorem canon_again {c : ByteArray} (hA : isAscii (bytesOf c) = true) (hs : c.size ≤ 1000000) (hq : fqB c = true) (hlow : (bytesOf c).map lowI = bytesOf c) : impl_Canonical.f c = some c := by
  obtain ⟨f, d, hf, ef, hd, ed⟩ := canon_gen hA hs
  rw [hq, if_pos rfl, List.append_nil] at ef
  rw [ef, hlow] at ed
  rw [hd, bytesOf_inj ed]
theorem valid_low (n : List (List Int)) : validB (n.map (List.map lowI)) = validB n := by
  have h1 : okB (n.map (List.map lowI)) = okB n := by
    unfold okB
    rw [List.all_map]
    congr 1
    funext l
    simp
  have h2 : ∀ n : List (List Int), sizeL (n.map (List.map lowI)) = sizeL n := by
    intro n
    induction n with
    | nil => rfl
    | cons l ls ih => simp [sizeL, ih]
  unfold validB
  rw [h1, h2]
theorem canon_core {a : ByteArray} (hA : isAscii (bytesOf a) = true) (hs : a.size ≤ 4096) : Ev (fun k => laws_FnCanonical.j0 k a false) true := by
  have hB := bytesOf_isB a
  have hlenA := bytesOf_length a
  by_cases h46 : bytesOf a = [46]
  · have hp := parse_dot h46
    have hq : fqB a = true := fq_whole (pre := []) h46 rfl
    have hcc : impl_Canonical.f a = some a := canon_again hA (by omega) hq (by rw [h46]; rfl)
    have hn : Ev (fun k => laws_numbered.f k a) false := by
      have := nu_end (s := a) (by omega) (i := 0) (by rw [h46] at hlenA; simp at hlenA; omega) (by omega)
      exact Ev.congr (fun k => rfl) this
    refine canon_ok hp hn (canon_j1 hcc hp (nl := []) ?_ ?_ hcc)
    · exact nlower_ev [] (fun l hl => by cases hl) (fun l hl => by cases hl) (by simp)
    · have := neq_ev [] [] (fun l hl => by cases hl) (fun l hl => by cases hl) (by simp)
      exact this
  · rcases dec (bytesOf a) with ⟨rs, ls, r, l, h1, h2, e⟩ | ⟨rs, ls, rest, h1, e⟩ | ⟨rs, ls, r, l, rest, h1, h2, e, hno⟩
    · have hp := parse_ok (by omega) h1 h2 e
      cases hok : (decide (namesOf ls l ≠ []) && validB (namesOf ls l)) with
      | false =>
        rw [hok] at hp
        exact canon_bad hp
      | true =>
        rw [hok] at hp
        have hok1 := hok
        rw [Bool.and_eq_true] at hok1
        have hne : namesOf ls l ≠ [] := of_decide_eq_true hok1.1
        obtain ⟨b, hn, hb⟩ := nu_all (s := a) (by omega) h1 h2 e
        refine canon_ok hp hn ?_
        cases b with
        | true => exact canon_j1_true _ _
        | false =>
          obtain ⟨n1, n2⟩ := hb rfl
          have h0 : bytesOf a ≠ [] := by
            intro h0
            rw [h0] at e
            have e2 := List.append_eq_nil_iff.1 e.symm
            have hl : l = [] := h2.nil_iff.1 e2.2
            have hrs : ls = [] := by
              cases h1 with
              | nil => rfl
              | cons _ _ _ => simp [joinD] at e2
            apply hne
            unfold namesOf
            rw [if_pos hl, hrs]
          have hnl : NLabs (namesOf rs r) (namesOf ls l) := by
            unfold namesOf
            by_cases hl : l = []
            · rw [if_pos hl, if_pos (h2.nil_iff.2 hl)]
              exact n1
            · rw [if_neg hl, if_neg (fun h => hl (h2.nil_iff.1 h))]
              exact n1.snoc n2 hl
          obtain ⟨f, hf, ef⟩ := fqdn_text hA (by omega) h1 h2 e h0
          obtain ⟨f', c, hf', ef', hc, ec⟩ := canon_gen hA (by omega)
          obtain rfl := Option.some.inj (hf.symm.trans hf')
          have hfA : isAscii (bytesOf f) = true := by
            rw [ef', isAscii_append, hA]
            split <;> rfl
          have hfs : f.size ≤ 4097 := by
            rw [size_eq_len, ef', List.length_append]
            split <;> simp <;> omega
          have hcA : isAscii (bytesOf c) = true := by rw [ec]; exact low_ascii hfA
          have hcs : c.size ≤ 4097 := by
            rw [size_eq_len, ec, List.length_map, ← size_eq_len]
            exact hfs
          have hlow := hnl.low
          have ec2 : bytesOf c = joinD ((namesOf rs r).map (List.map lowI)) ++ [] := by rw [ec, ef, join_low, List.append_nil]
          have hnamesB : ∀ x ∈ namesOf ls l, IsB x := hnl.labs.isB (by rw [← ef]; exact bytesOf_isB f)
          have hlowB : ∀ x ∈ (namesOf ls l).map (List.map lowI), IsB x := by
            intro x hx
            obtain ⟨y, hy, rfl⟩ := List.mem_map.1 hx
            exact low_isB (hnamesB y hy)
          have hsz := hnl.labs.len
          rw [← ef] at hsz
          have hfl := bytesOf_length f
          have hlen := len_le_size (namesOf ls l)
          have hpc := parse_ok (s := c) (r := []) (l := []) (by omega) hlow.labs .nil ec2
          have hL : namesOf ((namesOf ls l).map (List.map lowI)) [] = (namesOf ls l).map (List.map lowI) := rfl
          have hLne : (namesOf ls l).map (List.map lowI) ≠ [] := by simpa using hne
          rw [hL, valid_low, hok1.2, decide_eq_true hLne, decide_eq_true ⟨rfl, hLne⟩] at hpc
          have hne2 : bytesOf c ≠ [] := by
            rw [ec, ef]
            intro h
            have h' := List.map_eq_nil_iff.1 h
            cases hcs2 : namesOf rs r with
            | nil => rw [hcs2] at hnl; cases hnl' : namesOf ls l with
              | nil => exact hne hnl'
              | cons _ _ => rw [hnl'] at hnl; cases hnl
            | cons x y => rw [hcs2] at h'; simp [joinD] at h'
          have hq : fqB c = true := by
            have := fq_dec (s := c) (r := []) (l := []) hlow.labs .nil ec2 hne2
            rw [this]
            rfl
          refine canon_j1 hc hpc (nlower_ev (namesOf ls l) hnamesB ?_ (by omega)) ?_ (canon_again hcA (by omega) hq (by rw [ec, low_low]))
          · intro x hx
            have : ∀ (n : List (List Int)), ∀ x ∈ n, x.length ≤ sizeL n := by
              intro n
              induction n with
              | nil => intro x hx; cases hx
              | cons y n ih =>
                intro x hx
                rcases List.mem_cons.1 hx with rfl | hx
                · simp [sizeL]; omega
                · have := ih x hx; simp [sizeL]; omega
            have := this _ x hx
            omega
          · have := neq_ev ((namesOf ls l).map (List.map lowI)) ((namesOf ls l).map (List.map lowI)) hlowB hlowB (by rw [List.length_map]; omega)
            rwa [decide_eq_true rfl] at this
    · exact canon_bad (parse_empty (by omega) h1 e h46)
    · exact canon_bad (parse_bad (by omega) h1 h2 e hno)

theorem FnCanonical : laws_FnCanonical.Pure := by
  intro a hs
  have h : Ev (fun k => laws_FnCanonical.f k a) true := by
    unfold laws_FnCanonical.f
    by_cases g1 : (a.size : Int) > 2147483647
    · simp only [if_pos g1]; exact Ev.now _
    simp only [if_neg g1, few_f, Option.bind_some]
    by_cases g2 : a.size ≤ 4096
    · simp only [decide_eq_true g2, if_true]
      refine Ev.bind (f := fun k t => laws_FnCanonical.j0 k a (!t)) (ascii_ev (by omega)) ?_
      cases hA : (bytesOf a).all fun x => decide (x < 128) with
      | false => exact canon_j0_true a
      | true => exact canon_core hA g2
    · simp only [decide_eq_false g2, Bool.false_eq_true, if_false]
      exact canon_j0_true a
  obtain ⟨K, h⟩ := h
  exact ⟨K, h K (Nat.le_refl _)⟩

end Go.Proofs.YtiilihafcdmccaaDoor.Pure
