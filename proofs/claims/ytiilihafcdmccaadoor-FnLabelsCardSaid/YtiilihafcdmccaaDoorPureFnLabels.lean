/- What is proved: for every text the law FnLabels answers true: a name (of ASCII) has so many labels; SplitDomainName gives them as they are written; Split where each of them begins; NextLabel and PrevLabel walk along these places. Conditions: none beyond the row's own. -/
import Derived.Test.YtiilihafcdmccaaDoorEvalL
import Derived.Test.YtiilihafcdmccaaDoorPF6
namespace Go.Proofs.YtiilihafcdmccaaDoor.Pure
open Go.RowKit Go.Proofs.YtiilihafcdmccaaDoor.P Go.Proofs.YtiilihafcdmccaaDoorW.PrintWords Go.Proofs.YtiilihafcdmccaaDoorW.PrintLast
set_option linter.unusedVariables false
set_option linter.unusedSimpArgs false
theorem labels_j0_true (a : ByteArray) : Ev (fun k => laws_FnLabels.j0 k a true) true := by
  refine ⟨1, fun k hk => ?_⟩
  obtain ⟨m, rfl⟩ : ∃ m, k = m + 1 := ⟨k - 1, by omega⟩
  simp only [laws_FnLabels.j0]
  rw [if_pos trivial]
theorem labels_j1_true (a : ByteArray) (n : List ByteArray) (w : Bool) : Ev (fun k => laws_FnLabels.j1 k a n w true) true := by
  refine ⟨1, fun k hk => ?_⟩
  obtain ⟨m, rfl⟩ : ∃ m, k = m + 1 := ⟨k - 1, by omega⟩
  simp only [laws_FnLabels.j1]
  rw [if_pos trivial]
theorem rdOf_strs (n : List (List Int)) (i : Nat) (h : i < n.length) : rdOf ByteArray.empty (n.map strOfNums) (i : Int) = strOfNums n[i] := rdOf_map n i h
theorem labels_round {s : ByteArray} {N LS : List (List Int)} {w : Bool} (h : Sp s N LS w) (hs : s.size ≤ 1000000) (hN : N.length ≤ 10000000) (hv : okB LS = true) (i : Nat) (hi : i < N.length) {R : Bool}
    (k : Ev (fun k => laws_FnLabels.l0 k s (LS.map strOfNums) w (nats (starts 0 N)) (N.map strOfNums) (nats (starts 0 N)) (N.length : Nat) ((i + 1 : Nat) : Int)) R) :
    Ev (fun k => laws_FnLabels.l0 k s (LS.map strOfNums) w (nats (starts 0 N)) (N.map strOfNums) (nats (starts 0 N)) (N.length : Nat) (i : Nat)) R := by
  have hnl := nats_len N
  have hLS := h.labs.length
  have hfin := h.fin i hi
  have hlen := h.len
  have hseg := h.seg i hi
  have hr := rd_starts' N i hi
  have hts := joinD_take_succ' N i hi
  obtain ⟨hl, hlne⟩ := h.labs.at i hi (by omega)
  have hBs := bytesOf_isB s
  obtain ⟨rest, hat⟩ := h.at i hi
  have hBN : IsB N[i] := by
    rw [hat] at hBs
    exact hBs.right.left
  have hLB : IsB LS[i] := hl.isB hBN
  have hpN : N[i] ≠ [] := fun hx => hlne (hl.nil_iff.1 hx)
  have hev : trail (joinD (N.take i)) % 2 = 0 := by have := join_even (h.labs.take i) [] rfl; simpa using this
  -- what ParseName tells of the part
  have hpart := parse_ok (s := strOfNums N[i]) (rs := []) (ls := []) (r := N[i]) (l := LS[i]) (by rw [strOfNums_size]; omega) .nil hl (by rw [bytesOf_strOfNums hBN]; rfl)
  have hok1 : validB [LS[i]] = true := by
    have h1 := List.all_eq_true.1 hv LS[i] (List.getElem_mem _)
    have h2 := of_decide_eq_true h1
    unfold validB okB
    simp [sizeL]
    exact ⟨⟨fun hx => hlne hx, h2.2⟩, by omega⟩
  rw [namesOf, if_neg hlne, List.nil_append, hok1] at hpart
  have hpart' : Ev (fun k => spec_ParseName.f k (strOfNums N[i])) ([strOfNums LS[i]], false, true) := by
    have e1 : decide (LS[i] = [] ∧ ([] : List (List Int)) ≠ []) = false := decide_eq_false (fun hx => hlne hx.1)
    rw [e1] at hpart
    exact hpart
  have hprev : Ev (fun k => impl_Prev.f k s ((N.length - i : Nat) : Int)) (((joinD (N.take i)).length : Int), false) := Ev.bind (f := fun _ (x : Int × Bool) => some (x.1, x.2)) (prev_ev h hs hi hN) (Ev.now _)
  -- the end of the label
  have hE : ∃ E0 : Int, (if w = true then wrap64 ((s.size : Int) - 1) else (s.size : Int)) = E0 ∧ (¬ i + 1 < N.length → E0 = (((joinD (N.take i)).length + N[i].length : Nat) : Int)) := by
    refine ⟨_, rfl, fun hl => ?_⟩
    rw [show N.take (i + 1) = N from List.take_of_length_le (by omega)] at hts
    cases w with
    | true =>
      rw [if_pos rfl] at hlen ⊢
      rw [w64 (by omega) (by omega)]
      omega
    | false =>
      rw [if_neg Bool.false_ne_true] at hlen ⊢
      omega
  obtain ⟨E0, hE0, hE1⟩ := hE
  refine Ev.step (f := fun k => laws_FnLabels.j4 k s (LS.map strOfNums) w (nats (starts 0 N)) (N.map strOfNums) (i : Nat) ((joinD (N.take i)).length : Int) E0 (nats (starts 0 N)) (N.length : Nat) (i : Nat)) (fun k => ?_) ?_
  · simp only [laws_FnLabels.l0]
    rw [if_pos (by omega), if_pos (by omega), if_pos (by omega), hr, ← hE0]
    cases w with
    | true => rw [if_pos rfl, if_pos rfl]
    | false => rw [if_neg Bool.false_ne_true, if_neg Bool.false_ne_true]
  · refine Ev.step (f := fun k => laws_FnLabels.j5 k s (LS.map strOfNums) w (nats (starts 0 N)) (N.map strOfNums) (i : Nat) ((joinD (N.take i)).length : Int) (((joinD (N.take i)).length + N[i].length : Nat) : Int) (nats (starts 0 N)) (N.length : Nat) (i : Nat)) (fun k => ?_) ?_
    · simp only [laws_FnLabels.j4]
      rw [w64 (x := (i : Int) + 1) (by omega) (by omega), hnl]
      by_cases h1 : i + 1 < N.length
      · have hr1 := rd_starts' N (i + 1) h1
        rw [if_pos (by omega), if_pos (by omega), show (i : Int) + 1 = ((i + 1 : Nat) : Int) from rfl, hr1, hts, w64 (by omega) (by have := h.fin (i + 1) h1; omega)]
        congr 1
        omega
      · rw [if_neg (by omega), hE1 h1]
    · refine Ev.step (f := fun k => laws_FnLabels.j6 k s (LS.map strOfNums) w (nats (starts 0 N)) (N.map strOfNums) (i : Nat) ((joinD (N.take i)).length : Int) (nats (starts 0 N)) (N.length : Nat) (i : Nat) false) (fun k => ?_) ?_
      · simp only [laws_FnLabels.j5]
        rw [if_neg (by omega), if_neg (by omega), if_neg (by omega), if_pos (by omega), if_pos (by omega), if_pos (by omega), if_pos (by omega), if_pos (by rw [List.length_map]; omega), Int.toNat_natCast, Int.toNat_natCast, hseg, rdOf_strs N i hi]
        congr 1
        simp
      · refine Ev.step (f := fun k => (spec_ParseName.f k (strOfNums N[i])).bind fun x => (if x.2.2 = true then (if (x.1.length : Int) = 1 then (if 0 < (x.1.length : Int) then (if (i : Int) < ((LS.map strOfNums).length : Int) then (laws_FnLabels.j7 k s (LS.map strOfNums) w (nats (starts 0 N)) (N.map strOfNums) (i : Nat) ((joinD (N.take i)).length : Int) (nats (starts 0 N)) (N.length : Nat) (i : Nat) ((rdOf ByteArray.empty x.1 0).toList != (rdOf ByteArray.empty (LS.map strOfNums) (i : Nat)).toList)) else (none)) else (none)) else (laws_FnLabels.j7 k s (LS.map strOfNums) w (nats (starts 0 N)) (N.map strOfNums) (i : Nat) ((joinD (N.take i)).length : Int) (nats (starts 0 N)) (N.length : Nat) (i : Nat) true)) else (laws_FnLabels.j7 k s (LS.map strOfNums) w (nats (starts 0 N)) (N.map strOfNums) (i : Nat) ((joinD (N.take i)).length : Int) (nats (starts 0 N)) (N.length : Nat) (i : Nat) true))) (fun k => ?_) (Ev.bind (f := fun k x => (if x.2.2 = true then (if (x.1.length : Int) = 1 then (if 0 < (x.1.length : Int) then (if (i : Int) < ((LS.map strOfNums).length : Int) then (laws_FnLabels.j7 k s (LS.map strOfNums) w (nats (starts 0 N)) (N.map strOfNums) (i : Nat) ((joinD (N.take i)).length : Int) (nats (starts 0 N)) (N.length : Nat) (i : Nat) ((rdOf ByteArray.empty x.1 0).toList != (rdOf ByteArray.empty (LS.map strOfNums) (i : Nat)).toList)) else (none)) else (none)) else (laws_FnLabels.j7 k s (LS.map strOfNums) w (nats (starts 0 N)) (N.map strOfNums) (i : Nat) ((joinD (N.take i)).length : Int) (nats (starts 0 N)) (N.length : Nat) (i : Nat) true)) else (laws_FnLabels.j7 k s (LS.map strOfNums) w (nats (starts 0 N)) (N.map strOfNums) (i : Nat) ((joinD (N.take i)).length : Int) (nats (starts 0 N)) (N.length : Nat) (i : Nat) true))) hpart' ?_)
        · simp only [laws_FnLabels.j6]
          rw [if_neg Bool.false_ne_true, if_pos (by omega), if_pos (by rw [List.length_map]; omega), rdOf_strs N i hi]
        · have hsame : ((rdOf ByteArray.empty [strOfNums LS[i]] 0).toList != (rdOf ByteArray.empty (LS.map strOfNums) (i : Nat)).toList) = false := by
            rw [rdOf_strs LS i (by omega)]
            have : rdOf ByteArray.empty [strOfNums LS[i]] 0 = strOfNums LS[i] := rfl
            rw [this]
            simp
          refine Ev.congr (f := fun k => laws_FnLabels.j7 k s (LS.map strOfNums) w (nats (starts 0 N)) (N.map strOfNums) (i : Nat) ((joinD (N.take i)).length : Int) (nats (starts 0 N)) (N.length : Nat) (i : Nat) false) (fun k => ?_) ?_
          · rw [if_pos rfl, if_pos (show (([strOfNums LS[i]].length : Nat) : Int) = 1 from rfl), if_pos (show (0 : Int) < (([strOfNums LS[i]].length : Nat) : Int) by simp), if_pos (by rw [List.length_map]; omega), hsame]
          · -- Next
            have hj8 : Ev (fun k => laws_FnLabels.j8 k s (LS.map strOfNums) w (nats (starts 0 N)) (N.map strOfNums) (i : Nat) ((joinD (N.take i)).length : Int) (nats (starts 0 N)) (N.length : Nat) (i : Nat) false) R := by
              refine Ev.step (f := fun k => (impl_Prev.f k s ((N.length - i : Nat) : Int)).bind fun x => if x.1 = ((joinD (N.take i)).length : Int) then (if x.2 = true then some false else laws_FnLabels.l0 k s (LS.map strOfNums) w (nats (starts 0 N)) (N.map strOfNums) (nats (starts 0 N)) (N.length : Nat) ((i + 1 : Nat) : Int)) else some false) (fun k => ?_) (Ev.bind (f := fun k x => if x.1 = ((joinD (N.take i)).length : Int) then (if x.2 = true then some false else laws_FnLabels.l0 k s (LS.map strOfNums) w (nats (starts 0 N)) (N.map strOfNums) (nats (starts 0 N)) (N.length : Nat) ((i + 1 : Nat) : Int)) else some false) hprev ?_)
              · simp only [laws_FnLabels.j8]
                rw [if_neg Bool.false_ne_true, hnl, w64 (x := (N.length : Int) - (i : Int)) (by omega) (by omega), w64 (x := (i : Int) + 1) (by omega) (by omega), show (N.length : Int) - (i : Int) = ((N.length - i : Nat) : Int) by omega]
                try rfl
              · refine Ev.congr (fun k => ?_) k
                rw [if_pos rfl, if_neg Bool.false_ne_true]
            by_cases h1 : i + 1 < N.length
            · obtain ⟨rest', hmid, hrne⟩ := h.mid i h1
              have hnext : Ev (fun k => impl_Next.f k s ((joinD (N.take i)).length : Int)) (((joinD (N.take i) ++ N[i] ++ [46]).length : Nat), false) := Ev.bind (f := fun _ (x : Int × Bool) => some (x.1, x.2)) (next_more (by omega) hev hl hmid hrne) (Ev.now _)
              have hr1 := rd_starts' N (i + 1) h1
              refine Ev.step (f := fun k => (impl_Next.f k s ((joinD (N.take i)).length : Int)).bind fun x => if x.2 = true then laws_FnLabels.j8 k s (LS.map strOfNums) w (nats (starts 0 N)) (N.map strOfNums) (i : Nat) ((joinD (N.take i)).length : Int) (nats (starts 0 N)) (N.length : Nat) (i : Nat) true else if x.1 = ((joinD (N.take (i + 1))).length : Int) then laws_FnLabels.j8 k s (LS.map strOfNums) w (nats (starts 0 N)) (N.map strOfNums) (i : Nat) ((joinD (N.take i)).length : Int) (nats (starts 0 N)) (N.length : Nat) (i : Nat) false else laws_FnLabels.j8 k s (LS.map strOfNums) w (nats (starts 0 N)) (N.map strOfNums) (i : Nat) ((joinD (N.take i)).length : Int) (nats (starts 0 N)) (N.length : Nat) (i : Nat) true) (fun k => ?_) (Ev.bind (f := fun k x => if x.2 = true then laws_FnLabels.j8 k s (LS.map strOfNums) w (nats (starts 0 N)) (N.map strOfNums) (i : Nat) ((joinD (N.take i)).length : Int) (nats (starts 0 N)) (N.length : Nat) (i : Nat) true else if x.1 = ((joinD (N.take (i + 1))).length : Int) then laws_FnLabels.j8 k s (LS.map strOfNums) w (nats (starts 0 N)) (N.map strOfNums) (i : Nat) ((joinD (N.take i)).length : Int) (nats (starts 0 N)) (N.length : Nat) (i : Nat) false else laws_FnLabels.j8 k s (LS.map strOfNums) w (nats (starts 0 N)) (N.map strOfNums) (i : Nat) ((joinD (N.take i)).length : Int) (nats (starts 0 N)) (N.length : Nat) (i : Nat) true) hnext ?_)
              · simp only [laws_FnLabels.j7]
                rw [if_neg Bool.false_ne_true, w64 (x := (i : Int) + 1) (by omega) (by omega), hnl]
                congr 1
                funext x
                rw [if_pos (by omega)]
                by_cases hx2 : x.2 = true
                · rw [if_pos hx2, if_pos hx2]
                · rw [if_neg hx2, if_neg hx2, if_pos (by omega), show (i : Int) + 1 = ((i + 1 : Nat) : Int) from rfl, hr1]
                  by_cases hx1 : x.1 = ((joinD (N.take (i + 1))).length : Int)
                  · rw [if_pos hx1, if_pos hx1, if_neg (show ¬ ((i + 1 : Nat) : Int) = (N.length : Int) by omega)]
                  · rw [if_neg hx1, if_neg hx1]
              · refine Ev.congr (fun k => ?_) hj8
                have e : (((joinD (N.take i) ++ N[i] ++ [46]).length : Nat) : Int) = ((joinD (N.take (i + 1))).length : Int) := by rw [hts]; simp
                rw [if_neg Bool.false_ne_true, if_pos e]
            · have hlast := h.last i (by omega)
              have hnext : ∃ x, Ev (fun k => dns_NextLabel.f k s ((joinD (N.take i)).length : Nat)) (x, true) := by
                cases w with
                | true =>
                  rw [if_pos rfl] at hlast
                  exact ⟨_, next_last (by omega) hev hl hlast⟩
                | false =>
                  rw [if_neg Bool.false_ne_true, List.append_nil] at hlast
                  exact ⟨_, next_rest (by omega) hev hl hlast hpN⟩
              obtain ⟨x, hnext0⟩ := hnext
              have hnext : Ev (fun k => impl_Next.f k s ((joinD (N.take i)).length : Int)) (x, true) := Ev.bind (f := fun _ (x : Int × Bool) => some (x.1, x.2)) hnext0 (Ev.now _)
              refine Ev.step (f := fun k => (impl_Next.f k s ((joinD (N.take i)).length : Int)).bind fun x => laws_FnLabels.j8 k s (LS.map strOfNums) w (nats (starts 0 N)) (N.map strOfNums) (i : Nat) ((joinD (N.take i)).length : Int) (nats (starts 0 N)) (N.length : Nat) (i : Nat) (!x.2)) (fun k => ?_) (Ev.bind (f := fun k x => laws_FnLabels.j8 k s (LS.map strOfNums) w (nats (starts 0 N)) (N.map strOfNums) (i : Nat) ((joinD (N.take i)).length : Int) (nats (starts 0 N)) (N.length : Nat) (i : Nat) (!x.2)) hnext ?_)
              · simp only [laws_FnLabels.j7]
                rw [if_neg Bool.false_ne_true, w64 (x := (i : Int) + 1) (by omega) (by omega), hnl]
                congr 1
                funext x
                rw [if_neg (by omega), if_pos (by omega)]
              · exact hj8
theorem labels_loop {s : ByteArray} {N LS : List (List Int)} {w : Bool} (h : Sp s N LS w) (hs : s.size ≤ 1000000) (hN : N.length ≤ 10000000) (hv : okB LS = true) (d : Nat) : ∀ (i : Nat), i + d = N.length →
    Ev (fun k => laws_FnLabels.l0 k s (LS.map strOfNums) w (nats (starts 0 N)) (N.map strOfNums) (nats (starts 0 N)) (N.length : Nat) (i : Nat)) true := by
  induction d with
  | zero =>
    intro i hi
    refine ⟨1, fun k hk => ?_⟩
    obtain ⟨m, rfl⟩ : ∃ m, k = m + 1 := ⟨k - 1, by omega⟩
    simp only [laws_FnLabels.l0]
    rw [if_neg (by omega)]
  | succ d ih =>
    intro i hi
    exact labels_round h hs hN hv i (by omega) (ih (i + 1) (by omega))
theorem labels_j1 {s : ByteArray} (hA : isAscii (bytesOf s) = true) (hs : s.size ≤ 4096) {rs ls : List (List Int)} {r l : List Int} (h1 : Labs rs ls) (h2 : Lab r l) (e : bytesOf s = joinD rs ++ r) (h0 : bytesOf s ≠ []) (hv : validB (namesOf ls l) = true) (w : Bool) (hw : w = decide (l = [])) :
    Ev (fun k => laws_FnLabels.j1 k s ((namesOf ls l).map strOfNums) w false) true := by
  have hsp := sp_of h1 h2 e h0
  rw [← hw] at hsp
  have hsplit := split_ev (s := s) (by omega) h1 h2 e h0
  have hcount := count_ev (s := s) (by omega) h1 h2 e h0
  have hsdn := sdn_ev hA (by omega) h1 h2 e h0
  have hlen := hsp.labs.length
  have hN : (namesOf rs r).length ≤ 10000000 := by
    have g1 := h1.len
    have g2 := len_le_size ls
    have g3 := h1.length
    have g4 := bytesOf_length s
    have g5 := namesOf_length rs r
    rw [e, List.length_append] at g4
    by_cases h00 : rs = []
    · subst h00; simp at g5; omega
    · omega
  have hok : okB (namesOf ls l) = true := by
    unfold validB at hv
    rw [Bool.and_eq_true] at hv
    exact hv.1
  generalize namesOf rs r = N at *
  generalize namesOf ls l = LS at *
  have i1 : Ev (fun k => impl_Starts.f k s) (nats (starts 0 N)) := Ev.bind (f := fun k t => some t) hsplit (Ev.now _)
  have i2 : Ev (fun k => impl_SplitName.f k s) (N.map strOfNums) := Ev.bind (f := fun k t => some t) hsdn (Ev.now _)
  have i3 : Ev (fun k => impl_Labels.f k s) (N.length : Int) := Ev.bind (f := fun k t => some t) hcount (Ev.now _)
  have hl := labels_loop hsp (by omega) hN hok N.length 0 (by omega)
  have hj2 : Ev (fun k => laws_FnLabels.j2 k s (LS.map strOfNums) w (nats (starts 0 N)) (N.map strOfNums) false) true := by
    refine Ev.step (fun k => ?_) hl
    simp only [laws_FnLabels.j2]
    rw [if_neg Bool.false_ne_true, nats_len]
    rfl
  refine Ev.step (f := fun k => (impl_Starts.f k s).bind fun x => ((impl_SplitName.f k s).bind fun y => ((impl_Labels.f k s).bind fun z => (if z = ((LS.map strOfNums).length : Int) then (if (x.length : Int) = ((LS.map strOfNums).length : Int) then (laws_FnLabels.j2 k s (LS.map strOfNums) w x y ((y.length : Int) != ((LS.map strOfNums).length : Int))) else (laws_FnLabels.j2 k s (LS.map strOfNums) w x y true)) else (laws_FnLabels.j2 k s (LS.map strOfNums) w x y true))))) (fun k => ?_) (Ev.bind (f := fun k x => ((impl_SplitName.f k s).bind fun y => ((impl_Labels.f k s).bind fun z => (if z = ((LS.map strOfNums).length : Int) then (if (x.length : Int) = ((LS.map strOfNums).length : Int) then (laws_FnLabels.j2 k s (LS.map strOfNums) w x y ((y.length : Int) != ((LS.map strOfNums).length : Int))) else (laws_FnLabels.j2 k s (LS.map strOfNums) w x y true)) else (laws_FnLabels.j2 k s (LS.map strOfNums) w x y true))))) i1 ?_)
  · simp only [laws_FnLabels.j1]
    rw [if_neg Bool.false_ne_true]
  · refine Ev.bind (f := fun k y => ((impl_Labels.f k s).bind fun z => (if z = ((LS.map strOfNums).length : Int) then (if ((nats (starts 0 N)).length : Int) = ((LS.map strOfNums).length : Int) then (laws_FnLabels.j2 k s (LS.map strOfNums) w (nats (starts 0 N)) y ((y.length : Int) != ((LS.map strOfNums).length : Int))) else (laws_FnLabels.j2 k s (LS.map strOfNums) w (nats (starts 0 N)) y true)) else (laws_FnLabels.j2 k s (LS.map strOfNums) w (nats (starts 0 N)) y true)))) i2 ?_
    refine Ev.bind (f := fun k z => (if z = ((LS.map strOfNums).length : Int) then (if ((nats (starts 0 N)).length : Int) = ((LS.map strOfNums).length : Int) then (laws_FnLabels.j2 k s (LS.map strOfNums) w (nats (starts 0 N)) (N.map strOfNums) (((N.map strOfNums).length : Int) != ((LS.map strOfNums).length : Int))) else (laws_FnLabels.j2 k s (LS.map strOfNums) w (nats (starts 0 N)) (N.map strOfNums) true)) else (laws_FnLabels.j2 k s (LS.map strOfNums) w (nats (starts 0 N)) (N.map strOfNums) true))) i3 ?_
    refine Ev.congr (fun k => ?_) hj2
    have e1 : (((N.map strOfNums).length : Int) != ((LS.map strOfNums).length : Int)) = false := by
      rw [List.length_map, List.length_map, hlen]; simp
    rw [if_pos (by rw [List.length_map]; omega), if_pos (by rw [nats_len, List.length_map]; omega), e1]
theorem labels_j0 (a : ByteArray) (hs : a.size ≤ 4096) (fl : Bool) (hA : fl = false → isAscii (bytesOf a) = true) : Ev (fun k => laws_FnLabels.j0 k a fl) true := by
  cases fl with
  | true => exact labels_j0_true a
  | false =>
    have hA := hA rfl
    have key : ∀ (n : List ByteArray) (w ok : Bool), Ev (fun k => spec_ParseName.f k a) (n, w, ok) → (ok = true → Ev (fun k => laws_FnLabels.j1 k a n w (a.toList == ([46] : List UInt8))) true) → Ev (fun k => laws_FnLabels.j0 k a false) true := by
      intro n w ok hp hj
      refine Ev.step (f := fun k => (spec_ParseName.f k a).bind fun x => if x.2.2 = true then laws_FnLabels.j1 k a x.1 x.2.1 (a.toList == ([46] : List UInt8)) else laws_FnLabels.j1 k a x.1 x.2.1 true) (fun k => ?_) (Ev.bind (f := fun k x => if x.2.2 = true then laws_FnLabels.j1 k a x.1 x.2.1 (a.toList == ([46] : List UInt8)) else laws_FnLabels.j1 k a x.1 x.2.1 true) hp ?_)
      · simp only [laws_FnLabels.j0]
        rw [if_neg Bool.false_ne_true]
      · cases ok with
        | true => exact hj rfl
        | false => exact labels_j1_true a n w
    by_cases h46 : bytesOf a = [46]
    · refine key _ _ _ (parse_dot h46) (fun _ => ?_)
      rw [show (a.toList == ([46] : List UInt8)) = true from beq_iff_eq.2 ((toList_dot a).2 h46)]
      exact labels_j1_true a _ _
    · have hd : (a.toList == ([46] : List UInt8)) = false := beq_eq_false_iff_ne.2 (by rw [Ne, toList_dot]; exact h46)
      rcases dec (bytesOf a) with ⟨rs, ls, r, l, h1, h2, e⟩ | ⟨rs, ls, rest, h1, e⟩ | ⟨rs, ls, r, l, rest, h1, h2, e, hno⟩
      · refine key _ _ _ (parse_ok (by omega) h1 h2 e) (fun hok => ?_)
        rw [Bool.and_eq_true] at hok
        have hne := of_decide_eq_true hok.1
        rw [hd]
        refine labels_j1 hA hs h1 h2 e (fun h0 => ?_) hok.2 _ ?_
        · rw [h0] at e
          obtain ⟨e1, e2⟩ := List.append_eq_nil_iff.1 e.symm
          apply hne
          subst e2
          obtain rfl := h2.nil_iff.1 rfl
          cases h1 with
          | nil => rfl
          | cons _ _ _ => simp [joinD] at e1
        · by_cases hl : l = []
          · have : ls ≠ [] := by
              intro hx
              apply hne
              rw [namesOf, if_pos hl, hx]
            rw [decide_eq_true hl, decide_eq_true ⟨hl, this⟩]
          · rw [decide_eq_false hl, decide_eq_false (fun h => hl h.1)]
      · exact key _ _ _ (parse_empty (by omega) h1 e h46) (fun h => by cases h)
      · exact key _ _ _ (parse_bad (by omega) h1 h2 e hno) (fun h => by cases h)
theorem FnLabels : laws_FnLabels.Pure := by
  intro a ha
  refine Ev.rounds ?_
  by_cases h : (a.size : Int) > 2147483647
  · refine Ev.congr (fun k => ?_) (Ev.now true)
    unfold laws_FnLabels.f
    rw [if_pos h]
  · by_cases hs : a.size ≤ 4096
    · refine Ev.congr (f := fun k => (laws_ascii.f k a).bind fun t => laws_FnLabels.j0 k a (!t)) (fun k => ?_) (Ev.bind (f := fun k t => laws_FnLabels.j0 k a (!t)) (ascii_ev ha) (labels_j0 a hs _ (fun h => by simpa [isAscii] using h)))
      unfold laws_FnLabels.f
      rw [if_neg h, few_f, decide_eq_true hs]
      rfl
    · refine Ev.congr (f := fun k => laws_FnLabels.j0 k a true) (fun k => ?_) (labels_j0_true a)
      unfold laws_FnLabels.f
      rw [if_neg h, few_f, decide_eq_false hs]
      rfl
end Go.Proofs.YtiilihafcdmccaaDoor.Pure
