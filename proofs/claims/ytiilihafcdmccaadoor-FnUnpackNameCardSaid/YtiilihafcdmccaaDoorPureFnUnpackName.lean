/- What is proved: for every message and place the law FnUnpackName answers true: both readers fail, or both give one name (the text of the one is parsed as the other's labels) and one place. Conditions: none beyond the row's own. -/
import Derived.Test.YtiilihafcdmccaaDoorEvalU
namespace Go.Proofs.YtiilihafcdmccaaDoor.Pure
open Go.RowKit Go.Proofs.YtiilihafcdmccaaDoor.P Go.Proofs.YtiilihafcdmccaaDoorW.PrintWords Go.Proofs.YtiilihafcdmccaaDoorW.PrintLast
set_option linter.unusedVariables false
set_option linter.unusedSimpArgs false

/-- What the two readers come to. -/
def Both (x : List Int) (off lim cnt next off1 bud : Int) (ns : List ByteArray) (s : List Int) : Prop :=
  (Ev (fun k => spec_ReadName.l0 k x off ns next lim cnt) ([], 0, false) ∧ ∃ e, Ev (fun k => dns_UnpackDomainName.l0 k x off s off1 x.length bud cnt) (⟨#[]⟩, (x.length : Int), some e)) ∨
  ∃ rs ls nx, Labs rs ls ∧ IsB (joinD rs) ∧ validB ls = true ∧ (joinD rs).length ≤ 4 * sizeL ls ∧ Ev (fun k => spec_ReadName.l0 k x off ns next lim cnt) (ls.map strOfNums, nx, true) ∧
    Ev (fun k => dns_UnpackDomainName.l0 k x off s off1 x.length bud cnt) ((if joinD rs = [] then ⟨#[46]⟩ else strOfNums (joinD rs)), nx, none)

theorem both_sim {x : List Int} (hB : IsB x) (hx : x.length ≤ 65536) : ∀ (m : Nat) (off lim cnt next off1 : Int) (rs ls : List (List Int)), 0 ≤ off → 0 ≤ lim → 0 ≤ cnt → cnt ≤ 126 →
    lim.toNat * (x.length + 65) + (x.length + 64 - off).toNat ≤ m → ((cnt = 0 ∧ next = -1) ∨ (0 < cnt ∧ 0 ≤ next ∧ off1 = next)) → Labs rs ls → IsB (joinD rs) → okB ls = true → sizeL ls ≤ 255 → (joinD rs).length ≤ 4 * sizeL ls →
    Ev (fun k => laws_back.l0 k x off lim cnt) true → Both x off lim cnt next off1 (256 - sizeL ls) (ls.map strOfNums) (joinD rs) := by
  intro m
  induction m with
  | zero =>
    intro off lim cnt next off1 rs ls h0 hl c0 c1 hm hn hL hjB hok hsz hjl hb
    exact .inl ⟨read_end hx h0 (by omega), _, unp_end hx h0 (by omega)⟩
  | succ m ih =>
    intro off lim cnt next off1 rs ls h0 hl c0 c1 hm hn hL hjB hok hsz hjl hb
    by_cases h : off < x.length
    · obtain ⟨r0, r1⟩ := rd_range hB h0 h
      by_cases hp : 192 ≤ rd x off
      · by_cases hs : off + 1 < x.length
        · obtain ⟨s0, s1⟩ := rd_range hB (i := off + 1) (by omega) hs
          have hst := Ev.inv (back_ptr (lim := lim) hB hx h0 h hp hs c0 c1) hb
          by_cases e1 : (rd x off - 192) * 256 + rd x (off + 1) ≥ lim
          · simp only [if_pos e1] at hst
            exact absurd (Ev.inj hst (Ev.now false)) (by decide)
          · simp only [if_neg e1] at hst
            by_cases e2 : cnt + 1 > 126
            · simp only [if_pos e2] at hst
              exact absurd (Ev.inj hst (Ev.now false)) (by decide)
            · simp only [if_neg e2] at hst
              have hr := fun R => read_ptr (R := R) (ns := ls.map strOfNums) (next := next) (lim := lim) hB hx h0 h hp hs c0 (by omega) (by omega)
              have hu := fun R => unp_ptr (R := R) (s := joinD rs) (off1 := off1) (bud := 256 - sizeL ls) hB hx h0 h hp hs c0 (by omega)
              have e3 : 0 ≤ (rd x off - 192) * 256 + rd x (off + 1) := by omega
              generalize (rd x off - 192) * 256 + rd x (off + 1) = tgt at hst hr hu e1 e3
              have hmul : (tgt.toNat + 1) * (x.length + 65) ≤ lim.toNat * (x.length + 65) := Nat.mul_le_mul_right _ (by omega)
              rw [Nat.succ_mul] at hmul
              have hnext : ((cnt + 1 = 0 ∧ (if next < 0 then off + 2 else next) = -1) ∨ (0 < cnt + 1 ∧ 0 ≤ (if next < 0 then off + 2 else next) ∧ (if cnt = 0 then off + 2 else off1) = (if next < 0 then off + 2 else next))) := by
                right
                rcases hn with ⟨rfl, rfl⟩ | ⟨a, b, c⟩
                · simp
                  omega
                · rw [if_neg (by omega), if_neg (by omega)]
                  exact ⟨by omega, b, c⟩
              rcases ih tgt tgt (cnt + 1) _ _ rs ls e3 e3 (by omega) (by omega) (by omega) hnext hL hjB hok hsz hjl hst with ⟨a, e, b⟩ | ⟨rs', ls', nx, a1, a2, a3, a4, a5, a6⟩
              · exact .inl ⟨hr _ a, e, hu _ b⟩
              · exact .inr ⟨rs', ls', nx, a1, a2, a3, a4, hr _ a5, hu _ a6⟩
        · exact .inl ⟨read_short hB hx h0 h hp (by omega), _, unp_short hB hx h0 h hp (by omega)⟩
      · by_cases hc : 64 ≤ rd x off
        · exact .inl ⟨read_stop hB hx h0 h hc (by omega), _, unp_stop hB hx h0 h hc (by omega)⟩
        · by_cases hz : rd x off = 0
          · have hv := valid_ev ls (by omega)
            have hvt : validB ls = true := by unfold validB; rw [hok]; simpa using hsz
            rw [hvt] at hv
            have hr := read_zero (next := next) (cnt := cnt) (lim := lim) hB hx h0 h hz hv
            have hu := unp_zero (s := joinD rs) (off1 := off1) (bud := 256 - sizeL ls) (cnt := cnt) hB hx h0 h hz
            have enx : (if cnt = 0 then off + 1 else off1) = (if next < 0 then off + 1 else next) := by
              rcases hn with ⟨rfl, rfl⟩ | ⟨a, b, c⟩
              · rfl
              · rw [if_neg (by omega), if_neg (by omega), c]
            rw [enx] at hu
            exact .inr ⟨rs, ls, _, hL, hjB, hvt, hjl, hr, hu⟩
          · have hc1 : 0 < rd x off := by omega
            have hc2 : rd x off < 64 := by omega
            by_cases hlen : off + 1 + rd x off ≤ x.length
            · have hrow : IsB ((x.take (off + 1 + rd x off).toNat).drop (off + 1).toNat) := fun y hy => hB y (List.mem_of_mem_take (List.mem_of_mem_drop hy))
              have hrl : (((x.take (off + 1 + rd x off).toNat).drop (off + 1).toNat).length : Int) = rd x off := by
                rw [List.length_drop, List.length_take]
                omega
              have hr := fun R z => read_label (R := R) (z := z) (ns := ls.map strOfNums) (next := next) (lim := lim) (cnt := cnt) hB hx h0 h hc1 hc2 hlen (by rw [List.length_map]; have := len_le_size ls; omega)
              have hu := fun R => unp_label (R := R) (s := joinD rs) (off1 := off1) (bud := 256 - sizeL ls) (cnt := cnt) hB hx h0 h hc1 hc2 hlen
              generalize (x.take (off + 1 + rd x off).toNat).drop (off + 1).toNat = row at hrow hrl hr hu
              have hss : sizeL (ls ++ [row]) = sizeL ls + 1 + row.length := by
                have := sizeL_append ls [row]
                simp only [sizeL] at this
                omega
              have hsv := size_ev (ls ++ [row]) (by omega)
              rw [List.map_append] at hsv
              have hbk := Ev.inv (back_label (lim := lim) (cnt := cnt) hB hx h0 h hc1 hc2) hb
              by_cases hbig : 255 < sizeL (ls ++ [row])
              · left
                refine ⟨hr _ _ hsv ?_, 1, unp_long hB hx h0 h hc1 hc2 hlen (by omega) (by have := sizeL_pos ls; omega) (by omega)⟩
                simp only [if_pos (show ((sizeL (ls ++ [row]) : Nat) : Int) > 255 by omega)]
                exact Ev.now _
              · have hjs : joinD (rs ++ [escs row]) = joinD rs ++ escs row ++ [46] := by rw [joinD_snoc, List.append_assoc]
                have hel := escs_len row
                rcases ih (off + 1 + rd x off) lim cnt next off1 (rs ++ [escs row]) (ls ++ [row]) (by omega) hl c0 c1 (by omega) hn (hL.snoc (escs_lab hrow) (by intro e; rw [e] at hrl; simp at hrl; omega))
                  (by rw [hjs]; exact (hjB.append (escs_isB hrow)).append (IsB.cons (by omega) IsB.nil)) (by unfold okB at hok ⊢; rw [List.all_append, hok]; simp only [Bool.true_and, List.all_cons, List.all_nil, Bool.and_true]; exact decide_eq_true ⟨by omega, by omega⟩) (by omega)
                  (by rw [hjs]; simp only [List.length_append, List.length_cons, List.length_nil]; omega) hbk with ⟨a, e, b⟩ | ⟨rs', ls', nx, a1, a2, a3, a4, a5, a6⟩
                · rw [hjs] at b
                  rw [List.map_append] at a
                  refine .inl ⟨hr _ _ hsv ?_, e, hu _ (by omega) (by have := sizeL_pos ls; omega) (by omega) (by omega) ?_⟩
                  · simp only [if_neg (show ¬ ((sizeL (ls ++ [row]) : Nat) : Int) > 255 by omega)]
                    exact a
                  · rw [show (256 : Int) - (sizeL ls : Nat) - (rd x off + 1) = 256 - ((sizeL (ls ++ [row]) : Nat) : Int) by omega]
                    exact b
                · rw [hjs] at a6
                  rw [List.map_append] at a5
                  refine .inr ⟨rs', ls', nx, a1, a2, a3, a4, hr _ _ hsv ?_, hu _ (by omega) (by have := sizeL_pos ls; omega) (by omega) (by omega) ?_⟩
                  · simp only [if_neg (show ¬ ((sizeL (ls ++ [row]) : Nat) : Int) > 255 by omega)]
                    exact a5
                  · rw [show (256 : Int) - (sizeL ls : Nat) - (rd x off + 1) = 256 - ((sizeL (ls ++ [row]) : Nat) : Int) by omega]
                    exact a6
            · exact .inl ⟨read_cut hB hx h0 h hc1 hc2 (by omega), _, unp_cut hB hx h0 h hc1 hc2 (by omega)⟩
    · exact .inl ⟨read_end hx h0 (by omega), _, unp_end hx h0 (by omega)⟩

theorem impl_ok {x : List Int} {off nx : Int} {t : ByteArray} (h : Ev (fun k => dns_UnpackDomainName.l0 k x off [] 0 x.length 255 0) (t, nx, none)) : Ev (fun k => impl_UnpackName.f k x off) (t, nx, true) := by
  refine Ev.congr (fun k => ?_) (Ev.bind (f := fun k (bt : UnR) => if bt.2.2.isNone = true then (some (bt.1, bt.2.1, true)) else (some ((⟨#[]⟩ : ByteArray), 0, false))) h (Ev.now _))
  unfold impl_UnpackName.f dns_UnpackDomainName.f
  rw [if_pos (by omega)]
  rfl
theorem impl_bad {x : List Int} {off nx e : Int} {t : ByteArray} (h : Ev (fun k => dns_UnpackDomainName.l0 k x off [] 0 x.length 255 0) (t, nx, some e)) : Ev (fun k => impl_UnpackName.f k x off) (⟨#[]⟩, 0, false) := by
  refine Ev.congr (fun k => ?_) (Ev.bind (f := fun k (bt : UnR) => if bt.2.2.isNone = true then (some (bt.1, bt.2.1, true)) else (some ((⟨#[]⟩ : ByteArray), 0, false))) h (Ev.now _))
  unfold impl_UnpackName.f dns_UnpackDomainName.f
  rw [if_pos (by omega)]
  rfl
theorem unp_j0_true (x : List Int) (off : Int) : Ev (fun k => laws_FnUnpackName.j0 k x off true) true := by
  refine Ev.step (f := fun _ => some true) (fun k => ?_) (Ev.now _)
  rw [laws_FnUnpackName.j0, if_pos rfl]
theorem unp_bad {x : List Int} {off : Int} (hr : Ev (fun k => spec_ReadName.f k x off) ([], 0, false)) (hu : Ev (fun k => impl_UnpackName.f k x off) (⟨#[]⟩, 0, false)) : Ev (fun k => laws_FnUnpackName.j0 k x off false) true := by
  have hj : Ev (fun k => laws_FnUnpackName.j1 k [] 0 false ⟨#[]⟩ 0 false true) true := by
    refine Ev.step (f := fun _ => some true) (fun k => ?_) (Ev.now _)
    rw [laws_FnUnpackName.j1, if_pos rfl]
    rfl
  refine Ev.step (f := fun k => (spec_ReadName.f k x off).bind fun (a : RdR) => (impl_UnpackName.f k x off).bind fun (b : ByteArray × Int × Bool) => if a.2.2 = true then laws_FnUnpackName.j1 k a.1 a.2.1 a.2.2 b.1 b.2.1 b.2.2 (!b.2.2) else laws_FnUnpackName.j1 k a.1 a.2.1 a.2.2 b.1 b.2.1 b.2.2 true) (fun k => ?_)
    (Ev.bind (f := fun k (a : RdR) => (impl_UnpackName.f k x off).bind fun (b : ByteArray × Int × Bool) => if a.2.2 = true then laws_FnUnpackName.j1 k a.1 a.2.1 a.2.2 b.1 b.2.1 b.2.2 (!b.2.2) else laws_FnUnpackName.j1 k a.1 a.2.1 a.2.2 b.1 b.2.1 b.2.2 true) hr
      (Ev.bind (f := fun k (b : ByteArray × Int × Bool) => if false = true then laws_FnUnpackName.j1 k [] 0 false b.1 b.2.1 b.2.2 (!b.2.2) else laws_FnUnpackName.j1 k [] 0 false b.1 b.2.1 b.2.2 true) hu hj))
  rw [laws_FnUnpackName.j0, if_neg Bool.false_ne_true]
theorem unp_good {x : List Int} {off nx : Int} {ns : List ByteArray} {t : ByteArray} (hr : Ev (fun k => spec_ReadName.f k x off) (ns, nx, true)) (hu : Ev (fun k => impl_UnpackName.f k x off) (t, nx, true))
    (hp : Ev (fun k => spec_ParseName.f k t) (ns, true, true)) (he : Ev (fun k => spec_Name_Equal.f k ns ns) true) : Ev (fun k => laws_FnUnpackName.j0 k x off false) true := by
  have hj : Ev (fun k => laws_FnUnpackName.j1 k ns nx true t nx true false) true := by
    refine Ev.step (f := fun k => (spec_ParseName.f k t).bind fun (a : List ByteArray × Bool × Bool) => if a.2.2 = true then (if a.2.1 = true then ((spec_Name_Equal.f k a.1 ns).bind fun c => if c = true then some (nx == nx) else some false) else some false) else some false) (fun k => ?_)
      (Ev.bind (f := fun k (a : List ByteArray × Bool × Bool) => if a.2.2 = true then (if a.2.1 = true then ((spec_Name_Equal.f k a.1 ns).bind fun c => if c = true then some (nx == nx) else some false) else some false) else some false) hp
        (Ev.bind (f := fun k c => if c = true then some (nx == nx) else some false) he ?_))
    · rw [laws_FnUnpackName.j1, if_neg Bool.false_ne_true]
    · refine ⟨0, fun k _ => ?_⟩
      show (if true = true then some (nx == nx) else some false) = some true
      rw [if_pos rfl, beq_self_eq_true]
  refine Ev.step (f := fun k => (spec_ReadName.f k x off).bind fun (a : RdR) => (impl_UnpackName.f k x off).bind fun (b : ByteArray × Int × Bool) => if a.2.2 = true then laws_FnUnpackName.j1 k a.1 a.2.1 a.2.2 b.1 b.2.1 b.2.2 (!b.2.2) else laws_FnUnpackName.j1 k a.1 a.2.1 a.2.2 b.1 b.2.1 b.2.2 true) (fun k => ?_)
    (Ev.bind (f := fun k (a : RdR) => (impl_UnpackName.f k x off).bind fun (b : ByteArray × Int × Bool) => if a.2.2 = true then laws_FnUnpackName.j1 k a.1 a.2.1 a.2.2 b.1 b.2.1 b.2.2 (!b.2.2) else laws_FnUnpackName.j1 k a.1 a.2.1 a.2.2 b.1 b.2.1 b.2.2 true) hr
      (Ev.bind (f := fun k (b : ByteArray × Int × Bool) => if true = true then laws_FnUnpackName.j1 k ns nx true b.1 b.2.1 b.2.2 (!b.2.2) else laws_FnUnpackName.j1 k ns nx true b.1 b.2.1 b.2.2 true) hu hj))
  rw [laws_FnUnpackName.j0, if_neg Bool.false_ne_true]

theorem laws_FnUnpackName_true (x : List Int) (off : Int) (hB : IsB x) : Ev (fun k => laws_FnUnpackName.f k x off) true := by
  unfold laws_FnUnpackName.f
  by_cases g1 : (x.length : Int) > 2147483647
  · simp only [if_pos g1]; exact Ev.now _
  simp only [if_neg g1]
  by_cases g2 : (x.length : Int) > 65536
  · simp only [if_pos g2]; exact unp_j0_true x off
  simp only [if_neg g2]
  by_cases g3 : off < 0
  · simp only [if_pos g3]; exact unp_j0_true x off
  simp only [if_neg g3]
  by_cases g4 : off > (x.length : Int)
  · simp only [if_pos g4]; exact unp_j0_true x off
  simp only [if_neg g4]
  have hx : x.length ≤ 65536 := by omega
  obtain ⟨b, hb⟩ := back_total hB hx _ off off 0 (by omega) (by omega) (by omega) (by omega) (Nat.le_refl _)
  refine Ev.bind (f := fun k t => laws_FnUnpackName.j0 k x off (!t)) (Ev.congr (fun k => rfl) hb) ?_
  cases b with
  | false => exact unp_j0_true x off
  | true =>
    rcases both_sim hB hx _ off off 0 (-1) 0 [] [] (by omega) (by omega) (by omega) (by omega) (Nat.le_refl _) (.inl ⟨rfl, rfl⟩) .nil IsB.nil rfl (by decide) (by decide) hb with ⟨a, e, c⟩ | ⟨rs, ls, nx, a1, a2, a3, a4, a5, a6⟩
    · exact unp_bad (Ev.congr (fun k => rfl) a) (impl_bad (Ev.congr (fun k => rfl) c))
    · have hls : ∀ l ∈ ls, IsB l := a1.isB a2
      have hv := a3
      unfold validB at hv
      rw [Bool.and_eq_true] at hv
      have hz : sizeL ls ≤ 255 := of_decide_eq_true hv.2
      have he := neq_ev ls ls hls hls (by have := len_le_size ls; omega)
      rw [decide_eq_true rfl] at he
      refine unp_good (Ev.congr (fun k => rfl) a5) (impl_ok (Ev.congr (fun k => rfl) a6)) ?_ he
      cases a1 with
      | nil => exact parse_dot (by decide +kernel)
      | @cons r l rs ls h1 h2 h3 =>
        have hne : joinD (r :: rs) ≠ [] := by simp [joinD]
        rw [if_neg hne]
        have hbs : bytesOf (strOfNums (joinD (r :: rs))) = joinD (r :: rs) ++ [] := by rw [bytesOf_strOfNums a2, List.append_nil]
        have hp := parse_ok (s := strOfNums (joinD (r :: rs))) (r := []) (l := []) (by rw [size_eq_len, bytesOf_strOfNums a2]; omega) (Labs.cons h1 h2 h3) .nil hbs
        have e1 : namesOf (l :: ls) [] = l :: ls := rfl
        rw [e1, a3] at hp
        simpa using hp

theorem FnUnpackName : laws_FnUnpackName.Pure := by
  intro l0 a1 hm hm2 hw hw1
  have hB : IsB l0 := by
    intro y hy
    have h : IntKind.u8.min ≤ y ∧ y ≤ IntKind.u8.max := by simpa [Lit.wf] using hw y hy
    rw [show IntKind.u8.min = 0 by decide, show IntKind.u8.max = 255 by decide] at h
    exact ⟨h.1, by omega⟩
  obtain ⟨K, h⟩ := laws_FnUnpackName_true l0 a1 hB
  exact ⟨K, h K (Nat.le_refl _)⟩

end Go.Proofs.YtiilihafcdmccaaDoor.Pure
