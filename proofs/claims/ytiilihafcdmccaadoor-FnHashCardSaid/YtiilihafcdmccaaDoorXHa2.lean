/- Texts of this session merged by program (wip/tools/merge.py): PackB, PackC, Pack, PF83, PF117, PF84, PF85, PF62, TextN, PF35, PF34, PF38, EvalT, Lower. -/
import Derived.Test.YtiilihafcdmccaaDoorXHa1
import Derived.StillTailTactics
import Derived.WalkMore
import Derived.Deep.OwnRows
/- 'dns.packDomainName' of a whole name of ASCII, without compression. -/
namespace Go.Proofs.YtiilihafcdmccaaDoor.P
open Go.RowKit Go.Proofs.YtiilihafcdmccaaDoorW.PrintWords Go.Proofs.YtiilihafcdmccaaDoorW.PrintLast Go.Proofs.YtiilihafcdmccaaDoorW.PrintMore
set_option linter.unusedVariables false
set_option linter.unusedSimpArgs false
set_option maxRecDepth 100000
set_option maxHeartbeats 4000000


theorem pack_any (s : ByteArray) (rs n : List (List Int)) (room m : Nat) (w00 w : World) (hL : Labs rs n) (hn : n ≠ []) (h63 : ∀ l ∈ n, l.length ≤ 63) (he : bytesOf s = joinD rs) (hs : s.size ≤ 1000000) (hr : room ≤ 100000) (hq : dns_IsFqdn.f s = some true)
    (hm : w.heap[m]? = some (.cells (rowV (List.replicate room 0)) 5 (0, 0))) (hm0 : w00.heap.size ≤ m) (hB : Below w00.heap.size w00 w) (hG : GoodP w00) :
    Calls Tryd.prog 82 #[.string s, .slice (some ⟨m, 0, none⟩) room room, .int .i64 0, .agg #[.map none, .map none], .bool false] w fun e w' =>
      Below w00.heap.size w00 w' ∧ if (wpL n).length + 1 ≤ room then e = .returned (.tuple #[.int .i64 ((wpL n).length + 1 : Nat), .nilIface]) ∧ w'.heap[m]? = some (.cells (rowV (wpL n ++ 0 :: List.replicate (room - ((wpL n).length + 1)) 0)) 5 (0, 0))
        else ∃ z t x, e = .returned (.tuple #[.int .i64 z, .iface t x]) := by
  have hss0 : s.size = (joinD rs).length := by rw [← he, bytesOf_length]
  have hne : joinD rs ≠ [] := by
    cases hL with
    | nil => exact absurd rfl hn
    | cons _ _ _ => simp [joinD]
  have hpos : 0 < s.size := by rw [hss0]; exact List.length_pos_iff.2 hne
  have hrest0 : Rest n [] [] (joinD rs) := by
    cases hL with
    | nil => exact absurd rfl hn
    | cons h1 h2 h3 => exact .lab [] [] _ _ _ _ h1 h3 rfl h2
  have hrest := Aside0.mk hrest0
  have hss := Aside0.mk hss0
  have he1 := Aside0.mk he
  clear hrest0 hss0 he hne
  have hl0 : ((s.size : Int) == 0) = false := beq_eq_false_iff_ne.mpr (by omega)
  have hbel0 := Aside0.mk hB
  have hG0 := Aside0.mk hG
  have hmq : m < w.heap.size := by
    rcases Nat.lt_or_ge m w.heap.size with h | h
    · exact h
    · rw [Array.getElem?_eq_none h] at hm; cases hm
  have hsz0 : w00.heap.size ≤ w.heap.size := hB.size
  have hm1 := Aside0.mk hm
  clear hB hG hm
  go_enter Tryd.func82, Tryd.ntmps82
  go_wp2
  apply wp_scope_straight
  go_wp2_with (first | ((with_reducible refine gate_callee (f := 51) rfl ?_); refine goesL_ (some 30) rfl rfl Tryd.func51 (by kernel_rfl) rfl #[.string s] rfl (by (try simp only [List.map_toArray, List.map_cons, List.map_nil]); first | done | rfl) ?_; (with_reducible refine (dns_IsFqdn.calls s true _ hq).mono ?_); rintro e w' ⟨rfl, ⟨nd, rfl⟩⟩; refine ⟨_, rfl, ?_⟩))
  go_step3
  go_wp2
  go_loopw [2, 12, 13, 14, 15, 16, 17, 18, 19] (fun v2 v12 v13 v14 v15 v16 v17 v18 v19 wr => ∃ (D : List (List Int)) (cur T : List Int) (x15 x16 : Int) (wd : Bool), v2 = .int .i64 ((wpL D).length : Nat) ∧ v12 = .int .i64 ((joinD D ++ cur).length + T.length : Nat) ∧ v13 = .int .i64 (-1) ∧ v14 = .int .i64 ((joinD D).length : Nat) ∧ v15 = .int .i64 x15 ∧ v16 = .int .i64 x16 ∧ v18 = .bool wd ∧ v19 = .int .i64 ((joinD D ++ cur).length : Nat) ∧
    PkW s n room m w.heap.size w00 wr D cur T v17 wd) (fun v2 v12 v13 v14 v15 v16 v17 v18 v19 _ => (intOf v12 - intOf v19).toNat)
  case atStart =>
    refine ⟨[], [], joinD rs, 0, 0, false, rfl, by rw [hss.out]; simp [joinD], rfl, rfl, rfl, rfl, rfl, rfl, ⟨hrest.out, (fun h => nomatch h), by simp [wpL], .inl ⟨rfl, by rw [he1.out]; rfl⟩, ?_, ?_, pw_below_drewN (below_alloc hbel0.out _) nd⟩⟩
    · show (w.heap.push _)[m]? = _
      rw [Array.getElem?_push_lt hmq, ← Array.getElem?_eq_getElem hmq, hm1.out]
      simp [wpL]
    · show (w.heap.push _)[w.heap.size]? = _
      simp
  case round =>
    clear hm1 hbel0
    obtain ⟨D, cur, T, x15, x16, wd, rfl, rfl, rfl, rfl, rfl, rfl, rfl, rfl, hP0⟩ := hrel
    have hP := Aside0.mk hP0
    clear hP0
    have hrest := hP.out.rest
    cases hrest with
    | fin =>
      have hnl : 1 < (joinD n).length := by
        cases hL with
        | nil => exact absurd rfl hn
        | @cons r l rs ls h1 h2 h3 =>
          have := List.length_pos_iff.2 h2
          simp [joinD]
          omega
      have hgd := GoodP.below hG0.out hP.out.bel
      obtain ⟨t0, x0, t2, x2, hg0, hg2⟩ := hgd
      have hmsg := hP.out.msg
      rcases hP.out.buf with ⟨rfl, hbs⟩ | ⟨b, cap, J, rfl, hcap, hrow, hrl, hbm, hbq, hbb⟩
      · have c0 : decide (((joinD n ++ []).length : Int) < (((joinD n ++ []).length + ([] : List Int).length : Nat) : Int)) = false := decide_eq_false (by simp)
        have hle : (joinD n).length ≤ s.size := by rw [← bytesOf_length, hbs]; simp
        have hroot : ((s.extract 0 (joinD n).length).toList == ([46] : List UInt8)) = false := by
          refine beq_eq_false_iff_ne.mpr fun h => ?_
          rw [toList_dot, bytesOf_extract, hbs] at h
          have := congrArg List.length h
          simp at this
          omega
        by_cases hfit : (wpL n).length < room
        · have d1 : decide (((wpL n).length : Int) < (room : Int)) = true := decide_eq_true (by omega)
          have d2 : decide ((wpL n).length < room) = true := decide_eq_true hfit
          have hxs : wpL n ++ List.replicate (room - (wpL n).length) 0 = wpL n ++ 0 :: List.replicate (room - ((wpL n).length + 1)) 0 := by
            rw [show room - (wpL n).length = (room - ((wpL n).length + 1)) + 1 by omega, List.replicate_succ]
          rw [hxs] at hmsg
          obtain ⟨hcm, hfm⟩ := row_cell hmsg (i := (wpL n).length) (by simp)
          have hst := row_set hmsg (i := (wpL n).length) (by simp) 0
          simp only [List.getElem_append_right (Nat.le_refl _), Nat.sub_self, List.getElem_cons_zero] at hcm
          have hst1 := Aside0.mk hst
          clear hst hmsg hxs
          go_wp2_with (first | (go_at_call 113; (with_reducible refine (root_nil s (joinD n).length _ hle).mono ?_); rintro e w' ⟨rfl, rfl⟩; try rw [hroot]))
          try simp only [Exit.noGoto_ret]
          go_ret2
          refine ⟨Below.setCell hP.out.bel hm0 _, ?_⟩
          rw [if_pos (by omega)]
          refine ⟨rfl, hst1.out.trans (by simp)⟩
        · have d1 : decide (((wpL n).length : Int) < (room : Int)) = false := decide_eq_false (by omega)
          have d2 : decide ((wpL n).length < room) = false := decide_eq_false hfit
          go_wp2_with (first | (go_at_call 113; (with_reducible refine (root_nil s (joinD n).length _ hle).mono ?_); rintro e w' ⟨rfl, rfl⟩; try rw [hroot]))
          repeat (go_quiet (fail); try go_wp2)
          try simp only [Exit.noGoto_ret]
          go_ret2
          refine ⟨pw_below_drewN hP.out.bel _, ?_⟩
          rw [if_neg (by omega)]
          exact ⟨_, _, _, rfl⟩
      · have c0 : decide (((joinD n ++ []).length : Int) < (((joinD n ++ []).length + ([] : List Int).length : Nat) : Int)) = false := decide_eq_false (by simp)
        have hbig : ((joinD n).length : Int) ≤ 1000000000 := by have := hrl; simp at this; omega
        by_cases hfit : (wpL n).length < room
        · have d1 : decide (((wpL n).length : Int) < (room : Int)) = true := decide_eq_true (by omega)
          have d2 : decide ((wpL n).length < room) = true := decide_eq_true hfit
          have hxs : wpL n ++ List.replicate (room - (wpL n).length) 0 = wpL n ++ 0 :: List.replicate (room - ((wpL n).length + 1)) 0 := by
            rw [show room - (wpL n).length = (room - ((wpL n).length + 1)) + 1 by omega, List.replicate_succ]
          rw [hxs] at hmsg
          obtain ⟨hcm, hfm⟩ := row_cell hmsg (i := (wpL n).length) (by simp)
          have hst := row_set hmsg (i := (wpL n).length) (by simp) 0
          simp only [List.getElem_append_right (Nat.le_refl _), Nat.sub_self, List.getElem_cons_zero] at hcm
          have hst1 := Aside0.mk hst
          clear hst hmsg hxs
          go_wp2_with (first | (go_at_call 113; (with_reducible refine (root_row s ((joinD n).length : Nat) ⟨b, 0, none⟩ s.size cap _ (by omega) hbig).mono ?_); rintro e w' ⟨rfl, rfl⟩))
          try simp only [Exit.noGoto_ret]
          go_ret2
          refine ⟨Below.setCell hP.out.bel hm0 _, ?_⟩
          rw [if_pos (by omega)]
          refine ⟨rfl, hst1.out.trans (by simp)⟩
        · have d1 : decide (((wpL n).length : Int) < (room : Int)) = false := decide_eq_false (by omega)
          have d2 : decide ((wpL n).length < room) = false := decide_eq_false hfit
          go_wp2_with (first | (go_at_call 113; (with_reducible refine (root_row s ((joinD n).length : Nat) ⟨b, 0, none⟩ s.size cap _ (by omega) hbig).mono ?_); rintro e w' ⟨rfl, rfl⟩))
          repeat (go_quiet (fail); try go_wp2)
          try simp only [Exit.noGoto_ret]
          go_ret2
          refine ⟨pw_below_drewN hP.out.bel _, ?_⟩
          rw [if_neg (by omega)]
          exact ⟨_, _, _, rfl⟩
    | lab D cur r l rs2 ls2 h1 h2 h3 h4 =>
      cases h1 with
      | nil =>
        rw [List.append_nil] at h3 h4
        have hwd : wd = false := by
          cases wd with
          | false => rfl
          | true => exact absurd (hP.out.dot rfl) h4
        subst hwd
        have hcl0 : 0 < cur.length := List.length_pos_iff.2 h4
        have hc63 : cur.length ≤ 63 := h63 cur (by rw [h3]; simp)
        have hgd := GoodP.below hG0.out hP.out.bel
        obtain ⟨t0, x0, t2, x2, hg0, hg2⟩ := hgd
        have hmsg := hP.out.msg
        have hcomp := hP.out.comp
        have hfit := hP.out.fit
        have hi : (joinD D ++ cur).length = (joinD D).length + cur.length := by simp
        have hi1 := Aside0.mk hi
        have hiz : (((joinD D ++ cur).length : Int) == 0) = false := beq_eq_false_iff_ne.mpr (by omega)
        have hsum : (joinD D ++ cur).length ≤ 1000000 := by
          rcases hP.out.buf with ⟨_, hbs⟩ | ⟨b, cap, J, _, _, _, hrl, _⟩
          · have h5 := congrArg List.length hbs
            rw [bytesOf_length, List.length_append] at h5
            omega
          · rw [List.length_append] at hrl
            omega
        have hwn : (wpL n).length = (wpL D).length + (1 + cur.length) + (wpL ls2).length := by rw [h3, wpL_append, List.length_append, wpL, List.length_cons, List.length_append]; omega
        have hwn1 := Aside0.mk hwn
        have hnext : Rest n (D ++ [cur]) [] (joinD rs2) := by
          cases h2 with
          | nil => rw [h3]; exact .fin
          | cons k1 k2 k3 => exact .lab (D ++ [cur]) [] _ _ _ _ k1 k3 (by rw [h3]; simp) (by simpa using k2)
        have hnext1 := Aside0.mk hnext
        clear hwn hnext hi
        rcases hP.out.buf with ⟨rfl, hbs⟩ | ⟨b, cap, J, rfl, hcap, hrow, hrl, hbm, hbq, hbb⟩
        · have hbt : bt s ((joinD D ++ cur).length : Int) = 46 := bt_split (rest := joinD rs2) (by rw [hbs]; simp)
          have hlt : (joinD D ++ cur).length < s.size := by rw [← bytesOf_length, hbs]; simp
          have kb := bt_at_nat s (joinD D ++ cur).length
          rw [hbt] at kb
          have hbs1 := Aside0.mk hbs
          clear hbs hbt
          have q1 := fun W => run_eql_slice_nil (P := Tryd.prog) W 22 _ none 0 0 Tryd.underlying22
          generalize (joinD D ++ cur).length = iN at *
          generalize htN : ([] ++ 46 :: joinD rs2 : List Int).length = tN at *
          generalize hlN : iN + tN = lN at *
          have hlN1 := Aside0.mk hlN
          have c1 : iN < lN := by simp at htN; omega
          have c0 : decide ((iN : Int) < (lN : Int)) = true := decide_eq_true (by omega)
          have c2 : decide (iN < lN) = true := decide_eq_true c1
          clear hlN
          have hib : (iN : Int) - ((joinD D).length : Int) = (cur.length : Int) := by have := hi1.out; omega
          have hibw : wrap64 ((iN : Int) - ((joinD D).length : Int)) = (cur.length : Int) := by rw [hib]; unfold wrap64; omega
          have d1 : decide ((64 : Int) ≤ (cur.length : Int)) = false := decide_eq_false (by omega)
          have d2 : decide (64 ≤ cur.length) = false := decide_eq_false (by omega)
          have htN1 := Aside0.mk htN
          clear htN
          by_cases hroom : (wpL D).length + 1 + cur.length ≤ room
          · have d3 : decide ((room : Int) < ((wpL D).length : Int) + 1 + (cur.length : Int)) = false := decide_eq_false (by omega)
            have d4 : decide (room < (wpL D).length + 1 + cur.length) = false := decide_eq_false (by omega)
            have hc0 : wr.cell? ⟨w.heap.size, 0, none⟩ = some (.map none) := by simp [World.cell?, hcomp]
            have hc1 : wr.cell? ⟨w.heap.size, 1, none⟩ = some (.map none) := by simp [World.cell?, hcomp]
            have hxs : wpL D ++ List.replicate (room - (wpL D).length) 0 = wpL D ++ 0 :: List.replicate (room - ((wpL D).length + 1)) 0 := by
              rw [show room - (wpL D).length = (room - ((wpL D).length + 1)) + 1 by omega, List.replicate_succ]
            rw [hxs] at hmsg
            have hmsg1 := Aside0.mk hmsg
            have hcomp1 := Aside0.mk hcomp
            clear hmsg hcomp hxs
            go_wp2_with (first | (go_at_call 112; (with_reducible refine (cmap_valid _).mono ?_); rintro e w2 ⟨rfl, hb⟩; have hmsg2 := heap_kept hb hmsg1.out; have hcomp2 := Aside0.mk (heap_kept hb hcomp1.out); have hbel2 := Aside0.mk (below_step hP.out.bel hb); clear hb; (obtain ⟨hcm, hfm⟩ := row_cell hmsg2 (i := (wpL D).length) (by simp)); (simp only [List.getElem_append_right (Nat.le_refl _), Nat.sub_self, List.getElem_cons_zero] at hcm); have hmsg3 := Aside0.mk (row_set hmsg2 (i := (wpL D).length) (by simp) (cur.length : Int)); clear hmsg2))
            have f1 : ((joinD D).length : Int) ≤ (iN : Int) := by have := hi1.out; omega
            have f2 : (iN : Int) ≤ (s.size : Int) := by omega
            have f3 : (joinD D).length ≤ iN := by have := hi1.out; omega
            have f4 : iN ≤ s.size := by omega
            obtain ⟨oN, hoN⟩ : ∃ oN, oN = (wpL D).length + 1 := ⟨_, rfl⟩
            have e0 : IntKind.i64.wrap (((wpL D).length : Int) + 1) = (oN : Int) := by rw [hoN, IntWalk.i64_in _ (by omega)]; rfl
            have e1 : (oN : Int) ≤ (room : Int) := by omega
            have e2 : ¬ room = oN := by omega
            have hoN1 := Aside0.mk hoN
            clear hoN
            have hex := Aside0.mk (show bytesOf (s.extract (joinD D).length iN) = cur by rw [bytesOf_extract, hbs1.out, hi1.out, List.take_append_of_le_length (by simp), List.take_of_length_le (by simp), List.drop_left])
            have hexs : (s.extract (joinD D).length iN).size = cur.length := by rw [← bytesOf_length, hex.out]
            have hexs1 := Aside0.mk hexs
            go_still_tail 8, (by kernel_rfl)
            refine wpList_copy_str rfl _ _ _ _ 5 rfl Tryd.underlying22 (by kernel_rfl) m oN (room - oN) (room - oN) (s.extract (joinD D).length iN) rfl rfl _ 5 hmsg3.out (by have := hoN1.out; rw [hexs1.out]; omega) (by have := hoN1.out; rw [hexs1.out, List.length_set]; simp; omega) ?_
            intro w3 h3 ho3 hb3
            go_wp2
            go_roundw
            case rel =>
              have hw := hwn1.out
              have hin := hi1.out
              have hll := hlN1.out
              have htl := htN1.out
              have hDl : (wpL (D ++ [cur])).length = (wpL D).length + (1 + cur.length) := by rw [wpL_snoc]; simp; omega
              have hJ : joinD (D ++ [cur]) = joinD D ++ cur ++ [46] := by rw [joinD_snoc]; simp
              have hJl : (joinD (D ++ [cur])).length = iN + 1 := by rw [hJ]; simp; omega
              refine ⟨D ++ [cur], [], joinD rs2, _, _, true, (congrArg (fun z : Int => Value.int .i64 z) (by omega)), (congrArg (fun z : Int => Value.int .i64 z) (by simp at htl; simp [hJl]; omega)), rfl, (congrArg (fun z : Int => Value.int .i64 z) (by omega)), rfl, rfl, rfl, (congrArg (fun z : Int => Value.int .i64 z) (by simp [hJl])), ?_⟩
              refine ⟨hnext1.out, fun _ => rfl, by omega, .inl ⟨rfl, by rw [hbs1.out, hJ]; simp⟩, ?_, ?_, ?_⟩
              · have h5 := h3
                rw [hex.out, hexs1.out, hoN1.out, row_point D cur room hroom] at h5
                exact h5
              · refine (ho3 _ (by omega)).trans ?_
                refine (Below.heap_setCell _ _ _ _ (by show _ ≠ m; omega)).trans hcomp2.out
              · have hb5 := below_mono hb3 hm0
                exact (hbel2.out.setCell (p := ⟨m, (wpL D).length, none⟩) hm0 (.int .u8 (cur.length : Int))).trans ⟨hb5.os, hb5.tape, hb5.output, hb5.size, hb5.block⟩
            case measure => simp [intOf]; omega
          · have d3 : decide ((room : Int) < ((wpL D).length : Int) + 1 + (cur.length : Int)) = true := decide_eq_true (by omega)
            have d4 : decide (room < (wpL D).length + 1 + cur.length) = true := decide_eq_true (by omega)
            go_wp2
            repeat (go_quiet (fail); try go_wp2)
            try simp only [Exit.noGoto_ret]
            go_ret2
            refine ⟨pw_below_drewN hP.out.bel _, ?_⟩
            rw [if_neg (by have := hwn1.out; omega)]
            exact ⟨_, _, _, rfl⟩
        · have hlt : (joinD D ++ cur).length < s.size := by rw [← hrl]; simp
          have hcb := hrow.cell (j := (joinD D ++ cur).length) (by simp)
          rw [List.getD_eq_getElem?_getD, List.getElem?_append_right (Nat.le_refl _), Nat.sub_self] at hcb
          simp only [List.cons_append, List.nil_append, List.getElem?_cons_zero, Option.getD_some] at hcb
          have hrow1 := Aside0.mk hrow
          have hrl1 := Aside0.mk hrl
          have hbl := Aside0.mk (hrow.lt (by rw [hrl]; exact hpos))
          clear hrow hrl
          have q1 := fun W => run_eql_slice_nil (P := Tryd.prog) W 22 _ (some ⟨b, 0, none⟩) s.size cap Tryd.underlying22
          generalize (joinD D ++ cur).length = iN at *
          generalize htN : ([] ++ 46 :: joinD rs2 : List Int).length = tN at *
          generalize hlN : iN + tN = lN at *
          have hlN1 := Aside0.mk hlN
          have c1 : iN < lN := by simp at htN; omega
          have c0 : decide ((iN : Int) < (lN : Int)) = true := decide_eq_true (by omega)
          have c2 : decide (iN < lN) = true := decide_eq_true c1
          clear hlN
          have hib : (iN : Int) - ((joinD D).length : Int) = (cur.length : Int) := by have := hi1.out; omega
          have hibw : wrap64 ((iN : Int) - ((joinD D).length : Int)) = (cur.length : Int) := by rw [hib]; unfold wrap64; omega
          have d1 : decide ((64 : Int) ≤ (cur.length : Int)) = false := decide_eq_false (by omega)
          have d2 : decide (64 ≤ cur.length) = false := decide_eq_false (by omega)
          have htN1 := Aside0.mk htN
          clear htN
          by_cases hroom : (wpL D).length + 1 + cur.length ≤ room
          · have d3 : decide ((room : Int) < ((wpL D).length : Int) + 1 + (cur.length : Int)) = false := decide_eq_false (by omega)
            have d4 : decide (room < (wpL D).length + 1 + cur.length) = false := decide_eq_false (by omega)
            have hc0 : wr.cell? ⟨w.heap.size, 0, none⟩ = some (.map none) := by simp [World.cell?, hcomp]
            have hc1 : wr.cell? ⟨w.heap.size, 1, none⟩ = some (.map none) := by simp [World.cell?, hcomp]
            have hxs : wpL D ++ List.replicate (room - (wpL D).length) 0 = wpL D ++ 0 :: List.replicate (room - ((wpL D).length + 1)) 0 := by
              rw [show room - (wpL D).length = (room - ((wpL D).length + 1)) + 1 by omega, List.replicate_succ]
            rw [hxs] at hmsg
            have hmsg1 := Aside0.mk hmsg
            have hcomp1 := Aside0.mk hcomp
            clear hmsg hcomp hxs
            go_wp2_with (first | (go_at_call 112; (with_reducible refine (cmap_valid _).mono ?_); rintro e w2 ⟨rfl, hb⟩; have hmsg2 := heap_kept hb hmsg1.out; have hcomp2 := Aside0.mk (heap_kept hb hcomp1.out); have hbel2 := Aside0.mk (below_step hP.out.bel hb); have hrow2 := Aside0.mk (hrow1.out.kept (hb.block _ hbl.out)); clear hb; (obtain ⟨hcm, hfm⟩ := row_cell hmsg2 (i := (wpL D).length) (by simp)); (simp only [List.getElem_append_right (Nat.le_refl _), Nat.sub_self, List.getElem_cons_zero] at hcm); have hmsg3 := Aside0.mk (row_set hmsg2 (i := (wpL D).length) (by simp) (cur.length : Int)); clear hmsg2))
            have f1 : ((joinD D).length : Int) ≤ (iN : Int) := by have := hi1.out; omega
            have f2 : (iN : Int) ≤ (s.size : Int) := by omega
            have f3 : (joinD D).length ≤ iN := by have := hi1.out; omega
            have f4 : iN ≤ s.size := by omega
            obtain ⟨oN, hoN⟩ : ∃ oN, oN = (wpL D).length + 1 := ⟨_, rfl⟩
            have e0 : IntKind.i64.wrap (((wpL D).length : Int) + 1) = (oN : Int) := by rw [hoN, IntWalk.i64_in _ (by omega)]; rfl
            have e1 : (oN : Int) ≤ (room : Int) := by omega
            have e2 : ¬ room = oN := by omega
            have hoN1 := Aside0.mk hoN
            clear hoN
            have e5 : ¬ cap = (joinD D).length := by omega
            have f5 : (iN : Int) ≤ (cap : Int) := by omega
            go_still_tail 8, (by kernel_rfl)
            refine wpList_copy_rowB rfl _ _ _ _ 5 rfl Tryd.underlying22 (by kernel_rfl) m oN (room - oN) (room - oN) b (joinD D).length (iN - (joinD D).length) _ rfl rfl _ 5 hmsg3.out cur _ (hrow2.out.kept (Below.heap_setCell _ _ _ _ hbm)) ?_ ?_ ?_ ?_ ?_
            · have hin := hi1.out
              rw [hin, Nat.add_sub_cancel_left, List.append_assoc (joinD D), List.drop_left, List.take_left]
            · have hin := hi1.out
              simp
              omega
            · have hin := hi1.out
              have := hoN1.out
              omega
            · have hin := hi1.out
              have := hoN1.out
              rw [List.length_set]
              simp
              omega
            intro w3 h3 ho3 hb3
            go_wp2
            go_roundw
            case rel =>
              have hw := hwn1.out
              have hin := hi1.out
              have hll := hlN1.out
              have htl := htN1.out
              have hDl : (wpL (D ++ [cur])).length = (wpL D).length + (1 + cur.length) := by rw [wpL_snoc]; simp; omega
              have hJ : joinD (D ++ [cur]) = joinD D ++ cur ++ [46] := by rw [joinD_snoc]; simp
              have hJl : (joinD (D ++ [cur])).length = iN + 1 := by rw [hJ]; simp; omega
              refine ⟨D ++ [cur], [], joinD rs2, _, _, true, (congrArg (fun z : Int => Value.int .i64 z) (by omega)), (congrArg (fun z : Int => Value.int .i64 z) (by simp at htl; simp [hJl]; omega)), rfl, (congrArg (fun z : Int => Value.int .i64 z) (by omega)), rfl, rfl, rfl, (congrArg (fun z : Int => Value.int .i64 z) (by simp [hJl])), ?_⟩
              refine ⟨hnext1.out, fun _ => rfl, by omega, .inr ⟨b, cap, J, rfl, hcap, ?_, by rw [← hrl1.out, hJ]; simp, hbm, hbq, hbb⟩, ?_, ?_, ?_⟩
              · have e6 : joinD (D ++ [cur]) ++ [] ++ (joinD rs2 ++ J) = joinD D ++ cur ++ ([] ++ 46 :: joinD rs2 ++ J) := by rw [hJ]; simp
                rw [e6]
                exact hrow2.out.kept ((ho3 _ hbm).trans (Below.heap_setCell _ _ _ _ hbm))
              · have h5 := h3
                rw [hoN1.out, show iN - (joinD D).length = cur.length by omega, row_point D cur room hroom] at h5
                exact h5
              · refine (ho3 _ (by omega)).trans ?_
                refine (Below.heap_setCell _ _ _ _ (by show _ ≠ m; omega)).trans hcomp2.out
              · have hb5 := below_mono hb3 hm0
                exact (hbel2.out.setCell (p := ⟨m, (wpL D).length, none⟩) hm0 (.int .u8 (cur.length : Int))).trans ⟨hb5.os, hb5.tape, hb5.output, hb5.size, hb5.block⟩
            case measure => simp [intOf]; omega
          · have d3 : decide ((room : Int) < ((wpL D).length : Int) + 1 + (cur.length : Int)) = true := decide_eq_true (by omega)
            have d4 : decide (room < (wpL D).length + 1 + cur.length) = true := decide_eq_true (by omega)
            go_wp2
            repeat (go_quiet (fail); try go_wp2)
            try simp only [Exit.noGoto_ret]
            go_ret2
            refine ⟨pw_below_drewN hP.out.bel _, ?_⟩
            rw [if_neg (by have := hwn1.out; omega)]
            exact ⟨_, _, _, rfl⟩
      | @cons t r l c p ht hc h1 =>
        cases ht with
        | plain c hn =>
          have hc46 : c ≠ 46 := fun h => hc ⟨rfl, h⟩
          have k92 : (c == 92) = false := beq_eq_false_iff_ne.mpr hn
          have k46 : (c == 46) = false := beq_eq_false_iff_ne.mpr hc46
          have hnext : Rest n D (cur ++ [c]) (r ++ 46 :: joinD rs2) := .lab D (cur ++ [c]) r l rs2 ls2 h1 h2 (by rw [h3]; simp) (by simp)
          have hnext1 := Aside0.mk hnext
          have hlen : ([c] ++ r ++ 46 :: joinD rs2).length = (r ++ 46 :: joinD rs2).length + 1 := by simp
          have hcl : (joinD D ++ (cur ++ [c])).length = (joinD D ++ cur).length + 1 := by simp; omega
          have hlen1 := Aside0.mk hlen
          have hcl1 := Aside0.mk hcl
          clear hnext hlen hcl
          rcases hP.out.buf with ⟨rfl, hbs⟩ | ⟨b, cap, J, rfl, hcap, hrow, hrl, hbm, hbq, hbb⟩
          · have hbt : bt s ((joinD D ++ cur).length : Int) = c := bt_split (rest := r ++ 46 :: joinD rs2) (by rw [hbs]; simp)
            have hlt : (joinD D ++ cur).length < s.size := by rw [← bytesOf_length, hbs]; simp
            have kb := bt_at_nat s (joinD D ++ cur).length
            rw [hbt] at kb
            have hbs1 := Aside0.mk hbs
            clear hbs hbt
            have q1 := fun W => run_eql_slice_nil (P := Tryd.prog) W 22 _ none 0 0 Tryd.underlying22
            generalize (joinD D ++ cur).length = iN at *
            generalize ([c] ++ r ++ 46 :: joinD rs2).length = tN at *
            generalize hlN : iN + tN = lN at *
            have hlN1 := Aside0.mk hlN
            have c0 : decide ((iN : Int) < (lN : Int)) = true := decide_eq_true (by have := hlen1.out; omega)
            have c1 : iN < lN := by have := hlen1.out; omega
            have c2 : decide (iN < lN) = true := decide_eq_true c1
            clear hlN
            go_wp2
            go_roundw
            case rel => exact ⟨D, cur ++ [c], r ++ 46 :: joinD rs2, x15, x16, false, rfl, (congrArg (fun z : Int => Value.int .i64 z) (by have h5 := hcl1.out; have h6 := hlen1.out; have h7 := hlN1.out; omega)), rfl, rfl, rfl, rfl, rfl, (congrArg (fun z : Int => Value.int .i64 z) (by have h5 := hcl1.out; omega)),
              ⟨hnext1.out, (fun h => nomatch h), hP.out.fit, .inl ⟨rfl, by rw [hbs1.out]; simp⟩, hP.out.msg, hP.out.comp, hP.out.bel⟩⟩
            case measure => simp [intOf]; omega
          · have hlt : (joinD D ++ cur).length < s.size := by rw [← hrl]; simp
            have hc1 := hrow.cell (j := (joinD D ++ cur).length) (by simp)
            rw [List.getD_eq_getElem?_getD, List.getElem?_append_right (Nat.le_refl _), Nat.sub_self] at hc1
            simp only [List.cons_append, List.nil_append, List.getElem?_cons_zero, Option.getD_some] at hc1
            have hrow1 := Aside0.mk hrow
            have hrl1 := Aside0.mk hrl
            clear hrow hrl
            have q1 := fun W => run_eql_slice_nil (P := Tryd.prog) W 22 _ (some ⟨b, 0, none⟩) s.size cap Tryd.underlying22
            generalize (joinD D ++ cur).length = iN at *
            generalize ([c] ++ r ++ 46 :: joinD rs2).length = tN at *
            generalize hlN : iN + tN = lN at *
            have hlN1 := Aside0.mk hlN
            have c0 : decide ((iN : Int) < (lN : Int)) = true := decide_eq_true (by have := hlen1.out; omega)
            have c1 : iN < lN := by have := hlen1.out; omega
            have c2 : decide (iN < lN) = true := decide_eq_true c1
            clear hlN
            go_wp2
            have hX : (joinD D ++ (cur ++ [c])) ++ ((r ++ 46 :: joinD rs2) ++ J) = (joinD D ++ cur) ++ (([c] ++ r ++ 46 :: joinD rs2) ++ J) := by simp
            go_roundw
            case rel => exact ⟨D, cur ++ [c], r ++ 46 :: joinD rs2, x15, x16, false, rfl, (congrArg (fun z : Int => Value.int .i64 z) (by have h5 := hcl1.out; have h6 := hlen1.out; have h7 := hlN1.out; omega)), rfl, rfl, rfl, rfl, rfl, (congrArg (fun z : Int => Value.int .i64 z) (by have h5 := hcl1.out; omega)),
              ⟨hnext1.out, (fun h => nomatch h), hP.out.fit, .inr ⟨b, cap, J, rfl, hcap, by rw [hX]; exact hrow1.out, by rw [hX]; exact hrl1.out, hbm, hbq, hbb⟩, hP.out.msg, hP.out.comp, hP.out.bel⟩⟩
            case measure => simp [intOf]; omega
        | sign c hd =>
          have hnext : Rest n D (cur ++ [c]) (r ++ 46 :: joinD rs2) := .lab D (cur ++ [c]) r l rs2 ls2 h1 h2 (by rw [h3]; simp) (by simp)
          have hnext1 := Aside0.mk hnext
          have hlen : ([92, c] ++ r ++ 46 :: joinD rs2 : List Int).length = (r ++ 46 :: joinD rs2).length + 2 := by simp
          have hcl : (joinD D ++ (cur ++ [c])).length = (joinD D ++ cur).length + 1 := by simp; omega
          have hRp : 0 < (r ++ 46 :: joinD rs2).length := by simp; omega
          have hfit := hP.out.fit
          have hR1 := Aside0.mk hRp
          have hlen1 := Aside0.mk hlen
          have hcl1 := Aside0.mk hcl
          have hwn : (wpL D).length + 1 ≤ (wpL n).length := by rw [h3, wpL_append, List.length_append, wpL, List.length_cons, List.length_append]; omega
          have hwn1 := Aside0.mk hwn
          have hgd := GoodP.below hG0.out hP.out.bel
          obtain ⟨t0, x0, t2, x2, hg0, hg2⟩ := hgd
          clear hnext hlen hcl hwn hRp
          rcases hP.out.buf with ⟨rfl, hbs⟩ | ⟨b, cap, J, rfl, hcap, hrow, hrl, hbm, hbq, hbb⟩
          · have hbt : bt s ((joinD D ++ cur).length : Int) = 92 := bt_split (rest := c :: (r ++ 46 :: joinD rs2)) (by rw [hbs]; simp)
            have hlt : (joinD D ++ cur).length < s.size := by rw [← bytesOf_length, hbs]; simp
            have kb := bt_at_nat s (joinD D ++ cur).length
            rw [hbt] at kb
            have hbs1 := Aside0.mk hbs
            have hle : (joinD D ++ cur).length + ([92, c] ++ r ++ 46 :: joinD rs2 : List Int).length ≤ s.size := by
              have h5 := congrArg List.length hbs
              rw [bytesOf_length, @List.length_append _ (joinD D ++ cur)] at h5
              omega
            clear hbs hbt
            have q1 := fun W => run_eql_slice_nil (P := Tryd.prog) W 22 _ none 0 0 Tryd.underlying22
            have kbc := fun W => print_bytes (P := Tryd.prog) 9 22 5 Tryd.underlying9 Tryd.underlying22 Tryd.underlying5 s W
            have hcap := grownCap_ge wr s.size 0 5
            have hrowB : RowB (Lib.bytesWorld wr 5 s) wr.heap.size ((joinD D ++ cur) ++ (([92, c] ++ r ++ 46 :: joinD rs2 : List Int) ++ [])) := by
              have h := RowB_bytes wr 5 s
              rw [hbs1.out] at h
              simpa using h
            have hrow1 := Aside0.mk hrowB
            have hrl1 := Aside0.mk (show ((joinD D ++ cur) ++ (([92, c] ++ r ++ 46 :: joinD rs2 : List Int) ++ [])).length = s.size by rw [List.append_nil, ← hbs1.out, bytesOf_length])
            have hml : m < wr.heap.size := heap_lt hP.out.msg
            have hql : w.heap.size < wr.heap.size := heap_lt hP.out.comp
            have hmsg1 := Aside0.mk ((Lib.bytesWorld_at_old wr 5 s _ hml).trans hP.out.msg)
            have hcomp1 := Aside0.mk ((Lib.bytesWorld_at_old wr 5 s _ hql).trans hP.out.comp)
            have hbel1 := Aside0.mk (bytes_below hP.out.bel hP.out.bel.size 5 s)
            have hbm : wr.heap.size ≠ m := by omega
            have hbq : wr.heap.size ≠ w.heap.size := by omega
            have hbb : w00.heap.size ≤ wr.heap.size := hP.out.bel.size
            clear hrowB hml hql
            generalize hiN : (joinD D ++ cur).length = iN at *
            generalize htN : ([92, c] ++ r ++ 46 :: joinD rs2 : List Int).length = tN at *
            have hiN1 := Aside0.mk hiN
            have htN1 := Aside0.mk htN
            clear hiN htN
            generalize hlN : iN + tN = lN at *
            have hlN1 := Aside0.mk hlN
            have c1 : iN < lN := by have := hlen1.out; omega
            have c0 : decide ((iN : Int) < (lN : Int)) = true := decide_eq_true (by omega)
            have c2 : decide (iN < lN) = true := decide_eq_true c1
            obtain ⟨jN, hjN⟩ : ∃ jN, jN = iN + 1 := ⟨_, rfl⟩
            obtain ⟨kN, hkN⟩ : ∃ kN, kN = lN - 1 := ⟨_, rfl⟩
            have hjk : jN ≤ kN := by have := hlen1.out; have := hR1.out; omega
            have e0 : IntKind.i64.wrap ((iN : Int) + 1) = (jN : Int) := by rw [IntWalk.i64_in _ (by omega)]; omega
            have e0' : (iN : Int) + 1 = (jN : Int) := by omega
            have e1 : IntKind.i64.wrap ((lN : Int) - 1) = (kN : Int) := by rw [IntWalk.i64_in _ (by omega)]; have := hlen1.out; omega
            have e1' : (lN : Int) - 1 = (kN : Int) := by have := hlen1.out; omega
            have e0'' : IntKind.i64.wrap (jN : Int) = (jN : Int) := IntWalk.i64_in _ (by omega)
            have e1'' : IntKind.i64.wrap (kN : Int) = (kN : Int) := IntWalk.i64_in _ (by have := hlen1.out; omega)
            have f2' : iN ≤ kN := by omega
            have f6' : jN ≤ kN := by omega
            have f1 : (jN : Int) ≤ (s.size : Int) := by omega
            have f2 : (iN : Int) ≤ (kN : Int) := by omega
            have f3 : (kN : Int) ≤ (grownCap wr s.size 0 5 : Int) := by omega
            have f4 : ¬ grownCap wr s.size 0 5 = iN := by omega
            have f5 : ¬ grownCap wr s.size 0 5 = jN := by omega
            have f6 : (jN : Int) ≤ (kN : Int) := by omega
            have hjN1 := Aside0.mk hjN
            have hkN1 := Aside0.mk hkN
            have hfl := Aside0.mk (show iN + 2 < lN by have := hlen1.out; have := hR1.out; omega)
            clear hlN hjN hkN hjk
            by_cases hroom : (wpL D).length + 1 ≤ room
            · have d3 : decide ((room : Int) < ((wpL D).length : Int) + 1) = false := decide_eq_false (by omega)
              have d4 : decide (room < (wpL D).length + 1) = false := decide_eq_false (by omega)
              go_wp2_with fail
              generalize Lib.bytesWorld wr 5 s = w1 at *
              generalize grownCap wr s.size 0 5 = cap at *
              generalize wr.heap.size = b at *
              clear kbc
              have hdr : (((((joinD D ++ cur) ++ (([92, c] ++ r ++ 46 :: joinD rs2 : List Int) ++ [])) : List Int).drop jN).take (s.size - jN)) = c :: (r ++ 46 :: joinD rs2 ++ []) := by
                have h5 := hrl1.out
                rw [List.take_of_length_le (by rw [List.length_drop, h5]; exact Nat.le_refl _), show jN = (joinD D ++ cur ++ [92]).length by rw [List.length_append, hiN1.out, hjN1.out]; rfl]
                rw [show ((joinD D ++ cur) ++ (([92, c] ++ r ++ 46 :: joinD rs2 : List Int) ++ [])) = (joinD D ++ cur ++ [92]) ++ (c :: (r ++ 46 :: joinD rs2 ++ [])) by simp, List.drop_left]
              have hdr1 := Aside0.mk hdr
              clear hdr
              have hzl : jN + (s.size - jN) ≤ (((joinD D ++ cur) ++ (([92, c] ++ r ++ 46 :: joinD rs2 : List Int) ++ [])) : List Int).length := by rw [hrl1.out]; omega
              have hzm : (((joinD D ++ cur) ++ (([92, c] ++ r ++ 46 :: joinD rs2 : List Int) ++ [])) : List Int).length ≤ 1000000 := by rw [hrl1.out]; exact hs
              have hzl1 := Aside0.mk hzl
              have hzm1 := Aside0.mk hzm
              clear hzl hzm
              go_wp2_with (first | (go_at_call 110; (with_reducible refine (isddd_row _ b jN (s.size - jN) (cap - jN) _ false hrow1.out hzl1.out hzm1.out (by omega) (by rw [hdr1.out]; exact isddd_no _ _ hd)).mono ?_); rintro e w' ⟨rfl, ⟨nd2, rfl⟩⟩))
              go_still_tail 9, (by kernel_rfl)
              refine wpList_copy_self rfl _ _ _ _ 5 rfl Tryd.underlying22 (by kernel_rfl) b iN (kN - iN) (cap - iN) jN (s.size - jN) _ rfl rfl _ hrow1.out (kN - iN) ?_ ?_ ?_ ?_
              · have h5 := hjN1.out
                have h6 := hkN1.out
                have h7 := hfl.out
                exact (Nat.min_eq_right (by omega)).symm
              · have h5 := hjN1.out
                have h6 := hkN1.out
                have h7 := hfl.out
                rw [hrl1.out]
                omega
              · have h5 := hjN1.out
                have h6 := hkN1.out
                have h7 := hfl.out
                rw [hrl1.out]
                omega
              intro w3 h3 ho3 hb3
              go_wp2
              go_roundw
              case rel =>
                have h5 := hjN1.out
                have h6 := hkN1.out
                have h7 := hlN1.out
                have h8 := htN1.out
                have h9 := hcl1.out
                have h10 := hlen1.out
                have h11 := hiN1.out
                have h12 := hfl.out
                have hX : ((joinD D ++ cur) : List Int).length = iN := by simp only [List.length_append, List.length_cons, List.length_nil] at h11 ⊢; omega
                have hT : ((c :: (r ++ 46 :: joinD rs2)) : List Int).length = (kN - iN) := by simp only [List.length_cons]; omega
                have hsh := row_shift (joinD D ++ cur) [92] (c :: (r ++ 46 :: joinD rs2)) [] iN jN (kN - iN) hX.symm (by rw [hX]; simp only [List.length_cons, List.length_nil]; omega) hT.symm
                have hsq := row_shift_len (joinD D ++ cur) [92] (c :: (r ++ 46 :: joinD rs2)) []
                rw [hX, hT] at hsq
                have he : (joinD D ++ cur) ++ ([92] ++ ((c :: (r ++ 46 :: joinD rs2)) ++ [])) = ((joinD D ++ cur) ++ (([92, c] ++ r ++ 46 :: joinD rs2) ++ [])) := by simp
                have hd2 : (joinD D ++ (cur ++ [c])) ++ ((r ++ 46 :: joinD rs2) ++ (((joinD D ++ cur) ++ ([92] ++ ((c :: (r ++ 46 :: joinD rs2)) ++ []))).drop (iN + (kN - iN)))) = (joinD D ++ cur) ++ ((c :: (r ++ 46 :: joinD rs2)) ++ (((joinD D ++ cur) ++ ([92] ++ ((c :: (r ++ 46 :: joinD rs2)) ++ []))).drop (iN + (kN - iN)))) := by simp
                refine ⟨D, cur ++ [c], (r ++ 46 :: joinD rs2), x15, _, false, rfl, (congrArg (fun v_ : Int => Value.int .i64 v_) (by omega)), rfl, rfl, rfl, rfl, rfl, (congrArg (fun v_ : Int => Value.int .i64 v_) (by omega)), ?_⟩
                refine ⟨hnext1.out, (fun h => nomatch h), hP.out.fit, .inr ⟨b, cap, (((joinD D ++ cur) ++ ([92] ++ ((c :: (r ++ 46 :: joinD rs2)) ++ []))).drop (iN + (kN - iN))), rfl, hcap, ?_, ?_, hbm, hbq, hbb⟩, ?_, ?_, ?_⟩
                · rw [hd2]
                  have h13 := h3
                  rw [← he, hsh] at h13
                  exact h13
                · rw [hd2, hsq, he]
                  exact hrl1.out
                · exact (ho3 _ (Ne.symm hbm)).trans hmsg1.out
                · exact (ho3 _ (Ne.symm hbq)).trans hcomp1.out
                · have hb5 := below_mono hb3 hbb
                  exact hbel1.out.trans ⟨hb5.os, hb5.tape, hb5.output, hb5.size, hb5.block⟩
              case measure => simp [intOf]; omega
            · have d3 : decide ((room : Int) < ((wpL D).length : Int) + 1) = true := decide_eq_true (by omega)
              have d4 : decide (room < (wpL D).length + 1) = true := decide_eq_true (by omega)
              go_wp2
              repeat (go_quiet (fail); try go_wp2)
              try simp only [Exit.noGoto_ret]
              go_ret2
              refine ⟨pw_below_drewN hP.out.bel _, ?_⟩
              rw [if_neg (by have := hwn1.out; omega)]
              exact ⟨_, _, _, rfl⟩
          · have hlt : (joinD D ++ cur).length < s.size := by rw [← hrl]; simp
            have hcb := hrow.cell (j := (joinD D ++ cur).length) (by simp)
            rw [List.getD_eq_getElem?_getD, List.getElem?_append_right (Nat.le_refl _), Nat.sub_self] at hcb
            simp only [List.cons_append, List.nil_append, List.getElem?_cons_zero, Option.getD_some] at hcb
            have hle : (joinD D ++ cur).length + ([92, c] ++ r ++ 46 :: joinD rs2 : List Int).length ≤ s.size := by
              have h5 := hrl
              rw [@List.length_append _ (joinD D ++ cur), @List.length_append _ ([92, c] ++ r ++ 46 :: joinD rs2 : List Int)] at h5
              omega
            have hrow1 := Aside0.mk hrow
            have hrl1 := Aside0.mk hrl
            have hmsg1 := Aside0.mk hP.out.msg
            have hcomp1 := Aside0.mk hP.out.comp
            have hbel1 := Aside0.mk hP.out.bel
            clear hrow hrl
            have q1 := fun W => run_eql_slice_nil (P := Tryd.prog) W 22 _ (some ⟨b, 0, none⟩) s.size cap Tryd.underlying22
            generalize hiN : (joinD D ++ cur).length = iN at *
            generalize htN : ([92, c] ++ r ++ 46 :: joinD rs2 : List Int).length = tN at *
            have hiN1 := Aside0.mk hiN
            have htN1 := Aside0.mk htN
            clear hiN htN
            generalize hlN : iN + tN = lN at *
            have hlN1 := Aside0.mk hlN
            have c1 : iN < lN := by have := hlen1.out; omega
            have c0 : decide ((iN : Int) < (lN : Int)) = true := decide_eq_true (by omega)
            have c2 : decide (iN < lN) = true := decide_eq_true c1
            obtain ⟨jN, hjN⟩ : ∃ jN, jN = iN + 1 := ⟨_, rfl⟩
            obtain ⟨kN, hkN⟩ : ∃ kN, kN = lN - 1 := ⟨_, rfl⟩
            have hjk : jN ≤ kN := by have := hlen1.out; have := hR1.out; omega
            have e0 : IntKind.i64.wrap ((iN : Int) + 1) = (jN : Int) := by rw [IntWalk.i64_in _ (by omega)]; omega
            have e0' : (iN : Int) + 1 = (jN : Int) := by omega
            have e1 : IntKind.i64.wrap ((lN : Int) - 1) = (kN : Int) := by rw [IntWalk.i64_in _ (by omega)]; have := hlen1.out; omega
            have e1' : (lN : Int) - 1 = (kN : Int) := by have := hlen1.out; omega
            have e0'' : IntKind.i64.wrap (jN : Int) = (jN : Int) := IntWalk.i64_in _ (by omega)
            have e1'' : IntKind.i64.wrap (kN : Int) = (kN : Int) := IntWalk.i64_in _ (by have := hlen1.out; omega)
            have f2' : iN ≤ kN := by omega
            have f6' : jN ≤ kN := by omega
            have f1 : (jN : Int) ≤ (s.size : Int) := by omega
            have f2 : (iN : Int) ≤ (kN : Int) := by omega
            have f3 : (kN : Int) ≤ (cap : Int) := by omega
            have f4 : ¬ cap = iN := by omega
            have f5 : ¬ cap = jN := by omega
            have f6 : (jN : Int) ≤ (kN : Int) := by omega
            have hjN1 := Aside0.mk hjN
            have hkN1 := Aside0.mk hkN
            have hfl := Aside0.mk (show iN + 2 < lN by have := hlen1.out; have := hR1.out; omega)
            clear hlN hjN hkN hjk
            by_cases hroom : (wpL D).length + 1 ≤ room
            · have d3 : decide ((room : Int) < ((wpL D).length : Int) + 1) = false := decide_eq_false (by omega)
              have d4 : decide (room < (wpL D).length + 1) = false := decide_eq_false (by omega)
              go_wp2_with fail
              have hdr : (((((joinD D ++ cur) ++ (([92, c] ++ r ++ 46 :: joinD rs2 : List Int) ++ J)) : List Int).drop jN).take (s.size - jN)) = c :: (r ++ 46 :: joinD rs2 ++ J) := by
                have h5 := hrl1.out
                rw [List.take_of_length_le (by rw [List.length_drop, h5]; exact Nat.le_refl _), show jN = (joinD D ++ cur ++ [92]).length by rw [List.length_append, hiN1.out, hjN1.out]; rfl]
                rw [show ((joinD D ++ cur) ++ (([92, c] ++ r ++ 46 :: joinD rs2 : List Int) ++ J)) = (joinD D ++ cur ++ [92]) ++ (c :: (r ++ 46 :: joinD rs2 ++ J)) by simp, List.drop_left]
              have hdr1 := Aside0.mk hdr
              clear hdr
              have hzl : jN + (s.size - jN) ≤ (((joinD D ++ cur) ++ (([92, c] ++ r ++ 46 :: joinD rs2 : List Int) ++ J)) : List Int).length := by rw [hrl1.out]; omega
              have hzm : (((joinD D ++ cur) ++ (([92, c] ++ r ++ 46 :: joinD rs2 : List Int) ++ J)) : List Int).length ≤ 1000000 := by rw [hrl1.out]; exact hs
              have hzl1 := Aside0.mk hzl
              have hzm1 := Aside0.mk hzm
              clear hzl hzm
              go_wp2_with (first | (go_at_call 110; (with_reducible refine (isddd_row _ b jN (s.size - jN) (cap - jN) _ false hrow1.out hzl1.out hzm1.out (by omega) (by rw [hdr1.out]; exact isddd_no _ _ hd)).mono ?_); rintro e w' ⟨rfl, ⟨nd2, rfl⟩⟩))
              go_still_tail 9, (by kernel_rfl)
              refine wpList_copy_self rfl _ _ _ _ 5 rfl Tryd.underlying22 (by kernel_rfl) b iN (kN - iN) (cap - iN) jN (s.size - jN) _ rfl rfl _ hrow1.out (kN - iN) ?_ ?_ ?_ ?_
              · have h5 := hjN1.out
                have h6 := hkN1.out
                have h7 := hfl.out
                exact (Nat.min_eq_right (by omega)).symm
              · have h5 := hjN1.out
                have h6 := hkN1.out
                have h7 := hfl.out
                rw [hrl1.out]
                omega
              · have h5 := hjN1.out
                have h6 := hkN1.out
                have h7 := hfl.out
                rw [hrl1.out]
                omega
              intro w3 h3 ho3 hb3
              go_wp2
              go_roundw
              case rel =>
                have h5 := hjN1.out
                have h6 := hkN1.out
                have h7 := hlN1.out
                have h8 := htN1.out
                have h9 := hcl1.out
                have h10 := hlen1.out
                have h11 := hiN1.out
                have h12 := hfl.out
                have hX : ((joinD D ++ cur) : List Int).length = iN := by simp only [List.length_append, List.length_cons, List.length_nil] at h11 ⊢; omega
                have hT : ((c :: (r ++ 46 :: joinD rs2)) : List Int).length = (kN - iN) := by simp only [List.length_cons]; omega
                have hsh := row_shift (joinD D ++ cur) [92] (c :: (r ++ 46 :: joinD rs2)) J iN jN (kN - iN) hX.symm (by rw [hX]; simp only [List.length_cons, List.length_nil]; omega) hT.symm
                have hsq := row_shift_len (joinD D ++ cur) [92] (c :: (r ++ 46 :: joinD rs2)) J
                rw [hX, hT] at hsq
                have he : (joinD D ++ cur) ++ ([92] ++ ((c :: (r ++ 46 :: joinD rs2)) ++ J)) = ((joinD D ++ cur) ++ (([92, c] ++ r ++ 46 :: joinD rs2) ++ J)) := by simp
                have hd2 : (joinD D ++ (cur ++ [c])) ++ ((r ++ 46 :: joinD rs2) ++ (((joinD D ++ cur) ++ ([92] ++ ((c :: (r ++ 46 :: joinD rs2)) ++ J))).drop (iN + (kN - iN)))) = (joinD D ++ cur) ++ ((c :: (r ++ 46 :: joinD rs2)) ++ (((joinD D ++ cur) ++ ([92] ++ ((c :: (r ++ 46 :: joinD rs2)) ++ J))).drop (iN + (kN - iN)))) := by simp
                refine ⟨D, cur ++ [c], (r ++ 46 :: joinD rs2), x15, _, false, rfl, (congrArg (fun v_ : Int => Value.int .i64 v_) (by omega)), rfl, rfl, rfl, rfl, rfl, (congrArg (fun v_ : Int => Value.int .i64 v_) (by omega)), ?_⟩
                refine ⟨hnext1.out, (fun h => nomatch h), hP.out.fit, .inr ⟨b, cap, (((joinD D ++ cur) ++ ([92] ++ ((c :: (r ++ 46 :: joinD rs2)) ++ J))).drop (iN + (kN - iN))), rfl, hcap, ?_, ?_, hbm, hbq, hbb⟩, ?_, ?_, ?_⟩
                · rw [hd2]
                  have h13 := h3
                  rw [← he, hsh] at h13
                  exact h13
                · rw [hd2, hsq, he]
                  exact hrl1.out
                · exact (ho3 _ (Ne.symm hbm)).trans hmsg1.out
                · exact (ho3 _ (Ne.symm hbq)).trans hcomp1.out
                · have hb5 := below_mono hb3 hbb
                  exact hbel1.out.trans ⟨hb5.os, hb5.tape, hb5.output, hb5.size, hb5.block⟩
              case measure => simp [intOf]; omega
            · have d3 : decide ((room : Int) < ((wpL D).length : Int) + 1) = true := decide_eq_true (by omega)
              have d4 : decide (room < (wpL D).length + 1) = true := decide_eq_true (by omega)
              go_wp2
              repeat (go_quiet (fail); try go_wp2)
              try simp only [Exit.noGoto_ret]
              go_ret2
              refine ⟨pw_below_drewN hP.out.bel _, ?_⟩
              rw [if_neg (by have := hwn1.out; omega)]
              exact ⟨_, _, _, rfl⟩
        | ddd x y z hx hy hz hv =>
          have hnext : Rest n D (cur ++ [val3 x y z]) (r ++ 46 :: joinD rs2) := .lab D (cur ++ [val3 x y z]) r l rs2 ls2 h1 h2 (by rw [h3]; simp) (by simp)
          have hnext1 := Aside0.mk hnext
          have hlen : ([92, x, y, z] ++ r ++ 46 :: joinD rs2 : List Int).length = (r ++ 46 :: joinD rs2).length + 4 := by simp
          have hcl : (joinD D ++ (cur ++ [val3 x y z])).length = (joinD D ++ cur).length + 1 := by simp; omega
          have hRp : 0 < (r ++ 46 :: joinD rs2).length := by simp; omega
          have hfit := hP.out.fit
          have hR1 := Aside0.mk hRp
          have hlen1 := Aside0.mk hlen
          have hcl1 := Aside0.mk hcl
          have hwn : (wpL D).length + 1 ≤ (wpL n).length := by rw [h3, wpL_append, List.length_append, wpL, List.length_cons, List.length_append]; omega
          have hwn1 := Aside0.mk hwn
          have hgd := GoodP.below hG0.out hP.out.bel
          obtain ⟨t0, x0, t2, x2, hg0, hg2⟩ := hgd
          clear hnext hlen hcl hwn hRp
          rcases hP.out.buf with ⟨rfl, hbs⟩ | ⟨b, cap, J, rfl, hcap, hrow, hrl, hbm, hbq, hbb⟩
          · have hbt : bt s ((joinD D ++ cur).length : Int) = 92 := bt_split (rest := x :: y :: z :: (r ++ 46 :: joinD rs2)) (by rw [hbs]; simp)
            have hlt : (joinD D ++ cur).length < s.size := by rw [← bytesOf_length, hbs]; simp
            have kb := bt_at_nat s (joinD D ++ cur).length
            rw [hbt] at kb
            have hbs1 := Aside0.mk hbs
            have hle : (joinD D ++ cur).length + ([92, x, y, z] ++ r ++ 46 :: joinD rs2 : List Int).length ≤ s.size := by
              have h5 := congrArg List.length hbs
              rw [bytesOf_length, @List.length_append _ (joinD D ++ cur)] at h5
              omega
            clear hbs hbt
            have q1 := fun W => run_eql_slice_nil (P := Tryd.prog) W 22 _ none 0 0 Tryd.underlying22
            have kbc := fun W => print_bytes (P := Tryd.prog) 9 22 5 Tryd.underlying9 Tryd.underlying22 Tryd.underlying5 s W
            have hcap := grownCap_ge wr s.size 0 5
            have hrowB : RowB (Lib.bytesWorld wr 5 s) wr.heap.size ((joinD D ++ cur) ++ (([92, x, y, z] ++ r ++ 46 :: joinD rs2 : List Int) ++ [])) := by
              have h := RowB_bytes wr 5 s
              rw [hbs1.out] at h
              simpa using h
            have hrow1 := Aside0.mk hrowB
            have hrl1 := Aside0.mk (show ((joinD D ++ cur) ++ (([92, x, y, z] ++ r ++ 46 :: joinD rs2 : List Int) ++ [])).length = s.size by rw [List.append_nil, ← hbs1.out, bytesOf_length])
            have hml : m < wr.heap.size := heap_lt hP.out.msg
            have hql : w.heap.size < wr.heap.size := heap_lt hP.out.comp
            have hmsg1 := Aside0.mk ((Lib.bytesWorld_at_old wr 5 s _ hml).trans hP.out.msg)
            have hcomp1 := Aside0.mk ((Lib.bytesWorld_at_old wr 5 s _ hql).trans hP.out.comp)
            have hbel1 := Aside0.mk (bytes_below hP.out.bel hP.out.bel.size 5 s)
            have hbm : wr.heap.size ≠ m := by omega
            have hbq : wr.heap.size ≠ w.heap.size := by omega
            have hbb : w00.heap.size ≤ wr.heap.size := hP.out.bel.size
            clear hrowB hml hql
            generalize hiN : (joinD D ++ cur).length = iN at *
            generalize htN : ([92, x, y, z] ++ r ++ 46 :: joinD rs2 : List Int).length = tN at *
            have hiN1 := Aside0.mk hiN
            have htN1 := Aside0.mk htN
            clear hiN htN
            generalize hlN : iN + tN = lN at *
            have hlN1 := Aside0.mk hlN
            have c1 : iN < lN := by have := hlen1.out; omega
            have c0 : decide ((iN : Int) < (lN : Int)) = true := decide_eq_true (by omega)
            have c2 : decide (iN < lN) = true := decide_eq_true c1
            obtain ⟨jN, hjN⟩ : ∃ jN, jN = iN + 1 := ⟨_, rfl⟩
            obtain ⟨kN, hkN⟩ : ∃ kN, kN = lN - 3 := ⟨_, rfl⟩
            have hjk : jN ≤ kN := by have := hlen1.out; have := hR1.out; omega
            have e0 : IntKind.i64.wrap ((iN : Int) + 1) = (jN : Int) := by rw [IntWalk.i64_in _ (by omega)]; omega
            have e0' : (iN : Int) + 1 = (jN : Int) := by omega
            have e1 : IntKind.i64.wrap ((lN : Int) - 3) = (kN : Int) := by rw [IntWalk.i64_in _ (by omega)]; have := hlen1.out; omega
            have e1' : (lN : Int) - 3 = (kN : Int) := by have := hlen1.out; omega
            have e0'' : IntKind.i64.wrap (jN : Int) = (jN : Int) := IntWalk.i64_in _ (by omega)
            have e1'' : IntKind.i64.wrap (kN : Int) = (kN : Int) := IntWalk.i64_in _ (by have := hlen1.out; omega)
            have f2' : iN ≤ kN := by omega
            have f6' : jN ≤ kN := by omega
            have f1 : (jN : Int) ≤ (s.size : Int) := by omega
            have f2 : (iN : Int) ≤ (kN : Int) := by omega
            have f3 : (kN : Int) ≤ (grownCap wr s.size 0 5 : Int) := by omega
            have f4 : ¬ grownCap wr s.size 0 5 = iN := by omega
            have f5 : ¬ grownCap wr s.size 0 5 = jN := by omega
            have f6 : (jN : Int) ≤ (kN : Int) := by omega
            have hjN1 := Aside0.mk hjN
            have hkN1 := Aside0.mk hkN
            obtain ⟨gN, hgN⟩ : ∃ gN, gN = iN + 4 := ⟨_, rfl⟩
            have e2 : IntKind.i64.wrap ((iN : Int) + 4) = (gN : Int) := by rw [IntWalk.i64_in _ (by omega)]; omega
            have e2' : (iN : Int) + 4 = (gN : Int) := by omega
            have e2'' : IntKind.i64.wrap (gN : Int) = (gN : Int) := IntWalk.i64_in _ (by omega)
            have f7 : (gN : Int) ≤ (s.size : Int) := by have := hlen1.out; omega
            have f8 : ¬ grownCap wr s.size 0 5 = gN := by have := hlen1.out; have := hR1.out; omega
            have hgN1 := Aside0.mk hgN
            clear hgN
            have hfl := Aside0.mk (show iN + 4 < lN by have := hlen1.out; have := hR1.out; omega)
            clear hlN hjN hkN hjk
            by_cases hroom : (wpL D).length + 1 ≤ room
            · have d3 : decide ((room : Int) < ((wpL D).length : Int) + 1) = false := decide_eq_false (by omega)
              have d4 : decide (room < (wpL D).length + 1) = false := decide_eq_false (by omega)
              go_wp2_with fail
              generalize Lib.bytesWorld wr 5 s = w1 at *
              generalize grownCap wr s.size 0 5 = cap at *
              generalize wr.heap.size = b at *
              clear kbc
              have hdr : (((((joinD D ++ cur) ++ (([92, x, y, z] ++ r ++ 46 :: joinD rs2 : List Int) ++ [])) : List Int).drop jN).take (s.size - jN)) = x :: y :: z :: (r ++ 46 :: joinD rs2 ++ []) := by
                have h5 := hrl1.out
                rw [List.take_of_length_le (by rw [List.length_drop, h5]; exact Nat.le_refl _), show jN = (joinD D ++ cur ++ [92]).length by rw [List.length_append, hiN1.out, hjN1.out]; rfl]
                rw [show ((joinD D ++ cur) ++ (([92, x, y, z] ++ r ++ 46 :: joinD rs2 : List Int) ++ [])) = (joinD D ++ cur ++ [92]) ++ (x :: y :: z :: (r ++ 46 :: joinD rs2 ++ [])) by simp, List.drop_left]
              have hdr1 := Aside0.mk hdr
              clear hdr
              have hzl : jN + (s.size - jN) ≤ (((joinD D ++ cur) ++ (([92, x, y, z] ++ r ++ 46 :: joinD rs2 : List Int) ++ [])) : List Int).length := by rw [hrl1.out]; omega
              have hzm : (((joinD D ++ cur) ++ (([92, x, y, z] ++ r ++ 46 :: joinD rs2 : List Int) ++ [])) : List Int).length ≤ 1000000 := by rw [hrl1.out]; exact hs
              have hzl1 := Aside0.mk hzl
              have hzm1 := Aside0.mk hzm
              clear hzl hzm
              have hcv := hrow1.out.cell (j := iN) (by rw [hrl1.out]; exact hlt)
              have hcf := hrow1.out.free (j := iN) (by rw [hrl1.out]; exact hlt)
              have hst : RowB (w1.setCell ⟨b, iN, none⟩ (.int .u8 (val3 x y z))) b ((joinD D ++ cur ++ [val3 x y z]) ++ ([x, y, z] ++ ((r ++ 46 :: joinD rs2) ++ []))) := by
                have h5 := hrow1.out.set iN (val3 x y z)
                rw [show iN = (joinD D ++ cur).length from hiN1.out.symm, List.set_append_right _ _ (Nat.le_refl _), Nat.sub_self] at h5
                rw [hiN1.out] at h5
                simpa using h5
              have hst1 := Aside0.mk hst
              have hsl := Aside0.mk (show ((joinD D ++ cur ++ [val3 x y z]) ++ ([x, y, z] ++ ((r ++ 46 :: joinD rs2) ++ []))).length = s.size by rw [← hrl1.out]; simp)
              have hvr := Aside0.mk (show 0 ≤ val3 x y z by unfold val3; unfold dig at hx hy hz; omega)
              clear hst
              go_wp2_with (first | (go_at_call 110; (with_reducible refine (isddd_row _ b jN (s.size - jN) (cap - jN) _ true hrow1.out hzl1.out hzm1.out (by omega) (by rw [hdr1.out]; exact isddd_yes _ _ _ _ hx hy hz)).mono ?_); rintro e w' ⟨rfl, ⟨nd2, rfl⟩⟩) | (go_at_call 111; (with_reducible refine (dddb_row _ b jN (s.size - jN) (cap - jN) _ _ (RowB.drewN hrow1.out _) hzl1.out hzm1.out (by omega) (by rw [hdr1.out]; exact dddb_val _ _ _ _ hx hy hz hv)).mono ?_); rintro e w' ⟨rfl, ⟨nd3, rfl⟩⟩))
              go_still_tail 10, (by kernel_rfl)
              refine wpList_copy_self rfl _ _ _ _ 5 rfl Tryd.underlying22 (by kernel_rfl) b jN (kN - jN) (cap - jN) gN (s.size - gN) _ rfl rfl _ hst1.out (kN - jN) ?_ ?_ ?_ ?_
              · have h5 := hjN1.out
                have h6 := hkN1.out
                have h8 := hgN1.out
                have h7 := hfl.out
                exact (Nat.min_eq_right (by omega)).symm
              · have h5 := hjN1.out
                have h6 := hkN1.out
                have h8 := hgN1.out
                have h7 := hfl.out
                rw [hsl.out]
                omega
              · have h5 := hjN1.out
                have h6 := hkN1.out
                have h7 := hfl.out
                rw [hsl.out]
                omega
              intro w3 h3 ho3 hb3
              go_wp2
              go_roundw
              case rel =>
                have h5 := hjN1.out
                have h6 := hkN1.out
                have h7 := hlN1.out
                have h8 := htN1.out
                have h9 := hcl1.out
                have h10 := hlen1.out
                have h11 := hiN1.out
                have h12 := hgN1.out
                have hX : ((joinD D ++ cur ++ [val3 x y z]) : List Int).length = jN := by simp only [List.length_append, List.length_cons, List.length_nil] at h11 ⊢; omega
                have hT : ((r ++ 46 :: joinD rs2) : List Int).length = (kN - jN) := by omega
                have hsh := row_shift (joinD D ++ cur ++ [val3 x y z]) [x, y, z] (r ++ 46 :: joinD rs2) [] jN gN (kN - jN) hX.symm (by rw [hX]; simp only [List.length_cons, List.length_nil]; omega) hT.symm
                have hsq := row_shift_len (joinD D ++ cur ++ [val3 x y z]) [x, y, z] (r ++ 46 :: joinD rs2) []
                rw [hX, hT] at hsq
                have he : (joinD D ++ cur ++ [val3 x y z]) ++ ([x, y, z] ++ ((r ++ 46 :: joinD rs2) ++ [])) = ((joinD D ++ cur ++ [val3 x y z]) ++ ([x, y, z] ++ ((r ++ 46 :: joinD rs2) ++ []))) := by simp
                have hd2 : (joinD D ++ (cur ++ [(val3 x y z)])) ++ ((r ++ 46 :: joinD rs2) ++ (((joinD D ++ cur ++ [val3 x y z]) ++ ([x, y, z] ++ ((r ++ 46 :: joinD rs2) ++ []))).drop (jN + (kN - jN)))) = (joinD D ++ cur ++ [val3 x y z]) ++ ((r ++ 46 :: joinD rs2) ++ (((joinD D ++ cur ++ [val3 x y z]) ++ ([x, y, z] ++ ((r ++ 46 :: joinD rs2) ++ []))).drop (jN + (kN - jN)))) := by simp
                refine ⟨D, cur ++ [(val3 x y z)], (r ++ 46 :: joinD rs2), x15, _, false, rfl, (congrArg (fun v_ : Int => Value.int .i64 v_) (by omega)), rfl, rfl, rfl, rfl, rfl, (congrArg (fun v_ : Int => Value.int .i64 v_) (by omega)), ?_⟩
                refine ⟨hnext1.out, (fun h => nomatch h), hP.out.fit, .inr ⟨b, cap, (((joinD D ++ cur ++ [val3 x y z]) ++ ([x, y, z] ++ ((r ++ 46 :: joinD rs2) ++ []))).drop (jN + (kN - jN))), rfl, hcap, ?_, ?_, hbm, hbq, hbb⟩, ?_, ?_, ?_⟩
                · rw [hd2]
                  have h13 := h3
                  rw [← he, hsh] at h13
                  exact h13
                · rw [hd2, hsq, he]
                  exact hsl.out
                · exact (ho3 _ (Ne.symm hbm)).trans ((Below.heap_setCell _ _ _ _ (Ne.symm hbm)).trans hmsg1.out)
                · exact (ho3 _ (Ne.symm hbq)).trans ((Below.heap_setCell _ _ _ _ (Ne.symm hbq)).trans hcomp1.out)
                · have hb5 := below_mono hb3 hbb
                  exact (hbel1.out.setCell (p := ⟨b, iN, none⟩) hbb (.int .u8 (val3 x y z))).trans ⟨hb5.os, hb5.tape, hb5.output, hb5.size, hb5.block⟩
              case measure => simp [intOf]; omega
            · have d3 : decide ((room : Int) < ((wpL D).length : Int) + 1) = true := decide_eq_true (by omega)
              have d4 : decide (room < (wpL D).length + 1) = true := decide_eq_true (by omega)
              go_wp2
              repeat (go_quiet (fail); try go_wp2)
              try simp only [Exit.noGoto_ret]
              go_ret2
              refine ⟨pw_below_drewN hP.out.bel _, ?_⟩
              rw [if_neg (by have := hwn1.out; omega)]
              exact ⟨_, _, _, rfl⟩
          · have hlt : (joinD D ++ cur).length < s.size := by rw [← hrl]; simp
            have hcb := hrow.cell (j := (joinD D ++ cur).length) (by simp)
            rw [List.getD_eq_getElem?_getD, List.getElem?_append_right (Nat.le_refl _), Nat.sub_self] at hcb
            simp only [List.cons_append, List.nil_append, List.getElem?_cons_zero, Option.getD_some] at hcb
            have hle : (joinD D ++ cur).length + ([92, x, y, z] ++ r ++ 46 :: joinD rs2 : List Int).length ≤ s.size := by
              have h5 := hrl
              rw [@List.length_append _ (joinD D ++ cur), @List.length_append _ ([92, x, y, z] ++ r ++ 46 :: joinD rs2 : List Int)] at h5
              omega
            have hrow1 := Aside0.mk hrow
            have hrl1 := Aside0.mk hrl
            have hmsg1 := Aside0.mk hP.out.msg
            have hcomp1 := Aside0.mk hP.out.comp
            have hbel1 := Aside0.mk hP.out.bel
            clear hrow hrl
            have q1 := fun W => run_eql_slice_nil (P := Tryd.prog) W 22 _ (some ⟨b, 0, none⟩) s.size cap Tryd.underlying22
            generalize hiN : (joinD D ++ cur).length = iN at *
            generalize htN : ([92, x, y, z] ++ r ++ 46 :: joinD rs2 : List Int).length = tN at *
            have hiN1 := Aside0.mk hiN
            have htN1 := Aside0.mk htN
            clear hiN htN
            generalize hlN : iN + tN = lN at *
            have hlN1 := Aside0.mk hlN
            have c1 : iN < lN := by have := hlen1.out; omega
            have c0 : decide ((iN : Int) < (lN : Int)) = true := decide_eq_true (by omega)
            have c2 : decide (iN < lN) = true := decide_eq_true c1
            obtain ⟨jN, hjN⟩ : ∃ jN, jN = iN + 1 := ⟨_, rfl⟩
            obtain ⟨kN, hkN⟩ : ∃ kN, kN = lN - 3 := ⟨_, rfl⟩
            have hjk : jN ≤ kN := by have := hlen1.out; have := hR1.out; omega
            have e0 : IntKind.i64.wrap ((iN : Int) + 1) = (jN : Int) := by rw [IntWalk.i64_in _ (by omega)]; omega
            have e0' : (iN : Int) + 1 = (jN : Int) := by omega
            have e1 : IntKind.i64.wrap ((lN : Int) - 3) = (kN : Int) := by rw [IntWalk.i64_in _ (by omega)]; have := hlen1.out; omega
            have e1' : (lN : Int) - 3 = (kN : Int) := by have := hlen1.out; omega
            have e0'' : IntKind.i64.wrap (jN : Int) = (jN : Int) := IntWalk.i64_in _ (by omega)
            have e1'' : IntKind.i64.wrap (kN : Int) = (kN : Int) := IntWalk.i64_in _ (by have := hlen1.out; omega)
            have f2' : iN ≤ kN := by omega
            have f6' : jN ≤ kN := by omega
            have f1 : (jN : Int) ≤ (s.size : Int) := by omega
            have f2 : (iN : Int) ≤ (kN : Int) := by omega
            have f3 : (kN : Int) ≤ (cap : Int) := by omega
            have f4 : ¬ cap = iN := by omega
            have f5 : ¬ cap = jN := by omega
            have f6 : (jN : Int) ≤ (kN : Int) := by omega
            have hjN1 := Aside0.mk hjN
            have hkN1 := Aside0.mk hkN
            obtain ⟨gN, hgN⟩ : ∃ gN, gN = iN + 4 := ⟨_, rfl⟩
            have e2 : IntKind.i64.wrap ((iN : Int) + 4) = (gN : Int) := by rw [IntWalk.i64_in _ (by omega)]; omega
            have e2' : (iN : Int) + 4 = (gN : Int) := by omega
            have e2'' : IntKind.i64.wrap (gN : Int) = (gN : Int) := IntWalk.i64_in _ (by omega)
            have f7 : (gN : Int) ≤ (s.size : Int) := by have := hlen1.out; omega
            have f8 : ¬ cap = gN := by have := hlen1.out; have := hR1.out; omega
            have hgN1 := Aside0.mk hgN
            clear hgN
            have hfl := Aside0.mk (show iN + 4 < lN by have := hlen1.out; have := hR1.out; omega)
            clear hlN hjN hkN hjk
            by_cases hroom : (wpL D).length + 1 ≤ room
            · have d3 : decide ((room : Int) < ((wpL D).length : Int) + 1) = false := decide_eq_false (by omega)
              have d4 : decide (room < (wpL D).length + 1) = false := decide_eq_false (by omega)
              go_wp2_with fail
              have hdr : (((((joinD D ++ cur) ++ (([92, x, y, z] ++ r ++ 46 :: joinD rs2 : List Int) ++ J)) : List Int).drop jN).take (s.size - jN)) = x :: y :: z :: (r ++ 46 :: joinD rs2 ++ J) := by
                have h5 := hrl1.out
                rw [List.take_of_length_le (by rw [List.length_drop, h5]; exact Nat.le_refl _), show jN = (joinD D ++ cur ++ [92]).length by rw [List.length_append, hiN1.out, hjN1.out]; rfl]
                rw [show ((joinD D ++ cur) ++ (([92, x, y, z] ++ r ++ 46 :: joinD rs2 : List Int) ++ J)) = (joinD D ++ cur ++ [92]) ++ (x :: y :: z :: (r ++ 46 :: joinD rs2 ++ J)) by simp, List.drop_left]
              have hdr1 := Aside0.mk hdr
              clear hdr
              have hzl : jN + (s.size - jN) ≤ (((joinD D ++ cur) ++ (([92, x, y, z] ++ r ++ 46 :: joinD rs2 : List Int) ++ J)) : List Int).length := by rw [hrl1.out]; omega
              have hzm : (((joinD D ++ cur) ++ (([92, x, y, z] ++ r ++ 46 :: joinD rs2 : List Int) ++ J)) : List Int).length ≤ 1000000 := by rw [hrl1.out]; exact hs
              have hzl1 := Aside0.mk hzl
              have hzm1 := Aside0.mk hzm
              clear hzl hzm
              have hcv := hrow1.out.cell (j := iN) (by rw [hrl1.out]; exact hlt)
              have hcf := hrow1.out.free (j := iN) (by rw [hrl1.out]; exact hlt)
              have hst : RowB (wr.setCell ⟨b, iN, none⟩ (.int .u8 (val3 x y z))) b ((joinD D ++ cur ++ [val3 x y z]) ++ ([x, y, z] ++ ((r ++ 46 :: joinD rs2) ++ J))) := by
                have h5 := hrow1.out.set iN (val3 x y z)
                rw [show iN = (joinD D ++ cur).length from hiN1.out.symm, List.set_append_right _ _ (Nat.le_refl _), Nat.sub_self] at h5
                rw [hiN1.out] at h5
                simpa using h5
              have hst1 := Aside0.mk hst
              have hsl := Aside0.mk (show ((joinD D ++ cur ++ [val3 x y z]) ++ ([x, y, z] ++ ((r ++ 46 :: joinD rs2) ++ J))).length = s.size by rw [← hrl1.out]; simp)
              have hvr := Aside0.mk (show 0 ≤ val3 x y z by unfold val3; unfold dig at hx hy hz; omega)
              clear hst
              go_wp2_with (first | (go_at_call 110; (with_reducible refine (isddd_row _ b jN (s.size - jN) (cap - jN) _ true hrow1.out hzl1.out hzm1.out (by omega) (by rw [hdr1.out]; exact isddd_yes _ _ _ _ hx hy hz)).mono ?_); rintro e w' ⟨rfl, ⟨nd2, rfl⟩⟩) | (go_at_call 111; (with_reducible refine (dddb_row _ b jN (s.size - jN) (cap - jN) _ _ (RowB.drewN hrow1.out _) hzl1.out hzm1.out (by omega) (by rw [hdr1.out]; exact dddb_val _ _ _ _ hx hy hz hv)).mono ?_); rintro e w' ⟨rfl, ⟨nd3, rfl⟩⟩))
              go_still_tail 10, (by kernel_rfl)
              refine wpList_copy_self rfl _ _ _ _ 5 rfl Tryd.underlying22 (by kernel_rfl) b jN (kN - jN) (cap - jN) gN (s.size - gN) _ rfl rfl _ hst1.out (kN - jN) ?_ ?_ ?_ ?_
              · have h5 := hjN1.out
                have h6 := hkN1.out
                have h8 := hgN1.out
                have h7 := hfl.out
                exact (Nat.min_eq_right (by omega)).symm
              · have h5 := hjN1.out
                have h6 := hkN1.out
                have h8 := hgN1.out
                have h7 := hfl.out
                rw [hsl.out]
                omega
              · have h5 := hjN1.out
                have h6 := hkN1.out
                have h7 := hfl.out
                rw [hsl.out]
                omega
              intro w3 h3 ho3 hb3
              go_wp2
              go_roundw
              case rel =>
                have h5 := hjN1.out
                have h6 := hkN1.out
                have h7 := hlN1.out
                have h8 := htN1.out
                have h9 := hcl1.out
                have h10 := hlen1.out
                have h11 := hiN1.out
                have h12 := hgN1.out
                have hX : ((joinD D ++ cur ++ [val3 x y z]) : List Int).length = jN := by simp only [List.length_append, List.length_cons, List.length_nil] at h11 ⊢; omega
                have hT : ((r ++ 46 :: joinD rs2) : List Int).length = (kN - jN) := by omega
                have hsh := row_shift (joinD D ++ cur ++ [val3 x y z]) [x, y, z] (r ++ 46 :: joinD rs2) J jN gN (kN - jN) hX.symm (by rw [hX]; simp only [List.length_cons, List.length_nil]; omega) hT.symm
                have hsq := row_shift_len (joinD D ++ cur ++ [val3 x y z]) [x, y, z] (r ++ 46 :: joinD rs2) J
                rw [hX, hT] at hsq
                have he : (joinD D ++ cur ++ [val3 x y z]) ++ ([x, y, z] ++ ((r ++ 46 :: joinD rs2) ++ J)) = ((joinD D ++ cur ++ [val3 x y z]) ++ ([x, y, z] ++ ((r ++ 46 :: joinD rs2) ++ J))) := by simp
                have hd2 : (joinD D ++ (cur ++ [(val3 x y z)])) ++ ((r ++ 46 :: joinD rs2) ++ (((joinD D ++ cur ++ [val3 x y z]) ++ ([x, y, z] ++ ((r ++ 46 :: joinD rs2) ++ J))).drop (jN + (kN - jN)))) = (joinD D ++ cur ++ [val3 x y z]) ++ ((r ++ 46 :: joinD rs2) ++ (((joinD D ++ cur ++ [val3 x y z]) ++ ([x, y, z] ++ ((r ++ 46 :: joinD rs2) ++ J))).drop (jN + (kN - jN)))) := by simp
                refine ⟨D, cur ++ [(val3 x y z)], (r ++ 46 :: joinD rs2), x15, _, false, rfl, (congrArg (fun v_ : Int => Value.int .i64 v_) (by omega)), rfl, rfl, rfl, rfl, rfl, (congrArg (fun v_ : Int => Value.int .i64 v_) (by omega)), ?_⟩
                refine ⟨hnext1.out, (fun h => nomatch h), hP.out.fit, .inr ⟨b, cap, (((joinD D ++ cur ++ [val3 x y z]) ++ ([x, y, z] ++ ((r ++ 46 :: joinD rs2) ++ J))).drop (jN + (kN - jN))), rfl, hcap, ?_, ?_, hbm, hbq, hbb⟩, ?_, ?_, ?_⟩
                · rw [hd2]
                  have h13 := h3
                  rw [← he, hsh] at h13
                  exact h13
                · rw [hd2, hsq, he]
                  exact hsl.out
                · exact (ho3 _ (Ne.symm hbm)).trans ((Below.heap_setCell _ _ _ _ (Ne.symm hbm)).trans hmsg1.out)
                · exact (ho3 _ (Ne.symm hbq)).trans ((Below.heap_setCell _ _ _ _ (Ne.symm hbq)).trans hcomp1.out)
                · have hb5 := below_mono hb3 hbb
                  exact (hbel1.out.setCell (p := ⟨b, iN, none⟩) hbb (.int .u8 (val3 x y z))).trans ⟨hb5.os, hb5.tape, hb5.output, hb5.size, hb5.block⟩
              case measure => simp [intOf]; omega
            · have d3 : decide ((room : Int) < ((wpL D).length : Int) + 1) = true := decide_eq_true (by omega)
              have d4 : decide (room < (wpL D).length + 1) = true := decide_eq_true (by omega)
              go_wp2
              repeat (go_quiet (fail); try go_wp2)
              try simp only [Exit.noGoto_ret]
              go_ret2
              refine ⟨pw_below_drewN hP.out.bel _, ?_⟩
              rw [if_neg (by have := hwn1.out; omega)]
              exact ⟨_, _, _, rfl⟩

end Go.Proofs.YtiilihafcdmccaaDoor.P
/- 'dns.packDomainName' of the name of the root. -/
namespace Go.Proofs.YtiilihafcdmccaaDoor.P
open Go.RowKit Go.Proofs.YtiilihafcdmccaaDoorW.PrintWords Go.Proofs.YtiilihafcdmccaaDoorW.PrintLast Go.Proofs.YtiilihafcdmccaaDoorW.PrintMore
set_option linter.unusedVariables false
set_option linter.unusedSimpArgs false
set_option maxRecDepth 100000
set_option maxHeartbeats 4000000

theorem wpList_copy_empty {P : Program} {w : World} {ops : Array Oper} {rest : List Oper} {o : Oper} {a : Act} {Q : Exit → Act → World → Prop} (hgd : o.guard = none) (d s : Operand) (dT sT elem : TypeId) (ho : o.op = .call { callee := .builtin .copy, args := #[d, s], argTypes := #[dT, sT] }) (hu : P.underlying dT = some (.slice elem)) (hsz : ((P.info? elem).map (·.size)).isSome = true)
    (dp : Option Addr) (dLen dCap : Nat) (str : ByteArray) (hd : a.eval d = .slice dp dLen dCap) (hs : a.eval s = .string str) (h0 : str.size = 0) (h : wpList P ops Q rest (a.put o.dst (goInt 0)) w) : wpList P ops Q (o :: rest) a w :=
  wpList_copy_run hgd d s dT sT ho _ _ hd hs 0 w (Lib.run_copy_empty_string (P := P) w dT sT o.type elem dp dLen dCap str hu hsz h0) h
theorem pack_dot (s : ByteArray) (room m : Nat) (w00 w : World) (he : bytesOf s = [46]) (hr : room ≤ 100000) (hq : dns_IsFqdn.f s = some true)
    (hm : w.heap[m]? = some (.cells (rowV (List.replicate room 0)) 5 (0, 0))) (hm0 : w00.heap.size ≤ m) (hB : Below w00.heap.size w00 w) (hG : GoodP w00) :
    Calls Tryd.prog 82 #[.string s, .slice (some ⟨m, 0, none⟩) room room, .int .i64 0, .agg #[.map none, .map none], .bool false] w fun e w' =>
      Below w00.heap.size w00 w' ∧ if 1 ≤ room then e = .returned (.tuple #[.int .i64 1, .nilIface]) ∧ w'.heap[m]? = some (.cells (rowV (List.replicate room 0)) 5 (0, 0))
        else ∃ z t x, e = .returned (.tuple #[.int .i64 z, .iface t x]) := by
  have hss : s.size = 1 := by rw [← bytesOf_length, he]; rfl
  have he1 := Aside0.mk he
  have hbt : bt s ((0 : Nat) : Int) = 46 := bt_split (pre := []) (rest := []) he
  have kb := bt_at_nat s 0
  rw [hbt] at kb
  have hroot : ((s.extract 0 1).toList == ([46] : List UInt8)) = true := by
    rw [beq_iff_eq, toList_dot, bytesOf_extract, he]
    rfl
  clear he hbt
  have hG0 := Aside0.mk hG
  have hmq : m < w.heap.size := heap_lt hm
  have hm1 := Aside0.mk hm
  have hbel0 := Aside0.mk hB
  have hsz0 : w00.heap.size ≤ w.heap.size := hB.size
  clear hB hG hm
  go_enter Tryd.func82, Tryd.ntmps82
  go_wp2
  apply wp_scope_straight
  go_wp2_with (first | ((with_reducible refine gate_callee (f := 51) rfl ?_); refine goesL_ (some 30) rfl rfl Tryd.func51 (by kernel_rfl) rfl #[.string s] rfl (by (try simp only [List.map_toArray, List.map_cons, List.map_nil]); first | done | rfl) ?_; (with_reducible refine (dns_IsFqdn.calls s true _ hq).mono ?_); rintro e w' ⟨rfl, ⟨nd, rfl⟩⟩; refine ⟨_, rfl, ?_⟩))
  go_step3
  go_wp2
  go_loopw [2, 12, 13, 14, 15, 16, 17, 18, 19] (fun v2 v12 v13 v14 v15 v16 v17 v18 v19 wr => ∃ (k : Nat) (x15 x16 : Int), k ≤ 1 ∧ (k = 1 → 1 ≤ room) ∧ v2 = .int .i64 k ∧ v12 = .int .i64 1 ∧ v13 = .int .i64 (-1) ∧ v14 = .int .i64 k ∧ v15 = .int .i64 x15 ∧ v16 = .int .i64 x16 ∧ v17 = .slice none 0 0 ∧ v18 = .bool (decide (k = 1)) ∧ v19 = .int .i64 k ∧
    wr.heap[m]? = some (.cells (rowV (List.replicate room 0)) 5 (0, 0)) ∧ wr.heap[w.heap.size]? = some (.cells #[.map none, .map none] 107 (0, 0)) ∧ Below w00.heap.size w00 wr) (fun v2 v12 v13 v14 v15 v16 v17 v18 v19 _ => (1 - intOf v19).toNat)
  case atStart =>
    refine ⟨0, 0, 0, by omega, by omega, rfl, rfl, rfl, rfl, rfl, rfl, rfl, rfl, rfl, ?_, ?_, pw_below_drewN (below_alloc hbel0.out _) nd⟩
    · show (w.heap.push _)[m]? = _
      rw [Array.getElem?_push_lt hmq, ← Array.getElem?_eq_getElem hmq, hm1.out]
    · show (w.heap.push _)[w.heap.size]? = _
      simp
  case round =>
    clear hm1 hbel0
    obtain ⟨k, x15, x16, hk, hkr, rfl, rfl, rfl, rfl, rfl, rfl, rfl, rfl, rfl, hmsg, hcomp, hbel⟩ := hrel
    have hgd := GoodP.below hG0.out hbel
    obtain ⟨t0, x0, t2, x2, hg0, hg2⟩ := hgd
    have q1 := fun W => run_eql_slice_nil (P := Tryd.prog) W 22 _ none 0 0 Tryd.underlying22
    have hbel1 := Aside0.mk hbel
    have hcomp1 := Aside0.mk hcomp
    have hmsg1 := Aside0.mk hmsg
    rcases (show k = 0 ∨ k = 1 by omega) with rfl | rfl
    · by_cases hroom : 1 ≤ room
      · have d3 : decide ((room : Int) < 1) = false := decide_eq_false (by omega)
        have d4 : decide (room < 1) = false := decide_eq_false (by omega)
        have d5 : (1 : Int) ≤ (room : Int) := by omega
        have d6 : IntKind.i64.wrap 1 = 1 := by decide
        have hc0 : wr.cell? ⟨w.heap.size, 0, none⟩ = some (.map none) := by simp [World.cell?, hcomp]
        have hc1 : wr.cell? ⟨w.heap.size, 1, none⟩ = some (.map none) := by simp [World.cell?, hcomp]
        clear hbel hcomp hmsg
        go_wp2_with (first | (go_at_call 112; (with_reducible refine (cmap_valid _).mono ?_); rintro e w2 ⟨rfl, hb⟩; have hmsg2 := heap_kept hb hmsg1.out; have hcomp2 := Aside0.mk (heap_kept hb hcomp1.out); have hbel2 := Aside0.mk (below_step hbel1.out hb); clear hb; (obtain ⟨hcm, hfm⟩ := row_cell hmsg2 (i := 0) (by simp; omega)); (simp only [List.getElem_replicate] at hcm); have hmsg3 := Aside0.mk (row_set hmsg2 (i := 0) (by simp; omega) 0); clear hmsg2))
        go_still_tail 8, (by kernel_rfl)
        refine wpList_copy_empty rfl _ _ _ _ 5 rfl Tryd.underlying22 (by kernel_rfl) _ _ _ _ rfl rfl ?_ ?_
        · first | exact ByteArray.size_empty | (simp; done)
        go_wp2
        go_roundw
        case rel =>
          refine ⟨1, _, x16, by omega, fun _ => hroom, rfl, rfl, rfl, rfl, rfl, rfl, rfl, rfl, rfl, ?_, ?_, ?_⟩
          · refine hmsg3.out.trans ?_
            congr 3
            cases room with
            | zero => omega
            | succ r => rfl
          · exact (Below.heap_setCell _ _ _ _ (by show _ ≠ m; omega)).trans hcomp2.out
          · exact (hbel2.out.setCell (p := ⟨m, 0, none⟩) hm0 (.int .u8 0)).trans ⟨rfl, rfl, rfl, Nat.le_refl _, fun _ _ => rfl⟩
        case measure => simp [intOf]
      · have d3 : decide ((room : Int) < 1) = true := decide_eq_true (by omega)
        have d4 : decide (room < 1) = true := decide_eq_true (by omega)
        clear hbel hcomp hmsg
        go_wp2
        repeat (go_quiet (fail); try go_wp2)
        try simp only [Exit.noGoto_ret]
        go_ret2
        refine ⟨pw_below_drewN hbel1.out _, ?_⟩
        rw [if_neg hroom]
        exact ⟨_, _, _, rfl⟩
    · clear hbel hcomp hmsg
      have hrt : ∀ W : World, Calls Tryd.prog 113 #[.string s, .slice none 0 0, .int .i64 0, .int .i64 1] W fun e w' => e = .returned (.bool ((s.extract 0 1).toList == [46])) ∧ w' = W := fun W => root_nil s 1 W (by omega)
      go_wp2_with (first | (go_at_call 113; (with_reducible refine (hrt _).mono ?_); rintro e w' ⟨rfl, rfl⟩; try rw [hroot]))
      try simp only [Exit.noGoto_ret]
      go_ret2
      refine ⟨hbel1.out, ?_⟩
      rw [if_pos (hkr trivial)]
      exact ⟨rfl, hmsg1.out⟩

end Go.Proofs.YtiilihafcdmccaaDoor.P
/- 'impl.PackName' (dns.PackDomainName, packDomainName) at a whole name of ASCII, without compression, where the package's errors are laid. -/
namespace Go.Proofs.YtiilihafcdmccaaDoor.P
open Go.RowKit Go.Proofs.YtiilihafcdmccaaDoorW.PrintWords Go.Proofs.YtiilihafcdmccaaDoorW.PrintLast Go.Proofs.YtiilihafcdmccaaDoorW.PrintMore
set_option linter.unusedVariables false
set_option linter.unusedSimpArgs false

/-- A name in wire form: each label behind its length, and a 0. -/
def wireL : List (List Int) → List Int
  | [] => [0]
  | l :: ls => (l.length : Int) :: l ++ wireL ls
theorem wireL_eq (n : List (List Int)) : wireL n = wpL n ++ [0] := by
  induction n with
  | nil => rfl
  | cons l ls ih => simp [wireL, wpL, ih]
/-- What is packed: the wire form of what the reference reads, where there is room. -/
def impl_PackName.f (k : Nat) (s : ByteArray) (room : Int) : Option (List Int × Bool) :=
  (spec_ParseName.f k s).bind fun x => if x.2.2 = true ∧ x.2.1 = true ∧ ((bytesOf s).all fun c => decide (c < 128)) = true ∧ fqB s = true ∧ s.size ≤ 1000000 ∧ 0 ≤ room ∧ room ≤ 100000 then
    (if ((wireL (x.1.map bytesOf)).length : Int) ≤ room then some (wireL (x.1.map bytesOf), true) else some ([], false)) else none
theorem impl_PackName.mono : ∀ a0 a1 k, LeO (impl_PackName.f k a0 a1) (impl_PackName.f (k + 1) a0 a1) := by
  intro a0 a1 k
  unfold impl_PackName.f
  exact LeO.bind (spec_ParseName.mono _ _) (fun _ => LeO.refl _)
/-- A text of a whole name. -/
def TextOf (s : ByteArray) (n : List (List Int)) : Prop := (n = [] ∧ bytesOf s = [46]) ∨ (n ≠ [] ∧ ∃ rs, Labs rs n ∧ bytesOf s = joinD rs)
theorem ev_inj {α : Type} {g : Nat → Option α} {a b : α} (h : Ev g a) (k : Ev g b) : a = b := by
  obtain ⟨K, h⟩ := h
  obtain ⟨L, k⟩ := k
  have h1 := h (max K L) (Nat.le_max_left _ _)
  rw [k (max K L) (Nat.le_max_right _ _)] at h1
  exact (Option.some.inj h1).symm
theorem map_bytes {n : List (List Int)} (h : ∀ l ∈ n, IsB l) : (n.map strOfNums).map bytesOf = n := by
  rw [List.map_map]
  conv => rhs; rw [← List.map_id n]
  exact List.map_congr_left fun l hl => bytesOf_strOfNums (h l hl)
theorem okB_all {n : List (List Int)} (h : okB n = true) : ∀ l ∈ n, l.length ≤ 63 := by
  induction n with
  | nil => intro l hl; cases hl
  | cons a ys ih =>
    rw [okB_cons, Bool.and_eq_true, decide_eq_true_eq] at h
    intro l hl
    rcases List.mem_cons.1 hl with rfl | hl
    · exact h.1.2
    · exact ih h.2 l hl
theorem text_of_parse {s : ByteArray} {k : Nat} {x : PnR} (h : spec_ParseName.f k s = some x) (hok : x.2.2 = true) (hw : x.2.1 = true) (hs : s.size ≤ 1000000) :
    ∃ n, x.1 = n.map strOfNums ∧ (∀ l ∈ n, IsB l) ∧ (∀ l ∈ n, l.length ≤ 63) ∧ TextOf s n := by
  have hev := Ev.of (fun k => spec_ParseName.mono s k) h
  by_cases h46 : bytesOf s = [46]
  · obtain rfl := ev_inj hev (parse_dot h46)
    exact ⟨[], rfl, (fun l hl => by cases hl), (fun l hl => by cases hl), .inl ⟨rfl, h46⟩⟩
  · cases dec (bytesOf s) with
    | ok rs ls r l h1 h2 e =>
      obtain rfl := ev_inj hev (parse_ok (by omega) h1 h2 e)
      simp only [decide_eq_true_eq, Bool.and_eq_true] at hok hw
      obtain ⟨rfl, hne⟩ := hw
      have en : namesOf ls [] = ls := if_pos rfl
      rw [en] at hok ⊢
      obtain rfl := h2.nil_iff.2 rfl
      rw [List.append_nil] at e
      have hB : IsB (joinD rs) := e ▸ bytesOf_isB s
      have hv := hok.2
      unfold validB at hv
      rw [Bool.and_eq_true] at hv
      exact ⟨ls, rfl, h1.isB hB, okB_all hv.1, .inr ⟨hne, rs, h1, e⟩⟩
    | empty rs ls rest h1 e =>
      obtain rfl := ev_inj hev (parse_empty (by omega) h1 e h46)
      cases hok
    | bad rs ls r l rest h1 h2 e hno =>
      obtain rfl := ev_inj hev (parse_bad (by omega) h1 h2 e hno)
      cases hok

set_option maxRecDepth 100000
set_option maxHeartbeats 4000000
theorem pack_uni (s : ByteArray) (n : List (List Int)) (room m : Nat) (w00 w : World) (hT : TextOf s n) (h63 : ∀ l ∈ n, l.length ≤ 63) (hs : s.size ≤ 1000000) (hr : room ≤ 100000) (hq : dns_IsFqdn.f s = some true)
    (hm : w.heap[m]? = some (.cells (rowV (List.replicate room 0)) 5 (0, 0))) (hm0 : w00.heap.size ≤ m) (hB : Below w00.heap.size w00 w) (hG : GoodP w00) :
    Calls Tryd.prog 82 #[.string s, .slice (some ⟨m, 0, none⟩) room room, .int .i64 0, .agg #[.map none, .map none], .bool false] w fun e w' =>
      Below w00.heap.size w00 w' ∧ if (wpL n).length + 1 ≤ room then e = .returned (.tuple #[.int .i64 ((wpL n).length + 1 : Nat), .nilIface]) ∧ w'.heap[m]? = some (.cells (rowV (wpL n ++ 0 :: List.replicate (room - ((wpL n).length + 1)) 0)) 5 (0, 0))
        else ∃ z t x, e = .returned (.tuple #[.int .i64 z, .iface t x]) := by
  rcases hT with ⟨rfl, he⟩ | ⟨hn, rs, hL, he⟩
  · refine (pack_dot s room m w00 w he hr hq hm hm0 hB hG).mono ?_
    rintro e w' ⟨hb, h⟩
    refine ⟨hb, ?_⟩
    by_cases h1 : 1 ≤ room
    · rw [if_pos h1] at h
      rw [if_pos (by simpa [wpL] using h1)]
      obtain ⟨rfl, h⟩ := h
      refine ⟨rfl, h.trans ?_⟩
      cases room with
      | zero => omega
      | succ r => simp [wpL, List.replicate_succ]
    · rw [if_neg h1] at h
      rw [if_neg (by simpa [wpL] using h1)]
      exact h
  · exact pack_any s rs n room m w00 w hL hn h63 he hs hr hq hm hm0 hB hG

theorem pdn (s : ByteArray) (n : List (List Int)) (room m : Nat) (w00 w : World) (hT : TextOf s n) (h63 : ∀ l ∈ n, l.length ≤ 63) (hs : s.size ≤ 1000000) (hr : room ≤ 100000) (hq : dns_IsFqdn.f s = some true)
    (hm : w.heap[m]? = some (.cells (rowV (List.replicate room 0)) 5 (0, 0))) (hm0 : w00.heap.size ≤ m) (hB : Below w00.heap.size w00 w) (hG : GoodP w00) :
    Calls Tryd.prog 61 #[.string s, .slice (some ⟨m, 0, none⟩) room room, .int .i64 0, .map none, .bool false] w fun e w' =>
      Below w00.heap.size w00 w' ∧ if (wpL n).length + 1 ≤ room then e = .returned (.tuple #[.int .i64 ((wpL n).length + 1 : Nat), .nilIface]) ∧ w'.heap[m]? = some (.cells (rowV (wpL n ++ 0 :: List.replicate (room - ((wpL n).length + 1)) 0)) 5 (0, 0))
        else ∃ z t x, e = .returned (.tuple #[.int .i64 z, .iface t x]) := by
  have HC := Aside0.mk (pack_uni s n room m w00 w hT h63 hs hr hq hm hm0 hB hG)
  clear hm hB hG
  by_cases hfit : (wpL n).length + 1 ≤ room
  · go_enter Tryd.func61, Tryd.ntmps61
    go_wp2_with (first | (go_at_call 82; (with_reducible refine HC.out.mono ?_); rintro e w' ⟨hb, h⟩; rw [if_pos hfit] at h; obtain ⟨rfl, h9⟩ := h))
    go_ret2
    exact ⟨hb, rfl, h9⟩
  · go_enter Tryd.func61, Tryd.ntmps61
    go_wp2_with (first | (go_at_call 82; (with_reducible refine HC.out.mono ?_); rintro e w' ⟨hb, h⟩; rw [if_neg hfit] at h; obtain ⟨z, t, x, rfl⟩ := h))
    go_ret2
    exact ⟨hb, _, _, _, rfl⟩

theorem made_rowV (room : Nat) : madeCells #[.int .u8 0] room = rowV (List.replicate room 0) := by
  apply Array.ext
  · simp [madeCells, rowV]
  · intro i h1 h2
    simp [madeCells, rowV, Nat.mod_one]
theorem rowV_own {w : World} {base m room : Nat} {xs : List Int} {e : TypeId} (h : w.heap[m]? = some (.cells (rowV xs) e (0, 0))) (hb : base ≤ m) (hx : xs.length = room) (hr : room ≤ 100000) (j : Nat) (hj : j ≤ room) :
    Kd.R (Kd.int .u8) e w base (fun _ => True) (.slice (some ⟨m, 0, none⟩) j room) (xs.take j) := by
  refine Kd.R_of_own ⟨by rw [encs_length, List.length_take]; omega, .inr ⟨m, room, rowV xs, ?_, hb, h, by rw [List.length_take]; omega, by simp [maxLen]; omega, by rw [rowV_length]; omega, ?_⟩⟩ (fun _ _ => trivial)
  · rw [show (xs.take j).length = j by rw [List.length_take]; omega]
  · rw [show (xs.take j).length = j by rw [List.length_take]; omega, Nat.mul_one]
    simp [rowV, encs, List.map_take]
theorem impl_PackName.calls (k : Nat) (a0 : ByteArray) (a1 : Int) (r1 : List Int) (r2 : Bool) (w : World) (hG : GoodP w) (h : impl_PackName.f k a0 a1 = some (r1, r2)) :
    Calls Tryd.prog 36 #[.string a0, .int .i64 a1] w fun e w' => ∃ v0_ : Value, e = .returned (.tuple #[v0_, .bool r2]) ∧ Kd.R (Kd.int .u8) 5 w' w.heap.size (fun _ => True) v0_ r1 ∧ Below w.heap.size w w' := by
  obtain ⟨x, hx, h⟩ := Option.bind_eq_some_iff.1 h
  split at h
  · rename_i hc
    obtain ⟨hok, hwh, hasc, hfq, hs, h0, hr⟩ := hc
    obtain ⟨room, rfl⟩ := Int.eq_ofNat_of_zero_le h0
    obtain ⟨n, hn, hB, h63, hT⟩ := text_of_parse hx hok hwh hs
    rw [hn, map_bytes hB, wireL_eq, List.length_append] at h
    have hq : dns_IsFqdn.f a0 = some true := by
      unfold dns_IsFqdn.f
      rw [if_pos (by omega), if_pos hasc, hfq]
    have hr' : room ≤ 100000 := by omega
    have HC := Aside0.mk (pdn a0 n room w.heap.size w (w.alloc (.cells (rowV (List.replicate room 0)) 5)) hT h63 hs hr' hq (heap_alloc_new w _) (Nat.le_refl _) (below_alloc (Below.refl _ _) _) hG)
    have hmk := fun W => run_make_row' (P := Tryd.prog) 22 5 (.int .u8 0) 1 Tryd.underlying22 (by kernel_rfl) rfl .i64 .i64 room (by omega) (by omega) W
    rw [made_rowV] at hmk
    clear hx hok hwh hasc hfq hT hn hG hq
    by_cases hfit : (wpL n).length + 1 ≤ room
    · rw [if_pos (by simp; omega)] at h
      obtain ⟨rfl, rfl⟩ := Prod.mk.inj (Option.some.inj h)
      clear h
      have d1 : ((wpL n).length : Int) + 1 ≤ (room : Int) := by omega
      go_enter Tryd.func36, Tryd.ntmps36
      go_wp2_with (first | (go_at_call 61; (with_reducible refine HC.out.mono ?_); rintro e w' ⟨hb, h⟩; rw [if_pos hfit] at h; obtain ⟨rfl, h9⟩ := h))
      go_ret2
      have hR := rowV_own h9 (Nat.le_refl _) (room := room) (by simp; omega) hr' ((wpL n).length + 1) hfit
      have hE : (wpL n ++ 0 :: List.replicate (room - ((wpL n).length + 1)) 0).take ((wpL n).length + 1) = wpL n ++ [0] := by
        have e1 : (wpL n).length + 1 - (wpL n).length = 1 := by omega
        rw [List.take_append, List.take_of_length_le (by omega), e1]
        rfl
      rw [hE] at hR
      exact ⟨_, rfl, hR, hb⟩
    · rw [if_neg (by simp; omega)] at h
      obtain ⟨rfl, rfl⟩ := Prod.mk.inj (Option.some.inj h)
      clear h
      go_enter Tryd.func36, Tryd.ntmps36
      go_wp2_with (first | (go_at_call 61; (with_reducible refine HC.out.mono ?_); rintro e w' ⟨hb, h⟩; rw [if_neg hfit] at h; obtain ⟨z, t, x, rfl⟩ := h))
      go_ret2
      exact ⟨_, rfl, Kd.R_nil _ _ _ _ _, hb⟩
  · cases h

end Go.Proofs.YtiilihafcdmccaaDoor.P
-- Written by a program of this session (wip/tools/pprint.py) out of the translation: it goes by the kit's print and by the contracts of YtiilihafcdmccaaDoorHand. Not trusted: Lean checks it.
namespace Go.Proofs.YtiilihafcdmccaaDoor.P
open Go.RowKit Go.Proofs.YtiilihafcdmccaaDoorW.PrintWords Go.Proofs.YtiilihafcdmccaaDoorW.PrintLast Go.Proofs.YtiilihafcdmccaaDoorW.PrintMore
attribute [local go_sem] max2_int min2_int max_two min_two max_three min_three max_four min_four   -- for this text's walks alone
set_option linter.unusedVariables false
set_option linter.unusedSimpArgs false

/-- A state of type 81 at block g of W; what its slices lead to came in by w0. -/
def IsS81 (w0 W : World) (g : Nat) (f0 : List Int) (f1 : Int) (f2 : List ByteArray) (f3 : Bool) : Prop := ∃ A0 c0, ∃ A2 c2, W.heap[g]? = some (.cells #[.slice A0 f0.length c0, .int .i64 f1, .slice A2 f2.length c2, .bool f3] 81 (0, 0)) ∧ w0.heap.size ≤ g ∧ Kd.C (Kd.int .i64) w0 A0 f0.length f0 ∧ Kd.C Kd.string w0 A2 f2.length f2
theorem IsS81.grown {w0 W : World} {g : Nat} {f0 : List Int} {f1 : Int} {f2 : List ByteArray} {f3 : Bool} {W1 : World} {row : Option Nat} (h : IsS81 w0 W g f0 f1 f2 f3) (hw : W.grownBy W1 row) (hne : some g ≠ row) : IsS81 w0 W1 g f0 f1 f2 f3 := by
  obtain ⟨A0, c0, A2, c2, hb, hg, hr0, hr2⟩ := h
  exact ⟨A0, c0, A2, c2, blk_grown hb hw hne, hg, hr0, hr2⟩
theorem IsS81.own_neN {w0 W : World} {g : Nat} {f0 : List Int} {f1 : Int} {f2 : List ByteArray} {f3 : Bool} {α : Type} {d : Kd α} {e : Nat} {base : Nat} {ok : Nat → Prop} {v : Value} {xs : List α} (h : IsS81 w0 W g f0 f1 f2 f3) (ho : Kd.N d e W base ok v xs) (ht : e ≠ 81) : some g ≠ v.ownBlock := by
  obtain ⟨A0, c0, A2, c2, hb, hg, hr0, hr2⟩ := h
  exact Kd.N_ne ho hb ht
theorem IsS81.fresh {w0 W : World} {g : Nat} {f0 : List Int} {f1 : Int} {f2 : List ByteArray} {f3 : Bool} (h : IsS81 w0 W g f0 f1 f2 f3) : ∀ k, W.heap.size ≤ k → k ≠ g := by
  obtain ⟨A0, c0, A2, c2, hb, hg, hr0, hr2⟩ := h
  exact Kd.freshB hb
theorem IsS81.kept {w0 W : World} {g : Nat} {f0 : List Int} {f1 : Int} {f2 : List ByteArray} {f3 : Bool} {W1 : World} {S : Nat → Prop} (h : IsS81 w0 W g f0 f1 f2 f3) (hk : Kept W W1 S) (hne : ¬ S g) : IsS81 w0 W1 g f0 f1 f2 f3 := by
  obtain ⟨A0, c0, A2, c2, hb, hg, hr0, hr2⟩ := h
  exact ⟨A0, c0, A2, c2, blk_kept hb hk hne, hg, hr0, hr2⟩
theorem IsS81.below {w0 W : World} {g : Nat} {f0 : List Int} {f1 : Int} {f2 : List ByteArray} {f3 : Bool} {W1 : World} (h : IsS81 w0 W g f0 f1 f2 f3) (hw : Below W.heap.size W W1) : IsS81 w0 W1 g f0 f1 f2 f3 := h.grown (grown_of_below hw none) (by simp)
theorem IsS81.alloc {w0 W : World} {g : Nat} {f0 : List Int} {f1 : Int} {f2 : List ByteArray} {f3 : Bool} (h : IsS81 w0 W g f0 f1 f2 f3) (o : Obj) : IsS81 w0 (W.alloc o) g f0 f1 f2 f3 := h.below (below_alloc (Below.refl _ _) o)
theorem IsS81.drewN {w0 W : World} {g : Nat} {f0 : List Int} {f1 : Int} {f2 : List ByteArray} {f3 : Bool} (h : IsS81 w0 W g f0 f1 f2 f3) (m : Nat) : IsS81 w0 (W.drewN m) g f0 f1 f2 f3 := h
theorem IsS81.drew {w0 W : World} {g : Nat} {f0 : List Int} {f1 : Int} {f2 : List ByteArray} {f3 : Bool} (h : IsS81 w0 W g f0 f1 f2 f3) : IsS81 w0 W.drew g f0 f1 f2 f3 := h
theorem IsS81.at_ {w0 W : World} {g : Nat} {f0 : List Int} {f1 : Int} {f2 : List ByteArray} {f3 : Bool} {w' : World} {m : Nat} (hq : W.drewN m = w') (h : IsS81 w0 W g f0 f1 f2 f3) : IsS81 w0 w' g f0 f1 f2 f3 := by subst hq; exact IsS81.drewN h m
theorem IsS81.apart {w0 W : World} {g : Nat} {f0 : List Int} {f1 : Int} {f2 : List ByteArray} {f3 : Bool} {α : Type} {d : Kd α} {e : Nat} {base : Nat} {ok : Nat → Prop} {v : Value} {xs : List α} (h : IsS81 w0 W g f0 f1 f2 f3) (ho : d.R e W base ok v xs) (ht : ∀ q, q ∈ e :: d.E → q ≠ 81) : d.R e W base (fun k => ok k ∧ k ≠ g) v xs := by
  obtain ⟨A0, c0, A2, c2, hb, hg, hr0, hr2⟩ := h
  exact Kd.R_types ho hb ht
theorem IsS81.own_ne {w0 W : World} {g : Nat} {f0 : List Int} {f1 : Int} {f2 : List ByteArray} {f3 : Bool} {α : Type} {d : Kd α} {e : Nat} {base : Nat} {ok : Nat → Prop} {v : Value} {xs : List α} (h : IsS81 w0 W g f0 f1 f2 f3) (ho : d.R e W base ok v xs) (ht : e ≠ 81) : some g ≠ v.ownBlock := by
  obtain ⟨A0, c0, A2, c2, hb, hg, hr0, hr2⟩ := h
  exact Kd.R_ne ho hb ht
theorem IsS81.apartQ {w0 W : World} {g : Nat} {f0 : List Int} {f1 : Int} {f2 : List ByteArray} {f3 : Bool} {α : Type} {d : Kd α} {e : Nat} {base : Nat} {ok : Nat → Prop} {v : Value} {xs : List α} (h : IsS81 w0 W g f0 f1 f2 f3) (ho : d.Q e W base ok v xs) (ht : ∀ q, q ∈ e :: d.E → q ≠ 81) : d.Q e W base (fun k => ok k ∧ k ≠ g) v xs := by
  obtain ⟨A0, c0, A2, c2, hb, hg, hr0, hr2⟩ := h
  exact Kd.Q_types ho hb ht
theorem IsS81.own_neQ {w0 W : World} {g : Nat} {f0 : List Int} {f1 : Int} {f2 : List ByteArray} {f3 : Bool} {α : Type} {d : Kd α} {e : Nat} {base : Nat} {ok : Nat → Prop} {v : Value} {xs : List α} (h : IsS81 w0 W g f0 f1 f2 f3) (ho : d.Q e W base ok v xs) (ht : e ≠ 81) : some g ≠ v.ownBlock := by
  obtain ⟨A0, c0, A2, c2, hb, hg, hr0, hr2⟩ := h
  exact Kd.Q_ne ho hb ht
theorem IsS81.apartS {w0 W : World} {g : Nat} {f0 : List Int} {f1 : Int} {f2 : List ByteArray} {f3 : Bool} {α : Type} {d : Kd α} {e : Nat} {base : Nat} {ok : Nat → Prop} {v : Value} {xs : List α} (h : IsS81 w0 W g f0 f1 f2 f3) (ho : d.S e W base ok v xs) (ht : ∀ q, q ∈ e :: d.E → q ≠ 81) : d.S e W base (fun k => ok k ∧ k ≠ g) v xs := by
  obtain ⟨A0, c0, A2, c2, hb, hg, hr0, hr2⟩ := h
  exact Kd.S_types ho hb ht
theorem IsS81.own_neS {w0 W : World} {g : Nat} {f0 : List Int} {f1 : Int} {f2 : List ByteArray} {f3 : Bool} {α : Type} {d : Kd α} {e : Nat} {base : Nat} {ok : Nat → Prop} {v : Value} {xs : List α} (h : IsS81 w0 W g f0 f1 f2 f3) (ho : d.S e W base ok v xs) (ht : e ≠ 81) : some g ≠ v.ownBlock := by
  obtain ⟨A0, c0, A2, c2, hb, hg, hr0, hr2⟩ := h
  exact Kd.S_ne ho hb ht
theorem IsS81.lt {w0 W : World} {g : Nat} {f0 : List Int} {f1 : Int} {f2 : List ByteArray} {f3 : Bool} (h : IsS81 w0 W g f0 f1 f2 f3) : g < W.heap.size := by
  obtain ⟨A0, c0, A2, c2, hb, hg, hr0, hr2⟩ := h
  exact blk_lt hb
theorem IsS81.ge {w0 W : World} {g : Nat} {f0 : List Int} {f1 : Int} {f2 : List ByteArray} {f3 : Bool} (h : IsS81 w0 W g f0 f1 f2 f3) : w0.heap.size ≤ g := by
  obtain ⟨A0, c0, A2, c2, hb, hg, hr0, hr2⟩ := h
  exact hg
theorem IsS81.ne_blk {w0 W : World} {g : Nat} {f0 : List Int} {f1 : Int} {f2 : List ByteArray} {f3 : Bool} {a : Nat} {cs : Array Value} {t : TypeId} {fr : Nat × Nat} (h : IsS81 w0 W g f0 f1 f2 f3) (hb2 : W.heap[a]? = some (.cells cs t fr)) (ht : t ≠ 81) : g ≠ a := by
  obtain ⟨A0, c0, A2, c2, hb, hg, hr0, hr2⟩ := h
  rintro rfl
  rw [hb] at hb2
  injection hb2 with hb2
  injection hb2 with _ ht2
  exact ht ht2.symm
theorem IsS81.far {w0 W : World} {g : Nat} {f0 : List Int} {f1 : Int} {f2 : List ByteArray} {f3 : Bool} {p : Addr} (h : IsS81 w0 W g f0 f1 f2 f3) (hne : g ≠ p.block) (u : Value) : IsS81 w0 (W.setCell p u) g f0 f1 f2 f3 := by
  obtain ⟨A0, c0, A2, c2, hb, hg, hr0, hr2⟩ := h
  exact ⟨A0, c0, A2, c2, blk_far hb hne u, hg, hr0, hr2⟩
theorem cellS81_0 {W : World} {g : Nat} {A0 : Option Addr} {c0 : Nat} {A2 : Option Addr} {c2 : Nat} {f0 : List Int} {f1 : Int} {f2 : List ByteArray} {f3 : Bool} (h : W.heap[g]? = some (.cells #[.slice A0 f0.length c0, .int .i64 f1, .slice A2 f2.length c2, .bool f3] 81 (0, 0))) : W.cell? ⟨g, 0, none⟩ = some (.slice A0 f0.length c0) := (blk_cell h 0).trans rfl
theorem cellS81_1 {W : World} {g : Nat} {A0 : Option Addr} {c0 : Nat} {A2 : Option Addr} {c2 : Nat} {f0 : List Int} {f1 : Int} {f2 : List ByteArray} {f3 : Bool} (h : W.heap[g]? = some (.cells #[.slice A0 f0.length c0, .int .i64 f1, .slice A2 f2.length c2, .bool f3] 81 (0, 0))) : W.cell? ⟨g, 1, none⟩ = some (.int .i64 f1) := (blk_cell h 1).trans rfl
theorem IsS81.set_1 {w0 W : World} {g : Nat} {f0 : List Int} {f1 : Int} {f2 : List ByteArray} {f3 : Bool} (h : IsS81 w0 W g f0 f1 f2 f3) (x : Int) : IsS81 w0 (W.setCell ⟨g, 1, none⟩ (.int .i64 x)) g f0 x f2 f3 := by
  obtain ⟨A0, c0, A2, c2, hb, hg, hr0, hr2⟩ := h
  exact ⟨A0, c0, A2, c2, by simpa using blk_set hb 1 (.int .i64 x), hg, hr0, hr2⟩
theorem cellS81_2 {W : World} {g : Nat} {A0 : Option Addr} {c0 : Nat} {A2 : Option Addr} {c2 : Nat} {f0 : List Int} {f1 : Int} {f2 : List ByteArray} {f3 : Bool} (h : W.heap[g]? = some (.cells #[.slice A0 f0.length c0, .int .i64 f1, .slice A2 f2.length c2, .bool f3] 81 (0, 0))) : W.cell? ⟨g, 2, none⟩ = some (.slice A2 f2.length c2) := (blk_cell h 2).trans rfl
theorem cellS81_3 {W : World} {g : Nat} {A0 : Option Addr} {c0 : Nat} {A2 : Option Addr} {c2 : Nat} {f0 : List Int} {f1 : Int} {f2 : List ByteArray} {f3 : Bool} (h : W.heap[g]? = some (.cells #[.slice A0 f0.length c0, .int .i64 f1, .slice A2 f2.length c2, .bool f3] 81 (0, 0))) : W.cell? ⟨g, 3, none⟩ = some (.bool f3) := (blk_cell h 3).trans rfl
theorem IsS81.set_3 {w0 W : World} {g : Nat} {f0 : List Int} {f1 : Int} {f2 : List ByteArray} {f3 : Bool} (h : IsS81 w0 W g f0 f1 f2 f3) (x : Bool) : IsS81 w0 (W.setCell ⟨g, 3, none⟩ (.bool x)) g f0 f1 f2 x := by
  obtain ⟨A0, c0, A2, c2, hb, hg, hr0, hr2⟩ := h
  exact ⟨A0, c0, A2, c2, by simpa using blk_set hb 3 (.bool x), hg, hr0, hr2⟩
theorem IsS81.new (w0 W : World) (A0 : Option Addr) (c0 : Nat) (A2 : Option Addr) (c2 : Nat) (f0 : List Int) (f1 : Int) (f2 : List ByteArray) (f3 : Bool) (hB : Below w0.heap.size w0 W) (hr0 : Kd.C (Kd.int .i64) w0 A0 f0.length f0) (hr2 : Kd.C Kd.string w0 A2 f2.length f2) : IsS81 w0 (W.alloc (.cells #[.slice A0 f0.length c0, .int .i64 f1, .slice A2 f2.length c2, .bool f3] 81)) W.heap.size f0 f1 f2 f3 := ⟨A0, c0, A2, c2, by simpa using heap_alloc_new W _, hB.size, hr0, hr2⟩

/-! ### spec_chooser_of: function 83 -/
def spec_chooser_of.j0 : Nat → Int → Bool → List Int → Int → List ByteArray → Bool → Option (Int × Int × Bool)
  | 0, _, _, _, _, _, _ => none
  | k + 1, x1, x19, x1000, x1001, x1002, x1003 => if x19 = true then (some (0, x1001, x1003)) else (if (x1000.length : Int) = 0 then (none) else (if 0 ≤ (Int.tmod x1001 (x1000.length : Int)) then (if (Int.tmod x1001 (x1000.length : Int)) < (x1000.length : Int) then (if x1 = 0 then (none) else (if (Int.tmod (rd x1000 (Int.tmod x1001 (x1000.length : Int))) x1) < 0 then (some (wrap64 ((Int.tmod (rd x1000 (Int.tmod x1001 (x1000.length : Int))) x1) + x1), wrap64 (x1001 + 1), x1003)) else (some (Int.tmod (rd x1000 (Int.tmod x1001 (x1000.length : Int))) x1, wrap64 (x1001 + 1), x1003)))) else (none)) else (none)))
def spec_chooser_of.f (k : Nat) (s0_0 : List Int) (s0_1 : Int) (s0_2 : List ByteArray) (s0_3 : Bool) (a1 : Int) : Option (Int × Int × Bool) := if (s0_0.length : Int) = 0 then (spec_chooser_of.j0 k a1 true s0_0 s0_1 s0_2 s0_3) else (spec_chooser_of.j0 k a1 (decide (a1 < 2)) s0_0 s0_1 s0_2 s0_3)
theorem spec_chooser_of.mono_l : ∀ k, (∀ y0 y1 y2 y3 y4 y5, LeO (spec_chooser_of.j0 k y0 y1 y2 y3 y4 y5) (spec_chooser_of.j0 (k + 1) y0 y1 y2 y3 y4 y5))
  | 0 => fun _ _ _ _ _ _ r h => by simp [spec_chooser_of.j0] at h
  | k + 1 => by
    have ih0 := spec_chooser_of.mono_l k
    · intro y0 y1 y2 y3 y4 y5
      unfold spec_chooser_of.j0
      repeat' first
      | (with_reducible exact ih0 _ _ _ _ _ _)
      | (with_reducible exact LeO.refl _)
      | (with_reducible exact LeO.none _)
      | (with_reducible refine LeO.ite ?_ ?_)
      | (with_reducible refine LeO.bind ?_ (fun _ => ?_))
      | exact ih0 _ _ _ _ _ _
      | exact LeO.none _
      | refine LeO.ite ?_ ?_
      | refine LeO.bind ?_ (fun _ => ?_)
theorem spec_chooser_of.mono : ∀ a0 a1 a2 a3 a4 k, LeO (spec_chooser_of.f k a0 a1 a2 a3 a4) (spec_chooser_of.f (k + 1) a0 a1 a2 a3 a4) := by
  intro a0 a1 a2 a3 a4 k
  have ih0 := spec_chooser_of.mono_l k
  unfold spec_chooser_of.f
  repeat' first
      | (with_reducible exact ih0 _ _ _ _ _ _)
      | (with_reducible exact LeO.refl _)
      | (with_reducible exact LeO.none _)
      | (with_reducible refine LeO.ite ?_ ?_)
      | (with_reducible refine LeO.bind ?_ (fun _ => ?_))
      | exact ih0 _ _ _ _ _ _
      | exact LeO.none _
      | refine LeO.ite ?_ ?_
      | refine LeO.bind ?_ (fun _ => ?_)
set_option maxHeartbeats 8000000 in
set_option maxRecDepth 100000 in
theorem spec_chooser_of.calls (k : Nat) (g : Nat) (s0_0 : List Int) (s0_1 : Int) (s0_2 : List ByteArray) (s0_3 : Bool) (a1 : Int) (r1 : Int) (r2 : Int) (r3 : Bool) (w0 w : World) (hI : IsS81 w0 w g s0_0 s0_1 s0_2 s0_3) (hB : Below w0.heap.size w0 w) (h : spec_chooser_of.f k s0_0 s0_1 s0_2 s0_3 a1 = some (r1, r2, r3)) :
    Calls Tryd.prog 83 #[.pointer (some ⟨g, 0, none⟩), .int .i64 a1] w fun e w' => e = .returned (.int .i64 r1) ∧ IsS81 w0 w' g s0_0 r2 s0_2 r3 ∧ Below w0.heap.size w0 w' ∧ KeepBut w w' g none := by
  have HI0 := Aside0.mk hI
  have HK := Aside0.mk (KeepBut.refl w g none)
  have HL := Aside0.mk hB.size
  clear hI
  have HW0 := Aside0.mk hB.size
  have HB := Aside0.mk hB
  clear hB
  have H : (if (s0_0.length : Int) = 0 then (spec_chooser_of.j0 k a1 true s0_0 s0_1 s0_2 s0_3) else (spec_chooser_of.j0 k a1 (decide (a1 < 2)) s0_0 s0_1 s0_2 s0_3)) = some (r1, r2, r3) := h
  clear h
  have HC3 := Aside0.mk H
  clear H
  go_enter Tryd.func83, Tryd.ntmps83
  go_upto_region 1 with (fail)
  repeat (go_quiet (fail); go_upto_region 1 with (fail))
  go_cut [19] (fun v19 wc => ∃ (kq : Nat) (x19_2 : Bool), v19 = .bool x19_2 ∧ Aside0 (spec_chooser_of.j0 kq a1 x19_2 s0_0 s0_1 s0_2 s0_3 = some (r1, r2, r3)) ∧ Aside0 (kq ≤ k) ∧ Aside0 (IsS81 w0 wc g s0_0 s0_1 s0_2 s0_3) ∧ Aside0 (KeepBut w wc g none) ∧ Aside0 (Below w0.heap.size w0 wc))
  case first =>
    have H := HC3.out
    clear HC3
    by_cases c4 : (s0_0.length : Int) = 0
    · rw [if_pos c4] at H
      have c4b0 : ((s0_0.length : Int) == 0) = true := beq_iff_eq.mpr c4
      have c4b1 : ((s0_0.length : Int) != 0) = false := bne_eq_false_iff_eq.mpr c4
      clear c4
      (first | rw [c4b0] | (simp only [i64_w, i32_w]; rw [c4b0]) | skip)
      have H' := Aside0.mk H
      clear H
      obtain ⟨ASz5_0, cSz5_0, ASz5_2, cSz5_2, HGz5, hgz5, HSz5_0, HSz5_2⟩ := HI0.out
      have hcz5_0 := cellS81_0 HGz5
      have hcz5_1 := cellS81_1 HGz5
      have hcz5_2 := cellS81_2 HGz5
      have hcz5_3 := cellS81_3 HGz5
      have hfz5_1 := blk_frozen HGz5 1
      have hfz5_3 := blk_frozen HGz5 3
      clear HGz5 hgz5
      go_wp2
      repeat (go_quiet (fail); try go_wp2)
      go_meet
      case rel => exact ⟨_, (true), (by first | rfl | (simp; done) | (simp [*]; done) | (simp [wrap64]; done)), H', ⟨by first | omega | exact Nat.le_refl _⟩, ⟨by repeat (first | (with_reducible first | exact HI0.out | apply IsS81.alloc | apply IsS81.drewN | apply IsS81.drew | apply IsS81.set_1 | apply IsS81.set_3) | exact HI0.out)⟩, ⟨by repeat (first | (with_reducible first | exact HK.out | apply KeepBut.set_ | apply keep_drewN | apply keep_drew | apply keep_alloc) | exact HK.out)⟩, ⟨by repeat (first | (with_reducible first | exact HB.out | apply below_alloc | apply pw_below_drewN | apply below_drew1 | refine below_set ?_ (IsS81.ge HI0.out)) | exact HB.out)⟩⟩
    · rw [if_neg c4] at H
      have c4b0 : ((s0_0.length : Int) == 0) = false := beq_eq_false_iff_ne.mpr c4
      have c4b1 : ((s0_0.length : Int) != 0) = true := bne_iff_ne.mpr c4
      have c4b2 : ¬ (s0_0 = []) := fun h_ => c4 (by rw [h_]; rfl)
      (first | rw [c4b0] | (simp only [i64_w, i32_w]; rw [c4b0]) | skip)
      have H' := Aside0.mk H
      clear H
      obtain ⟨ASz6_0, cSz6_0, ASz6_2, cSz6_2, HGz6, hgz6, HSz6_0, HSz6_2⟩ := HI0.out
      have hcz6_0 := cellS81_0 HGz6
      have hcz6_1 := cellS81_1 HGz6
      have hcz6_2 := cellS81_2 HGz6
      have hcz6_3 := cellS81_3 HGz6
      have hfz6_1 := blk_frozen HGz6 1
      have hfz6_3 := blk_frozen HGz6 3
      clear HGz6 hgz6
      go_wp2
      repeat (go_quiet (fail); try go_wp2)
      go_meet
      case rel => exact ⟨_, (decide (a1 < 2)), (by first | rfl | (simp; done) | (simp [*]; done) | (simp [wrap64]; done)), H', ⟨by first | omega | exact Nat.le_refl _⟩, ⟨by repeat (first | (with_reducible first | exact HI0.out | apply IsS81.alloc | apply IsS81.drewN | apply IsS81.drew | apply IsS81.set_1 | apply IsS81.set_3) | exact HI0.out)⟩, ⟨by repeat (first | (with_reducible first | exact HK.out | apply KeepBut.set_ | apply keep_drewN | apply keep_drew | apply keep_alloc) | exact HK.out)⟩, ⟨by repeat (first | (with_reducible first | exact HB.out | apply below_alloc | apply pw_below_drewN | apply below_drew1 | refine below_set ?_ (IsS81.ge HI0.out)) | exact HB.out)⟩⟩
  case rest =>
    clear HC3
    try clear p2
    try clear c4
    try clear c4b0
    try clear c4b1
    try clear c4b2
    try clear p6
    try clear hcz5_0
    try clear hcz5_1
    try clear hcz5_2
    try clear hcz5_3
    try clear hcz6_0
    try clear hcz6_1
    try clear hcz6_2
    try clear hcz6_3
    try clear hfz5_1
    try clear hfz5_3
    try clear hfz6_1
    try clear hfz6_3
    obtain ⟨kq, x19_2, rfl, HA, HJ2, HI0, HK, HB⟩ := hcut
    cases kq with
    | zero => exact absurd HA.out (by simp [spec_chooser_of.j0])
    | succ kj2 =>
      have H := HA.out
      clear HA
      simp only [spec_chooser_of.j0] at H
      by_cases c7 : x19_2 = true
      · subst c7
        have H1 : (some (0, s0_1, s0_3)) = some (r1, r2, r3) := by rw [if_pos rfl] at H; exact H
        clear H
        have H := H1
        clear H1
        simp only [Option.some.injEq, Prod.mk.injEq] at H
        obtain ⟨rfl, rfl, rfl⟩ := H
        go_wp2
        repeat (go_quiet (fail); try go_wp2)
        go_ret
        exact ⟨by first | rfl | (simp [errW_none, errW_some] <;> rfl) | (simp [*, errW_none, errW_some] <;> rfl), by repeat (first | (with_reducible first | exact HI0.out | apply IsS81.alloc | apply IsS81.drewN | apply IsS81.drew | apply IsS81.set_1 | apply IsS81.set_3) | exact HI0.out), by repeat (first | (with_reducible first | exact HB.out | apply below_alloc | apply pw_below_drewN | apply below_drew1 | refine below_set ?_ (IsS81.ge HI0.out)) | exact HB.out), by repeat (first | (with_reducible first | exact HK.out | apply KeepBut.set_ | apply keep_drewN | apply keep_drew | apply keep_alloc) | exact HK.out)⟩
      · replace c7 := Bool.eq_false_iff.mpr c7
        subst c7
        have H1 : (if (s0_0.length : Int) = 0 then (none) else (if 0 ≤ (Int.tmod s0_1 (s0_0.length : Int)) then (if (Int.tmod s0_1 (s0_0.length : Int)) < (s0_0.length : Int) then (if a1 = 0 then (none) else (if (Int.tmod (rd s0_0 (Int.tmod s0_1 (s0_0.length : Int))) a1) < 0 then (some (wrap64 ((Int.tmod (rd s0_0 (Int.tmod s0_1 (s0_0.length : Int))) a1) + a1), wrap64 (s0_1 + 1), s0_3)) else (some (Int.tmod (rd s0_0 (Int.tmod s0_1 (s0_0.length : Int))) a1, wrap64 (s0_1 + 1), s0_3)))) else (none)) else (none))) = some (r1, r2, r3) := by rw [if_neg (show ¬ (false = true) by decide)] at H; exact H
        clear H
        have H := H1
        clear H1
        by_cases c8 : (s0_0.length : Int) = 0
        · rw [if_pos c8] at H
          exact absurd H (by simp)
        · rw [if_neg c8] at H
          have c8b0 : ((s0_0.length : Int) == 0) = false := beq_eq_false_iff_ne.mpr c8
          have c8b1 : ((s0_0.length : Int) != 0) = true := bne_iff_ne.mpr c8
          have c8b2 : ¬ (s0_0 = []) := fun h_ => c8 (by rw [h_]; rfl)
          obtain ⟨ji9, hji9⟩ : ∃ j_ : Int, (Int.tmod s0_1 (s0_0.length : Int)) = j_ := ⟨_, rfl⟩
          replace H : (if 0 ≤ (ji9) then (if (ji9) < (s0_0.length : Int) then (if a1 = 0 then (none) else (if (Int.tmod (rd s0_0 (ji9)) a1) < 0 then (some (wrap64 ((Int.tmod (rd s0_0 (ji9)) a1) + a1), wrap64 (s0_1 + 1), s0_3)) else (some (Int.tmod (rd s0_0 (ji9)) a1, wrap64 (s0_1 + 1), s0_3)))) else (none)) else (none)) = some (r1, r2, r3) := by first | (rw [hji9] at H; exact H) | (simp only [hji9] at H ⊢; exact H)
          by_cases c10 : 0 ≤ (ji9)
          · rw [if_pos c10] at H
            have c10b0 : decide (0 ≤ (ji9)) = true := decide_eq_true c10
            clear c10
            by_cases c11 : (ji9) < (s0_0.length : Int)
            · rw [if_pos c11] at H
              have c11b0 : decide ((ji9) < (s0_0.length : Int)) = true := decide_eq_true c11
              clear c11
              by_cases c12 : a1 = 0
              · rw [if_pos c12] at H
                exact absurd H (by simp)
              · rw [if_neg c12] at H
                have c12b0 : (a1 == 0) = false := beq_eq_false_iff_ne.mpr c12
                have c12b1 : (a1 != 0) = true := bne_iff_ne.mpr c12
                by_cases c13 : (Int.tmod (rd s0_0 (ji9)) a1) < 0
                · rw [if_pos c13] at H
                  have c13b0 : decide ((Int.tmod (rd s0_0 (ji9)) a1) < 0) = true := decide_eq_true c13
                  clear c13
                  simp only [Option.some.injEq, Prod.mk.injEq] at H
                  obtain ⟨rfl, rfl, rfl⟩ := H
                  obtain ⟨ASz14_0, cSz14_0, ASz14_2, cSz14_2, HGz14, hgz14, HSz14_0, HSz14_2⟩ := HI0.out
                  have hcz14_0 := cellS81_0 HGz14
                  have hcz14_1 := cellS81_1 HGz14
                  have hcz14_2 := cellS81_2 HGz14
                  have hcz14_3 := cellS81_3 HGz14
                  have hfz14_1 := blk_frozen HGz14 1
                  have hfz14_3 := blk_frozen HGz14 3
                  clear HGz14 hgz14
                  have p356 : 0 ≤ ((ji9) : Int) := of_decide_eq_true (by first | (with_reducible assumption) | assumption)
                  have q356 : (ji9) < (s0_0.length : Int) := of_decide_eq_true (by first | (with_reducible assumption) | assumption)
                  obtain ⟨ad356, e356, hx356_0⟩ := Kd.at_int HSz14_0 (ji9) p356 q356
                  cases e356
                  replace hx356_0 := pw_cell_below HB.out hx356_0
                  replace p356 := eq_true p356
                  replace q356 := eq_true q356
                  go_wp2
                  repeat (go_quiet (fail); try go_wp2)
                  go_ret
                  exact ⟨by first | rfl | (simp [errW_none, errW_some] <;> rfl) | (simp only [← hji9]; first | rfl | (simp [errW_none, errW_some] <;> rfl)) | (simp [*, errW_none, errW_some] <;> rfl), by repeat (first | (with_reducible first | exact HI0.out | apply IsS81.alloc | apply IsS81.drewN | apply IsS81.drew | apply IsS81.set_1 | apply IsS81.set_3) | exact HI0.out), by repeat (first | (with_reducible first | exact HB.out | apply below_alloc | apply pw_below_drewN | apply below_drew1 | refine below_set ?_ (IsS81.ge HI0.out)) | exact HB.out), by repeat (first | (with_reducible first | exact HK.out | apply KeepBut.set_ | apply keep_drewN | apply keep_drew | apply keep_alloc) | exact HK.out)⟩
                · rw [if_neg c13] at H
                  have c13b0 : decide ((Int.tmod (rd s0_0 (ji9)) a1) < 0) = false := decide_eq_false c13
                  clear c13
                  simp only [Option.some.injEq, Prod.mk.injEq] at H
                  obtain ⟨rfl, rfl, rfl⟩ := H
                  obtain ⟨ASz15_0, cSz15_0, ASz15_2, cSz15_2, HGz15, hgz15, HSz15_0, HSz15_2⟩ := HI0.out
                  have hcz15_0 := cellS81_0 HGz15
                  have hcz15_1 := cellS81_1 HGz15
                  have hcz15_2 := cellS81_2 HGz15
                  have hcz15_3 := cellS81_3 HGz15
                  have hfz15_1 := blk_frozen HGz15 1
                  have hfz15_3 := blk_frozen HGz15 3
                  clear HGz15 hgz15
                  have p356 : 0 ≤ ((ji9) : Int) := of_decide_eq_true (by first | (with_reducible assumption) | assumption)
                  have q356 : (ji9) < (s0_0.length : Int) := of_decide_eq_true (by first | (with_reducible assumption) | assumption)
                  obtain ⟨ad356, e356, hx356_0⟩ := Kd.at_int HSz15_0 (ji9) p356 q356
                  cases e356
                  replace hx356_0 := pw_cell_below HB.out hx356_0
                  replace p356 := eq_true p356
                  replace q356 := eq_true q356
                  go_wp2
                  repeat (go_quiet (fail); try go_wp2)
                  go_ret
                  exact ⟨by first | rfl | (simp [errW_none, errW_some] <;> rfl) | (simp only [← hji9]; first | rfl | (simp [errW_none, errW_some] <;> rfl)) | (simp [*, errW_none, errW_some] <;> rfl), by repeat (first | (with_reducible first | exact HI0.out | apply IsS81.alloc | apply IsS81.drewN | apply IsS81.drew | apply IsS81.set_1 | apply IsS81.set_3) | exact HI0.out), by repeat (first | (with_reducible first | exact HB.out | apply below_alloc | apply pw_below_drewN | apply below_drew1 | refine below_set ?_ (IsS81.ge HI0.out)) | exact HB.out), by repeat (first | (with_reducible first | exact HK.out | apply KeepBut.set_ | apply keep_drewN | apply keep_drew | apply keep_alloc) | exact HK.out)⟩
            · rw [if_neg c11] at H
              exact absurd H (by simp)
          · rw [if_neg c10] at H
            exact absurd H (by simp)

end Go.Proofs.YtiilihafcdmccaaDoor.P
-- Written by a program of this session (wip/tools/pprint.py) out of the translation: it goes by the kit's print and by the contracts of YtiilihafcdmccaaDoorHand. Not trusted: Lean checks it.
namespace Go.Proofs.YtiilihafcdmccaaDoor.P
open Go.RowKit Go.Proofs.YtiilihafcdmccaaDoorW.PrintWords Go.Proofs.YtiilihafcdmccaaDoorW.PrintLast Go.Proofs.YtiilihafcdmccaaDoorW.PrintMore
attribute [local go_sem] max2_int min2_int max_two min_two max_three min_three max_four min_four   -- for this text's walks alone
set_option linter.unusedVariables false
set_option linter.unusedSimpArgs false

/-! ### spec_ddd: function 117 -/
def spec_ddd.f (a0 : Int) : Option (ByteArray) := some (strOfNums (([92, (48 + ((Int.tdiv a0 100) % 256)) % 256, 48 + (((Int.tdiv a0 10) % 256) % 10), (48 + (Int.tmod a0 10)) % 256] : List Int)))
set_option maxHeartbeats 8000000 in
set_option maxRecDepth 100000 in
theorem spec_ddd.calls (a0 : Int) (r : ByteArray) (w : World) (h : spec_ddd.f a0 = some r) :
    Calls Tryd.prog 117 #[.int .u8 a0] w fun e w' => e = .returned (.string r) ∧ Below w.heap.size w w' := by
  have HB := Aside0.mk (Below.refl w.heap.size w)
  have H : (some (strOfNums (([92, (48 + ((Int.tdiv a0 100) % 256)) % 256, 48 + (((Int.tdiv a0 10) % 256) % 10), (48 + (Int.tmod a0 10)) % 256] : List Int)))) = some r := h
  clear h
  obtain ⟨y357, hy357⟩ : ∃ y_ : List Int, y_ = (([92, (48 + ((Int.tdiv a0 100) % 256)) % 256, 48 + (((Int.tdiv a0 10) % 256) % 10), (48 + (Int.tmod a0 10)) % 256] : List Int)) := ⟨_, rfl⟩
  replace H : (some (strOfNums y357)) = some r := by first | (rw [hy357]; with_reducible exact H) | (have H2_ := (Option.bind_some _ _).symm.trans H; rw [hy357]; with_reducible exact H2_) | (have H2_ := (Option.bind_some _ _).symm.trans H; with_reducible exact H2_) | with_reducible exact H | (rw [hy357]; exact H) | exact H
  have Ny357 := Aside0.mk hy357
  clear hy357
  obtain rfl := Option.some.inj H
  go_enter Tryd.func117, Tryd.ntmps117
  go_wp2_with (first | ((with_reducible refine gate_dst (N := 13) rfl ?_); refine Kd.R_lit (Kd.int .u8) _ 5 ?hg (N := 13) ?hd (xs := ([92, (48 + ((Int.tdiv a0 100) % 256)) % 256, 48 + (((Int.tdiv a0 10) % 256) % 10), (48 + (Int.tmod a0 10)) % 256] : List Int)) (inner := [.int .u8 92, .int .u8 ((48 + ((Int.tdiv a0 100) % 256)) % 256), .int .u8 (48 + (((Int.tdiv a0 10) % 256) % 10)), .int .u8 ((48 + (Int.tmod a0 10)) % 256)]) (ok := fun _ => True) (okp := fun _ => True) ?hr ?hp (fun _ hk => hk) trivial (Below.refl _ _) (Nat.le_refl _) (by simp) ?_; (case hd => rfl); (case hg => rfl); (case hr => first | (go_simp; done) | (go_simp; rfl)); (case hp => exact (Reps.one (show Kd.M (Kd.int .u8) _ _ _ 92 [.int .u8 92] from rfl) (Reps.one (show Kd.M (Kd.int .u8) _ _ _ ((48 + ((Int.tdiv a0 100) % 256)) % 256) [.int .u8 ((48 + ((Int.tdiv a0 100) % 256)) % 256)] from rfl) (Reps.one (show Kd.M (Kd.int .u8) _ _ _ (48 + (((Int.tdiv a0 10) % 256) % 10)) [.int .u8 (48 + (((Int.tdiv a0 10) % 256) % 10))] from rfl) (Reps.one (show Kd.M (Kd.int .u8) _ _ _ ((48 + (Int.tmod a0 10)) % 256) [.int .u8 ((48 + (Int.tmod a0 10)) % 256)] from rfl) (Reps.none _ _)))))); intro v358 w2 ho3 hb hg_ hnew_; clear hg_ hnew_; (first | rw [← Ny357.out] at ho3 | (simp only [Int.reduceToNat] at ho3; rw [← Ny357.out] at ho3)); have n0_ := Aside0.mk (Kd.R_lower ho3 (below_size (by repeat (first | (with_reducible first | exact HB.out | apply below_alloc | apply pw_below_drewN | apply below_drew1) | exact HB.out)))); have n1_ := Aside0.mk (below_step (by repeat (first | (with_reducible first | exact HB.out | apply below_alloc | apply pw_below_drewN | apply below_drew1) | exact HB.out)) hb); clear HB; have HO359 := n0_; have HB := n1_; clear n0_ n1_; clear hb ho3; have hcv4 := own_string (P := Tryd.prog) Tryd.underlying22 Tryd.underlying5 Tryd.underlying9 (Kd.own_of_R HO359.out)))
  go_ret
  exact ⟨by first | rfl | (simp [errW_none, errW_some] <;> rfl) | (simp [*, errW_none, errW_some] <;> rfl), by repeat (first | (with_reducible first | exact HB.out | apply below_alloc | apply pw_below_drewN | apply below_drew1) | exact HB.out)⟩

end Go.Proofs.YtiilihafcdmccaaDoor.P
-- Written by a program of this session (wip/tools/pprint.py) out of the translation: it goes by the kit's print and by the contracts of YtiilihafcdmccaaDoorHand. Not trusted: Lean checks it.
namespace Go.Proofs.YtiilihafcdmccaaDoor.P
open Go.RowKit Go.Proofs.YtiilihafcdmccaaDoorW.PrintWords Go.Proofs.YtiilihafcdmccaaDoorW.PrintLast Go.Proofs.YtiilihafcdmccaaDoorW.PrintMore
attribute [local go_sem] max2_int min2_int max_two min_two max_three min_three max_four min_four   -- for this text's walks alone
set_option linter.unusedVariables false
set_option linter.unusedSimpArgs false

/-! ### spec_chooser_char: function 84 -/
mutual
def spec_chooser_char.j0 : Nat → Int → Bool → Bool → List Int → Int → List ByteArray → Bool → Option (ByteArray × Int × Bool)
  | 0, _, _, _, _, _, _, _ => none
  | k + 1, x1, x2, x7, x1000, x1001, x1002, x1003 => if x7 = true then ((spec_chooser_of.f k x1000 x1001 x1002 x1003 9).bind fun bt360 => (spec_chooser_char.j1 k x1 x2 (bt360.1 == 8) x1000 bt360.2.1 x1002 bt360.2.2)) else (spec_chooser_char.j1 k x1 x2 true x1000 x1001 x1002 x1003)
def spec_chooser_char.j1 : Nat → Int → Bool → Bool → List Int → Int → List ByteArray → Bool → Option (ByteArray × Int × Bool)
  | 0, _, _, _, _, _, _, _ => none
  | k + 1, x1, x2, x14, x1000, x1001, x1002, x1003 => if x14 = true then ((spec_ddd.f x1).bind fun t363 => (some (t363, x1001, x1003))) else (if x2 = true then ((spec_isDigit.f x1).bind fun t364 => (if t364 = true then (spec_chooser_char.j2 k x1 x2 false x1000 x1001 x1002 x1003) else (spec_chooser_char.j2 k x1 x2 (x1 != 35) x1000 x1001 x1002 x1003))) else ((spec_chooser_of.f k x1000 x1001 x1002 x1003 12).bind fun bt365 => (if bt365.1 = 11 then ((spec_isDigit.f x1).bind fun t368 => (if t368 = true then (spec_chooser_char.j2 k x1 x2 false x1000 bt365.2.1 x1002 bt365.2.2) else (spec_chooser_char.j2 k x1 x2 (x1 != 35) x1000 bt365.2.1 x1002 bt365.2.2))) else (spec_chooser_char.j2 k x1 x2 false x1000 bt365.2.1 x1002 bt365.2.2))))
def spec_chooser_char.j2 : Nat → Int → Bool → Bool → List Int → Int → List ByteArray → Bool → Option (ByteArray × Int × Bool)
  | 0, _, _, _, _, _, _, _ => none
  | k + 1, x1, x2, x24, x1000, x1001, x1002, x1003 => if x24 = true then ((some (([x1] : List Int) : List Int)).bind fun y369 => (if 1 + (strOfNums y369).size ≤ 9223372036854775807 then (some ((⟨#[92]⟩ : ByteArray) ++ (strOfNums y369), x1001, x1003)) else (none))) else (if x2 = true then ((spec_ddd.f x1).bind fun t372 => (some (t372, x1001, x1003))) else (some (strOfNums (([x1] : List Int)), x1001, x1003)))
end
def spec_chooser_char.f (k : Nat) (s0_0 : List Int) (s0_1 : Int) (s0_2 : List ByteArray) (s0_3 : Bool) (a1 : Int) (a2 : Bool) : Option (ByteArray × Int × Bool) := if a1 > 32 then (spec_chooser_char.j0 k a1 a2 (decide (a1 < 127)) s0_0 s0_1 s0_2 s0_3) else (spec_chooser_char.j0 k a1 a2 false s0_0 s0_1 s0_2 s0_3)
theorem spec_chooser_char.mono_l : ∀ k, (∀ y0 y1 y2 y3 y4 y5 y6, LeO (spec_chooser_char.j0 k y0 y1 y2 y3 y4 y5 y6) (spec_chooser_char.j0 (k + 1) y0 y1 y2 y3 y4 y5 y6)) ∧ (∀ y0 y1 y2 y3 y4 y5 y6, LeO (spec_chooser_char.j1 k y0 y1 y2 y3 y4 y5 y6) (spec_chooser_char.j1 (k + 1) y0 y1 y2 y3 y4 y5 y6)) ∧ (∀ y0 y1 y2 y3 y4 y5 y6, LeO (spec_chooser_char.j2 k y0 y1 y2 y3 y4 y5 y6) (spec_chooser_char.j2 (k + 1) y0 y1 y2 y3 y4 y5 y6))
  | 0 => ⟨fun _ _ _ _ _ _ _ r h => by simp [spec_chooser_char.j0] at h, fun _ _ _ _ _ _ _ r h => by simp [spec_chooser_char.j1] at h, fun _ _ _ _ _ _ _ r h => by simp [spec_chooser_char.j2] at h⟩
  | k + 1 => by
    obtain ⟨ih0, ih1, ih2⟩ := spec_chooser_char.mono_l k
    refine ⟨?_, ?_, ?_⟩
    · intro y0 y1 y2 y3 y4 y5 y6
      unfold spec_chooser_char.j0
      repeat' first
      | (with_reducible exact ih0 _ _ _ _ _ _ _)
      | (with_reducible exact ih1 _ _ _ _ _ _ _)
      | (with_reducible exact ih2 _ _ _ _ _ _ _)
      | (with_reducible exact spec_chooser_of.mono _ _ _ _ _ _)
      | (with_reducible exact LeO.refl _)
      | (with_reducible exact LeO.none _)
      | (with_reducible refine LeO.ite ?_ ?_)
      | (with_reducible refine LeO.bind ?_ (fun _ => ?_))
      | exact ih0 _ _ _ _ _ _ _
      | exact ih1 _ _ _ _ _ _ _
      | exact ih2 _ _ _ _ _ _ _
      | exact spec_chooser_of.mono _ _ _ _ _ _
      | exact LeO.none _
      | refine LeO.ite ?_ ?_
      | refine LeO.bind ?_ (fun _ => ?_)
    · intro y0 y1 y2 y3 y4 y5 y6
      unfold spec_chooser_char.j1
      repeat' first
      | (with_reducible exact ih0 _ _ _ _ _ _ _)
      | (with_reducible exact ih1 _ _ _ _ _ _ _)
      | (with_reducible exact ih2 _ _ _ _ _ _ _)
      | (with_reducible exact spec_chooser_of.mono _ _ _ _ _ _)
      | (with_reducible exact LeO.refl _)
      | (with_reducible exact LeO.none _)
      | (with_reducible refine LeO.ite ?_ ?_)
      | (with_reducible refine LeO.bind ?_ (fun _ => ?_))
      | exact ih0 _ _ _ _ _ _ _
      | exact ih1 _ _ _ _ _ _ _
      | exact ih2 _ _ _ _ _ _ _
      | exact spec_chooser_of.mono _ _ _ _ _ _
      | exact LeO.none _
      | refine LeO.ite ?_ ?_
      | refine LeO.bind ?_ (fun _ => ?_)
    · intro y0 y1 y2 y3 y4 y5 y6
      unfold spec_chooser_char.j2
      repeat' first
      | (with_reducible exact ih0 _ _ _ _ _ _ _)
      | (with_reducible exact ih1 _ _ _ _ _ _ _)
      | (with_reducible exact ih2 _ _ _ _ _ _ _)
      | (with_reducible exact spec_chooser_of.mono _ _ _ _ _ _)
      | (with_reducible exact LeO.refl _)
      | (with_reducible exact LeO.none _)
      | (with_reducible refine LeO.ite ?_ ?_)
      | (with_reducible refine LeO.bind ?_ (fun _ => ?_))
      | exact ih0 _ _ _ _ _ _ _
      | exact ih1 _ _ _ _ _ _ _
      | exact ih2 _ _ _ _ _ _ _
      | exact spec_chooser_of.mono _ _ _ _ _ _
      | exact LeO.none _
      | refine LeO.ite ?_ ?_
      | refine LeO.bind ?_ (fun _ => ?_)
theorem spec_chooser_char.mono : ∀ a0 a1 a2 a3 a4 a5 k, LeO (spec_chooser_char.f k a0 a1 a2 a3 a4 a5) (spec_chooser_char.f (k + 1) a0 a1 a2 a3 a4 a5) := by
  intro a0 a1 a2 a3 a4 a5 k
  obtain ⟨ih0, ih1, ih2⟩ := spec_chooser_char.mono_l k
  unfold spec_chooser_char.f
  repeat' first
      | (with_reducible exact ih0 _ _ _ _ _ _ _)
      | (with_reducible exact ih1 _ _ _ _ _ _ _)
      | (with_reducible exact ih2 _ _ _ _ _ _ _)
      | (with_reducible exact spec_chooser_of.mono _ _ _ _ _ _)
      | (with_reducible exact LeO.refl _)
      | (with_reducible exact LeO.none _)
      | (with_reducible refine LeO.ite ?_ ?_)
      | (with_reducible refine LeO.bind ?_ (fun _ => ?_))
      | exact ih0 _ _ _ _ _ _ _
      | exact ih1 _ _ _ _ _ _ _
      | exact ih2 _ _ _ _ _ _ _
      | exact spec_chooser_of.mono _ _ _ _ _ _
      | exact LeO.none _
      | refine LeO.ite ?_ ?_
      | refine LeO.bind ?_ (fun _ => ?_)
set_option maxHeartbeats 8000000 in
set_option maxRecDepth 100000 in
theorem spec_chooser_char.calls (k : Nat) (g : Nat) (s0_0 : List Int) (s0_1 : Int) (s0_2 : List ByteArray) (s0_3 : Bool) (a1 : Int) (a2 : Bool) (r1 : ByteArray) (r2 : Int) (r3 : Bool) (w0 w : World) (hI : IsS81 w0 w g s0_0 s0_1 s0_2 s0_3) (hB : Below w0.heap.size w0 w) (h : spec_chooser_char.f k s0_0 s0_1 s0_2 s0_3 a1 a2 = some (r1, r2, r3)) :
    Calls Tryd.prog 84 #[.pointer (some ⟨g, 0, none⟩), .int .u8 a1, .bool a2] w fun e w' => e = .returned (.string r1) ∧ IsS81 w0 w' g s0_0 r2 s0_2 r3 ∧ Below w0.heap.size w0 w' ∧ KeepBut w w' g none := by
  have HI0 := Aside0.mk hI
  have HK := Aside0.mk (KeepBut.refl w g none)
  have HL := Aside0.mk hB.size
  clear hI
  have HW0 := Aside0.mk hB.size
  have HB := Aside0.mk hB
  clear hB
  have H : (if a1 > 32 then (spec_chooser_char.j0 k a1 a2 (decide (a1 < 127)) s0_0 s0_1 s0_2 s0_3) else (spec_chooser_char.j0 k a1 a2 false s0_0 s0_1 s0_2 s0_3)) = some (r1, r2, r3) := h
  clear h
  have HC4 := Aside0.mk H
  clear H
  go_enter Tryd.func84, Tryd.ntmps84
  go_upto_region 1 with (fail)
  go_cut [7] (fun v7 wc => ∃ (kq : Nat) (x7_3 : Bool), v7 = .bool x7_3 ∧ Aside0 (spec_chooser_char.j0 kq a1 a2 x7_3 s0_0 s0_1 s0_2 s0_3 = some (r1, r2, r3)) ∧ Aside0 (kq ≤ k) ∧ Aside0 (IsS81 w0 wc g s0_0 s0_1 s0_2 s0_3) ∧ Aside0 (KeepBut w wc g none) ∧ Aside0 (Below w0.heap.size w0 wc))
  case first =>
    have H := HC4.out
    clear HC4
    by_cases c5 : a1 > 32
    · rw [if_pos c5] at H
      have c5b0 : decide (32 < a1) = true := decide_eq_true c5
      clear c5
      (first | rw [c5b0] | (simp only [i64_w, i32_w]; rw [c5b0]) | skip)
      have H' := Aside0.mk H
      clear H
      go_wp2
      go_meet
      case rel => exact ⟨_, (decide (a1 < 127)), (by first | rfl | (simp; done) | (simp [*]; done) | (simp [wrap64]; done)), H', ⟨by first | omega | exact Nat.le_refl _⟩, ⟨by repeat (first | (with_reducible first | exact HI0.out | apply IsS81.alloc | apply IsS81.drewN | apply IsS81.drew | apply IsS81.set_1 | apply IsS81.set_3) | exact HI0.out)⟩, ⟨by repeat (first | (with_reducible first | exact HK.out | apply KeepBut.set_ | apply keep_drewN | apply keep_drew | apply keep_alloc) | exact HK.out)⟩, ⟨by repeat (first | (with_reducible first | exact HB.out | apply below_alloc | apply pw_below_drewN | apply below_drew1 | refine below_set ?_ (IsS81.ge HI0.out)) | exact HB.out)⟩⟩
    · rw [if_neg c5] at H
      have c5b0 : decide (32 < a1) = false := decide_eq_false c5
      clear c5
      (first | rw [c5b0] | (simp only [i64_w, i32_w]; rw [c5b0]) | skip)
      have H' := Aside0.mk H
      clear H
      go_wp2
      go_meet
      case rel => exact ⟨_, (false), (by first | rfl | (simp; done) | (simp [*]; done) | (simp [wrap64]; done)), H', ⟨by first | omega | exact Nat.le_refl _⟩, ⟨by repeat (first | (with_reducible first | exact HI0.out | apply IsS81.alloc | apply IsS81.drewN | apply IsS81.drew | apply IsS81.set_1 | apply IsS81.set_3) | exact HI0.out)⟩, ⟨by repeat (first | (with_reducible first | exact HK.out | apply KeepBut.set_ | apply keep_drewN | apply keep_drew | apply keep_alloc) | exact HK.out)⟩, ⟨by repeat (first | (with_reducible first | exact HB.out | apply below_alloc | apply pw_below_drewN | apply below_drew1 | refine below_set ?_ (IsS81.ge HI0.out)) | exact HB.out)⟩⟩
  case rest =>
    clear HC4
    try clear p2
    try clear c5
    try clear c5b0
    obtain ⟨kq, x7_3, rfl, HA, HJ3, HI0, HK, HB⟩ := hcut
    cases kq with
    | zero => exact absurd HA.out (by simp [spec_chooser_char.j0])
    | succ kj3 =>
      have H := HA.out
      clear HA
      simp only [spec_chooser_char.j0] at H
      have HC6 := Aside0.mk H
      clear H
      go_upto_region 2 with (fail)
      go_cut [14] (fun v14 wc => ∃ (kq : Nat) (x14_5 : Bool) (x1001_5 : Int) (x1003_5 : Bool), v14 = .bool x14_5 ∧ Aside0 (spec_chooser_char.j1 kq a1 a2 x14_5 s0_0 x1001_5 s0_2 x1003_5 = some (r1, r2, r3)) ∧ Aside0 (kq ≤ kj3) ∧ Aside0 (IsS81 w0 wc g s0_0 x1001_5 s0_2 x1003_5) ∧ Aside0 (KeepBut w wc g none) ∧ Aside0 (Below w0.heap.size w0 wc))
      case first =>
        have H := HC6.out
        clear HC6
        by_cases c7 : x7_3 = true
        · subst c7
          have H1 : ((spec_chooser_of.f kj3 s0_0 s0_1 s0_2 s0_3 9).bind fun bt360 => (spec_chooser_char.j1 kj3 a1 a2 (bt360.1 == 8) s0_0 bt360.2.1 s0_2 bt360.2.2)) = some (r1, r2, r3) := by rw [if_pos rfl] at H; exact H
          clear H
          have H := H1
          clear H1
          replace H := Option.bind_eq_some_iff.mp H
          obtain ⟨⟨t360, t361, t362⟩, A80, H⟩ := H
          replace H : (spec_chooser_char.j1 kj3 a1 a2 (t360 == 8) s0_0 t361 s0_2 t362) = some (r1, r2, r3) := H
          have A8 := Aside0.mk A80
          clear A80
          have H' := Aside0.mk H
          clear H
          go_wp2_with (first | (go_at_call 83; (with_reducible refine (spec_chooser_of.calls kj3 g s0_0 s0_1 s0_2 s0_3 9 t360 t361 t362 w0 _ ?side1 ?side2 A8.out).mono ?_); (case side1 => repeat (first | (with_reducible first | exact HI0.out | apply IsS81.alloc | apply IsS81.drewN | apply IsS81.drew | apply IsS81.set_1 | apply IsS81.set_3) | exact HI0.out)); (case side2 => repeat (first | (with_reducible first | exact HB.out | apply below_alloc | apply pw_below_drewN | apply below_drew1 | refine below_set ?_ (IsS81.ge HI0.out)) | exact HB.out)); rintro e w9 ⟨rfl, hi, hb, hk⟩; have n0_ := Aside0.mk (KeepBut.trans (by repeat (first | (with_reducible first | exact HK.out | apply KeepBut.set_ | apply keep_drewN | apply keep_drew | apply keep_alloc) | exact HK.out)) hk (.inl rfl)); have n1_ := Aside0.mk (hb); have n2_ := Aside0.mk (hi); clear HK; clear HB; clear HI0; have HK := n0_; have HB := n1_; have HI0 := n2_; clear n0_ n1_ n2_; (try clear hb); (try clear hb2); (try clear hk); (try clear hi)))
          go_meet
          case rel => exact ⟨_, ((t360 == 8)), (t361), (t362), (by first | rfl | (simp; done) | (simp [*]; done) | (simp [wrap64]; done)), H', ⟨by have := HJ3.out; first | omega | exact Nat.le_refl _⟩, ⟨by repeat (first | (with_reducible first | exact HI0.out | apply IsS81.alloc | apply IsS81.drewN | apply IsS81.drew | apply IsS81.set_1 | apply IsS81.set_3) | exact HI0.out)⟩, ⟨by repeat (first | (with_reducible first | exact HK.out | apply KeepBut.set_ | apply keep_drewN | apply keep_drew | apply keep_alloc) | exact HK.out)⟩, ⟨by repeat (first | (with_reducible first | exact HB.out | apply below_alloc | apply pw_below_drewN | apply below_drew1 | refine below_set ?_ (IsS81.ge HI0.out)) | exact HB.out)⟩⟩
        · replace c7 := Bool.eq_false_iff.mpr c7
          subst c7
          have H1 : (spec_chooser_char.j1 kj3 a1 a2 true s0_0 s0_1 s0_2 s0_3) = some (r1, r2, r3) := by rw [if_neg (show ¬ (false = true) by decide)] at H; exact H
          clear H
          have H := H1
          clear H1
          have H' := Aside0.mk H
          clear H
          go_wp2
          go_meet
          case rel => exact ⟨_, (true), (s0_1), (s0_3), (by first | rfl | (simp; done) | (simp [*]; done) | (simp [wrap64]; done)), H', ⟨by have := HJ3.out; first | omega | exact Nat.le_refl _⟩, ⟨by repeat (first | (with_reducible first | exact HI0.out | apply IsS81.alloc | apply IsS81.drewN | apply IsS81.drew | apply IsS81.set_1 | apply IsS81.set_3) | exact HI0.out)⟩, ⟨by repeat (first | (with_reducible first | exact HK.out | apply KeepBut.set_ | apply keep_drewN | apply keep_drew | apply keep_alloc) | exact HK.out)⟩, ⟨by repeat (first | (with_reducible first | exact HB.out | apply below_alloc | apply pw_below_drewN | apply below_drew1 | refine below_set ?_ (IsS81.ge HI0.out)) | exact HB.out)⟩⟩
      case rest =>
        clear HC6
        try clear p2
        try clear c5
        try clear c5b0
        try clear p6
        try clear c7
        try clear c8
        try clear p2
        obtain ⟨kq, x14_5, x1001_5, x1003_5, rfl, HA, HJ5, HI0, HK, HB⟩ := hcut
        cases kq with
        | zero => exact absurd HA.out (by simp [spec_chooser_char.j1])
        | succ kj5 =>
          have H := HA.out
          clear HA
          simp only [spec_chooser_char.j1] at H
          by_cases c10 : x14_5 = true
          · subst c10
            have H1 : ((spec_ddd.f a1).bind fun t363 => (some (t363, x1001_5, x1003_5))) = some (r1, r2, r3) := by rw [if_pos rfl] at H; exact H
            clear H
            have H := H1
            clear H1
            replace H := Option.bind_eq_some_iff.mp H
            obtain ⟨t363, A110, H⟩ := H
            replace H : (some (t363, x1001_5, x1003_5)) = some (r1, r2, r3) := H
            have A11 := Aside0.mk A110
            clear A110
            simp only [Option.some.injEq, Prod.mk.injEq] at H
            obtain ⟨rfl, rfl, rfl⟩ := H
            go_wp2_with (first | ((with_reducible refine gate_callee (f := 117) rfl ?_); refine goesL_ (some 23) rfl rfl Tryd.func117 (by kernel_rfl) rfl #[.int .u8 a1] rfl (by (try simp only [List.map_toArray, List.map_cons, List.map_nil]); first | done | rfl | (simp only [List.length_drop, List.length_take]; rfl)) ?_; (with_reducible refine (spec_ddd.calls a1 t363 _ A11.out).mono ?_); rintro e w12 ⟨rfl, hb⟩; refine ⟨_, rfl, ?_⟩; have n0_ := Aside0.mk (IsS81.below (by repeat (first | (with_reducible first | exact HI0.out | apply IsS81.alloc | apply IsS81.drewN | apply IsS81.drew | apply IsS81.set_1 | apply IsS81.set_3) | exact HI0.out)) hb); have n1_ := Aside0.mk (KeepBut.trans (by repeat (first | (with_reducible first | exact HK.out | apply KeepBut.set_ | apply keep_drewN | apply keep_drew | apply keep_alloc) | exact HK.out)) (KeepBut.of_below hb g none) (.inl rfl)); have n2_ := Aside0.mk (below_step (by repeat (first | (with_reducible first | exact HB.out | apply below_alloc | apply pw_below_drewN | apply below_drew1 | refine below_set ?_ (IsS81.ge HI0.out)) | exact HB.out)) hb); clear HI0; clear HK; clear HB; have HI0 := n0_; have HK := n1_; have HB := n2_; clear n0_ n1_ n2_; (try clear hb); (try clear hb2); (try clear hk); (try clear hi)))
            go_ret
            exact ⟨by first | rfl | (simp [errW_none, errW_some] <;> rfl) | (simp [*, errW_none, errW_some] <;> rfl), by repeat (first | (with_reducible first | exact HI0.out | apply IsS81.alloc | apply IsS81.drewN | apply IsS81.drew | apply IsS81.set_1 | apply IsS81.set_3) | exact HI0.out), by repeat (first | (with_reducible first | exact HB.out | apply below_alloc | apply pw_below_drewN | apply below_drew1 | refine below_set ?_ (IsS81.ge HI0.out)) | exact HB.out), by repeat (first | (with_reducible first | exact HK.out | apply KeepBut.set_ | apply keep_drewN | apply keep_drew | apply keep_alloc) | exact HK.out)⟩
          · replace c10 := Bool.eq_false_iff.mpr c10
            subst c10
            have H1 : (if a2 = true then ((spec_isDigit.f a1).bind fun t364 => (if t364 = true then (spec_chooser_char.j2 kj5 a1 a2 false s0_0 x1001_5 s0_2 x1003_5) else (spec_chooser_char.j2 kj5 a1 a2 (a1 != 35) s0_0 x1001_5 s0_2 x1003_5))) else ((spec_chooser_of.f kj5 s0_0 x1001_5 s0_2 x1003_5 12).bind fun bt365 => (if bt365.1 = 11 then ((spec_isDigit.f a1).bind fun t368 => (if t368 = true then (spec_chooser_char.j2 kj5 a1 a2 false s0_0 bt365.2.1 s0_2 bt365.2.2) else (spec_chooser_char.j2 kj5 a1 a2 (a1 != 35) s0_0 bt365.2.1 s0_2 bt365.2.2))) else (spec_chooser_char.j2 kj5 a1 a2 false s0_0 bt365.2.1 s0_2 bt365.2.2)))) = some (r1, r2, r3) := by rw [if_neg (show ¬ (false = true) by decide)] at H; exact H
            clear H
            have H := H1
            clear H1
            have HC13 := Aside0.mk H
            clear H
            go_upto_region 4 with (fail)
            go_cut [24] (fun v24 wc => ∃ (kq : Nat) (x24_12 : Bool) (x1001_12 : Int) (x1003_12 : Bool), v24 = .bool x24_12 ∧ Aside0 (spec_chooser_char.j2 kq a1 a2 x24_12 s0_0 x1001_12 s0_2 x1003_12 = some (r1, r2, r3)) ∧ Aside0 (kq ≤ kj5) ∧ Aside0 (IsS81 w0 wc g s0_0 x1001_12 s0_2 x1003_12) ∧ Aside0 (KeepBut w wc g none) ∧ Aside0 (Below w0.heap.size w0 wc))
            case first =>
              have H := HC13.out
              clear HC13
              by_cases c14 : a2 = true
              · subst c14
                have H1 : ((spec_isDigit.f a1).bind fun t364 => (if t364 = true then (spec_chooser_char.j2 kj5 a1 true false s0_0 x1001_5 s0_2 x1003_5) else (spec_chooser_char.j2 kj5 a1 true (a1 != 35) s0_0 x1001_5 s0_2 x1003_5))) = some (r1, r2, r3) := by rw [if_pos rfl] at H; exact H
                clear H
                have H := H1
                clear H1
                replace H := Option.bind_eq_some_iff.mp H
                obtain ⟨t364, A150, H⟩ := H
                replace H : (if t364 = true then (spec_chooser_char.j2 kj5 a1 true false s0_0 x1001_5 s0_2 x1003_5) else (spec_chooser_char.j2 kj5 a1 true (a1 != 35) s0_0 x1001_5 s0_2 x1003_5)) = some (r1, r2, r3) := H
                have A15 := Aside0.mk A150
                clear A150
                by_cases c16 : t364 = true
                · subst c16
                  have H1 : (spec_chooser_char.j2 kj5 a1 true false s0_0 x1001_5 s0_2 x1003_5) = some (r1, r2, r3) := by rw [if_pos rfl] at H; exact H
                  clear H
                  have H := H1
                  clear H1
                  have H' := Aside0.mk H
                  clear H
                  go_wp2_with (first | (go_at_call 76; (with_reducible refine (spec_isDigit.calls a1 true _ A15.out).mono ?_); rintro e w' ⟨rfl, ⟨nd, rfl⟩⟩))
                  go_meet
                  case rel => exact ⟨_, (false), (x1001_5), (x1003_5), (by first | rfl | (simp; done) | (simp [*]; done) | (simp [wrap64]; done)), H', ⟨by have := HJ3.out; have := HJ5.out; first | omega | exact Nat.le_refl _⟩, ⟨by repeat (first | (with_reducible first | exact HI0.out | apply IsS81.alloc | apply IsS81.drewN | apply IsS81.drew | apply IsS81.set_1 | apply IsS81.set_3) | exact HI0.out)⟩, ⟨by repeat (first | (with_reducible first | exact HK.out | apply KeepBut.set_ | apply keep_drewN | apply keep_drew | apply keep_alloc) | exact HK.out)⟩, ⟨by repeat (first | (with_reducible first | exact HB.out | apply below_alloc | apply pw_below_drewN | apply below_drew1 | refine below_set ?_ (IsS81.ge HI0.out)) | exact HB.out)⟩⟩
                · replace c16 := Bool.eq_false_iff.mpr c16
                  subst c16
                  have H1 : (spec_chooser_char.j2 kj5 a1 true (a1 != 35) s0_0 x1001_5 s0_2 x1003_5) = some (r1, r2, r3) := by rw [if_neg (show ¬ (false = true) by decide)] at H; exact H
                  clear H
                  have H := H1
                  clear H1
                  have H' := Aside0.mk H
                  clear H
                  go_wp2_with (first | (go_at_call 76; (with_reducible refine (spec_isDigit.calls a1 false _ A15.out).mono ?_); rintro e w' ⟨rfl, ⟨nd, rfl⟩⟩))
                  go_meet
                  case rel => exact ⟨_, ((a1 != 35)), (x1001_5), (x1003_5), (by first | rfl | (simp; done) | (simp [*]; done) | (simp [wrap64]; done)), H', ⟨by have := HJ3.out; have := HJ5.out; first | omega | exact Nat.le_refl _⟩, ⟨by repeat (first | (with_reducible first | exact HI0.out | apply IsS81.alloc | apply IsS81.drewN | apply IsS81.drew | apply IsS81.set_1 | apply IsS81.set_3) | exact HI0.out)⟩, ⟨by repeat (first | (with_reducible first | exact HK.out | apply KeepBut.set_ | apply keep_drewN | apply keep_drew | apply keep_alloc) | exact HK.out)⟩, ⟨by repeat (first | (with_reducible first | exact HB.out | apply below_alloc | apply pw_below_drewN | apply below_drew1 | refine below_set ?_ (IsS81.ge HI0.out)) | exact HB.out)⟩⟩
              · replace c14 := Bool.eq_false_iff.mpr c14
                subst c14
                have H1 : ((spec_chooser_of.f kj5 s0_0 x1001_5 s0_2 x1003_5 12).bind fun bt365 => (if bt365.1 = 11 then ((spec_isDigit.f a1).bind fun t368 => (if t368 = true then (spec_chooser_char.j2 kj5 a1 false false s0_0 bt365.2.1 s0_2 bt365.2.2) else (spec_chooser_char.j2 kj5 a1 false (a1 != 35) s0_0 bt365.2.1 s0_2 bt365.2.2))) else (spec_chooser_char.j2 kj5 a1 false false s0_0 bt365.2.1 s0_2 bt365.2.2))) = some (r1, r2, r3) := by rw [if_neg (show ¬ (false = true) by decide)] at H; exact H
                clear H
                have H := H1
                clear H1
                replace H := Option.bind_eq_some_iff.mp H
                obtain ⟨⟨t365, t366, t367⟩, A170, H⟩ := H
                replace H : (if t365 = 11 then ((spec_isDigit.f a1).bind fun t368 => (if t368 = true then (spec_chooser_char.j2 kj5 a1 false false s0_0 t366 s0_2 t367) else (spec_chooser_char.j2 kj5 a1 false (a1 != 35) s0_0 t366 s0_2 t367))) else (spec_chooser_char.j2 kj5 a1 false false s0_0 t366 s0_2 t367)) = some (r1, r2, r3) := H
                have A17 := Aside0.mk A170
                clear A170
                by_cases c18 : t365 = 11
                · rw [if_pos c18] at H
                  have c18b0 : (t365 == 11) = true := beq_iff_eq.mpr c18
                  have c18b1 : (t365 != 11) = false := bne_eq_false_iff_eq.mpr c18
                  clear c18
                  (first | rw [c18b0] | (simp only [i64_w, i32_w]; rw [c18b0]) | skip)
                  replace H := Option.bind_eq_some_iff.mp H
                  obtain ⟨t368, A190, H⟩ := H
                  replace H : (if t368 = true then (spec_chooser_char.j2 kj5 a1 false false s0_0 t366 s0_2 t367) else (spec_chooser_char.j2 kj5 a1 false (a1 != 35) s0_0 t366 s0_2 t367)) = some (r1, r2, r3) := H
                  have A19 := Aside0.mk A190
                  clear A190
                  by_cases c20 : t368 = true
                  · subst c20
                    have H1 : (spec_chooser_char.j2 kj5 a1 false false s0_0 t366 s0_2 t367) = some (r1, r2, r3) := by rw [if_pos rfl] at H; exact H
                    clear H
                    have H := H1
                    clear H1
                    have H' := Aside0.mk H
                    clear H
                    go_wp2_with (first | (go_at_call 83; (with_reducible refine (spec_chooser_of.calls kj5 g s0_0 x1001_5 s0_2 x1003_5 12 t365 t366 t367 w0 _ ?side1 ?side2 A17.out).mono ?_); (case side1 => repeat (first | (with_reducible first | exact HI0.out | apply IsS81.alloc | apply IsS81.drewN | apply IsS81.drew | apply IsS81.set_1 | apply IsS81.set_3) | exact HI0.out)); (case side2 => repeat (first | (with_reducible first | exact HB.out | apply below_alloc | apply pw_below_drewN | apply below_drew1 | refine below_set ?_ (IsS81.ge HI0.out)) | exact HB.out)); rintro e w21 ⟨rfl, hi, hb, hk⟩; have n0_ := Aside0.mk (KeepBut.trans (by repeat (first | (with_reducible first | exact HK.out | apply KeepBut.set_ | apply keep_drewN | apply keep_drew | apply keep_alloc) | exact HK.out)) hk (.inl rfl)); have n1_ := Aside0.mk (hb); have n2_ := Aside0.mk (hi); clear HK; clear HB; clear HI0; have HK := n0_; have HB := n1_; have HI0 := n2_; clear n0_ n1_ n2_; (try clear hb); (try clear hb2); (try clear hk); (try clear hi)) | (go_at_call 76; (with_reducible refine (spec_isDigit.calls a1 true _ A19.out).mono ?_); rintro e w' ⟨rfl, ⟨nd, rfl⟩⟩))
                    go_meet
                    case rel => exact ⟨_, (false), (t366), (t367), (by first | rfl | (simp; done) | (simp [*]; done) | (simp [wrap64]; done)), H', ⟨by have := HJ3.out; have := HJ5.out; first | omega | exact Nat.le_refl _⟩, ⟨by repeat (first | (with_reducible first | exact HI0.out | apply IsS81.alloc | apply IsS81.drewN | apply IsS81.drew | apply IsS81.set_1 | apply IsS81.set_3) | exact HI0.out)⟩, ⟨by repeat (first | (with_reducible first | exact HK.out | apply KeepBut.set_ | apply keep_drewN | apply keep_drew | apply keep_alloc) | exact HK.out)⟩, ⟨by repeat (first | (with_reducible first | exact HB.out | apply below_alloc | apply pw_below_drewN | apply below_drew1 | refine below_set ?_ (IsS81.ge HI0.out)) | exact HB.out)⟩⟩
                  · replace c20 := Bool.eq_false_iff.mpr c20
                    subst c20
                    have H1 : (spec_chooser_char.j2 kj5 a1 false (a1 != 35) s0_0 t366 s0_2 t367) = some (r1, r2, r3) := by rw [if_neg (show ¬ (false = true) by decide)] at H; exact H
                    clear H
                    have H := H1
                    clear H1
                    have H' := Aside0.mk H
                    clear H
                    go_wp2_with (first | (go_at_call 83; (with_reducible refine (spec_chooser_of.calls kj5 g s0_0 x1001_5 s0_2 x1003_5 12 t365 t366 t367 w0 _ ?side1 ?side2 A17.out).mono ?_); (case side1 => repeat (first | (with_reducible first | exact HI0.out | apply IsS81.alloc | apply IsS81.drewN | apply IsS81.drew | apply IsS81.set_1 | apply IsS81.set_3) | exact HI0.out)); (case side2 => repeat (first | (with_reducible first | exact HB.out | apply below_alloc | apply pw_below_drewN | apply below_drew1 | refine below_set ?_ (IsS81.ge HI0.out)) | exact HB.out)); rintro e w22 ⟨rfl, hi, hb, hk⟩; have n0_ := Aside0.mk (KeepBut.trans (by repeat (first | (with_reducible first | exact HK.out | apply KeepBut.set_ | apply keep_drewN | apply keep_drew | apply keep_alloc) | exact HK.out)) hk (.inl rfl)); have n1_ := Aside0.mk (hb); have n2_ := Aside0.mk (hi); clear HK; clear HB; clear HI0; have HK := n0_; have HB := n1_; have HI0 := n2_; clear n0_ n1_ n2_; (try clear hb); (try clear hb2); (try clear hk); (try clear hi)) | (go_at_call 76; (with_reducible refine (spec_isDigit.calls a1 false _ A19.out).mono ?_); rintro e w' ⟨rfl, ⟨nd, rfl⟩⟩))
                    go_meet
                    case rel => exact ⟨_, ((a1 != 35)), (t366), (t367), (by first | rfl | (simp; done) | (simp [*]; done) | (simp [wrap64]; done)), H', ⟨by have := HJ3.out; have := HJ5.out; first | omega | exact Nat.le_refl _⟩, ⟨by repeat (first | (with_reducible first | exact HI0.out | apply IsS81.alloc | apply IsS81.drewN | apply IsS81.drew | apply IsS81.set_1 | apply IsS81.set_3) | exact HI0.out)⟩, ⟨by repeat (first | (with_reducible first | exact HK.out | apply KeepBut.set_ | apply keep_drewN | apply keep_drew | apply keep_alloc) | exact HK.out)⟩, ⟨by repeat (first | (with_reducible first | exact HB.out | apply below_alloc | apply pw_below_drewN | apply below_drew1 | refine below_set ?_ (IsS81.ge HI0.out)) | exact HB.out)⟩⟩
                · rw [if_neg c18] at H
                  have c18b0 : (t365 == 11) = false := beq_eq_false_iff_ne.mpr c18
                  have c18b1 : (t365 != 11) = true := bne_iff_ne.mpr c18
                  (first | rw [c18b0] | (simp only [i64_w, i32_w]; rw [c18b0]) | skip)
                  have H' := Aside0.mk H
                  clear H
                  go_wp2_with (first | (go_at_call 83; (with_reducible refine (spec_chooser_of.calls kj5 g s0_0 x1001_5 s0_2 x1003_5 12 t365 t366 t367 w0 _ ?side1 ?side2 A17.out).mono ?_); (case side1 => repeat (first | (with_reducible first | exact HI0.out | apply IsS81.alloc | apply IsS81.drewN | apply IsS81.drew | apply IsS81.set_1 | apply IsS81.set_3) | exact HI0.out)); (case side2 => repeat (first | (with_reducible first | exact HB.out | apply below_alloc | apply pw_below_drewN | apply below_drew1 | refine below_set ?_ (IsS81.ge HI0.out)) | exact HB.out)); rintro e w23 ⟨rfl, hi, hb, hk⟩; have n0_ := Aside0.mk (KeepBut.trans (by repeat (first | (with_reducible first | exact HK.out | apply KeepBut.set_ | apply keep_drewN | apply keep_drew | apply keep_alloc) | exact HK.out)) hk (.inl rfl)); have n1_ := Aside0.mk (hb); have n2_ := Aside0.mk (hi); clear HK; clear HB; clear HI0; have HK := n0_; have HB := n1_; have HI0 := n2_; clear n0_ n1_ n2_; (try clear hb); (try clear hb2); (try clear hk); (try clear hi)))
                  go_meet
                  case rel => exact ⟨_, (false), (t366), (t367), (by first | rfl | (simp; done) | (simp [*]; done) | (simp [wrap64]; done)), H', ⟨by have := HJ3.out; have := HJ5.out; first | omega | exact Nat.le_refl _⟩, ⟨by repeat (first | (with_reducible first | exact HI0.out | apply IsS81.alloc | apply IsS81.drewN | apply IsS81.drew | apply IsS81.set_1 | apply IsS81.set_3) | exact HI0.out)⟩, ⟨by repeat (first | (with_reducible first | exact HK.out | apply KeepBut.set_ | apply keep_drewN | apply keep_drew | apply keep_alloc) | exact HK.out)⟩, ⟨by repeat (first | (with_reducible first | exact HB.out | apply below_alloc | apply pw_below_drewN | apply below_drew1 | refine below_set ?_ (IsS81.ge HI0.out)) | exact HB.out)⟩⟩
            case rest =>
              clear HC13
              try clear c1
              try clear c2
              try clear p2
              try clear c5
              try clear c5b0
              try clear p6
              try clear c7
              try clear c8
              try clear c10
              try clear c11
              try clear c14
              try clear c16
              try clear c18
              try clear c18b0
              try clear c18b1
              try clear c20
              try clear p2
              try clear p6
              obtain ⟨kq, x24_12, x1001_12, x1003_12, rfl, HA, HJ12, HI0, HK, HB⟩ := hcut
              cases kq with
              | zero => exact absurd HA.out (by simp [spec_chooser_char.j2])
              | succ kj12 =>
                have H := HA.out
                clear HA
                simp only [spec_chooser_char.j2] at H
                by_cases c24 : x24_12 = true
                · subst c24
                  have H1 : ((some (([a1] : List Int) : List Int)).bind fun y369 => (if 1 + (strOfNums y369).size ≤ 9223372036854775807 then (some ((⟨#[92]⟩ : ByteArray) ++ (strOfNums y369), x1001_12, x1003_12)) else (none))) = some (r1, r2, r3) := by rw [if_pos rfl] at H; exact H
                  clear H
                  have H := H1
                  clear H1
                  obtain ⟨y369, hy369⟩ : ∃ y_ : List Int, y_ = (([a1] : List Int)) := ⟨_, rfl⟩
                  replace H : (if 1 + (strOfNums y369).size ≤ 9223372036854775807 then (some ((⟨#[92]⟩ : ByteArray) ++ (strOfNums y369), x1001_12, x1003_12)) else (none)) = some (r1, r2, r3) := by first | (rw [hy369]; with_reducible exact H) | (have H2_ := (Option.bind_some _ _).symm.trans H; rw [hy369]; with_reducible exact H2_) | (have H2_ := (Option.bind_some _ _).symm.trans H; with_reducible exact H2_) | with_reducible exact H | (rw [hy369]; exact H) | exact H
                  have Ny369 := Aside0.mk hy369
                  clear hy369
                  by_cases c25 : 1 + (strOfNums y369).size ≤ 9223372036854775807
                  · rw [if_pos c25] at H
                    have c25b0 := eq_true c25
                    have c25b1 : decide (1 + (strOfNums y369).size ≤ 9223372036854775807) = true := decide_eq_true c25
                    try have c25b2 : (9223372036854775807 < 1 + (strOfNums y369).size) = False := eq_false (Nat.not_lt.2 c25)
                    simp only [Option.some.injEq, Prod.mk.injEq] at H
                    obtain ⟨rfl, rfl, rfl⟩ := H
                    go_wp2_with (first | ((with_reducible refine gate_dst (N := 41) rfl ?_); refine Kd.R_lit (Kd.int .u8) _ 5 ?hg (N := 41) ?hd (xs := ([a1] : List Int)) (inner := [.int .u8 a1]) (ok := fun _ => True) (okp := fun _ => True) ?hr ?hp (fun _ hk => hk) trivial (Below.refl _ _) (Nat.le_refl _) (by simp) ?_; (case hd => rfl); (case hg => rfl); (case hr => first | (go_simp; done) | (go_simp; rfl)); (case hp => exact (Reps.one (show Kd.M (Kd.int .u8) _ _ _ a1 [.int .u8 a1] from rfl) (Reps.none _ _))); intro v370 w26 ho27 hb hg_ hnew_; clear hg_ hnew_; (first | rw [← Ny369.out] at ho27 | (simp only [Int.reduceToNat] at ho27; rw [← Ny369.out] at ho27)); have n0_ := Aside0.mk (Kd.R_lower ho27 (keep_size (w := w) (g := g) (row := none) (by repeat (first | (with_reducible first | exact HK.out | apply KeepBut.set_ | apply keep_drewN | apply keep_drew | apply keep_alloc) | exact HK.out)))); have n1_ := Aside0.mk (IsS81.below (by repeat (first | (with_reducible first | exact HI0.out | apply IsS81.alloc | apply IsS81.drewN | apply IsS81.drew | apply IsS81.set_1 | apply IsS81.set_3) | exact HI0.out)) hb); have n2_ := Aside0.mk (KeepBut.trans (by repeat (first | (with_reducible first | exact HK.out | apply KeepBut.set_ | apply keep_drewN | apply keep_drew | apply keep_alloc) | exact HK.out)) (KeepBut.of_below hb g none) (.inl rfl)); have n3_ := Aside0.mk (below_step (by repeat (first | (with_reducible first | exact HB.out | apply below_alloc | apply pw_below_drewN | apply below_drew1 | refine below_set ?_ (IsS81.ge HI0.out)) | exact HB.out)) hb); clear HI0; clear HK; clear HB; have HO371 := n0_; have HI0 := n1_; have HK := n2_; have HB := n3_; clear n0_ n1_ n2_ n3_; clear hb ho27; have hcv28 := own_string (P := Tryd.prog) Tryd.underlying22 Tryd.underlying5 Tryd.underlying9 (Kd.own_of_R HO371.out)))
                    go_ret
                    exact ⟨by first | rfl | (simp [errW_none, errW_some] <;> rfl) | (simp [*, errW_none, errW_some] <;> rfl), by repeat (first | (with_reducible first | exact HI0.out | apply IsS81.alloc | apply IsS81.drewN | apply IsS81.drew | apply IsS81.set_1 | apply IsS81.set_3) | exact HI0.out), by repeat (first | (with_reducible first | exact HB.out | apply below_alloc | apply pw_below_drewN | apply below_drew1 | refine below_set ?_ (IsS81.ge HI0.out)) | exact HB.out), by repeat (first | (with_reducible first | exact HK.out | apply KeepBut.set_ | apply keep_drewN | apply keep_drew | apply keep_alloc) | exact HK.out)⟩
                  · rw [if_neg c25] at H
                    exact absurd H (by simp)
                · replace c24 := Bool.eq_false_iff.mpr c24
                  subst c24
                  have H1 : (if a2 = true then ((spec_ddd.f a1).bind fun t372 => (some (t372, x1001_12, x1003_12))) else (some (strOfNums (([a1] : List Int)), x1001_12, x1003_12))) = some (r1, r2, r3) := by rw [if_neg (show ¬ (false = true) by decide)] at H; exact H
                  clear H
                  have H := H1
                  clear H1
                  by_cases c29 : a2 = true
                  · subst c29
                    have H1 : ((spec_ddd.f a1).bind fun t372 => (some (t372, x1001_12, x1003_12))) = some (r1, r2, r3) := by rw [if_pos rfl] at H; exact H
                    clear H
                    have H := H1
                    clear H1
                    replace H := Option.bind_eq_some_iff.mp H
                    obtain ⟨t372, A300, H⟩ := H
                    replace H : (some (t372, x1001_12, x1003_12)) = some (r1, r2, r3) := H
                    have A30 := Aside0.mk A300
                    clear A300
                    simp only [Option.some.injEq, Prod.mk.injEq] at H
                    obtain ⟨rfl, rfl, rfl⟩ := H
                    go_wp2_with (first | ((with_reducible refine gate_callee (f := 117) rfl ?_); refine goesL_ (some 47) rfl rfl Tryd.func117 (by kernel_rfl) rfl #[.int .u8 a1] rfl (by (try simp only [List.map_toArray, List.map_cons, List.map_nil]); first | done | rfl | (simp only [List.length_drop, List.length_take]; rfl)) ?_; (with_reducible refine (spec_ddd.calls a1 t372 _ A30.out).mono ?_); rintro e w31 ⟨rfl, hb⟩; refine ⟨_, rfl, ?_⟩; have n0_ := Aside0.mk (IsS81.below (by repeat (first | (with_reducible first | exact HI0.out | apply IsS81.alloc | apply IsS81.drewN | apply IsS81.drew | apply IsS81.set_1 | apply IsS81.set_3) | exact HI0.out)) hb); have n1_ := Aside0.mk (KeepBut.trans (by repeat (first | (with_reducible first | exact HK.out | apply KeepBut.set_ | apply keep_drewN | apply keep_drew | apply keep_alloc) | exact HK.out)) (KeepBut.of_below hb g none) (.inl rfl)); have n2_ := Aside0.mk (below_step (by repeat (first | (with_reducible first | exact HB.out | apply below_alloc | apply pw_below_drewN | apply below_drew1 | refine below_set ?_ (IsS81.ge HI0.out)) | exact HB.out)) hb); clear HI0; clear HK; clear HB; have HI0 := n0_; have HK := n1_; have HB := n2_; clear n0_ n1_ n2_; (try clear hb); (try clear hb2); (try clear hk); (try clear hi)))
                    go_ret
                    exact ⟨by first | rfl | (simp [errW_none, errW_some] <;> rfl) | (simp [*, errW_none, errW_some] <;> rfl), by repeat (first | (with_reducible first | exact HI0.out | apply IsS81.alloc | apply IsS81.drewN | apply IsS81.drew | apply IsS81.set_1 | apply IsS81.set_3) | exact HI0.out), by repeat (first | (with_reducible first | exact HB.out | apply below_alloc | apply pw_below_drewN | apply below_drew1 | refine below_set ?_ (IsS81.ge HI0.out)) | exact HB.out), by repeat (first | (with_reducible first | exact HK.out | apply KeepBut.set_ | apply keep_drewN | apply keep_drew | apply keep_alloc) | exact HK.out)⟩
                  · replace c29 := Bool.eq_false_iff.mpr c29
                    subst c29
                    have H1 : (some (strOfNums (([a1] : List Int)), x1001_12, x1003_12)) = some (r1, r2, r3) := by rw [if_neg (show ¬ (false = true) by decide)] at H; exact H
                    clear H
                    have H := H1
                    clear H1
                    obtain ⟨y373, hy373⟩ : ∃ y_ : List Int, y_ = (([a1] : List Int)) := ⟨_, rfl⟩
                    replace H : (some (strOfNums y373, x1001_12, x1003_12)) = some (r1, r2, r3) := by first | (rw [hy373]; with_reducible exact H) | (have H2_ := (Option.bind_some _ _).symm.trans H; rw [hy373]; with_reducible exact H2_) | (have H2_ := (Option.bind_some _ _).symm.trans H; with_reducible exact H2_) | with_reducible exact H | (rw [hy373]; exact H) | exact H
                    have Ny373 := Aside0.mk hy373
                    clear hy373
                    simp only [Option.some.injEq, Prod.mk.injEq] at H
                    obtain ⟨rfl, rfl, rfl⟩ := H
                    go_wp2_with (first | ((with_reducible refine gate_dst (N := 49) rfl ?_); refine Kd.R_lit (Kd.int .u8) _ 5 ?hg (N := 49) ?hd (xs := ([a1] : List Int)) (inner := [.int .u8 a1]) (ok := fun _ => True) (okp := fun _ => True) ?hr ?hp (fun _ hk => hk) trivial (Below.refl _ _) (Nat.le_refl _) (by simp) ?_; (case hd => rfl); (case hg => rfl); (case hr => first | (go_simp; done) | (go_simp; rfl)); (case hp => exact (Reps.one (show Kd.M (Kd.int .u8) _ _ _ a1 [.int .u8 a1] from rfl) (Reps.none _ _))); intro v374 w32 ho33 hb hg_ hnew_; clear hg_ hnew_; (first | rw [← Ny373.out] at ho33 | (simp only [Int.reduceToNat] at ho33; rw [← Ny373.out] at ho33)); have n0_ := Aside0.mk (Kd.R_lower ho33 (keep_size (w := w) (g := g) (row := none) (by repeat (first | (with_reducible first | exact HK.out | apply KeepBut.set_ | apply keep_drewN | apply keep_drew | apply keep_alloc) | exact HK.out)))); have n1_ := Aside0.mk (IsS81.below (by repeat (first | (with_reducible first | exact HI0.out | apply IsS81.alloc | apply IsS81.drewN | apply IsS81.drew | apply IsS81.set_1 | apply IsS81.set_3) | exact HI0.out)) hb); have n2_ := Aside0.mk (KeepBut.trans (by repeat (first | (with_reducible first | exact HK.out | apply KeepBut.set_ | apply keep_drewN | apply keep_drew | apply keep_alloc) | exact HK.out)) (KeepBut.of_below hb g none) (.inl rfl)); have n3_ := Aside0.mk (below_step (by repeat (first | (with_reducible first | exact HB.out | apply below_alloc | apply pw_below_drewN | apply below_drew1 | refine below_set ?_ (IsS81.ge HI0.out)) | exact HB.out)) hb); clear HI0; clear HK; clear HB; have HO375 := n0_; have HI0 := n1_; have HK := n2_; have HB := n3_; clear n0_ n1_ n2_ n3_; clear hb ho33; have hcv34 := own_string (P := Tryd.prog) Tryd.underlying22 Tryd.underlying5 Tryd.underlying9 (Kd.own_of_R HO375.out)))
                    go_ret
                    exact ⟨by first | rfl | (simp [errW_none, errW_some] <;> rfl) | (simp [*, errW_none, errW_some] <;> rfl), by repeat (first | (with_reducible first | exact HI0.out | apply IsS81.alloc | apply IsS81.drewN | apply IsS81.drew | apply IsS81.set_1 | apply IsS81.set_3) | exact HI0.out), by repeat (first | (with_reducible first | exact HB.out | apply below_alloc | apply pw_below_drewN | apply below_drew1 | refine below_set ?_ (IsS81.ge HI0.out)) | exact HB.out), by repeat (first | (with_reducible first | exact HK.out | apply KeepBut.set_ | apply keep_drewN | apply keep_drew | apply keep_alloc) | exact HK.out)⟩

end Go.Proofs.YtiilihafcdmccaaDoor.P
-- Written by a program of this session (wip/tools/pprint.py) out of the translation: it goes by the kit's print and by the contracts of YtiilihafcdmccaaDoorHand. Not trusted: Lean checks it.
namespace Go.Proofs.YtiilihafcdmccaaDoor.P
open Go.RowKit Go.Proofs.YtiilihafcdmccaaDoorW.PrintWords Go.Proofs.YtiilihafcdmccaaDoorW.PrintLast Go.Proofs.YtiilihafcdmccaaDoorW.PrintMore
attribute [local go_sem] max2_int min2_int max_two min_two max_three min_three max_four min_four   -- for this text's walks alone
set_option linter.unusedVariables false
set_option linter.unusedSimpArgs false

/-! ### spec_special: function 85 -/
def spec_special.f (a0 : Int) : Option (Bool) := if a0 = 46 then (some true) else (if a0 = 40 then (some true) else (if a0 = 41 then (some true) else (if a0 = 59 then (some true) else (if a0 = 64 then (some true) else (if a0 = 34 then (some true) else (if a0 = 92 then (some true) else (if a0 = 36 then (some true) else (some false))))))))
set_option maxHeartbeats 8000000 in
set_option maxRecDepth 100000 in
theorem spec_special.calls (a0 : Int) (r : Bool) (w : World) (h : spec_special.f a0 = some r) :
    Calls Tryd.prog 85 #[.int .u8 a0] w fun e w' => e = .returned (.bool r) ∧ Drawn0 w w' := by
  have H : (if a0 = 46 then (some true) else (if a0 = 40 then (some true) else (if a0 = 41 then (some true) else (if a0 = 59 then (some true) else (if a0 = 64 then (some true) else (if a0 = 34 then (some true) else (if a0 = 92 then (some true) else (if a0 = 36 then (some true) else (some false))))))))) = some r := h
  clear h
  by_cases c2 : a0 = 46
  · rw [if_pos c2] at H
    have c2b0 : (a0 == 46) = true := beq_iff_eq.mpr c2
    have c2b1 : (a0 != 46) = false := bne_eq_false_iff_eq.mpr c2
    clear c2
    obtain rfl := Option.some.inj H
    go_enter Tryd.func85, Tryd.ntmps85
    go_wp2
    go_ret
    exact ⟨by first | rfl | (simp; done) | (simp [*]; done) | (simp [wrap64]; done), by repeat (first | exact Drawn0.refl _ | apply Drawn0.step)⟩
  · rw [if_neg c2] at H
    have c2b0 : (a0 == 46) = false := beq_eq_false_iff_ne.mpr c2
    have c2b1 : (a0 != 46) = true := bne_iff_ne.mpr c2
    by_cases c3 : a0 = 40
    · rw [if_pos c3] at H
      have c3b0 : (a0 == 40) = true := beq_iff_eq.mpr c3
      have c3b1 : (a0 != 40) = false := bne_eq_false_iff_eq.mpr c3
      clear c3
      obtain rfl := Option.some.inj H
      go_enter Tryd.func85, Tryd.ntmps85
      go_wp2
      go_ret
      exact ⟨by first | rfl | (simp; done) | (simp [*]; done) | (simp [wrap64]; done), by repeat (first | exact Drawn0.refl _ | apply Drawn0.step)⟩
    · rw [if_neg c3] at H
      have c3b0 : (a0 == 40) = false := beq_eq_false_iff_ne.mpr c3
      have c3b1 : (a0 != 40) = true := bne_iff_ne.mpr c3
      by_cases c4 : a0 = 41
      · rw [if_pos c4] at H
        have c4b0 : (a0 == 41) = true := beq_iff_eq.mpr c4
        have c4b1 : (a0 != 41) = false := bne_eq_false_iff_eq.mpr c4
        clear c4
        obtain rfl := Option.some.inj H
        go_enter Tryd.func85, Tryd.ntmps85
        go_wp2
        go_ret
        exact ⟨by first | rfl | (simp; done) | (simp [*]; done) | (simp [wrap64]; done), by repeat (first | exact Drawn0.refl _ | apply Drawn0.step)⟩
      · rw [if_neg c4] at H
        have c4b0 : (a0 == 41) = false := beq_eq_false_iff_ne.mpr c4
        have c4b1 : (a0 != 41) = true := bne_iff_ne.mpr c4
        by_cases c5 : a0 = 59
        · rw [if_pos c5] at H
          have c5b0 : (a0 == 59) = true := beq_iff_eq.mpr c5
          have c5b1 : (a0 != 59) = false := bne_eq_false_iff_eq.mpr c5
          clear c5
          obtain rfl := Option.some.inj H
          go_enter Tryd.func85, Tryd.ntmps85
          go_wp2
          go_ret
          exact ⟨by first | rfl | (simp; done) | (simp [*]; done) | (simp [wrap64]; done), by repeat (first | exact Drawn0.refl _ | apply Drawn0.step)⟩
        · rw [if_neg c5] at H
          have c5b0 : (a0 == 59) = false := beq_eq_false_iff_ne.mpr c5
          have c5b1 : (a0 != 59) = true := bne_iff_ne.mpr c5
          by_cases c6 : a0 = 64
          · rw [if_pos c6] at H
            have c6b0 : (a0 == 64) = true := beq_iff_eq.mpr c6
            have c6b1 : (a0 != 64) = false := bne_eq_false_iff_eq.mpr c6
            clear c6
            obtain rfl := Option.some.inj H
            go_enter Tryd.func85, Tryd.ntmps85
            go_wp2
            go_ret
            exact ⟨by first | rfl | (simp; done) | (simp [*]; done) | (simp [wrap64]; done), by repeat (first | exact Drawn0.refl _ | apply Drawn0.step)⟩
          · rw [if_neg c6] at H
            have c6b0 : (a0 == 64) = false := beq_eq_false_iff_ne.mpr c6
            have c6b1 : (a0 != 64) = true := bne_iff_ne.mpr c6
            by_cases c7 : a0 = 34
            · rw [if_pos c7] at H
              have c7b0 : (a0 == 34) = true := beq_iff_eq.mpr c7
              have c7b1 : (a0 != 34) = false := bne_eq_false_iff_eq.mpr c7
              clear c7
              obtain rfl := Option.some.inj H
              go_enter Tryd.func85, Tryd.ntmps85
              go_wp2
              go_ret
              exact ⟨by first | rfl | (simp; done) | (simp [*]; done) | (simp [wrap64]; done), by repeat (first | exact Drawn0.refl _ | apply Drawn0.step)⟩
            · rw [if_neg c7] at H
              have c7b0 : (a0 == 34) = false := beq_eq_false_iff_ne.mpr c7
              have c7b1 : (a0 != 34) = true := bne_iff_ne.mpr c7
              by_cases c8 : a0 = 92
              · rw [if_pos c8] at H
                have c8b0 : (a0 == 92) = true := beq_iff_eq.mpr c8
                have c8b1 : (a0 != 92) = false := bne_eq_false_iff_eq.mpr c8
                clear c8
                obtain rfl := Option.some.inj H
                go_enter Tryd.func85, Tryd.ntmps85
                go_wp2
                go_ret
                exact ⟨by first | rfl | (simp; done) | (simp [*]; done) | (simp [wrap64]; done), by repeat (first | exact Drawn0.refl _ | apply Drawn0.step)⟩
              · rw [if_neg c8] at H
                have c8b0 : (a0 == 92) = false := beq_eq_false_iff_ne.mpr c8
                have c8b1 : (a0 != 92) = true := bne_iff_ne.mpr c8
                by_cases c9 : a0 = 36
                · rw [if_pos c9] at H
                  have c9b0 : (a0 == 36) = true := beq_iff_eq.mpr c9
                  have c9b1 : (a0 != 36) = false := bne_eq_false_iff_eq.mpr c9
                  clear c9
                  obtain rfl := Option.some.inj H
                  go_enter Tryd.func85, Tryd.ntmps85
                  go_wp2
                  go_ret
                  exact ⟨by first | rfl | (simp; done) | (simp [*]; done) | (simp [wrap64]; done), by repeat (first | exact Drawn0.refl _ | apply Drawn0.step)⟩
                · rw [if_neg c9] at H
                  have c9b0 : (a0 == 36) = false := beq_eq_false_iff_ne.mpr c9
                  have c9b1 : (a0 != 36) = true := bne_iff_ne.mpr c9
                  obtain rfl := Option.some.inj H
                  go_enter Tryd.func85, Tryd.ntmps85
                  go_wp2
                  go_ret
                  exact ⟨by first | rfl | (simp; done) | (simp [*]; done) | (simp [wrap64]; done), by repeat (first | exact Drawn0.refl _ | apply Drawn0.step)⟩

end Go.Proofs.YtiilihafcdmccaaDoor.P
-- Written by a program of this session (wip/tools/pprint.py) out of the translation: it goes by the kit's print and by the contracts of YtiilihafcdmccaaDoorHand. Not trusted: Lean checks it.
namespace Go.Proofs.YtiilihafcdmccaaDoor.P
open Go.RowKit Go.Proofs.YtiilihafcdmccaaDoorW.PrintWords Go.Proofs.YtiilihafcdmccaaDoorW.PrintLast Go.Proofs.YtiilihafcdmccaaDoorW.PrintMore
attribute [local go_sem] max2_int min2_int max_two min_two max_three min_three max_four min_four   -- for this text's walks alone
set_option linter.unusedVariables false
set_option linter.unusedSimpArgs false

/-! ### spec_chooser_name: function 62 -/
mutual
def spec_chooser_name.l0 : Nat → Bool → ByteArray → List ByteArray → Int → Int → List Int → Int → List ByteArray → Bool → Option (ByteArray × Int × Bool)
  | 0, _, _, _, _, _, _, _, _, _ => none
  | k + 1, x6, x8, x51, x52, x53, x1000, x1001, x1002, x1003 => if x53 < x52 then (if 0 ≤ x53 then (if x53 < (x51.length : Int) then (spec_chooser_name.l1 k x6 x8 (rdOf ByteArray.empty x51 x53) x51 x52 x53 ((rdOf ByteArray.empty x51 x53).size : Int) 0 x1000 x1001 x1002 x1003) else (none)) else (none)) else (if x6 = true then (if 0 ≤ (wrap64 ((x8.size : Int) - 1)) then (if (wrap64 ((x8.size : Int) - 1)) ≤ (x8.size : Int) then (some (x8.extract 0 ((wrap64 ((x8.size : Int) - 1)) : Int).toNat, x1001, x1003)) else (none)) else (none)) else (some (x8, x1001, x1003)))
def spec_chooser_name.l1 : Nat → Bool → ByteArray → ByteArray → List ByteArray → Int → Int → Int → Int → List Int → Int → List ByteArray → Bool → Option (ByteArray × Int × Bool)
  | 0, _, _, _, _, _, _, _, _, _, _, _, _ => none
  | k + 1, x6, x8, x10, x51, x52, x53, x58, x59, x1000, x1001, x1002, x1003 => if x59 < x58 then (if 0 ≤ x59 then (if x59 < (x10.size : Int) then ((spec_special.f (bt x10 x59)).bind fun t377 => ((spec_chooser_char.f k x1000 x1001 x1002 x1003 (bt x10 x59) t377).bind fun bt378 => (if x8.size + bt378.1.size ≤ 9223372036854775807 then (spec_chooser_name.l1 k x6 (x8 ++ bt378.1) x10 x51 x52 x53 x58 (wrap64 (x59 + 1)) x1000 bt378.2.1 x1002 bt378.2.2) else (none)))) else (none)) else (none)) else (if x8.size + 1 ≤ 9223372036854775807 then (spec_chooser_name.l0 k x6 (x8 ++ (⟨#[46]⟩ : ByteArray)) x51 x52 (wrap64 (x53 + 1)) x1000 x1001 x1002 x1003) else (none))
end
def spec_chooser_name.f (k : Nat) (s0_0 : List Int) (s0_1 : Int) (s0_2 : List ByteArray) (s0_3 : Bool) (l1 : List ByteArray) : Option (ByteArray × Int × Bool) := if (l1.length : Int) = 0 then (some ((⟨#[46]⟩ : ByteArray), s0_1, s0_3)) else (spec_chooser_name.l0 k false (⟨#[]⟩ : ByteArray) l1 (l1.length : Int) 0 s0_0 s0_1 s0_2 s0_3)
theorem spec_chooser_name.mono_l : ∀ k, (∀ y0 y1 y2 y3 y4 y5 y6 y7 y8, LeO (spec_chooser_name.l0 k y0 y1 y2 y3 y4 y5 y6 y7 y8) (spec_chooser_name.l0 (k + 1) y0 y1 y2 y3 y4 y5 y6 y7 y8)) ∧ (∀ y0 y1 y2 y3 y4 y5 y6 y7 y8 y9 y10 y11, LeO (spec_chooser_name.l1 k y0 y1 y2 y3 y4 y5 y6 y7 y8 y9 y10 y11) (spec_chooser_name.l1 (k + 1) y0 y1 y2 y3 y4 y5 y6 y7 y8 y9 y10 y11))
  | 0 => ⟨fun _ _ _ _ _ _ _ _ _ r h => by simp [spec_chooser_name.l0] at h, fun _ _ _ _ _ _ _ _ _ _ _ _ r h => by simp [spec_chooser_name.l1] at h⟩
  | k + 1 => by
    obtain ⟨ih0, ih1⟩ := spec_chooser_name.mono_l k
    refine ⟨?_, ?_⟩
    · intro y0 y1 y2 y3 y4 y5 y6 y7 y8
      unfold spec_chooser_name.l0
      repeat' first
      | (with_reducible exact ih0 _ _ _ _ _ _ _ _ _)
      | (with_reducible exact ih1 _ _ _ _ _ _ _ _ _ _ _ _)
      | (with_reducible exact spec_chooser_char.mono _ _ _ _ _ _ _)
      | (with_reducible exact LeO.refl _)
      | (with_reducible exact LeO.none _)
      | (with_reducible refine LeO.ite ?_ ?_)
      | (with_reducible refine LeO.bind ?_ (fun _ => ?_))
      | exact ih0 _ _ _ _ _ _ _ _ _
      | exact ih1 _ _ _ _ _ _ _ _ _ _ _ _
      | exact spec_chooser_char.mono _ _ _ _ _ _ _
      | exact LeO.none _
      | refine LeO.ite ?_ ?_
      | refine LeO.bind ?_ (fun _ => ?_)
    · intro y0 y1 y2 y3 y4 y5 y6 y7 y8 y9 y10 y11
      unfold spec_chooser_name.l1
      repeat' first
      | (with_reducible exact ih0 _ _ _ _ _ _ _ _ _)
      | (with_reducible exact ih1 _ _ _ _ _ _ _ _ _ _ _ _)
      | (with_reducible exact spec_chooser_char.mono _ _ _ _ _ _ _)
      | (with_reducible exact LeO.refl _)
      | (with_reducible exact LeO.none _)
      | (with_reducible refine LeO.ite ?_ ?_)
      | (with_reducible refine LeO.bind ?_ (fun _ => ?_))
      | exact ih0 _ _ _ _ _ _ _ _ _
      | exact ih1 _ _ _ _ _ _ _ _ _ _ _ _
      | exact spec_chooser_char.mono _ _ _ _ _ _ _
      | exact LeO.none _
      | refine LeO.ite ?_ ?_
      | refine LeO.bind ?_ (fun _ => ?_)
theorem spec_chooser_name.mono : ∀ a0 a1 a2 a3 a4 k, LeO (spec_chooser_name.f k a0 a1 a2 a3 a4) (spec_chooser_name.f (k + 1) a0 a1 a2 a3 a4) := by
  intro a0 a1 a2 a3 a4 k
  obtain ⟨ih0, ih1⟩ := spec_chooser_name.mono_l k
  unfold spec_chooser_name.f
  repeat' first
      | (with_reducible exact ih0 _ _ _ _ _ _ _ _ _)
      | (with_reducible exact ih1 _ _ _ _ _ _ _ _ _ _ _ _)
      | (with_reducible exact spec_chooser_char.mono _ _ _ _ _ _ _)
      | (with_reducible exact LeO.refl _)
      | (with_reducible exact LeO.none _)
      | (with_reducible refine LeO.ite ?_ ?_)
      | (with_reducible refine LeO.bind ?_ (fun _ => ?_))
      | exact ih0 _ _ _ _ _ _ _ _ _
      | exact ih1 _ _ _ _ _ _ _ _ _ _ _ _
      | exact spec_chooser_char.mono _ _ _ _ _ _ _
      | exact LeO.none _
      | refine LeO.ite ?_ ?_
      | refine LeO.bind ?_ (fun _ => ?_)
def spec_chooser_name.T16 : Bool × List (List Nat × List Nat) := (true, [([], []), ([], []), ([], []), ([], []), ([2, 3], [2, 3]), ([], []), ([], []), ([5, 6], [5, 6]), ([7], [7]), ([1, 4, 8, 8], [1, 4, 8]), ([0, 9], [0, 9]), ([10, 9, 0, 1, 2, 3, 4, 5, 6, 7, 8, 9, 10], [0, 10])])
def spec_chooser_name.B16 : List Nat := [0, 0, 0, 0, 12, 0, 0, 96, 224, 510, 1023, 2047]
theorem spec_chooser_name.tab16 : rtab .any (opsOf Tryd.f62 16) = spec_chooser_name.T16 := by kernel_rfl
theorem spec_chooser_name.bits16 : waitsOk spec_chooser_name.T16.2 spec_chooser_name.B16 = true := by kernel_rfl
set_option maxHeartbeats 8000000 in
set_option maxRecDepth 100000 in
theorem spec_chooser_name.calls (k : Nat) (g : Nat) (s0_0 : List Int) (s0_1 : Int) (s0_2 : List ByteArray) (s0_3 : Bool) (A1 : Option Addr) (c1 : Nat) (l1 : List ByteArray) (r1 : ByteArray) (r2 : Int) (r3 : Bool) (w0 w : World) (hI : IsS81 w0 w g s0_0 s0_1 s0_2 s0_3) (hB : Below w0.heap.size w0 w) (hr1 : Kd.C Kd.string w A1 l1.length l1) (hc1 : l1.length ≤ c1) (hf1 : ∀ ad, A1 = some ad → 0 < l1.length → ad.block ≠ g) (hrel : s0_3 = false) (h : spec_chooser_name.f k s0_0 s0_1 s0_2 s0_3 l1 = some (r1, r2, r3)) :
    Calls Tryd.prog 62 #[.pointer (some ⟨g, 0, none⟩), .slice A1 l1.length c1] w fun e w' => e = .returned (.string r1) ∧ IsS81 w0 w' g s0_0 r2 s0_2 r3 ∧ Below w0.heap.size w0 w' ∧ KeepBut w w' g none := by
  have HR1 := Aside0.mk hr1
  have HC1 := Aside0.mk hc1
  clear hr1 hc1
  have HI0 := Aside0.mk hI
  have HK := Aside0.mk (KeepBut.refl w g none)
  have HL := Aside0.mk hB.size
  clear hI
  have HW0 := Aside0.mk hB.size
  have HB := Aside0.mk hB
  clear hB
  have H : (if (l1.length : Int) = 0 then (some ((⟨#[46]⟩ : ByteArray), s0_1, s0_3)) else (spec_chooser_name.l0 k false (⟨#[]⟩ : ByteArray) l1 (l1.length : Int) 0 s0_0 s0_1 s0_2 s0_3)) = some (r1, r2, r3) := h
  clear h
  by_cases c3 : (l1.length : Int) = 0
  · rw [if_pos c3] at H
    have c3b0 : ((l1.length : Int) == 0) = true := beq_iff_eq.mpr c3
    have c3b1 : ((l1.length : Int) != 0) = false := bne_eq_false_iff_eq.mpr c3
    clear c3
    simp only [Option.some.injEq, Prod.mk.injEq] at H
    obtain ⟨rfl, rfl, rfl⟩ := H
    obtain ⟨ASz4_0, cSz4_0, ASz4_2, cSz4_2, HGz4, hgz4, HSz4_0, HSz4_2⟩ := HI0.out
    have hcz4_0 := cellS81_0 HGz4
    have hcz4_1 := cellS81_1 HGz4
    have hcz4_2 := cellS81_2 HGz4
    have hcz4_3 := cellS81_3 HGz4
    have hfz4_1 := blk_frozen HGz4 1
    have hfz4_3 := blk_frozen HGz4 3
    clear HGz4 hgz4
    go_enter Tryd.func62, Tryd.ntmps62
    try go_wp2
    rw [hrel] at hcz4_3
    go_quiet (fail)
    have n0_ := Aside0.mk (IsS81.drewN HI0.out nq)
    have n1_ := Aside0.mk (keep_drewN HK.out nq)
    have n2_ := Aside0.mk (pw_below_drewN HB.out nq)
    clear HI0
    clear HK
    clear HB
    have HI0 := n0_
    have HK := n1_
    have HB := n2_
    clear n0_ n1_ n2_
    generalize w.drewN nq = w5 at HI0 HK HB ⊢
    try go_wp2
    go_ret
    exact ⟨by first | rfl | (simp [errW_none, errW_some] <;> rfl) | (simp [*, errW_none, errW_some] <;> rfl), by repeat (first | (with_reducible first | exact HI0.out | apply IsS81.alloc | apply IsS81.drewN | apply IsS81.drew | apply IsS81.set_1 | apply IsS81.set_3) | exact HI0.out), by repeat (first | (with_reducible first | exact HB.out | apply below_alloc | apply pw_below_drewN | apply below_drew1 | refine below_set ?_ (IsS81.ge HI0.out)) | exact HB.out), by repeat (first | (with_reducible first | exact HK.out | apply KeepBut.set_ | apply keep_drewN | apply keep_drew | apply keep_alloc) | exact HK.out)⟩
  · rw [if_neg c3] at H
    have c3b0 : ((l1.length : Int) == 0) = false := beq_eq_false_iff_ne.mpr c3
    have c3b1 : ((l1.length : Int) != 0) = true := bne_iff_ne.mpr c3
    have c3b2 : ¬ (l1 = []) := fun h_ => c3 (by rw [h_]; rfl)
    have H' := Aside0.mk H
    clear H
    obtain ⟨ASz6_0, cSz6_0, ASz6_2, cSz6_2, HGz6, hgz6, HSz6_0, HSz6_2⟩ := HI0.out
    have hcz6_0 := cellS81_0 HGz6
    have hcz6_1 := cellS81_1 HGz6
    have hcz6_2 := cellS81_2 HGz6
    have hcz6_3 := cellS81_3 HGz6
    have hfz6_1 := blk_frozen HGz6 1
    have hfz6_3 := blk_frozen HGz6 3
    clear HGz6 hgz6
    go_enter Tryd.func62, Tryd.ntmps62
    try go_wp2
    rw [hrel] at hcz6_3
    go_quiet (fail)
    have n0_ := Aside0.mk (IsS81.drewN HI0.out nq)
    have n1_ := Aside0.mk (keep_drewN HK.out nq)
    have n2_ := Aside0.mk (pw_below_drewN HB.out nq)
    clear HI0
    clear HK
    clear HB
    have HI0 := n0_
    have HK := n1_
    have HB := n2_
    clear n0_ n1_ n2_
    generalize w.drewN nq = w7 at HI0 HK HB ⊢
    try go_wp2
    go_loopg [8, 53] k (fun kq v8 v53 w' => ∃ (x8_1 : ByteArray) (x53_1 : Int) (x1001_1 : Int) (x1003_1 : Bool), v8 = .string x8_1 ∧ v53 = .int .i64 x53_1 ∧ Aside0 (spec_chooser_name.l0 kq false x8_1 l1 (l1.length : Int) x53_1 s0_0 x1001_1 s0_2 x1003_1 = some (r1, r2, r3)) ∧ Aside0 (kq ≤ k) ∧ Aside0 (IsS81 w0 w' g s0_0 x1001_1 s0_2 x1003_1) ∧ Aside0 (KeepBut w w' g none) ∧ Aside0 (Below w0.heap.size w0 w'))
    case atStart => exact ⟨((⟨#[]⟩ : ByteArray)), (0), (s0_1), (s0_3), (by first | rfl | (simp; done) | (simp [*]; done) | (simp [wrap64]; done)), (by first | rfl | (simp; done) | (simp [*]; done) | (simp [wrap64]; done)), H', ⟨Nat.le_refl _⟩, ⟨by repeat (first | (with_reducible first | exact HI0.out | apply IsS81.alloc | apply IsS81.drewN | apply IsS81.drew | apply IsS81.set_1 | apply IsS81.set_3) | exact HI0.out)⟩, ⟨by repeat (first | (with_reducible first | exact HK.out | apply KeepBut.set_ | apply keep_drewN | apply keep_drew | apply keep_alloc) | exact HK.out)⟩, ⟨by repeat (first | (with_reducible first | exact HB.out | apply below_alloc | apply pw_below_drewN | apply below_drew1 | refine below_set ?_ (IsS81.ge HI0.out)) | exact HB.out)⟩⟩
    case round =>
      clear H'
      try clear c1
      try clear p2
      try clear c3
      try clear c3b0
      try clear c3b1
      try clear c3b2
      try clear c6
      try clear p6
      try clear hcz4_0
      try clear hcz4_1
      try clear hcz4_2
      try clear hcz4_3
      try clear hcz6_0
      try clear hcz6_1
      try clear hcz6_2
      try clear hcz6_3
      try clear hfz4_1
      try clear hfz4_3
      try clear hfz6_1
      try clear hfz6_3
      obtain ⟨x8_1, x53_1, x1001_1, x1003_1, rfl, rfl, HA, HK1, HI0, HK, HB⟩ := hrel
      cases gk with
      | zero => exact absurd HA.out (by simp [spec_chooser_name.l0])
      | succ k1 =>
        have H := HA.out
        clear HA
        simp only [spec_chooser_name.l0] at H
        by_cases c8 : x53_1 < (l1.length : Int)
        · rw [if_pos c8] at H
          have c8b0 : decide (x53_1 < (l1.length : Int)) = true := decide_eq_true c8
          clear c8
          by_cases c9 : 0 ≤ x53_1
          · rw [if_pos c9] at H
            have c9b0 : decide (0 ≤ x53_1) = true := decide_eq_true c9
            clear c9
            by_cases c10 : x53_1 < (l1.length : Int)
            · rw [if_pos c10] at H
              have c10b0 : decide (x53_1 < (l1.length : Int)) = true := decide_eq_true c10
              clear c10
              have H' := Aside0.mk H
              clear H
              have p376 : 0 ≤ (x53_1 : Int) := of_decide_eq_true (by first | (with_reducible assumption) | assumption)
              have q376 : x53_1 < (l1.length : Int) := of_decide_eq_true (by first | (with_reducible assumption) | assumption)
              obtain ⟨ad376, e376, hx376_0⟩ := Kd.at_string HR1.out x53_1 p376 q376
              cases e376
              replace hx376_0 := keep_cell HK.out hx376_0 (by first | (rw [add_block]; exact hf1 _ rfl (by omega)) | exact hf1 _ rfl (by omega) | exact hf1 ad376 rfl (by omega))
              replace p376 := eq_true p376
              replace q376 := eq_true q376
              go_wp2
              go_loopg [8, 59] k1 (fun kq v8 v59 w' => ∃ (x8_2 : ByteArray) (x59_2 : Int) (x1001_2 : Int) (x1003_2 : Bool), v8 = .string x8_2 ∧ v59 = .int .i64 x59_2 ∧ Aside0 (spec_chooser_name.l1 kq false x8_2 (rdOf ByteArray.empty l1 x53_1) l1 (l1.length : Int) x53_1 ((rdOf ByteArray.empty l1 x53_1).size : Int) x59_2 s0_0 x1001_2 s0_2 x1003_2 = some (r1, r2, r3)) ∧ Aside0 (kq ≤ k1) ∧ Aside0 (IsS81 w0 w' g s0_0 x1001_2 s0_2 x1003_2) ∧ Aside0 (KeepBut w w' g none) ∧ Aside0 (Below w0.heap.size w0 w'))
              case atStart => exact ⟨(x8_1), (0), (x1001_1), (x1003_1), (by first | rfl | (simp; done) | (simp [*]; done) | (simp [wrap64]; done)), (by first | rfl | (simp; done) | (simp [*]; done) | (simp [wrap64]; done)), H', ⟨Nat.le_refl _⟩, ⟨by repeat (first | (with_reducible first | exact HI0.out | apply IsS81.alloc | apply IsS81.drewN | apply IsS81.drew | apply IsS81.set_1 | apply IsS81.set_3) | exact HI0.out)⟩, ⟨by repeat (first | (with_reducible first | exact HK.out | apply KeepBut.set_ | apply keep_drewN | apply keep_drew | apply keep_alloc) | exact HK.out)⟩, ⟨by repeat (first | (with_reducible first | exact HB.out | apply below_alloc | apply pw_below_drewN | apply below_drew1 | refine below_set ?_ (IsS81.ge HI0.out)) | exact HB.out)⟩⟩
              case round =>
                clear H'
                try clear c1
                try clear p2
                try clear c3
                try clear c3b0
                try clear c3b1
                try clear c3b2
                try clear p3
                try clear q3
                try clear hx3
                try clear c6
                try clear p6
                try clear c8
                try clear c8b0
                try clear c9
                try clear c9b0
                try clear c10
                try clear c10b0
                try clear hcz4_0
                try clear hcz4_1
                try clear hcz4_2
                try clear hcz4_3
                try clear hcz6_0
                try clear hcz6_1
                try clear hcz6_2
                try clear hcz6_3
                try clear hfz4_1
                try clear hfz4_3
                try clear hfz6_1
                try clear hfz6_3
                try clear hx376_0
                try clear p2
                try clear p376
                try clear p6
                try clear q376
                obtain ⟨x8_2, x59_2, x1001_2, x1003_2, rfl, rfl, HA, HK2, HI0, HK, HB⟩ := hrel
                cases gk with
                | zero => exact absurd HA.out (by simp [spec_chooser_name.l1])
                | succ k2 =>
                  have H := HA.out
                  clear HA
                  simp only [spec_chooser_name.l1] at H
                  by_cases c11 : x59_2 < ((rdOf ByteArray.empty l1 x53_1).size : Int)
                  · rw [if_pos c11] at H
                    have c11b0 : decide (x59_2 < ((rdOf ByteArray.empty l1 x53_1).size : Int)) = true := decide_eq_true c11
                    clear c11
                    by_cases c12 : 0 ≤ x59_2
                    · rw [if_pos c12] at H
                      have c12b0 : decide (0 ≤ x59_2) = true := decide_eq_true c12
                      clear c12
                      by_cases c13 : x59_2 < ((rdOf ByteArray.empty l1 x53_1).size : Int)
                      · rw [if_pos c13] at H
                        have c13b0 : decide (x59_2 < ((rdOf ByteArray.empty l1 x53_1).size : Int)) = true := decide_eq_true c13
                        clear c13
                        replace H := Option.bind_eq_some_iff.mp H
                        obtain ⟨t377, A160, H⟩ := H
                        replace H : ((spec_chooser_char.f k2 s0_0 x1001_2 s0_2 x1003_2 (bt (rdOf ByteArray.empty l1 x53_1) x59_2) t377).bind fun bt378 => (if x8_2.size + bt378.1.size ≤ 9223372036854775807 then (spec_chooser_name.l1 k2 false (x8_2 ++ bt378.1) (rdOf ByteArray.empty l1 x53_1) l1 (l1.length : Int) x53_1 ((rdOf ByteArray.empty l1 x53_1).size : Int) (wrap64 (x59_2 + 1)) s0_0 bt378.2.1 s0_2 bt378.2.2) else (none))) = some (r1, r2, r3) := H
                        have A16 := Aside0.mk A160
                        clear A160
                        replace H := Option.bind_eq_some_iff.mp H
                        obtain ⟨⟨t378, t379, t380⟩, A170, H⟩ := H
                        replace H : (if x8_2.size + t378.size ≤ 9223372036854775807 then (spec_chooser_name.l1 k2 false (x8_2 ++ t378) (rdOf ByteArray.empty l1 x53_1) l1 (l1.length : Int) x53_1 ((rdOf ByteArray.empty l1 x53_1).size : Int) (wrap64 (x59_2 + 1)) s0_0 t379 s0_2 t380) else (none)) = some (r1, r2, r3) := H
                        have A17 := Aside0.mk A170
                        clear A170
                        by_cases c18 : x8_2.size + t378.size ≤ 9223372036854775807
                        · rw [if_pos c18] at H
                          have c18b0 := eq_true c18
                          have c18b1 : decide (x8_2.size + t378.size ≤ 9223372036854775807) = true := decide_eq_true c18
                          try have c18b2 : (9223372036854775807 < x8_2.size + t378.size) = False := eq_false (Nat.not_lt.2 c18)
                          have H' := Aside0.mk H
                          clear H
                          try go_wp2
                          have n0_ := Aside0.mk (IsS81.drew HI0.out)
                          have n1_ := Aside0.mk (keep_drew HK.out)
                          have n2_ := Aside0.mk (below_drew1 HB.out)
                          clear HI0
                          clear HK
                          clear HB
                          have HI0 := n0_
                          have HK := n1_
                          have HB := n2_
                          clear n0_ n1_ n2_
                          have p14 : 0 ≤ (x59_2 : Int) := of_decide_eq_true (by first | (with_reducible assumption) | assumption)
                          have q14 : x59_2 < ((rdOf ByteArray.empty l1 x53_1).size : Int) := of_decide_eq_true (by first | (with_reducible assumption) | assumption)
                          have hx14 := bt_at (rdOf ByteArray.empty l1 x53_1) x59_2
                          replace p14 := eq_true p14
                          replace q14 := eq_true q14
                          have p15 : 0 ≤ (x59_2 : Int) := of_decide_eq_true (by first | (with_reducible assumption) | assumption)
                          have q15 : x59_2 < ((rdOf ByteArray.empty l1 x53_1).size : Int) := of_decide_eq_true (by first | (with_reducible assumption) | assumption)
                          have hx15 := bt_at (rdOf ByteArray.empty l1 x53_1) x59_2
                          replace p15 := eq_true p15
                          replace q15 := eq_true q15
                          refine start_ (n := 12) (S := fun w' => True) (ds := []) #[false, false, false, false, false, false, false, false, false, false, false, false] (by kernel_rfl) rfl rfl trivial (fun hHeld => ?_); refine with_tabW spec_chooser_name.tab16 spec_chooser_name.bits16 (fun HT_ HW_ => ?_)
                          generalize wr.drew = w19 at HI0 HK HB hHeld ⊢
                          refine pure_ (i := 0) (N := some 62) (v := ?_) (a' := ?_) #[true, false, false, false, false, false, false, false, false, false, false, false] rfl rfl (any_of HT_.out (by kernel_rfl)) (fun _ _ _ h => h) (Or.inl ⟨by rfl, ?_⟩) ?_ ?_
                          rotate_left
                          · intro w'
                            go_simp
                            with_reducible rfl
                          rotate_left
                          · simp only [Act.put, List.setIfInBounds_toArray, List.set_cons_zero, List.set_cons_succ, i64_w, i32_w]
                            rfl
                          refine pure_ (i := 1) (N := some 63) (v := ?_) (a' := ?_) #[true, true, false, false, false, false, false, false, false, false, false, false] rfl rfl (any_of HT_.out (by kernel_rfl)) (fun _ _ _ h => h) (Or.inl ⟨by rfl, ?_⟩) ?_ ?_
                          rotate_left
                          · intro w'
                            go_simp
                            with_reducible rfl
                          rotate_left
                          · simp only [Act.put, List.setIfInBounds_toArray, List.set_cons_zero, List.set_cons_succ, i64_w, i32_w]
                            rfl
                          refine pure_ (i := 2) (N := some 64) (v := ?_) (a' := ?_) #[true, true, true, false, false, false, false, false, false, false, false, false] rfl rfl (any_of HT_.out (by kernel_rfl)) (fun _ _ _ h => h) (Or.inl ⟨by rfl, ?_⟩) ?_ ?_
                          rotate_left
                          · intro w'
                            go_simp
                            with_reducible rfl
                          rotate_left
                          · simp only [Act.put, List.setIfInBounds_toArray, List.set_cons_zero, List.set_cons_succ, i64_w, i32_w]
                            rfl
                          refine pure_ (i := 3) (N := some 65) (v := ?_) (a' := ?_) #[true, true, true, true, false, false, false, false, false, false, false, false] rfl rfl (any_of HT_.out (by kernel_rfl)) (fun _ _ _ h => h) (Or.inl ⟨by rfl, ?_⟩) ?_ ?_
                          rotate_left
                          · intro w'
                            go_simp
                            with_reducible rfl
                          rotate_left
                          · simp only [Act.put, List.setIfInBounds_toArray, List.set_cons_zero, List.set_cons_succ, i64_w, i32_w]
                            rfl
                          refine pure_ (i := 5) (N := some 67) (v := ?_) (a' := ?_) #[true, true, true, true, false, true, false, false, false, false, false, false] rfl rfl (any_of HT_.out (by kernel_rfl)) (fun _ _ _ h => h) (Or.inl ⟨by rfl, ?_⟩) ?_ ?_
                          rotate_left
                          · intro w'
                            go_simp
                            with_reducible rfl
                          rotate_left
                          · simp only [Act.put, List.setIfInBounds_toArray, List.set_cons_zero, List.set_cons_succ, i64_w, i32_w]
                            rfl
                          refine pure_ (i := 6) (N := some 68) (v := ?_) (a' := ?_) #[true, true, true, true, false, true, true, false, false, false, false, false] rfl rfl (any_of HT_.out (by kernel_rfl)) (fun _ _ _ h => h) (Or.inl ⟨by rfl, ?_⟩) ?_ ?_
                          rotate_left
                          · intro w'
                            go_simp
                            with_reducible rfl
                          rotate_left
                          · simp only [Act.put, List.setIfInBounds_toArray, List.set_cons_zero, List.set_cons_succ, i64_w, i32_w]
                            rfl
                          refine take_ (i := 4) (N := some 66) (v := ?_) (a' := ?_) #[true, true, true, true, true, true, true, false, false, false, false, false] rfl rfl (take_ofW HT_.out HW_.out (by kernel_rfl)) (fun _ _ _ h => h) (Or.inl ⟨by rfl, ?_⟩) hHeld ?_ ?_
                          rotate_left
                          · intro w' _
                            go_simp
                            with_reducible rfl
                          rotate_left
                          · simp only [Act.put, List.setIfInBounds_toArray, List.set_cons_zero, List.set_cons_succ, i64_w, i32_w]
                            rfl
                          refine take_ (i := 7) (N := some 69) (v := ?_) (a' := ?_) #[true, true, true, true, true, true, true, true, false, false, false, false] rfl rfl (take_ofW HT_.out HW_.out (by kernel_rfl)) (fun _ _ _ h => h) (Or.inl ⟨by rfl, ?_⟩) hHeld ?_ ?_
                          rotate_left
                          · intro w' _
                            go_simp
                            with_reducible rfl
                          rotate_left
                          · simp only [Act.put, List.setIfInBounds_toArray, List.set_cons_zero, List.set_cons_succ, i64_w, i32_w]
                            rfl
                          refine one_ (i := 8) (N := some 70) #[true, true, true, true, true, true, true, true, true, false, false, false] rfl rfl (one_of HT_.out (by kernel_rfl)) (by decide) (fun K hK => ?_)
                          refine goes_ Tryd.func85 (by kernel_rfl) rfl #[.int .u8 (bt (rdOf ByteArray.empty l1 x53_1) x59_2)] (by rfl) rfl rfl (by (try simp only [List.map_toArray, List.map_cons, List.map_nil]); first | done | rfl | (simp only [List.length_drop, List.length_take]; rfl)) ?_
                          with_reducible refine (spec_special.calls (bt (rdOf ByteArray.empty l1 x53_1) x59_2) t377 _ A16.out).mono ?_
                          rintro e w' ⟨rfl, ⟨nd, rfl⟩⟩
                          refine ⟨_, rfl, ?_⟩
                          refine hK.out _ _ trivial (fun hHeld => ?_)
                          clear hK K
                          refine norm_ (a' := ?_) ?_ ?_
                          rotate_left
                          · show Act.put _ (some 70) _ = _
                            simp only [Act.put, List.setIfInBounds_toArray, List.set_cons_zero, List.set_cons_succ, i64_w, i32_w]
                            rfl
                          refine one_ (i := 9) (N := some 71) #[true, true, true, true, true, true, true, true, true, true, false, false] rfl rfl (one_of HT_.out (by kernel_rfl)) (by decide) (fun K hK => ?_)
                          refine goes_ Tryd.func84 (by kernel_rfl) rfl #[.pointer (some ⟨g, 0, none⟩), .int .u8 (bt (rdOf ByteArray.empty l1 x53_1) x59_2), .bool t377] (by rfl) rfl rfl (by (try simp only [List.map_toArray, List.map_cons, List.map_nil]); first | done | rfl | (simp only [List.length_drop, List.length_take]; rfl)) ?_
                          with_reducible refine (spec_chooser_char.calls k2 g s0_0 x1001_2 s0_2 x1003_2 (bt (rdOf ByteArray.empty l1 x53_1) x59_2) t377 t378 t379 t380 w0 _ ?side1 ?side2 A17.out).mono ?_
                          (case side1 => repeat (first | (with_reducible first | exact HI0.out | apply IsS81.alloc | apply IsS81.drewN | apply IsS81.drew | apply IsS81.set_1 | apply IsS81.set_3) | exact HI0.out))
                          (case side2 => repeat (first | (with_reducible first | exact HB.out | apply below_alloc | apply pw_below_drewN | apply below_drew1 | refine below_set ?_ (IsS81.ge HI0.out)) | exact HB.out))
                          rintro e w20 ⟨rfl, hi, hb, hk⟩
                          refine ⟨_, rfl, ?_⟩
                          have n0_ := Aside0.mk (KeepBut.trans (by repeat (first | (with_reducible first | exact HK.out | apply KeepBut.set_ | apply keep_drewN | apply keep_drew | apply keep_alloc) | exact HK.out)) hk (.inl rfl))
                          have n1_ := Aside0.mk (hb)
                          have n2_ := Aside0.mk (hi)
                          clear HK
                          clear HB
                          clear HI0
                          have HK := n0_
                          have HB := n1_
                          have HI0 := n2_
                          clear n0_ n1_ n2_
                          (try clear hb)
                          (try clear hb2)
                          (try clear hk)
                          (try clear hi)
                          refine hK.out _ _ trivial (fun hHeld => ?_)
                          clear hK K
                          refine norm_ (a' := ?_) ?_ ?_
                          rotate_left
                          · show Act.put _ (some 71) _ = _
                            simp only [Act.put, List.setIfInBounds_toArray, List.set_cons_zero, List.set_cons_succ, i64_w, i32_w]
                            rfl
                          refine pure_ (i := 10) (N := some 72) (v := ?_) (a' := ?_) #[true, true, true, true, true, true, true, true, true, true, true, false] rfl rfl (any_of HT_.out (by kernel_rfl)) (fun _ _ _ h => h) (Or.inl ⟨by rfl, ?_⟩) ?_ ?_
                          rotate_left
                          · intro w'
                            go_simp
                            with_reducible rfl
                          rotate_left
                          · simp only [Act.put, List.setIfInBounds_toArray, List.set_cons_zero, List.set_cons_succ, i64_w, i32_w]
                            rfl
                          refine pure_ (i := 11) (N := some 8) (v := ?_) (a' := ?_) #[true, true, true, true, true, true, true, true, true, true, true, true] rfl rfl (any_of HT_.out (by kernel_rfl)) (fun _ _ _ h => h) (Or.inl ⟨by rfl, ?_⟩) ?_ ?_
                          rotate_left
                          · intro w'
                            go_simp
                            with_reducible rfl
                          rotate_left
                          · simp only [Act.put, List.setIfInBounds_toArray, List.set_cons_zero, List.set_cons_succ, i64_w, i32_w]
                            rfl
                          refine done_ (done_of HT_.out (by kernel_rfl)) ?_
                          try go_wp2
                          go_roundg k2
                          case measure => have := HK1.out; have := HK2.out; omega
                          case rel => exact ⟨(x8_2 ++ t378), (wrap64 (x59_2 + 1)), (t379), (t380), (by first | rfl | (simp; done) | (simp [*]; done) | (simp [wrap64]; done)), (by first | rfl | (simp; done) | (simp [*]; done) | (simp [wrap64]; done)), H', ⟨by have := HK1.out; have := HK2.out; omega⟩, ⟨by repeat (first | (with_reducible first | exact HI0.out | apply IsS81.alloc | apply IsS81.drewN | apply IsS81.drew | apply IsS81.set_1 | apply IsS81.set_3) | exact HI0.out)⟩, ⟨by repeat (first | (with_reducible first | exact HK.out | apply KeepBut.set_ | apply keep_drewN | apply keep_drew | apply keep_alloc) | exact HK.out)⟩, ⟨by repeat (first | (with_reducible first | exact HB.out | apply below_alloc | apply pw_below_drewN | apply below_drew1 | refine below_set ?_ (IsS81.ge HI0.out)) | exact HB.out)⟩⟩
                        · rw [if_neg c18] at H
                          exact absurd H (by simp)
                      · rw [if_neg c13] at H
                        exact absurd H (by simp)
                    · rw [if_neg c12] at H
                      exact absurd H (by simp)
                  · rw [if_neg c11] at H
                    have c11b0 : decide (x59_2 < ((rdOf ByteArray.empty l1 x53_1).size : Int)) = false := decide_eq_false c11
                    clear c11
                    by_cases c21 : x8_2.size + 1 ≤ 9223372036854775807
                    · rw [if_pos c21] at H
                      have c21b0 := eq_true c21
                      have c21b1 : decide (x8_2.size + 1 ≤ 9223372036854775807) = true := decide_eq_true c21
                      try have c21b2 : (9223372036854775807 < x8_2.size + 1) = False := eq_false (Nat.not_lt.2 c21)
                      have H' := Aside0.mk H
                      clear H
                      go_wp2
                      go_roundg k2
                      case measure => have := HK1.out; have := HK2.out; omega
                      case rel => exact ⟨(x8_2 ++ (⟨#[46]⟩ : ByteArray)), (wrap64 (x53_1 + 1)), (x1001_2), (x1003_2), (by first | rfl | (simp; done) | (simp [*]; done) | (simp [wrap64]; done)), (by first | rfl | (simp; done) | (simp [*]; done) | (simp [wrap64]; done)), H', ⟨by have := HK1.out; have := HK2.out; omega⟩, ⟨by repeat (first | (with_reducible first | exact HI0.out | apply IsS81.alloc | apply IsS81.drewN | apply IsS81.drew | apply IsS81.set_1 | apply IsS81.set_3) | exact HI0.out)⟩, ⟨by repeat (first | (with_reducible first | exact HK.out | apply KeepBut.set_ | apply keep_drewN | apply keep_drew | apply keep_alloc) | exact HK.out)⟩, ⟨by repeat (first | (with_reducible first | exact HB.out | apply below_alloc | apply pw_below_drewN | apply below_drew1 | refine below_set ?_ (IsS81.ge HI0.out)) | exact HB.out)⟩⟩
                    · rw [if_neg c21] at H
                      exact absurd H (by simp)
            · rw [if_neg c10] at H
              exact absurd H (by simp)
          · rw [if_neg c9] at H
            exact absurd H (by simp)
        · rw [if_neg c8] at H
          have c8b0 : decide (x53_1 < (l1.length : Int)) = false := decide_eq_false c8
          clear c8
          by_cases c22 : false = true
          · exact absurd c22 Bool.false_ne_true
          · replace c22 := Bool.eq_false_iff.mpr c22
            clear c22
            have H1 : (some (x8_1, x1001_1, x1003_1)) = some (r1, r2, r3) := by rw [if_neg (show ¬ (false = true) by decide)] at H; exact H
            clear H
            have H := H1
            clear H1
            simp only [Option.some.injEq, Prod.mk.injEq] at H
            obtain ⟨rfl, rfl, rfl⟩ := H
            go_wp2
            go_ret
            exact ⟨by first | rfl | (simp [errW_none, errW_some] <;> rfl) | (simp [*, errW_none, errW_some] <;> rfl), by repeat (first | (with_reducible first | exact HI0.out | apply IsS81.alloc | apply IsS81.drewN | apply IsS81.drew | apply IsS81.set_1 | apply IsS81.set_3) | exact HI0.out), by repeat (first | (with_reducible first | exact HB.out | apply below_alloc | apply pw_below_drewN | apply below_drew1 | refine below_set ?_ (IsS81.ge HI0.out)) | exact HB.out), by repeat (first | (with_reducible first | exact HK.out | apply KeepBut.set_ | apply keep_drewN | apply keep_drew | apply keep_alloc) | exact HK.out)⟩

end Go.Proofs.YtiilihafcdmccaaDoor.P
/- '(spec.Name).Text': a chooser is laid, then 'name'. -/
namespace Go.Proofs.YtiilihafcdmccaaDoor.P
open Go.RowKit Go.Proofs.YtiilihafcdmccaaDoorW.PrintWords Go.Proofs.YtiilihafcdmccaaDoorW.PrintLast Go.Proofs.YtiilihafcdmccaaDoorW.PrintMore
set_option linter.unusedVariables false
set_option linter.unusedSimpArgs false

def spec_Name_Text.f (k : Nat) (l0 : List ByteArray) (l1 : List Int) : Option ByteArray := (spec_chooser_name.f k l1 0 [] false l0).bind fun t => some t.1
theorem spec_Name_Text.mono : ∀ a0 a1 k, LeO (spec_Name_Text.f k a0 a1) (spec_Name_Text.f (k + 1) a0 a1) := by
  intro a0 a1 k
  unfold spec_Name_Text.f
  exact LeO.bind (spec_chooser_name.mono _ _ _ _ _ _) (fun _ => LeO.refl _)
set_option maxHeartbeats 1000000 in
theorem spec_Name_Text.calls (k : Nat) (A0 : Option Addr) (c0 : Nat) (l0 : List ByteArray) (A1 : Option Addr) (c1 : Nat) (l1 : List Int) (r : ByteArray) (w : World) (hr0 : Kd.C Kd.string w A0 l0.length l0) (hc0 : l0.length ≤ c0) (hr1 : Kd.C (Kd.int .i64) w A1 l1.length l1) (hc1 : l1.length ≤ c1)
    (h : spec_Name_Text.f k l0 l1 = some r) : Calls Tryd.prog 37 #[.slice A0 l0.length c0, .slice A1 l1.length c1] w fun e w' => e = .returned (.string r) ∧ Below w.heap.size w w' := by
  obtain ⟨⟨t1, t2, t3⟩, h1, h2⟩ := Option.bind_eq_some_iff.mp h
  obtain rfl := Option.some.inj h2
  have HR0 := Aside0.mk hr0
  have HR1 := Aside0.mk hr1
  clear hr0 hr1 h h2
  have hu81 := Tryd.underlying81
  go_enter Tryd.func37, Tryd.ntmps37
  go_wp2_with (first
    | ((with_reducible refine gate_callee (f := 62) rfl ?_); refine goesL_ (some 9) rfl rfl Tryd.func62 (by kernel_rfl) rfl #[.pointer (some ⟨w.heap.size, 0, none⟩), .slice A0 l0.length c0] rfl (by (try simp only [List.map_toArray, List.map_cons, List.map_nil]); first | done | rfl) ?_;
       (with_reducible refine (spec_chooser_name.calls k w.heap.size l1 0 [] false A0 c0 l0 t1 t2 t3 w _ ?hI ?hB ?hr hc0 ?hf rfl h1).mono ?_);
       (case hI => exact ⟨A1, c1, none, 0, by show (w.heap.push _)[w.heap.size]? = _; simp, Nat.le_refl _, HR1.out, Kd.C_nil _ _⟩);
       (case hB => exact below_alloc (Below.refl _ _) _);
       (case hr => exact Kd.C_alloc HR0.out _);
       (case hf => exact Kd.far_C ByteArray.empty HR0.out (Nat.le_refl _));
       rintro e w' ⟨rfl, _, hb, _⟩; refine ⟨_, rfl, ?_⟩))
  go_ret
  exact ⟨rfl, hb⟩

end Go.Proofs.YtiilihafcdmccaaDoor.P
-- Written by a program of this session (wip/tools/pprint.py) out of the translation: it goes by the kit's print and by the contracts of YtiilihafcdmccaaDoorHand. Not trusted: Lean checks it.
namespace Go.Proofs.YtiilihafcdmccaaDoor.P
open Go.RowKit Go.Proofs.YtiilihafcdmccaaDoorW.PrintWords Go.Proofs.YtiilihafcdmccaaDoorW.PrintLast Go.Proofs.YtiilihafcdmccaaDoorW.PrintMore
attribute [local go_sem] max2_int min2_int max_two min_two max_three min_three max_four min_four   -- for this text's walks alone
set_option linter.unusedVariables false
set_option linter.unusedSimpArgs false

/-! ### laws_name: function 35 -/
def laws_name.l0 : Nat → List ByteArray → List (List Int) → Int → Int → Option (List ByteArray × Bool)
  | 0, _, _, _, _ => none
  | k + 1, x4, x7, x8, x9 => if x9 < x8 then (if 0 ≤ x9 then (if x9 < (x7.length : Int) then (if x4.length < 8796093022208 then (laws_name.l0 k (x4 ++ [strOfNums (rd_L3 x7 x9)]) x7 x8 (wrap64 (x9 + 1))) else (none)) else (none)) else (none)) else ((spec_Name_Valid.f k x4).bind fun t345 => (some (x4, t345)))
def laws_name.f (k : Nat) (l0 : List (List Int)) : Option (List ByteArray × Bool) := laws_name.l0 k ([] : List ByteArray) l0 (l0.length : Int) 0
theorem laws_name.mono_l : ∀ k, (∀ y0 y1 y2 y3, LeO (laws_name.l0 k y0 y1 y2 y3) (laws_name.l0 (k + 1) y0 y1 y2 y3))
  | 0 => fun _ _ _ _ r h => by simp [laws_name.l0] at h
  | k + 1 => by
    have ih0 := laws_name.mono_l k
    · intro y0 y1 y2 y3
      unfold laws_name.l0
      repeat' first
      | (with_reducible exact ih0 _ _ _ _)
      | (with_reducible exact spec_Name_Valid.mono _ _)
      | (with_reducible exact LeO.refl _)
      | (with_reducible exact LeO.none _)
      | (with_reducible refine LeO.ite ?_ ?_)
      | (with_reducible refine LeO.bind ?_ (fun _ => ?_))
      | exact ih0 _ _ _ _
      | exact spec_Name_Valid.mono _ _
      | exact LeO.none _
      | refine LeO.ite ?_ ?_
      | refine LeO.bind ?_ (fun _ => ?_)
theorem laws_name.mono : ∀ a0 k, LeO (laws_name.f k a0) (laws_name.f (k + 1) a0) := by
  intro a0 k
  have ih0 := laws_name.mono_l k
  unfold laws_name.f
  repeat' first
      | (with_reducible exact ih0 _ _ _ _)
      | (with_reducible exact spec_Name_Valid.mono _ _)
      | (with_reducible exact LeO.refl _)
      | (with_reducible exact LeO.none _)
      | (with_reducible refine LeO.ite ?_ ?_)
      | (with_reducible refine LeO.bind ?_ (fun _ => ?_))
      | exact ih0 _ _ _ _
      | exact spec_Name_Valid.mono _ _
      | exact LeO.none _
      | refine LeO.ite ?_ ?_
      | refine LeO.bind ?_ (fun _ => ?_)
set_option maxHeartbeats 8000000 in
set_option maxRecDepth 100000 in
theorem laws_name.calls (k : Nat) (A0 : Option Addr) (c0 : Nat) (l0 : List (List Int)) (r1 : List ByteArray) (r2 : Bool) (w : World) (hr0 : Kd.C (Kd.slice 5 (Kd.int .u8)) w A0 l0.length l0) (hc0 : l0.length ≤ c0) (h : laws_name.f k l0 = some (r1, r2)) :
    Calls Tryd.prog 35 #[.slice A0 l0.length c0] w fun e w' => ∃ v0_ : Value, e = .returned (.tuple #[v0_, .bool r2]) ∧ Kd.R Kd.string 9 w' w.heap.size (fun _ => True) v0_ r1 ∧ Below w.heap.size w w' := by
  have HR0 := Aside0.mk hr0
  have HC0 := Aside0.mk hc0
  clear hr0 hc0
  have HB := Aside0.mk (Below.refl w.heap.size w)
  have H : (laws_name.l0 k ([] : List ByteArray) l0 (l0.length : Int) 0) = some (r1, r2) := h
  clear h
  have H' := Aside0.mk H
  clear H
  go_enter Tryd.func35, Tryd.ntmps35
  go_wp2
  go_loopg [4, 9] k (fun kq v4 v9 w' => ∃ (x4_1 : List ByteArray) (x9_1 : Int), v9 = .int .i64 x9_1 ∧ Aside0 (laws_name.l0 kq x4_1 l0 (l0.length : Int) x9_1 = some (r1, r2)) ∧ Aside0 (kq ≤ k) ∧ Aside0 (Kd.R Kd.string 9 w' w.heap.size (fun _ => True) v4 x4_1) ∧ Aside0 (Below w.heap.size w w'))
  case atStart => exact ⟨(([] : List ByteArray)), (0), (by first | rfl | (simp; done) | (simp [*]; done) | (simp [wrap64]; done)), H', ⟨Nat.le_refl _⟩, ⟨by first | exact Kd.R_nil _ _ _ _ _ | exact Kd.N_nil _ _ _ _ _ | exact Kd.V_nil _ _ _ _ _ | exact Kd.Q_nil _ _ _ _ _ | exact Kd.S_nil _ _ _ _ _⟩, ⟨by repeat (first | (with_reducible first | exact HB.out | apply below_alloc | apply pw_below_drewN | apply below_drew1) | exact HB.out)⟩⟩
  case round =>
    clear H'
    obtain ⟨x4_1, x9_1, rfl, HA, HK1, HO_4, HB⟩ := hrel
    cases gk with
    | zero => exact absurd HA.out (by simp [laws_name.l0])
    | succ k1 =>
      have H := HA.out
      clear HA
      simp only [laws_name.l0] at H
      by_cases c2 : x9_1 < (l0.length : Int)
      · rw [if_pos c2] at H
        have c2b0 : decide (x9_1 < (l0.length : Int)) = true := decide_eq_true c2
        clear c2
        by_cases c3 : 0 ≤ x9_1
        · rw [if_pos c3] at H
          have c3b0 : decide (0 ≤ x9_1) = true := decide_eq_true c3
          clear c3
          by_cases c4 : x9_1 < (l0.length : Int)
          · rw [if_pos c4] at H
            have c4b0 : decide (x9_1 < (l0.length : Int)) = true := decide_eq_true c4
            clear c4
            by_cases c5 : x4_1.length < 8796093022208
            · rw [if_pos c5] at H
              have LMc5 := Aside0.mk c5
              clear c5
              obtain ⟨y342, hy342⟩ : ∃ y_ : List ByteArray, y_ = (x4_1 ++ [strOfNums (rd_L3 l0 x9_1)]) := ⟨_, rfl⟩
              replace H : (laws_name.l0 k1 y342 l0 (l0.length : Int) (wrap64 (x9_1 + 1))) = some (r1, r2) := by first | (rw [hy342]; with_reducible exact H) | (have H2_ := (Option.bind_some _ _).symm.trans H; rw [hy342]; with_reducible exact H2_) | (have H2_ := (Option.bind_some _ _).symm.trans H; with_reducible exact H2_) | with_reducible exact H | (rw [hy342]; exact H) | exact H
              have Ny342 := Aside0.mk hy342
              clear hy342
              have H' := Aside0.mk H
              clear H
              have p341 : 0 ≤ (x9_1 : Int) := of_decide_eq_true (by first | (with_reducible assumption) | assumption)
              have q341 : x9_1 < (l0.length : Int) := of_decide_eq_true (by first | (with_reducible assumption) | assumption)
              obtain ⟨ad341, A341_0, c341_0, e341, hx341_0, hl341_0, hi341_0⟩ := at_L3 HR0.out x9_1 p341 q341
              cases e341
              replace hx341_0 := (HB.out.cell (World.block_lt_of_cell? w _ hx341_0)).trans hx341_0
              have HR341_0 := Aside0.mk hi341_0
              have HC341_0 := Aside0.mk hl341_0
              clear hi341_0 hl341_0
              replace p341 := eq_true p341
              replace q341 := eq_true q341
              have hcv6 := Kd.C_string (P := Tryd.prog) (A := A341_0) (c := c341_0) Tryd.underlying22 Tryd.underlying5 Tryd.underlying9 (Kd.C_below HR341_0.out HB.out)
              go_wp2_with (first | ((with_reducible refine gate_builtin (b := .append) (xs := #[.tmp 13, .tmp 16]) rfl ?_); at_builtin; refine Kd.R_append Kd.string (w0 := w) w.heap.size rfl (.tmp 13) (.tmp 16) 25 9 (.string ⟨#[]⟩) 16 rfl Tryd.underlying25 info9 rfl (by decide) (by omega) u4 x4_1 (strOfNums (rd_L3 l0 x9_1)) [.string (strOfNums (rd_L3 l0 x9_1))] (fun _ => True) (fun _ => False) rfl rfl ?aP (fun _ hk => hk.elim) ?aF ?aO ?aB ?aS ?aL ?_; (case aP => exact rfl); (case aB => exact (by repeat (first | (with_reducible first | exact HB.out | apply below_alloc | apply pw_below_drewN | apply below_drew1) | exact HB.out))); (case aF => exact (fun _ _ => trivial)); (case aO => exact (by (with_reducible repeat (first | apply Kd.R_alloc | apply Kd.R_drewN | apply Kd.R_drew)); exact HO_4.out)); (case aS => exact (below_size (by repeat (first | (with_reducible first | exact HB.out | apply below_alloc | apply pw_below_drewN | apply below_drew1) | exact HB.out)))); (case aL => have := LMc5.out; omega); intro v343 w7 ho hb hg hat; rw [← Ny342.out] at ho; have n0_ := Aside0.mk (hb); have n1_ := Aside0.mk (ho); clear HB; clear HO_4; have HB := n0_; have HO344 := n1_; clear n0_ n1_; clear ho hb hg hat))
              go_roundg k1
              case measure => have := HK1.out; omega
              case rel => exact ⟨(y342), (wrap64 (x9_1 + 1)), (by first | rfl | (simp; done) | (simp [*]; done) | (simp [wrap64]; done)), H', ⟨by have := HK1.out; omega⟩, ⟨by (with_reducible repeat (first | apply Kd.R_alloc | apply Kd.R_drewN | apply Kd.R_drew)); exact HO344.out⟩, ⟨by repeat (first | (with_reducible first | exact HB.out | apply below_alloc | apply pw_below_drewN | apply below_drew1) | exact HB.out)⟩⟩
            · rw [if_neg c5] at H
              exact absurd H (by simp)
          · rw [if_neg c4] at H
            exact absurd H (by simp)
        · rw [if_neg c3] at H
          exact absurd H (by simp)
      · rw [if_neg c2] at H
        have c2b0 : decide (x9_1 < (l0.length : Int)) = false := decide_eq_false c2
        clear c2
        replace H := Option.bind_eq_some_iff.mp H
        obtain ⟨t345, A80, H⟩ := H
        replace H : (some (x4_1, t345)) = some (r1, r2) := H
        have A8 := Aside0.mk A80
        clear A80
        simp only [Option.some.injEq, Prod.mk.injEq] at H
        obtain ⟨rfl, rfl⟩ := H
        obtain ⟨Ao9, co9, eo9⟩ := Kd.R_slice HO_4.out
        subst eo9
        go_wp2_with (first | ((with_reducible refine gate_callee (f := 47) rfl ?_); refine goesL_ (some 21) rfl rfl Tryd.func47 (by kernel_rfl) rfl #[.slice Ao9 x4_1.length co9] rfl (by (try simp only [List.map_toArray, List.map_cons, List.map_nil]); first | done | rfl | (simp only [List.length_drop, List.length_take]; rfl)) ?_; (with_reducible refine (spec_Name_Valid.calls k1 _ _ x4_1 t345 _ ?side1 ?side2 A8.out).mono ?_); (case side1 => repeat (first | exact (Kd.R_reads' HO_4.out).2.2 | (with_reducible refine Kd.C_alloc ?_ _) | (with_reducible refine Kd.C_drewN ?_ _) | (with_reducible refine Kd.C_drew ?_))); (case side2 => exact (Kd.R_reads' HO_4.out).2.1); rintro e w' ⟨rfl, ⟨nd, rfl⟩⟩; refine ⟨_, rfl, ?_⟩))
        go_ret2
        exact ⟨_, by first | rfl | (simp [errW_none, errW_some] <;> rfl) | (simp [*, errW_none, errW_some] <;> rfl), by (with_reducible repeat (first | apply Kd.R_alloc | apply Kd.R_drewN | apply Kd.R_drew)); exact HO_4.out, by repeat (first | (with_reducible first | exact HB.out | apply below_alloc | apply pw_below_drewN | apply below_drew1) | exact HB.out)⟩

end Go.Proofs.YtiilihafcdmccaaDoor.P
-- Written by a program of this session (wip/tools/pprint.py) out of the translation: it goes by the kit's print and by the contracts of YtiilihafcdmccaaDoorHand. Not trusted: Lean checks it.
namespace Go.Proofs.YtiilihafcdmccaaDoor.P
open Go.RowKit Go.Proofs.YtiilihafcdmccaaDoorW.PrintWords Go.Proofs.YtiilihafcdmccaaDoorW.PrintLast Go.Proofs.YtiilihafcdmccaaDoorW.PrintMore
attribute [local go_sem] max2_int min2_int max_two min_two max_three min_three max_four min_four   -- for this text's walks alone
set_option linter.unusedVariables false
set_option linter.unusedSimpArgs false

/-! ### laws_zzFits9: function 34 -/
def laws_zzFits9.l0 : Nat → List (List Int) → Int → Int → Option (Bool)
  | 0, _, _, _ => none
  | k + 1, x8, x9, x10 => if x10 < x9 then (if 0 ≤ x10 then (if x10 < (x8.length : Int) then (if ((rd_L3 x8 x10).length : Int) > 2147483647 then (some false) else (laws_zzFits9.l0 k x8 x9 (wrap64 (x10 + 1)))) else (none)) else (none)) else (some true)
def laws_zzFits9.f (k : Nat) (l0 : List (List Int)) : Option (Bool) := if (l0.length : Int) > 2147483647 then (some false) else (laws_zzFits9.l0 k l0 (l0.length : Int) 0)
theorem laws_zzFits9.mono_l : ∀ k, (∀ y0 y1 y2, LeO (laws_zzFits9.l0 k y0 y1 y2) (laws_zzFits9.l0 (k + 1) y0 y1 y2))
  | 0 => fun _ _ _ r h => by simp [laws_zzFits9.l0] at h
  | k + 1 => by
    have ih0 := laws_zzFits9.mono_l k
    · intro y0 y1 y2
      unfold laws_zzFits9.l0
      repeat' first
      | (with_reducible exact ih0 _ _ _)
      | (with_reducible exact LeO.refl _)
      | (with_reducible exact LeO.none _)
      | (with_reducible refine LeO.ite ?_ ?_)
      | (with_reducible refine LeO.bind ?_ (fun _ => ?_))
      | exact ih0 _ _ _
      | exact LeO.none _
      | refine LeO.ite ?_ ?_
      | refine LeO.bind ?_ (fun _ => ?_)
theorem laws_zzFits9.mono : ∀ a0 k, LeO (laws_zzFits9.f k a0) (laws_zzFits9.f (k + 1) a0) := by
  intro a0 k
  have ih0 := laws_zzFits9.mono_l k
  unfold laws_zzFits9.f
  repeat' first
      | (with_reducible exact ih0 _ _ _)
      | (with_reducible exact LeO.refl _)
      | (with_reducible exact LeO.none _)
      | (with_reducible refine LeO.ite ?_ ?_)
      | (with_reducible refine LeO.bind ?_ (fun _ => ?_))
      | exact ih0 _ _ _
      | exact LeO.none _
      | refine LeO.ite ?_ ?_
      | refine LeO.bind ?_ (fun _ => ?_)
set_option maxHeartbeats 8000000 in
set_option maxRecDepth 100000 in
theorem laws_zzFits9.calls (k : Nat) (A0 : Option Addr) (c0 : Nat) (l0 : List (List Int)) (r : Bool) (w : World) (hr0 : Kd.C (Kd.slice 5 (Kd.int .u8)) w A0 l0.length l0) (hc0 : l0.length ≤ c0) (h : laws_zzFits9.f k l0 = some r) :
    Calls Tryd.prog 34 #[.slice A0 l0.length c0] w fun e w' => e = .returned (.bool r) ∧ Drawn0 w w' := by
  have HR0 := Aside0.mk hr0
  have HC0 := Aside0.mk hc0
  clear hr0 hc0
  have H : (if (l0.length : Int) > 2147483647 then (some false) else (laws_zzFits9.l0 k l0 (l0.length : Int) 0)) = some r := h
  clear h
  by_cases c2 : (l0.length : Int) > 2147483647
  · rw [if_pos c2] at H
    have c2b0 : decide (2147483647 < (l0.length : Int)) = true := decide_eq_true c2
    have c2b1 : decide (2147483647 < l0.length) = true := decide_eq_true (by omega)
    clear c2
    obtain rfl := Option.some.inj H
    go_enter Tryd.func34, Tryd.ntmps34
    go_wp2
    go_ret
    exact ⟨by first | rfl | (simp; done) | (simp [*]; done) | (simp [wrap64]; done), by repeat (first | exact Drawn0.refl _ | apply Drawn0.step)⟩
  · rw [if_neg c2] at H
    have c2b0 : decide (2147483647 < (l0.length : Int)) = false := decide_eq_false c2
    have c2b1 : decide (2147483647 < l0.length) = false := decide_eq_false (by omega)
    clear c2
    have H' := Aside0.mk H
    clear H
    go_enter Tryd.func34, Tryd.ntmps34
    go_wp2
    go_loopg [10] k (fun kq v10 w' => ∃ (x10_1 : Int), v10 = .int .i64 x10_1 ∧ Aside0 (laws_zzFits9.l0 kq l0 (l0.length : Int) x10_1 = some r) ∧ Aside0 (kq ≤ k) ∧ Drawn0 w w')
    case atStart => exact ⟨(0), (by first | rfl | (simp; done) | (simp [*]; done) | (simp [wrap64]; done)), H', ⟨Nat.le_refl _⟩, by repeat (first | exact Drawn0.refl _ | apply Drawn0.step)⟩
    case round =>
      clear H'
      try clear c2
      try clear c2b0
      try clear c2b1
      try clear p2
      obtain ⟨x10_1, rfl, HA, HK1, ⟨m1, rfl⟩⟩ := hrel
      cases gk with
      | zero => exact absurd HA.out (by simp [laws_zzFits9.l0])
      | succ k1 =>
        have H := HA.out
        clear HA
        simp only [laws_zzFits9.l0] at H
        by_cases c3 : x10_1 < (l0.length : Int)
        · rw [if_pos c3] at H
          have c3b0 : decide (x10_1 < (l0.length : Int)) = true := decide_eq_true c3
          clear c3
          by_cases c4 : 0 ≤ x10_1
          · rw [if_pos c4] at H
            have c4b0 : decide (0 ≤ x10_1) = true := decide_eq_true c4
            clear c4
            by_cases c5 : x10_1 < (l0.length : Int)
            · rw [if_pos c5] at H
              have c5b0 : decide (x10_1 < (l0.length : Int)) = true := decide_eq_true c5
              clear c5
              by_cases c6 : ((rd_L3 l0 x10_1).length : Int) > 2147483647
              · rw [if_pos c6] at H
                have c6b0 : decide (2147483647 < ((rd_L3 l0 x10_1).length : Int)) = true := decide_eq_true c6
                have c6b1 : decide (2147483647 < (rd_L3 l0 x10_1).length) = true := decide_eq_true (by omega)
                clear c6
                obtain rfl := Option.some.inj H
                have p340 : 0 ≤ (x10_1 : Int) := of_decide_eq_true (by first | (with_reducible assumption) | assumption)
                have q340 : x10_1 < (l0.length : Int) := of_decide_eq_true (by first | (with_reducible assumption) | assumption)
                obtain ⟨ad340, A340_0, c340_0, e340, hx340_0, hl340_0, hi340_0⟩ := at_L3 HR0.out x10_1 p340 q340
                cases e340
                have HR340_0 := Aside0.mk hi340_0
                have HC340_0 := Aside0.mk hl340_0
                clear hi340_0 hl340_0
                replace p340 := eq_true p340
                replace q340 := eq_true q340
                go_wp2
                go_ret
                exact ⟨by first | rfl | (simp; done) | (simp [*]; done) | (simp [wrap64]; done), by repeat (first | exact Drawn0.refl _ | apply Drawn0.step)⟩
              · rw [if_neg c6] at H
                have c6b0 : decide (2147483647 < ((rd_L3 l0 x10_1).length : Int)) = false := decide_eq_false c6
                have c6b1 : decide (2147483647 < (rd_L3 l0 x10_1).length) = false := decide_eq_false (by omega)
                clear c6
                have H' := Aside0.mk H
                clear H
                have p340 : 0 ≤ (x10_1 : Int) := of_decide_eq_true (by first | (with_reducible assumption) | assumption)
                have q340 : x10_1 < (l0.length : Int) := of_decide_eq_true (by first | (with_reducible assumption) | assumption)
                obtain ⟨ad340, A340_0, c340_0, e340, hx340_0, hl340_0, hi340_0⟩ := at_L3 HR0.out x10_1 p340 q340
                cases e340
                have HR340_0 := Aside0.mk hi340_0
                have HC340_0 := Aside0.mk hl340_0
                clear hi340_0 hl340_0
                replace p340 := eq_true p340
                replace q340 := eq_true q340
                go_wp2
                go_roundg k1
                case measure => have := HK1.out; omega
                case rel => exact ⟨(wrap64 (x10_1 + 1)), (by first | rfl | (simp; done) | (simp [*]; done) | (simp [wrap64]; done)), H', ⟨by have := HK1.out; omega⟩, by repeat (first | exact Drawn0.refl _ | apply Drawn0.step)⟩
            · rw [if_neg c5] at H
              exact absurd H (by simp)
          · rw [if_neg c4] at H
            exact absurd H (by simp)
        · rw [if_neg c3] at H
          have c3b0 : decide (x10_1 < (l0.length : Int)) = false := decide_eq_false c3
          clear c3
          obtain rfl := Option.some.inj H
          go_wp2
          go_ret
          exact ⟨by first | rfl | (simp; done) | (simp [*]; done) | (simp [wrap64]; done), by repeat (first | exact Drawn0.refl _ | apply Drawn0.step)⟩

end Go.Proofs.YtiilihafcdmccaaDoor.P
-- Written by a program of this session (wip/tools/pprint.py) out of the translation: it goes by the kit's print and by the contracts of YtiilihafcdmccaaDoorHand. Not trusted: Lean checks it.
namespace Go.Proofs.YtiilihafcdmccaaDoor.P
open Go.RowKit Go.Proofs.YtiilihafcdmccaaDoorW.PrintWords Go.Proofs.YtiilihafcdmccaaDoorW.PrintLast Go.Proofs.YtiilihafcdmccaaDoorW.PrintMore
attribute [local go_sem] max2_int min2_int max_two min_two max_three min_three max_four min_four   -- for this text's walks alone
set_option linter.unusedVariables false
set_option linter.unusedSimpArgs false

/-! ### spec_Name_Wire: function 38 -/
def spec_Name_Wire.l0 : Nat → List Int → List ByteArray → Int → Int → Option (List Int)
  | 0, _, _, _, _ => none
  | k + 1, x3, x6, x7, x8 => if x8 < x7 then (if 0 ≤ x8 then (if x8 < (x6.length : Int) then (if x3.length < 140737488355328 then ((some (x3 ++ [(((rdOf ByteArray.empty x6 x8).size : Int)) % 256] : List Int)).bind fun y399 => (if y399.length + (rdOf ByteArray.empty x6 x8).size < 140737488355328 then (spec_Name_Wire.l0 k (y399 ++ bytesOf (rdOf ByteArray.empty x6 x8)) x6 x7 (wrap64 (x8 + 1))) else (none))) else (none)) else (none)) else (none)) else (if x3.length < 140737488355328 then (some (x3 ++ [0])) else (none))
def spec_Name_Wire.f (k : Nat) (l0 : List ByteArray) : Option (List Int) := spec_Name_Wire.l0 k ([] : List Int) l0 (l0.length : Int) 0
theorem spec_Name_Wire.mono_l : ∀ k, (∀ y0 y1 y2 y3, LeO (spec_Name_Wire.l0 k y0 y1 y2 y3) (spec_Name_Wire.l0 (k + 1) y0 y1 y2 y3))
  | 0 => fun _ _ _ _ r h => by simp [spec_Name_Wire.l0] at h
  | k + 1 => by
    have ih0 := spec_Name_Wire.mono_l k
    · intro y0 y1 y2 y3
      unfold spec_Name_Wire.l0
      repeat' first
      | (with_reducible exact ih0 _ _ _ _)
      | (with_reducible exact LeO.refl _)
      | (with_reducible exact LeO.none _)
      | (with_reducible refine LeO.ite ?_ ?_)
      | (with_reducible refine LeO.bind ?_ (fun _ => ?_))
      | exact ih0 _ _ _ _
      | exact LeO.none _
      | refine LeO.ite ?_ ?_
      | refine LeO.bind ?_ (fun _ => ?_)
theorem spec_Name_Wire.mono : ∀ a0 k, LeO (spec_Name_Wire.f k a0) (spec_Name_Wire.f (k + 1) a0) := by
  intro a0 k
  have ih0 := spec_Name_Wire.mono_l k
  unfold spec_Name_Wire.f
  repeat' first
      | (with_reducible exact ih0 _ _ _ _)
      | (with_reducible exact LeO.refl _)
      | (with_reducible exact LeO.none _)
      | (with_reducible refine LeO.ite ?_ ?_)
      | (with_reducible refine LeO.bind ?_ (fun _ => ?_))
      | exact ih0 _ _ _ _
      | exact LeO.none _
      | refine LeO.ite ?_ ?_
      | refine LeO.bind ?_ (fun _ => ?_)
set_option maxHeartbeats 8000000 in
set_option maxRecDepth 100000 in
theorem spec_Name_Wire.calls (k : Nat) (A0 : Option Addr) (c0 : Nat) (l0 : List ByteArray) (r : List Int) (w : World) (hr0 : Kd.C Kd.string w A0 l0.length l0) (hc0 : l0.length ≤ c0) (h : spec_Name_Wire.f k l0 = some r) :
    Calls Tryd.prog 38 #[.slice A0 l0.length c0] w fun e w' => ∃ v0_ : Value, e = .returned (v0_) ∧ Kd.R (Kd.int .u8) 5 w' w.heap.size (fun _ => True) v0_ r ∧ Below w.heap.size w w' := by
  have HR0 := Aside0.mk hr0
  have HC0 := Aside0.mk hc0
  clear hr0 hc0
  have HB := Aside0.mk (Below.refl w.heap.size w)
  have H : (spec_Name_Wire.l0 k ([] : List Int) l0 (l0.length : Int) 0) = some r := h
  clear h
  have H' := Aside0.mk H
  clear H
  go_enter Tryd.func38, Tryd.ntmps38
  go_wp2
  go_loopg [3, 8] k (fun kq v3 v8 w' => ∃ (x3_1 : List Int) (x8_1 : Int), v8 = .int .i64 x8_1 ∧ Aside0 (spec_Name_Wire.l0 kq x3_1 l0 (l0.length : Int) x8_1 = some r) ∧ Aside0 (kq ≤ k) ∧ Aside0 (Kd.R (Kd.int .u8) 5 w' w.heap.size (fun _ => True) v3 x3_1) ∧ Aside0 (Below w.heap.size w w'))
  case atStart => exact ⟨(([] : List Int)), (0), (by first | rfl | (simp; done) | (simp [*]; done) | (simp [wrap64]; done)), H', ⟨Nat.le_refl _⟩, ⟨by first | exact Kd.R_nil _ _ _ _ _ | exact Kd.N_nil _ _ _ _ _ | exact Kd.V_nil _ _ _ _ _ | exact Kd.Q_nil _ _ _ _ _ | exact Kd.S_nil _ _ _ _ _⟩, ⟨by repeat (first | (with_reducible first | exact HB.out | apply below_alloc | apply pw_below_drewN | apply below_drew1) | exact HB.out)⟩⟩
  case round =>
    clear H'
    obtain ⟨x3_1, x8_1, rfl, HA, HK1, HO_3, HB⟩ := hrel
    cases gk with
    | zero => exact absurd HA.out (by simp [spec_Name_Wire.l0])
    | succ k1 =>
      have H := HA.out
      clear HA
      simp only [spec_Name_Wire.l0] at H
      by_cases c2 : x8_1 < (l0.length : Int)
      · rw [if_pos c2] at H
        have c2b0 : decide (x8_1 < (l0.length : Int)) = true := decide_eq_true c2
        clear c2
        by_cases c3 : 0 ≤ x8_1
        · rw [if_pos c3] at H
          have c3b0 : decide (0 ≤ x8_1) = true := decide_eq_true c3
          clear c3
          by_cases c4 : x8_1 < (l0.length : Int)
          · rw [if_pos c4] at H
            have c4b0 : decide (x8_1 < (l0.length : Int)) = true := decide_eq_true c4
            clear c4
            by_cases c5 : x3_1.length < 140737488355328
            · rw [if_pos c5] at H
              have LMc5 := Aside0.mk c5
              clear c5
              obtain ⟨y399, hy399⟩ : ∃ y_ : List Int, y_ = (x3_1 ++ [(((rdOf ByteArray.empty l0 x8_1).size : Int)) % 256]) := ⟨_, rfl⟩
              replace H : (if y399.length + (rdOf ByteArray.empty l0 x8_1).size < 140737488355328 then (spec_Name_Wire.l0 k1 (y399 ++ bytesOf (rdOf ByteArray.empty l0 x8_1)) l0 (l0.length : Int) (wrap64 (x8_1 + 1))) else (none)) = some r := by first | (rw [hy399]; with_reducible exact H) | (have H2_ := (Option.bind_some _ _).symm.trans H; rw [hy399]; with_reducible exact H2_) | (have H2_ := (Option.bind_some _ _).symm.trans H; with_reducible exact H2_) | with_reducible exact H | (rw [hy399]; exact H) | exact H
              have Ny399 := Aside0.mk hy399
              clear hy399
              by_cases c6 : y399.length + (rdOf ByteArray.empty l0 x8_1).size < 140737488355328
              · rw [if_pos c6] at H
                have LMc6 := Aside0.mk c6
                clear c6
                obtain ⟨y402, hy402⟩ : ∃ y_ : List Int, y_ = (y399 ++ bytesOf (rdOf ByteArray.empty l0 x8_1)) := ⟨_, rfl⟩
                replace H : (spec_Name_Wire.l0 k1 y402 l0 (l0.length : Int) (wrap64 (x8_1 + 1))) = some r := by first | (rw [hy402]; with_reducible exact H) | (have H2_ := (Option.bind_some _ _).symm.trans H; rw [hy402]; with_reducible exact H2_) | (have H2_ := (Option.bind_some _ _).symm.trans H; with_reducible exact H2_) | with_reducible exact H | (rw [hy402]; exact H) | exact H
                have Ny402 := Aside0.mk hy402
                clear hy402
                have H' := Aside0.mk H
                clear H
                have p398 : 0 ≤ (x8_1 : Int) := of_decide_eq_true (by first | (with_reducible assumption) | assumption)
                have q398 : x8_1 < (l0.length : Int) := of_decide_eq_true (by first | (with_reducible assumption) | assumption)
                obtain ⟨ad398, e398, hx398_0⟩ := Kd.at_string HR0.out x8_1 p398 q398
                cases e398
                replace hx398_0 := (HB.out.cell (World.block_lt_of_cell? w _ hx398_0)).trans hx398_0
                replace p398 := eq_true p398
                replace q398 := eq_true q398
                go_wp2_with (first | ((with_reducible refine gate_builtin (b := .append) (xs := #[.tmp 12, .tmp 16]) rfl ?_); at_builtin; refine Kd.R_append (Kd.int .u8) (w0 := w) w.heap.size rfl (.tmp 12) (.tmp 16) 22 5 (.int .u8 0) 1 rfl Tryd.underlying22 info5 rfl (by decide) (by omega) u3 x3_1 ((((rdOf ByteArray.empty l0 x8_1).size : Int)) % 256) [.int .u8 ((((rdOf ByteArray.empty l0 x8_1).size : Int)) % 256)] (fun _ => True) (fun _ => False) rfl rfl ?aP (fun _ hk => hk.elim) ?aF ?aO ?aB ?aS ?aL ?_; (case aP => exact rfl); (case aB => exact (by repeat (first | (with_reducible first | exact HB.out | apply below_alloc | apply pw_below_drewN | apply below_drew1) | exact HB.out))); (case aF => exact (fun _ _ => trivial)); (case aO => exact (by (with_reducible repeat (first | apply Kd.R_alloc | apply Kd.R_drewN | apply Kd.R_drew)); exact HO_3.out)); (case aS => exact (below_size (by repeat (first | (with_reducible first | exact HB.out | apply below_alloc | apply pw_below_drewN | apply below_drew1) | exact HB.out)))); (case aL => have := LMc5.out; omega); intro v400 w7 ho hb hg hat; rw [← Ny399.out] at ho; have n0_ := Aside0.mk (hb); have n1_ := Aside0.mk (ho); clear HB; clear HO_3; have HB := n0_; have HO401 := n1_; clear n0_ n1_; clear ho hb hg hat) | (at_builtin; refine print_append_str (w0 := w) w.heap.size rfl (.tmp 17) _ 22 9 5 rfl Tryd.underlying22 Tryd.underlying9 info5 v400 y399 (rdOf ByteArray.empty l0 x8_1) rfl rfl ?aO ?aB ?aS ?aL ?_; (case aB => exact (by repeat (first | (with_reducible first | exact HB.out | apply below_alloc | apply pw_below_drewN | apply below_drew1) | exact HB.out))); (case aO => exact (Kd.own_of_R (by (with_reducible repeat (first | apply Kd.R_alloc | apply Kd.R_drewN | apply Kd.R_drew)); exact HO401.out))); (case aS => exact (below_size (by repeat (first | (with_reducible first | exact HB.out | apply below_alloc | apply pw_below_drewN | apply below_drew1) | exact HB.out)))); (case aL => have := LMc6.out; omega); intro v403 w8 ho0 hb hg; have ho := Kd.R_of_own (h1 := fun _ => rfl) (ok := fun _ => True) ho0 (fun _ _ => trivial); clear ho0; have hat := True.intro; rw [← Ny402.out] at ho; change Kd.R (Kd.int .u8) 5 w8 w.heap.size (fun _ => True) v403 y402 at ho; have n0_ := Aside0.mk (hb); have n1_ := Aside0.mk (ho); clear HB; clear HO401; have HB := n0_; have HO404 := n1_; clear n0_ n1_; clear ho hb hg hat))
                go_roundg k1
                case measure => have := HK1.out; omega
                case rel => exact ⟨(y402), (wrap64 (x8_1 + 1)), (by first | rfl | (simp; done) | (simp [*]; done) | (simp [wrap64]; done)), H', ⟨by have := HK1.out; omega⟩, ⟨by (with_reducible repeat (first | apply Kd.R_alloc | apply Kd.R_drewN | apply Kd.R_drew)); exact HO404.out⟩, ⟨by repeat (first | (with_reducible first | exact HB.out | apply below_alloc | apply pw_below_drewN | apply below_drew1) | exact HB.out)⟩⟩
              · rw [if_neg c6] at H
                exact absurd H (by simp)
            · rw [if_neg c5] at H
              exact absurd H (by simp)
          · rw [if_neg c4] at H
            exact absurd H (by simp)
        · rw [if_neg c3] at H
          exact absurd H (by simp)
      · rw [if_neg c2] at H
        have c2b0 : decide (x8_1 < (l0.length : Int)) = false := decide_eq_false c2
        clear c2
        by_cases c9 : x3_1.length < 140737488355328
        · rw [if_pos c9] at H
          have LMc9 := Aside0.mk c9
          clear c9
          obtain ⟨y405, hy405⟩ : ∃ y_ : List Int, y_ = (x3_1 ++ [0]) := ⟨_, rfl⟩
          replace H : (some y405) = some r := by first | (rw [hy405]; with_reducible exact H) | (have H2_ := (Option.bind_some _ _).symm.trans H; rw [hy405]; with_reducible exact H2_) | (have H2_ := (Option.bind_some _ _).symm.trans H; with_reducible exact H2_) | with_reducible exact H | (rw [hy405]; exact H) | exact H
          have Ny405 := Aside0.mk hy405
          clear hy405
          obtain rfl := Option.some.inj H
          go_wp2_with (first | ((with_reducible refine gate_builtin (b := .append) (xs := #[.tmp 21, .tmp 22]) rfl ?_); at_builtin; refine Kd.R_append (Kd.int .u8) (w0 := w) w.heap.size rfl (.tmp 21) (.tmp 22) 22 5 (.int .u8 0) 1 rfl Tryd.underlying22 info5 rfl (by decide) (by omega) u3 x3_1 0 [.int .u8 0] (fun _ => True) (fun _ => False) rfl rfl ?aP (fun _ hk => hk.elim) ?aF ?aO ?aB ?aS ?aL ?_; (case aP => exact rfl); (case aB => exact (by repeat (first | (with_reducible first | exact HB.out | apply below_alloc | apply pw_below_drewN | apply below_drew1) | exact HB.out))); (case aF => exact (fun _ _ => trivial)); (case aO => exact (by (with_reducible repeat (first | apply Kd.R_alloc | apply Kd.R_drewN | apply Kd.R_drew)); exact HO_3.out)); (case aS => exact (below_size (by repeat (first | (with_reducible first | exact HB.out | apply below_alloc | apply pw_below_drewN | apply below_drew1) | exact HB.out)))); (case aL => have := LMc9.out; omega); intro v406 w10 ho hb hg hat; rw [← Ny405.out] at ho; have n0_ := Aside0.mk (hb); have n1_ := Aside0.mk (ho); clear HB; clear HO_3; have HB := n0_; have HO407 := n1_; clear n0_ n1_; clear ho hb hg hat))
          go_ret
          exact ⟨_, by first | rfl | (simp [errW_none, errW_some] <;> rfl) | (simp [*, errW_none, errW_some] <;> rfl), by (with_reducible repeat (first | apply Kd.R_alloc | apply Kd.R_drewN | apply Kd.R_drew)); exact HO407.out, by repeat (first | (with_reducible first | exact HB.out | apply below_alloc | apply pw_below_drewN | apply below_drew1) | exact HB.out)⟩
        · rw [if_neg c9] at H
          exact absurd H (by simp)

end Go.Proofs.YtiilihafcdmccaaDoor.P
/- How the reference writes a name as a text ('(*chooser).of', 'char', 'name'), in the words of Core; the wire form; what is packed. -/
namespace Go.Proofs.YtiilihafcdmccaaDoor.P
open Go.RowKit Go.Proofs.YtiilihafcdmccaaDoorW.PrintWords
set_option linter.unusedVariables false
set_option linter.unusedSimpArgs false

/-! ### choices -/
theorem of_ev (nums : List Int) (at_ : Int) (m : Int) (h0 : 0 ≤ at_) (h1 : at_ ≤ 1000000) (hm : 2 ≤ m) (hl : (nums.length : Int) ≤ 140737488351232) :
    ∃ v a, Ev (fun k => spec_chooser_of.f k nums at_ [] false m) (v, a, false) ∧ at_ ≤ a ∧ a ≤ at_ + 1 := by
  by_cases hn : (nums.length : Int) = 0
  · refine ⟨0, at_, ⟨1, fun k hk => ?_⟩, Int.le_refl _, by omega⟩
    obtain ⟨k, rfl⟩ : ∃ j, k = j + 1 := ⟨k - 1, by omega⟩
    show spec_chooser_of.f (k + 1) nums at_ [] false m = _
    unfold spec_chooser_of.f
    rw [if_pos hn]
    simp [spec_chooser_of.j0]
  · have hp : (0 : Int) < nums.length := by omega
    have h2 := Int.tmod_nonneg (nums.length : Int) h0
    have h3 := Int.tmod_lt_of_pos at_ hp
    have hw : wrap64 (at_ + 1) = at_ + 1 := w64 (by omega) (by omega)
    by_cases hv : Int.tmod (rd nums (Int.tmod at_ (nums.length : Int))) m < 0
    · refine ⟨wrap64 (Int.tmod (rd nums (Int.tmod at_ (nums.length : Int))) m + m), at_ + 1, ⟨1, fun k hk => ?_⟩, by omega, Int.le_refl _⟩
      obtain ⟨k, rfl⟩ : ∃ j, k = j + 1 := ⟨k - 1, by omega⟩
      show spec_chooser_of.f (k + 1) nums at_ [] false m = _
      unfold spec_chooser_of.f
      rw [if_neg hn, decide_eq_false (by omega)]
      simp only [spec_chooser_of.j0]
      rw [if_neg Bool.false_ne_true, if_neg hn, if_pos h2, if_pos h3, if_neg (by omega), if_pos hv, hw]
    · refine ⟨Int.tmod (rd nums (Int.tmod at_ (nums.length : Int))) m, at_ + 1, ⟨1, fun k hk => ?_⟩, by omega, Int.le_refl _⟩
      obtain ⟨k, rfl⟩ : ∃ j, k = j + 1 := ⟨k - 1, by omega⟩
      show spec_chooser_of.f (k + 1) nums at_ [] false m = _
      unfold spec_chooser_of.f
      rw [if_neg hn, decide_eq_false (by omega)]
      simp only [spec_chooser_of.j0]
      rw [if_neg Bool.false_ne_true, if_neg hn, if_pos h2, if_pos h3, if_neg (by omega), if_neg hv, hw]

def dddL (b : Int) : List Int := [92, 48 + b / 100, 48 + b / 10 % 10, 48 + b % 10]
theorem ddd_f (b : Int) (h0 : 0 ≤ b) (h : b < 256) : spec_ddd.f b = some (strOfNums (dddL b)) := by
  unfold spec_ddd.f dddL
  rw [Int.tdiv_eq_ediv_of_nonneg h0, Int.tdiv_eq_ediv_of_nonneg h0, Int.tmod_eq_emod_of_nonneg h0]
  have e1 : (48 + (b / 100) % 256) % 256 = 48 + b / 100 := by omega
  have e2 : 48 + ((b / 10) % 256) % 10 = 48 + b / 10 % 10 := by omega
  have e3 : (48 + b % 10) % 256 = 48 + b % 10 := by omega
  rw [e1, e2, e3]
theorem ddd_tok (b : Int) (h0 : 0 ≤ b) (h : b < 256) : Tok (dddL b) b false := by
  have e : val3 (48 + b / 100) (48 + b / 10 % 10) (48 + b % 10) = b := by unfold val3; omega
  have := Tok.ddd (48 + b / 100) (48 + b / 10 % 10) (48 + b % 10) (by unfold dig; omega) (by unfold dig; omega) (by unfold dig; omega) (by rw [e]; exact h)
  rwa [e] at this
def Asc (l : List Int) : Prop := ∀ x ∈ l, 0 ≤ x ∧ x < 128
theorem ddd_asc (b : Int) (h0 : 0 ≤ b) (h : b < 256) : Asc (dddL b) := by
  intro x hx
  simp [dddL] at hx
  omega
theorem Asc.append {l m : List Int} (h : Asc l) (k : Asc m) : Asc (l ++ m) := fun x hx => (List.mem_append.1 hx).elim (h x) (k x)
/-- What a byte is written as. -/
def Chr (b : Int) (t : List Int) : Prop := (∃ p, Tok t b p ∧ ¬ (p = true ∧ b = 46)) ∧ t.length ≤ 4 ∧ Asc t
theorem chr_ddd (b : Int) (h0 : 0 ≤ b) (h : b < 256) : Chr b (dddL b) := ⟨⟨false, ddd_tok b h0 h, fun k => by cases k.1⟩, by simp [dddL], ddd_asc b h0 h⟩
theorem j1_ddd (b : Int) (h0 : 0 ≤ b) (h : b < 256) (nums : List Int) (at_ : Int) (must : Bool) : Ev (fun k => spec_chooser_char.j1 k b must true nums at_ [] false) (strOfNums (dddL b), at_, false) := by
  refine ⟨1, fun k hk => ?_⟩
  obtain ⟨k, rfl⟩ : ∃ j, k = j + 1 := ⟨k - 1, by omega⟩
  simp only [spec_chooser_char.j1]
  rw [if_pos trivial, ddd_f b h0 h]
  rfl
theorem j2_ev (b : Int) (h0 : 32 < b) (h : b < 127) (nums : List Int) (at_ : Int) (must sg : Bool) (hs : sg = true → ¬ dig b) (hmu : must = false → b ≠ 46 ∧ b ≠ 92) :
    ∃ t, Ev (fun k => spec_chooser_char.j2 k b must sg nums at_ [] false) (strOfNums t, at_, false) ∧ Chr b t := by
  cases sg with
  | true =>
    refine ⟨[92, b], ⟨1, fun k hk => ?_⟩, ⟨false, .sign b (hs rfl), fun k => by cases k.1⟩, by simp, fun x hx => by simp at hx; omega⟩
    obtain ⟨k, rfl⟩ : ∃ j, k = j + 1 := ⟨k - 1, by omega⟩
    simp only [spec_chooser_char.j2]
    rw [if_pos trivial, Option.bind_some, if_pos (by rw [strOfNums_size]; simp)]
    have e : (⟨#[92]⟩ : ByteArray) ++ strOfNums [b] = strOfNums [92, b] := by rw [show (⟨#[92]⟩ : ByteArray) = strOfNums [92] from rfl, strOfNums_append]; rfl
    rw [e]
  | false =>
    cases must with
    | true =>
      refine ⟨dddL b, ⟨1, fun k hk => ?_⟩, chr_ddd b (by omega) (by omega)⟩
      obtain ⟨k, rfl⟩ : ∃ j, k = j + 1 := ⟨k - 1, by omega⟩
      simp only [spec_chooser_char.j2]
      rw [if_neg Bool.false_ne_true, if_pos trivial, ddd_f b (by omega) (by omega)]
      rfl
    | false =>
      obtain ⟨h46, h92⟩ := hmu rfl
      refine ⟨[b], ⟨1, fun k hk => ?_⟩, ⟨true, .plain b h92, fun k => h46 k.2⟩, by simp, fun x hx => by simp at hx; omega⟩
      obtain ⟨k, rfl⟩ : ∃ j, k = j + 1 := ⟨k - 1, by omega⟩
      simp only [spec_chooser_char.j2]
      rw [if_neg Bool.false_ne_true, if_neg Bool.false_ne_true]
theorem j1_sg (b : Int) (h0 : 32 < b) (h : b < 127) (nums : List Int) (at_ : Int) (must : Bool) (hmu : must = false → b ≠ 46 ∧ b ≠ 92) (f : Nat → Option (ByteArray × Int × Bool))
    (hf : ∀ k, f k = (spec_isDigit.f b).bind fun t364 => (if t364 = true then (spec_chooser_char.j2 k b must false nums at_ [] false) else (spec_chooser_char.j2 k b must (b != 35) nums at_ [] false))) :
    ∃ t, Ev f (strOfNums t, at_, false) ∧ Chr b t := by
  by_cases hd : dig b
  · obtain ⟨t, h1, h2⟩ := j2_ev b h0 h nums at_ must false (fun k => by cases k) hmu
    refine ⟨t, Ev.congr (fun k => ?_) h1, h2⟩
    rw [hf, isDigit_eq, decide_eq_true hd, Option.bind_some, if_pos rfl]
  · obtain ⟨t, h1, h2⟩ := j2_ev b h0 h nums at_ must (b != 35) (fun _ => hd) hmu
    refine ⟨t, Ev.congr (fun k => ?_) h1, h2⟩
    rw [hf, isDigit_eq, decide_eq_false hd, Option.bind_some, if_neg Bool.false_ne_true]
theorem j1_ev (b : Int) (h0 : 32 < b) (h : b < 127) (nums : List Int) (at_ : Int) (must sk : Bool) (hmu : must = false → b ≠ 46 ∧ b ≠ 92) (ha : 0 ≤ at_) (ha1 : at_ ≤ 100000) (hl : (nums.length : Int) ≤ 140737488351232) :
    ∃ t a, Ev (fun k => spec_chooser_char.j1 k b must sk nums at_ [] false) (strOfNums t, a, false) ∧ Chr b t ∧ at_ ≤ a ∧ a ≤ at_ + 1 := by
  cases sk with
  | true => exact ⟨dddL b, at_, j1_ddd b (by omega) (by omega) nums at_ must, chr_ddd b (by omega) (by omega), Int.le_refl _, by omega⟩
  | false =>
    cases must with
    | true =>
      obtain ⟨t, h1, h2⟩ := j1_sg b h0 h nums at_ true hmu _ (fun k => rfl)
      refine ⟨t, at_, Ev.step (fun k => ?_) h1, h2, Int.le_refl _, by omega⟩
      simp only [spec_chooser_char.j1]
      rw [if_neg Bool.false_ne_true, if_pos trivial]
    | false =>
      obtain ⟨v, a, h3, h4, h5⟩ := of_ev nums at_ 12 ha (by omega) (by omega) hl
      by_cases hv : v = 11
      · obtain ⟨t, h1, h2⟩ := j1_sg b h0 h nums a false hmu _ (fun k => rfl)
        refine ⟨t, a, Ev.step (f := fun k => (spec_chooser_of.f k nums at_ [] false 12).bind fun bt365 => (if bt365.1 = 11 then ((spec_isDigit.f b).bind fun t368 => (if t368 = true then (spec_chooser_char.j2 k b false false nums bt365.2.1 [] bt365.2.2) else (spec_chooser_char.j2 k b false (b != 35) nums bt365.2.1 [] bt365.2.2))) else (spec_chooser_char.j2 k b false false nums bt365.2.1 [] bt365.2.2))) (fun k => ?_) (Ev.bind (f := fun k (bt365 : Int × Int × Bool) => (if bt365.1 = 11 then ((spec_isDigit.f b).bind fun t368 => (if t368 = true then (spec_chooser_char.j2 k b false false nums bt365.2.1 [] bt365.2.2) else (spec_chooser_char.j2 k b false (b != 35) nums bt365.2.1 [] bt365.2.2))) else (spec_chooser_char.j2 k b false false nums bt365.2.1 [] bt365.2.2))) h3 ?_), h2, h4, h5⟩
        · simp only [spec_chooser_char.j1]
          rw [if_neg Bool.false_ne_true, if_neg Bool.false_ne_true]
        · refine Ev.congr (fun k => ?_) h1
          simp only []
          rw [if_pos hv]
      · obtain ⟨t, h1, h2⟩ := j2_ev b h0 h nums a false false (fun k => by cases k) hmu
        refine ⟨t, a, Ev.step (f := fun k => (spec_chooser_of.f k nums at_ [] false 12).bind fun bt365 => (if bt365.1 = 11 then ((spec_isDigit.f b).bind fun t368 => (if t368 = true then (spec_chooser_char.j2 k b false false nums bt365.2.1 [] bt365.2.2) else (spec_chooser_char.j2 k b false (b != 35) nums bt365.2.1 [] bt365.2.2))) else (spec_chooser_char.j2 k b false false nums bt365.2.1 [] bt365.2.2))) (fun k => ?_) (Ev.bind (f := fun k (bt365 : Int × Int × Bool) => (if bt365.1 = 11 then ((spec_isDigit.f b).bind fun t368 => (if t368 = true then (spec_chooser_char.j2 k b false false nums bt365.2.1 [] bt365.2.2) else (spec_chooser_char.j2 k b false (b != 35) nums bt365.2.1 [] bt365.2.2))) else (spec_chooser_char.j2 k b false false nums bt365.2.1 [] bt365.2.2))) h3 ?_), h2, h4, h5⟩
        · simp only [spec_chooser_char.j1]
          rw [if_neg Bool.false_ne_true, if_neg Bool.false_ne_true]
        · refine Ev.congr (fun k => ?_) h1
          simp only []
          rw [if_neg hv]
theorem char_ev (b : Int) (h0 : 0 ≤ b) (h : b < 256) (nums : List Int) (at_ : Int) (must : Bool) (hmu : must = false → b ≠ 46 ∧ b ≠ 92) (ha : 0 ≤ at_) (ha1 : at_ ≤ 99999) (hl : (nums.length : Int) ≤ 140737488351232) :
    ∃ t a, Ev (fun k => spec_chooser_char.f k nums at_ [] false b must) (strOfNums t, a, false) ∧ Chr b t ∧ at_ ≤ a ∧ a ≤ at_ + 2 := by
  by_cases hp : 32 < b ∧ b < 127
  · obtain ⟨v, a, h3, h4, h5⟩ := of_ev nums at_ 9 ha (by omega) (by omega) hl
    obtain ⟨t, a2, h6, h7, h8, h9⟩ := j1_ev b hp.1 hp.2 nums a must (v == 8) hmu (by omega) (by omega) hl
    refine ⟨t, a2, Ev.congr (g := fun k => spec_chooser_char.f k nums at_ [] false b must) (f := fun k => spec_chooser_char.j0 k b must true nums at_ [] false) (fun k => ?_) (Ev.step (f := fun k => (spec_chooser_of.f k nums at_ [] false 9).bind fun bt360 => (spec_chooser_char.j1 k b must (bt360.1 == 8) nums bt360.2.1 [] bt360.2.2)) (fun k => ?_) (Ev.bind (f := fun k (bt360 : Int × Int × Bool) => (spec_chooser_char.j1 k b must (bt360.1 == 8) nums bt360.2.1 [] bt360.2.2)) h3 h6)), h7, by omega, by omega⟩
    · unfold spec_chooser_char.f
      rw [if_pos hp.1, decide_eq_true hp.2]
    · simp only [spec_chooser_char.j0]
      rw [if_pos trivial]
  · refine ⟨dddL b, at_, Ev.congr (g := fun k => spec_chooser_char.f k nums at_ [] false b must) (f := fun k => spec_chooser_char.j0 k b must false nums at_ [] false) (fun k => ?_) (Ev.step (fun k => ?_) (j1_ddd b h0 h nums at_ must)), chr_ddd b h0 h, Int.le_refl _, by omega⟩
    · unfold spec_chooser_char.f
      by_cases h32 : b > 32
      · rw [if_pos h32, decide_eq_false (by omega)]
      · rw [if_neg h32]
    · simp only [spec_chooser_char.j0]
      rw [if_neg Bool.false_ne_true]

/-! ### a name -/
theorem special_f (b : Int) : ∃ m, spec_special.f b = some m ∧ (m = false → b ≠ 46 ∧ b ≠ 92) := by
  unfold spec_special.f
  by_cases h1 : b = 46
  · exact ⟨true, by rw [if_pos h1], fun h => by cases h⟩
  · rw [if_neg h1]
    by_cases h2 : b = 40
    · exact ⟨true, by rw [if_pos h2], fun h => by cases h⟩
    · rw [if_neg h2]
      by_cases h3 : b = 41
      · exact ⟨true, by rw [if_pos h3], fun h => by cases h⟩
      · rw [if_neg h3]
        by_cases h4 : b = 59
        · exact ⟨true, by rw [if_pos h4], fun h => by cases h⟩
        · rw [if_neg h4]
          by_cases h5 : b = 64
          · exact ⟨true, by rw [if_pos h5], fun h => by cases h⟩
          · rw [if_neg h5]
            by_cases h6 : b = 34
            · exact ⟨true, by rw [if_pos h6], fun h => by cases h⟩
            · rw [if_neg h6]
              by_cases h7 : b = 92
              · exact ⟨true, by rw [if_pos h7], fun h => by cases h⟩
              · rw [if_neg h7]
                by_cases h8 : b = 36
                · exact ⟨true, by rw [if_pos h8], fun h => by cases h⟩
                · exact ⟨false, by rw [if_neg h8], fun _ => ⟨h1, h7⟩⟩
theorem lab_ev (nums : List Int) (hl : (nums.length : Int) ≤ 140737488351232) (names : List ByteArray) (N i : Int) (l : List Int) (hB : IsB l) (hlen : l.length ≤ 63) (d : Nat) : ∀ (j : Nat) (at_ : Int) , j + d = l.length → 0 ≤ at_ → at_ + 2 * d ≤ 90000 →
    ∃ r a, Lab r (l.drop j) ∧ Asc r ∧ r.length ≤ 4 * d ∧ at_ ≤ a ∧ a ≤ at_ + 2 * d ∧ ∀ (R : ByteArray × Int × Bool) (A : List Int), A.length + 4 * d + 1 ≤ 1000000 → Ev (fun k => spec_chooser_name.l0 k false (strOfNums (A ++ r ++ [46])) names N (wrap64 (i + 1)) nums a [] false) R →
      Ev (fun k => spec_chooser_name.l1 k false (strOfNums A) (strOfNums l) names N i (l.length : Nat) (j : Nat) nums at_ [] false) R := by
  induction d with
  | zero =>
    intro j at_ hj ha hb
    refine ⟨[], at_, by rw [List.drop_of_length_le (by omega)]; exact .nil, fun x hx => (by cases hx), by simp, Int.le_refl _, by omega, fun R A hA h => Ev.step (fun k => ?_) h⟩
    simp only [spec_chooser_name.l1]
    rw [if_neg (by omega), strOfNums_size, if_pos (by omega), List.append_nil, show (⟨#[46]⟩ : ByteArray) = strOfNums [46] from rfl, strOfNums_append]
  | succ d ih =>
    intro j at_ hj ha hb
    have hlt : j < l.length := by omega
    have hd := List.drop_eq_getElem_cons hlt
    have hb := hB l[j] (List.getElem_mem hlt)
    obtain ⟨m, hm, hmu⟩ := special_f l[j]
    obtain ⟨t, a, h1, ⟨⟨p, h2, h2'⟩, h3, h4⟩, h5, h6⟩ := char_ev l[j] hb.1 hb.2 nums at_ m hmu ha (by omega) hl
    obtain ⟨r, a2, k1, k2, k3, k4, k5, k6⟩ := ih (j + 1) a (by omega) (by omega) (by omega)
    have hbt : bt (strOfNums l) (j : Int) = l[j] := by
      rw [bt_nat, bytesOf_strOfNums hB, List.getD_eq_getElem?_getD, List.getElem?_eq_getElem hlt, Option.getD_some]
    refine ⟨t ++ r, a2, by rw [hd]; exact .cons h2 h2' k1, h4.append k2, by rw [List.length_append]; omega, by omega, by omega, fun R A hA h => ?_⟩
    have h7 := k6 R (A ++ t) (by rw [List.length_append]; omega) (by rw [List.append_assoc A t r]; exact h)
    refine Ev.step (f := fun k => (spec_chooser_char.f k nums at_ [] false l[j] m).bind fun bt378 => (if (strOfNums A).size + bt378.1.size ≤ 9223372036854775807 then (spec_chooser_name.l1 k false ((strOfNums A) ++ bt378.1) (strOfNums l) names N i (l.length : Nat) ((j + 1 : Nat) : Int) nums bt378.2.1 [] bt378.2.2) else none)) (fun k => ?_) (Ev.bind (f := fun k (bt378 : ByteArray × Int × Bool) => (if (strOfNums A).size + bt378.1.size ≤ 9223372036854775807 then (spec_chooser_name.l1 k false ((strOfNums A) ++ bt378.1) (strOfNums l) names N i (l.length : Nat) ((j + 1 : Nat) : Int) nums bt378.2.1 [] bt378.2.2) else none)) h1 ?_)
    · simp only [spec_chooser_name.l1]
      rw [if_pos (by omega), if_pos (by omega), if_pos (by rw [strOfNums_size]; omega), hbt, hm, Option.bind_some, w64 (x := (j : Int) + 1) (by omega) (by omega)]
      rfl
    · refine Ev.congr (fun k => ?_) h7
      simp only []
      rw [if_pos (by rw [strOfNums_size, strOfNums_size]; omega), strOfNums_append]
theorem name_l0 (nums : List Int) (hl : (nums.length : Int) ≤ 140737488351232) (n : List (List Int)) (hB : ∀ l ∈ n, IsB l) (h63 : ∀ l ∈ n, l.length ≤ 63) (hne : ∀ l ∈ n, l ≠ []) (hz : sizeL n ≤ 255) (d : Nat) : ∀ (i : Nat) (at_ : Int), i + d = n.length → 0 ≤ at_ → at_ + 2 * (sizeL (n.drop i) : Nat) ≤ 80000 →
    ∃ rs a, Labs rs (n.drop i) ∧ Asc (joinD rs) ∧ (joinD rs).length ≤ 5 * sizeL (n.drop i) ∧ ∀ A : List Int, A.length + 5 * sizeL (n.drop i) ≤ 100000 → Ev (fun k => spec_chooser_name.l0 k false (strOfNums A) (n.map strOfNums) (n.length : Nat) (i : Nat) nums at_ [] false) (strOfNums (A ++ joinD rs), a, false) := by
  induction d with
  | zero =>
    intro i at_ hi ha hb
    refine ⟨[], at_, by rw [List.drop_of_length_le (by omega)]; exact .nil, fun x hx => (by cases hx), by simp [joinD], fun A hA => ⟨1, fun k hk => ?_⟩⟩
    obtain ⟨k, rfl⟩ : ∃ j, k = j + 1 := ⟨k - 1, by omega⟩
    simp only [spec_chooser_name.l0]
    rw [if_neg (by omega), if_neg Bool.false_ne_true]
    simp [joinD]
  | succ d ih =>
    intro i at_ hi ha hb
    have hlt : i < n.length := by omega
    have hd := List.drop_eq_getElem_cons hlt
    have hm := List.getElem_mem hlt
    rw [hd] at hb ⊢
    rw [sizeL] at hb ⊢
    obtain ⟨r, a, h1, h2, h3, h4, h5, h6⟩ := lab_ev nums hl (n.map strOfNums) (n.length : Nat) (i : Nat) n[i] (hB _ hm) (h63 _ hm) n[i].length 0 at_ (by omega) ha (by omega)
    have hn1 := len_le_size n
    rw [List.drop_zero] at h1
    obtain ⟨rs, a2, k1, k2, k3, k4⟩ := ih (i + 1) a (by omega) (by omega) (by omega)
    refine ⟨r :: rs, a2, .cons h1 (hne _ hm) k1, ?_, by simp [joinD]; omega, fun A hA => ?_⟩
    · show Asc (r ++ 46 :: joinD rs)
      exact h2.append (Asc.append (l := [46]) (fun x hx => by simp at hx; omega) k2)
    · have h7 := k4 (A ++ r ++ [46]) (by simp; omega)
      rw [show A ++ r ++ [46] ++ joinD rs = A ++ joinD (r :: rs) by simp [joinD]] at h7
      refine Ev.step (fun k => ?_) (h6 _ A (by omega) (Ev.congr (fun k => ?_) h7))
      · simp only [spec_chooser_name.l0]
        rw [if_pos (by omega), if_pos (by omega), if_pos (by rw [List.length_map]; omega), rdOf_map n i hlt, strOfNums_size]
        rfl
      · rw [w64 (x := ((i : Nat) : Int) + 1) (by omega) (by omega)]
        rfl

theorem validB_inv {n : List (List Int)} (h : validB n = true) : (∀ l ∈ n, l ≠ []) ∧ (∀ l ∈ n, l.length ≤ 63) ∧ sizeL n ≤ 255 := by
  unfold validB okB at h
  rw [Bool.and_eq_true, decide_eq_true_eq, List.all_eq_true] at h
  refine ⟨fun l hl h0 => ?_, fun l hl => ?_, h.2⟩
  · have := of_decide_eq_true (h.1 l hl)
    rw [h0] at this
    exact this.1 rfl
  · exact (of_decide_eq_true (h.1 l hl)).2
theorem asc_isB {l : List Int} (h : Asc l) : IsB l := fun x hx => ⟨(h x hx).1, by have := (h x hx).2; omega⟩
theorem asc_ascii {l : List Int} (h : Asc l) : isAscii l = true := by
  unfold isAscii
  rw [List.all_eq_true]
  exact fun x hx => decide_eq_true (h x hx).2
/-- A name is written as a text of this name. -/
theorem text_ev (nums : List Int) (hl : (nums.length : Int) ≤ 140737488351232) (n : List (List Int)) (hB : ∀ l ∈ n, IsB l) (hv : validB n = true) :
    ∃ s, Ev (fun k => spec_Name_Text.f k (n.map strOfNums) nums) s ∧ TextOf s n ∧ isAscii (bytesOf s) = true ∧ s.size ≤ 2000 := by
  obtain ⟨hne, h63, hz⟩ := validB_inv hv
  by_cases hn : n = []
  · subst hn
    refine ⟨⟨#[46]⟩, ⟨0, fun k _ => ?_⟩, .inl ⟨rfl, rfl⟩, (by rw [show bytesOf (⟨#[46]⟩ : ByteArray) = [46] from rfl]; decide), (by show 1 ≤ 2000; omega)⟩
    show spec_Name_Text.f k _ _ = _
    unfold spec_Name_Text.f spec_chooser_name.f
    rw [if_pos (by simp)]
    rfl
  · obtain ⟨rs, a, h1, h2, h3, h4⟩ := name_l0 nums hl n hB h63 hne hz n.length 0 0 (by omega) (by omega) (by rw [List.drop_zero]; omega)
    rw [List.drop_zero] at h1 h3 h4
    have h5 := h4 [] (by simp; omega)
    have hbs : bytesOf (strOfNums (joinD rs)) = joinD rs := bytesOf_strOfNums (asc_isB h2)
    refine ⟨strOfNums (joinD rs), Ev.congr (f := fun k => (spec_chooser_name.l0 k false (strOfNums []) (n.map strOfNums) (n.length : Nat) ((0 : Nat) : Int) nums 0 [] false).bind fun t => some t.1) (fun k => ?_) (Ev.bind (f := fun _ (t : ByteArray × Int × Bool) => some t.1) h5 (Ev.now _)), .inr ⟨hn, rs, h1, hbs⟩, by rw [hbs]; exact asc_ascii h2, by rw [strOfNums_size]; omega⟩
    unfold spec_Name_Text.f spec_chooser_name.f
    have hp : 0 < n.length := List.length_pos_iff.2 hn
    rw [if_neg (by rw [List.length_map]; omega), List.length_map]
    rfl
theorem TextOf.fq {s : ByteArray} {n : List (List Int)} (h : TextOf s n) : fqB s = true := by
  rcases h with ⟨rfl, h⟩ | ⟨hn, rs, h1, h⟩
  · exact fq_whole (pre := []) h rfl
  · have h0 : bytesOf s ≠ [] := by
      rw [h]
      cases h1 with
      | nil => exact absurd rfl hn
      | cons _ _ _ => simp [joinD]
    rw [fq_dec h1 .nil (by rw [h, List.append_nil]) h0]
    rfl
theorem TextOf.parse {s : ByteArray} {n : List (List Int)} (h : TextOf s n) (hs : s.size ≤ 1000000) : Ev (fun k => spec_ParseName.f k s) (n.map strOfNums, true, validB n) := by
  rcases h with ⟨rfl, h⟩ | ⟨hn, rs, h1, h⟩
  · exact parse_dot h
  · have h2 := parse_ok (s := s) (by omega) h1 .nil (by rw [h, List.append_nil])
    have en : namesOf n [] = n := if_pos rfl
    rw [en, decide_eq_true ⟨rfl, hn⟩, decide_eq_true hn, Bool.true_and] at h2
    exact h2
theorem wireL_length (n : List (List Int)) : (wireL n).length = sizeL n := by
  induction n with
  | nil => rfl
  | cons l ls ih => simp [wireL, sizeL, ih]; omega
theorem pack_ev {s : ByteArray} {n : List (List Int)} (h : TextOf s n) (hB : ∀ l ∈ n, IsB l) (hv : validB n = true) (ha : isAscii (bytesOf s) = true) (hs : s.size ≤ 2000) (room : Int) (h0 : 0 ≤ room) (hr : room ≤ 100000) :
    Ev (fun k => impl_PackName.f k s room) (if ((sizeL n : Nat) : Int) ≤ room then (wireL n, true) else ([], false)) := by
  refine Ev.bind (g := fun k => spec_ParseName.f k s) (f := fun _ (x : PnR) => if x.2.2 = true ∧ x.2.1 = true ∧ ((bytesOf s).all fun c => decide (c < 128)) = true ∧ fqB s = true ∧ s.size ≤ 1000000 ∧ 0 ≤ room ∧ room ≤ 100000 then
    (if ((wireL (x.1.map bytesOf)).length : Int) ≤ room then some (wireL (x.1.map bytesOf), true) else some ([], false)) else none) (h.parse (by omega)) ?_
  refine ⟨0, fun k _ => ?_⟩
  simp only []
  rw [if_pos ⟨hv, trivial, ha, h.fq, by omega, h0, hr⟩, map_bytes hB, wireL_length]
  split <;> rfl

/-! ### the wire form -/
theorem wire_from (n : List (List Int)) (hB : ∀ l ∈ n, IsB l) (h63 : ∀ l ∈ n, l.length ≤ 63) (hz : sizeL n ≤ 255) (d : Nat) : ∀ (i : Nat) (A : List Int), i + d = n.length → A.length + sizeL (n.drop i) ≤ 1000 →
    Ev (fun k => spec_Name_Wire.l0 k A (n.map strOfNums) (n.length : Nat) (i : Nat)) (A ++ wireL (n.drop i)) := by
  have hn1 := len_le_size n
  induction d with
  | zero =>
    intro i A hi hA
    rw [List.drop_of_length_le (by omega)] at hA ⊢
    refine ⟨1, fun k hk => ?_⟩
    obtain ⟨k, rfl⟩ : ∃ j, k = j + 1 := ⟨k - 1, by omega⟩
    simp only [spec_Name_Wire.l0]
    rw [if_neg (by omega), if_pos (by omega)]
    rfl
  | succ d ih =>
    intro i A hi hA
    have hlt : i < n.length := by omega
    have hd := List.drop_eq_getElem_cons hlt
    have hm := List.getElem_mem hlt
    have hl := h63 _ hm
    rw [hd, sizeL] at hA
    rw [hd, wireL]
    have h1 := ih (i + 1) (A ++ (n[i].length : Int) :: n[i]) (by omega) (by simp; omega)
    rw [List.append_assoc] at h1
    refine Ev.step (f := fun k => spec_Name_Wire.l0 k (A ++ (n[i].length : Int) :: n[i]) (n.map strOfNums) (n.length : Nat) ((i + 1 : Nat) : Int)) (fun k => ?_) h1
    · simp only [spec_Name_Wire.l0]
      rw [if_pos (by omega), if_pos (by omega), if_pos (by rw [List.length_map]; omega), if_pos (by omega), rdOf_map n i hlt, Option.bind_some, strOfNums_size, if_pos (by simp; omega), bytesOf_strOfNums (hB _ hm), w64 (x := (i : Int) + 1) (by omega) (by omega)]
      have e : ((n[i].length : Nat) : Int) % 256 = n[i].length := by omega
      rw [e]
      simp
theorem wire_ev (n : List (List Int)) (hB : ∀ l ∈ n, IsB l) (hv : validB n = true) : Ev (fun k => spec_Name_Wire.f k (n.map strOfNums)) (wireL n) := by
  obtain ⟨hne, h63, hz⟩ := validB_inv hv
  have h := wire_from n hB h63 hz n.length 0 [] (by omega) (by rw [List.drop_zero]; simp; omega)
  rw [List.drop_zero] at h
  refine Ev.congr (fun k => ?_) h
  unfold spec_Name_Wire.f
  rw [List.length_map]
  rfl

/-! ### the guards -/
theorem rd3 (n : List (List Int)) (i : Nat) (h : i < n.length) : rd_L3 n (i : Int) = n[i] := by
  unfold rd_L3
  rw [Int.toNat_natCast, List.getD_eq_getElem?_getD, List.getElem?_eq_getElem h]
  rfl
theorem fits_from (n : List (List Int)) (hn : n.length ≤ 2147483647) (d : Nat) : ∀ i : Nat, i + d = n.length → ∃ b, Ev (fun k => laws_zzFits9.l0 k n (n.length : Nat) (i : Nat)) b ∧ (b = true → ∀ l ∈ n.drop i, l.length ≤ 2147483647) := by
  induction d with
  | zero =>
    intro i hi
    refine ⟨true, ⟨1, fun k hk => ?_⟩, fun _ => by rw [List.drop_of_length_le (by omega)]; intro l hl; cases hl⟩
    obtain ⟨k, rfl⟩ : ∃ j, k = j + 1 := ⟨k - 1, by omega⟩
    simp only [laws_zzFits9.l0]
    rw [if_neg (by omega)]
  | succ d ih =>
    intro i hi
    have hlt : i < n.length := by omega
    have hd := List.drop_eq_getElem_cons hlt
    by_cases hb : (n[i].length : Int) > 2147483647
    · refine ⟨false, ⟨1, fun k hk => ?_⟩, fun h => by cases h⟩
      obtain ⟨k, rfl⟩ : ∃ j, k = j + 1 := ⟨k - 1, by omega⟩
      simp only [laws_zzFits9.l0]
      rw [if_pos (by omega), if_pos (by omega), if_pos (by omega), rd3 n i hlt, if_pos hb]
    · obtain ⟨b, h1, h2⟩ := ih (i + 1) (by omega)
      refine ⟨b, Ev.step (fun k => ?_) h1, fun h => ?_⟩
      · simp only [laws_zzFits9.l0]
        rw [if_pos (by omega), if_pos (by omega), if_pos (by omega), rd3 n i hlt, if_neg hb, w64 (x := (i : Int) + 1) (by omega) (by omega)]
        rfl
      · rw [hd]
        intro l hl
        rcases List.mem_cons.1 hl with rfl | hl
        · omega
        · exact h2 h l hl
theorem fits_ev (n : List (List Int)) : ∃ b, Ev (fun k => laws_zzFits9.f k n) b ∧ (b = true → n.length ≤ 2147483647 ∧ ∀ l ∈ n, l.length ≤ 2147483647) := by
  by_cases h : (n.length : Int) > 2147483647
  · refine ⟨false, ⟨0, fun k _ => ?_⟩, fun h => by cases h⟩
    show laws_zzFits9.f k n = _
    unfold laws_zzFits9.f
    rw [if_pos h]
  · obtain ⟨b, h1, h2⟩ := fits_from n (by omega) n.length 0 (by omega)
    refine ⟨b, Ev.congr (fun k => ?_) h1, fun hb => ⟨by omega, h2 hb⟩⟩
    unfold laws_zzFits9.f
    rw [if_neg h]
    rfl
theorem sizeL_le (n : List (List Int)) (h : ∀ l ∈ n, l.length ≤ 2147483647) : sizeL n ≤ n.length * 2147483648 + 1 := by
  induction n with
  | nil => simp [sizeL]
  | cons l ls ih =>
    have h1 := ih (fun x hx => h x (List.mem_cons_of_mem _ hx))
    have h2 := h l List.mem_cons_self
    simp only [sizeL, List.length_cons]
    omega
theorem name_from (n : List (List Int)) (hn : n.length ≤ 2147483647) (hz : sizeL n ≤ 4611686018427387904) (d : Nat) : ∀ i : Nat, i + d = n.length → Ev (fun k => laws_name.l0 k ((n.take i).map strOfNums) n (n.length : Nat) (i : Nat)) (n.map strOfNums, validB n) := by
  induction d with
  | zero =>
    intro i hi
    rw [List.take_of_length_le (by omega)]
    refine Ev.step (f := fun k => (spec_Name_Valid.f k (n.map strOfNums)).bind fun t345 => some (n.map strOfNums, t345)) (fun k => ?_) (Ev.bind (f := fun _ t345 => some (n.map strOfNums, t345)) (valid_ev n hz) (Ev.now _))
    simp only [laws_name.l0]
    rw [if_neg (by omega)]
  | succ d ih =>
    intro i hi
    have hlt : i < n.length := by omega
    refine Ev.step (fun k => ?_) (ih (i + 1) (by omega))
    simp only [laws_name.l0]
    rw [if_pos (by omega), if_pos (by omega), if_pos (by omega), if_pos (by rw [List.length_map, List.length_take]; omega), rd3 n i hlt, w64 (x := (i : Int) + 1) (by omega) (by omega), List.take_succ_eq_append_getElem hlt, List.map_append]
    rfl
theorem name_ev (n : List (List Int)) (hn : n.length ≤ 2147483647) (hz : ∀ l ∈ n, l.length ≤ 2147483647) : Ev (fun k => laws_name.f k n) (n.map strOfNums, validB n) := by
  have h := sizeL_le n hz
  have h1 := name_from n hn (by omega) n.length 0 (by omega)
  exact h1

end Go.Proofs.YtiilihafcdmccaaDoor.P
/- 'spec.lower': a string with its letters of ASCII as small ones. -/
namespace Go.Proofs.YtiilihafcdmccaaDoor.P
open Go.RowKit Go.Proofs.YtiilihafcdmccaaDoorW.PrintWords Go.Proofs.YtiilihafcdmccaaDoorW.PrintLast Go.Proofs.YtiilihafcdmccaaDoorW.PrintMore
set_option linter.unusedVariables false
set_option linter.unusedSimpArgs false

def lowI (c : Int) : Int := if 65 ≤ c ∧ c ≤ 90 then c + 32 else c
def lowTo (s : ByteArray) (k : Nat) : List Int := ((bytesOf s).take k).map lowI ++ (bytesOf s).drop k
def lowerB (s : ByteArray) : ByteArray := strOfNums ((bytesOf s).map lowI)

theorem lowTo_length (s : ByteArray) (k : Nat) : (lowTo s k).length = s.size := by
  unfold lowTo
  rw [List.length_append, List.length_map, List.length_take, List.length_drop, bytesOf_length]
  omega
theorem lowTo_zero (s : ByteArray) : lowTo s 0 = bytesOf s := by simp [lowTo]
theorem lowTo_all (s : ByteArray) : lowTo s s.size = (bytesOf s).map lowI := by
  unfold lowTo
  rw [List.take_of_length_le (by rw [bytesOf_length]; exact Nat.le_refl _), List.drop_of_length_le (by rw [bytesOf_length]; exact Nat.le_refl _), List.append_nil]
theorem lowTo_at (s : ByteArray) (k : Nat) (h : k < s.size) : (lowTo s k).getD k 0 = bt s k := by
  have hl : k < (bytesOf s).length := by rw [bytesOf_length]; exact h
  have := rd_bytesOf s (k : Int)
  unfold rd at this
  rw [Int.toNat_natCast] at this
  rw [← this]
  unfold lowTo
  have h1 : (((bytesOf s).take k).map lowI).length = k := by rw [List.length_map, List.length_take]; omega
  rw [List.getD_eq_getElem?_getD, List.getElem?_append_right (by omega), h1, Nat.sub_self, List.getElem?_drop, List.getD_eq_getElem?_getD]
  simp
theorem lowTo_succ (s : ByteArray) (k : Nat) (h : k < s.size) : lowTo s (k + 1) = (lowTo s k).set k (lowI (bt s k)) := by
  have hl : k < (bytesOf s).length := by rw [bytesOf_length]; exact h
  have := rd_bytesOf s (k : Int)
  unfold rd at this
  rw [Int.toNat_natCast, List.getD_eq_getElem?_getD, List.getElem?_eq_getElem hl, Option.getD_some] at this
  have h1 : (((bytesOf s).take k).map lowI).length = k := by rw [List.length_map, List.length_take]; omega
  unfold lowTo
  rw [← this, List.take_succ_eq_append_getElem hl, List.map_append, List.append_assoc, List.set_append_right _ _ (by omega), h1, Nat.sub_self, List.drop_eq_getElem_cons hl, List.set_cons_zero]
  rfl
theorem lowTo_same (s : ByteArray) (k : Nat) (h : k < s.size) (hb : lowI (bt s k) = bt s k) : lowTo s (k + 1) = lowTo s k := by
  rw [lowTo_succ s k h, hb, ← lowTo_at s k h]
  have hl : k < (lowTo s k).length := by rw [lowTo_length]; exact h
  rw [List.getD_eq_getElem?_getD, List.getElem?_eq_getElem hl, Option.getD_some]
  exact List.set_getElem_self hl

theorem bt_lt (s : ByteArray) (i : Int) : 0 ≤ bt s i ∧ bt s i < 256 := by
  unfold bt
  split
  · exact ⟨by omega, by have := UInt8.toNat_lt (s[i.toNat]'‹_›); omega⟩
  · omega

theorem lower_conv {wr : World} {b e : Nat} {s : ByteArray} {P : Program} {src dst cap : Nat} (hs : P.underlying src = some (.slice e)) (he : P.underlying e = some (.int .u8)) (hd : P.underlying dst = some .string)
    (h : RowB wr b (lowTo s s.size)) : (convert src dst (.slice (some ⟨b, 0, none⟩) s.size cap)).run P wr = .ok (.string (lowerB s)) wr := by
  rw [lowTo_all] at h
  have hl : ((bytesOf s).map lowI).length = s.size := by rw [List.length_map, bytesOf_length]
  exact run_convert_bytes_arg wr src e hs he b 0 s.size cap _ hl (fun i hi => by rw [Nat.zero_add]; exact h.cell (by omega)) dst hd

set_option maxHeartbeats 1000000 in
set_option maxRecDepth 100000 in
theorem lower_any (s : ByteArray) (w : World) (hs : s.size ≤ 9223372036854775807) :
    Calls Tryd.prog 60 #[.string s] w fun e w' => e = .returned (.string (lowerB s)) ∧ Below w.heap.size w w' := by
  have kb := fun W => print_bytes (P := Tryd.prog) 9 22 5 Tryd.underlying9 Tryd.underlying22 Tryd.underlying5 s W
  have HB0 := Aside0.mk (bytes_below (Below.refl w.heap.size w) (Nat.le_refl _) 5 s)
  have HR0 : RowB (Lib.bytesWorld w 5 s) w.heap.size (lowTo s 0) := by rw [lowTo_zero]; exact RowB_bytes w 5 s
  have HR := Aside0.mk HR0
  clear HR0
  go_enter Tryd.func60, Tryd.ntmps60
  go_wp2
  generalize Lib.bytesWorld w 5 s = w1 at *
  go_loopw [10] (fun i wr => ∃ k : Nat, i = .int .i64 k ∧ k ≤ s.size ∧ RowB wr w.heap.size (lowTo s k) ∧ Below w.heap.size w wr) (fun i _ => s.size - (intOf i).toNat)
  case atStart => exact ⟨0, rfl, Nat.zero_le _, HR.out, HB0.out⟩
  case round =>
    clear HR HB0
    obtain ⟨k, rfl, hk, hrow0, hb0⟩ := hrel
    have hrow := Aside0.mk hrow0
    have hb := Aside0.mk hb0
    clear hrow0 hb0
    by_cases hlt : k < s.size
    · have hc1 := hrow.out.cell (j := k) (by rw [lowTo_length]; exact hlt)
      have hc2 := hrow.out.free (j := k) (by rw [lowTo_length]; exact hlt)
      rw [lowTo_at s k hlt] at hc1
      obtain ⟨c0, c1⟩ := bt_lt s k
      have hlow : bt s k ≤ 90 → 65 ≤ bt s k → lowI (bt s k) = bt s k + 32 := fun h1 h2 => if_pos ⟨h2, h1⟩
      have hlow2 : ¬ (65 ≤ bt s k ∧ bt s k ≤ 90) → lowI (bt s k) = bt s k := fun h1 => if_neg h1
      have hl1 := Aside0.mk hlow
      have hl2 := Aside0.mk hlow2
      clear hlow hlow2
      have hs1 := Aside0.mk (lowTo_succ s k hlt)
      have hs2 := Aside0.mk (lowTo_same s k hlt)
      have hset := Aside0.mk (fun x => RowB.set hrow.out k x)
      have hbel := Aside0.mk (fun x => Below.setCell hb.out (p := ⟨w.heap.size, k, none⟩) (Nat.le_refl _) x)
      generalize bt s k = c at *
      by_cases h65 : 65 ≤ c
      · by_cases h90 : c ≤ 90
        · go_wp2
          go_roundw
          case rel => exact ⟨k + 1, by go_num, by omega, by rw [hs1.out, hl1.out h90 h65]; exact hset.out _, hbel.out _⟩
          case measure => simp [intOf]; omega
        · go_wp2
          go_roundw
          case rel => exact ⟨k + 1, by go_num, by omega, by rw [hs2.out (hl2.out (by omega))]; exact hrow.out, hb.out⟩
          case measure => simp [intOf]; omega
      · go_wp2
        go_roundw
        case rel => exact ⟨k + 1, by go_num, by omega, by rw [hs2.out (hl2.out (by omega))]; exact hrow.out, hb.out⟩
        case measure => simp [intOf]; omega
    · obtain rfl : k = s.size := by omega
      have kc := lower_conv (cap := grownCap w s.size 0 5) (P := Tryd.prog) (src := 22) (dst := 9) Tryd.underlying22 Tryd.underlying5 Tryd.underlying9 hrow.out
      go_wp2
      go_ret
      exact ⟨rfl, hb.out⟩

def spec_lower.f (a0 : ByteArray) : Option (ByteArray) := if a0.size ≤ 9223372036854775807 then some (lowerB a0) else none
theorem spec_lower.calls (a0 : ByteArray) (r : ByteArray) (w : World) (h : spec_lower.f a0 = some r) :
    Calls Tryd.prog 60 #[.string a0] w fun e w' => e = .returned (.string r) ∧ Below w.heap.size w w' := by
  unfold spec_lower.f at h
  split at h
  · obtain rfl := Option.some.inj h
    exact lower_any a0 w ‹_›
  · cases h

end Go.Proofs.YtiilihafcdmccaaDoor.P
