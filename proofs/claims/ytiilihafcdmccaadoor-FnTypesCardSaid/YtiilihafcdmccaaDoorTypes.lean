/- What is proved: for all t the law FnTypes answers true: a type with a name is written by it, and read again. Conditions: none beyond the row's own. -/
import Derived.Test.YtiilihafcdmccaaDoorStt
import Derived.Test.YtiilihafcdmccaaDoorMn
import Derived.Test.YtiilihafcdmccaaDoorTypeS
namespace Go.Proofs.YtiilihafcdmccaaDoor.P
open Go.Maps Go.RowKit Go.Proofs.YtiilihafcdmccaaDoorW.PrintWords Go.Proofs.YtiilihafcdmccaaDoorW.PrintLast Go.Proofs.YtiilihafcdmccaaDoorW.PrintMore
set_option linter.unusedVariables false
set_option linter.unusedSimpArgs false

def ttL : List (Int × ByteArray) → Int → ByteArray
  | [], _ => ⟨#[]⟩
  | (k, s) :: r, t => if k = t then s else ttL r t
theorem flat2 {α : Type} (A B : α → Value) : ∀ (l : List α) (k : Nat) (p : α), l[k]? = some p → (l.flatMap fun p => [A p, B p])[2 * k]? = some (A p) ∧ (l.flatMap fun p => [A p, B p])[2 * k + 1]? = some (B p)
  | [], k, p, h => by simp at h
  | x :: l, 0, p, h => by
    obtain rfl := Option.some.inj h
    exact ⟨rfl, rfl⟩
  | x :: l, k + 1, p, h => by
    have ih := flat2 A B l k p (by simpa using h)
    rw [show 2 * (k + 1) = 2 * k + 1 + 1 by omega]
    exact ih
theorem mn_cell (k : Nat) (p : Int × ByteArray) (h : mnT[k]? = some p) : mnCells[2 * k]? = some (.int .i64 p.1) ∧ mnCells[2 * k + 1]? = some (.string p.2) := by
  have h1 := flat2 (fun p : Int × ByteArray => Value.int .i64 p.1) (fun p => Value.string p.2) mnT k p h
  unfold mnCells
  simpa using h1
set_option maxRecDepth 100000
set_option maxHeartbeats 4000000
theorem mn_len : mnT.length = 65 := by kernel_rfl
theorem tt_any (t : Int) (w : World) : Calls Tryd.prog 39 #[.int .i64 t] w fun e w' => e = .returned (.string (ttL mnT t)) ∧ Below w.heap.size w w' := by
  generalize hR : ttL mnT t = R
  have hR1 := Aside0.mk hR
  clear hR
  go_enter Tryd.func39, Tryd.ntmps39
  go_wp2_with (first | (go_at_call 63; (with_reducible refine (mn_any _).mono ?_); rintro e w' ⟨rfl, hw⟩; (have hcell0 := Aside0.mk (show w'.heap[w.heap.size]? = some (.cells mnCells 85 (0, 0)) by rw [hw]; exact heap_alloc_new w _)); (have hbel0 := Aside0.mk (show Below w.heap.size w w' by rw [hw]; exact below_alloc (Below.refl _ _) _)); clear hw))
  go_loopw [7] (fun v7 wr => ∃ k : Nat, v7 = .int .i64 k ∧ k ≤ 65 ∧ Aside0 (ttL (mnT.drop k) t = R) ∧ Aside0 (wr.heap[w.heap.size]? = some (.cells mnCells 85 (0, 0))) ∧ Aside0 (Below w.heap.size w wr)) (fun v7 _ => (65 - intOf v7).toNat)
  case atStart => exact ⟨0, rfl, by omega, ⟨hR1.out⟩, hcell0, hbel0⟩
  case round =>
    clear hcell0 hbel0 hR1
    obtain ⟨k, rfl, hk, hR, hcell, hbel⟩ := hrel
    by_cases hlt : k < 65
    · have hkl : k < mnT.length := by rw [mn_len]; exact hlt
      have hd := List.drop_eq_getElem_cons hkl
      obtain ⟨hcA, hcB⟩ := mn_cell k mnT[k] (List.getElem?_eq_getElem hkl)
      have hR2 := hR.out
      rw [hd] at hR2
      generalize mnT[k] = p at *
      obtain ⟨pk, ps⟩ := p
      have hR3 := Aside0.mk hR2
      have e1 : wr.cell? ⟨w.heap.size, k * 2, none⟩ = some (.int .i64 pk) := by simp only [World.cell?, hcell.out]; simpa [Nat.mul_comm] using hcA
      have e2 : wr.cell? ⟨w.heap.size, k * 2 + 1, none⟩ = some (.string ps) := by simp only [World.cell?, hcell.out]; simpa [Nat.mul_comm] using hcB
      have hlw : w.heap.size < wr.heap.size := by
        rcases Nat.lt_or_ge w.heap.size wr.heap.size with h | h
        · exact h
        · have h5 := hcell.out
          rw [Array.getElem?_eq_none h] at h5
          cases h5
      have c1 : (k : Int) < 65 := by omega
      clear hd hcA hcB hR hR2 hkl
      by_cases hpt : pk = t
      · subst hpt
        have hs : ps = R := by have h5 := hR3.out; rw [ttL, if_pos rfl] at h5; exact h5
        subst hs
        clear hR3
        have hpp : (pk == pk) = true := beq_self_eq_true pk
        go_wp2
        go_ret
        exact ⟨rfl, below_alloc hbel.out _⟩
      · have hR4 := Aside0.mk (show ttL (mnT.drop (k + 1)) t = R by have h5 := hR3.out; rw [ttL, if_neg hpt] at h5; exact h5)
        have hpp : (pk == t) = false := beq_eq_false_iff_ne.mpr hpt
        clear hR3
        go_wp2
        go_roundw
        case rel => exact ⟨k + 1, by simp, by omega, hR4, ⟨by show (wr.heap.push _)[w.heap.size]? = _; rw [Array.getElem?_push_lt hlw, ← Array.getElem?_eq_getElem hlw, hcell.out]⟩, ⟨below_alloc hbel.out _⟩⟩
        case measure => simp [intOf]; omega
    · obtain rfl : k = 65 := by omega
      have hR2 := hR.out
      rw [List.drop_of_length_le (by rw [mn_len]; omega)] at hR2
      have hR3 := Aside0.mk (show (⟨#[]⟩ : ByteArray) = R from hR2)
      clear hR hR2
      go_wp2
      go_ret
      rw [hR3.out]
      exact ⟨rfl, hbel.out⟩

/-! ### every type of the table -/
def mnOk (p : Int × ByteArray) : Bool := decide (0 ≤ p.1) && decide (p.1 ≤ 65535) && !p.2.toList.isEmpty && (sttL sttT p.2.toList == (p.1, true)) && (Maps.has tyD (.int .u16 p.1))
theorem mn_ok : mnT.all mnOk = true := by kernel_rfl
theorem mn_at : ∀ p ∈ mnT, tyD.atKey (.int .u16 p.1) (.lit (.string [])) = .lit (.string p.2.data.toList) := by
  unfold mnT
  repeat (first | refine List.forall_mem_cons.2 ⟨by kernel_rfl, ?_⟩ | exact fun p hp => (by cases hp))
theorem ttL_cases (t : Int) : ∀ l : List (Int × ByteArray), ttL l t = ⟨#[]⟩ ∨ ∃ p ∈ l, p.1 = t ∧ ttL l t = p.2
  | [] => .inl rfl
  | (k, s) :: r => by
    by_cases h : k = t
    · exact .inr ⟨(k, s), List.mem_cons_self, h, by rw [ttL, if_pos h]⟩
    · rcases ttL_cases t r with h1 | ⟨p, h1, h2, h3⟩
      · exact .inl (by rw [ttL, if_neg h]; exact h1)
      · exact .inr ⟨p, List.mem_cons_of_mem _ h1, h2, by rw [ttL, if_neg h]; exact h3⟩

theorem typeof_any (s : ByteArray) (t : Int) (w : World) (h : sttL sttT s.toList = (t, true)) : Calls Tryd.prog 40 #[.string s] w fun e w' => e = .returned (.tuple #[.int .u16 t, .bool true]) ∧ w' = w := by
  have hc : ∀ W, Calls Tryd.prog 64 #[.string s] W fun e w' => e = .returned (.tuple #[.int .u16 t, .bool true]) ∧ w' = W := fun W => by
    have h1 := stt_any s W
    rw [h] at h1
    exact h1
  clear h
  go_enter Tryd.func40, Tryd.ntmps40
  go_wp2_with (first | (go_at_call 64; (with_reducible refine (hc _).mono ?_); rintro e w' ⟨rfl, rfl⟩))
  repeat (go_quiet (fail); try go_wp2)
  go_ret2
  exact ⟨rfl, rfl⟩

theorem typetext_any (t : Int) (s : ByteArray) (w : World) (hc : ∀ W, Below w.heap.size w W → Calls Tryd.prog 65 #[.int .u16 t] W fun e w' => e = .returned (.string s) ∧ w' = W) : Calls Tryd.prog 41 #[.int .u16 t] w fun e w' => e = .returned (.string s) ∧ w' = w := by
  have hc1 := Aside0.mk (hc w (Below.refl _ _))
  clear hc
  go_enter Tryd.func41, Tryd.ntmps41
  go_wp2_with (first | (go_at_call 65; (with_reducible refine hc1.out.mono ?_); rintro e w' ⟨rfl, rfl⟩))
  go_ret
  exact ⟨rfl, rfl⟩
theorem empty_toList : (⟨#[]⟩ : ByteArray).toList = [] := by
  rw [Lib.toList_data]
theorem laws_FnTypes.walk (t : Int) (w : World) (w0 : (Lit.int .i64 t).wf = true) (hG : GoodM w) : Calls Tryd.prog 10 #[.int .i64 t] w fun e w' => e = .returned (.bool true) ∧ Below w.heap.size w w' := by
  clear w0
  have HG := Aside0.mk hG
  clear hG
  by_cases h0 : t < 0
  · have d1 : decide (t < 0) = true := decide_eq_true h0
    go_enter Tryd.func10, Tryd.ntmps10
    go_wp2
    go_ret
    exact ⟨rfl, Below.refl _ _⟩
  · have d1 : decide (t < 0) = false := decide_eq_false h0
    by_cases h1 : 65535 < t
    · have d2 : decide (65535 < t) = true := decide_eq_true h1
      go_enter Tryd.func10, Tryd.ntmps10
      go_wp2
      go_ret
      exact ⟨rfl, Below.refl _ _⟩
    · have d2 : decide (65535 < t) = false := decide_eq_false h1
      have htt := tt_any t w
      rcases ttL_cases t mnT with h2 | ⟨p, hp, rfl, h2⟩
      · rw [h2] at htt
        have HT := Aside0.mk htt
        clear htt h2
        have he := empty_toList
        go_enter Tryd.func10, Tryd.ntmps10
        go_wp2_with (first | (go_at_call 39; (with_reducible refine HT.out.mono ?_); rintro e w' ⟨rfl, hb⟩))
        go_ret
        exact ⟨rfl, hb⟩
      · rw [h2] at htt
        have HT := Aside0.mk htt
        clear htt h2
        have hok := List.all_eq_true.1 mn_ok p hp
        have hat := mn_at p hp
        unfold mnOk at hok
        simp only [Bool.and_eq_true, decide_eq_true_eq, beq_iff_eq] at hok
        obtain ⟨⟨⟨⟨_, _⟩, hne⟩, hst⟩, hhas⟩ := hok
        generalize p.1 = t at *
        generalize p.2 = s at *
        have hne1 : s.toList.isEmpty = false := by simpa using hne
        have hne2 : (s.toList == ([] : List UInt8)) = false := by
          cases hq : s.toList with
          | nil => rw [hq] at hne1; cases hne1
          | cons _ _ => rfl
        have hof := Aside0.mk (fun W => typeof_any s t W hst)
        have htx := Aside0.mk (fun W (hb : Below w.heap.size w W) => typetext_any t s W (fun W2 hb2 => types_any t s W2 (by omega) (by omega) (GoodM.below HG.out (below_step hb hb2)) hat hhas))
        clear hp hne hst hhas hat
        have hwr : IntKind.u16.wrap t = t := by rw [IntWalk.u16_in _ (by omega)]
        have hm : t % 65536 = t := by omega
        go_enter Tryd.func10, Tryd.ntmps10
        go_wp2_with (first | (go_at_call 39; (with_reducible refine HT.out.mono ?_); rintro e w' ⟨rfl, hb⟩) | (go_at_call 40; (with_reducible refine (hof.out _).mono ?_); rintro e w2 ⟨rfl, rfl⟩) | (go_at_call 41; (with_reducible refine (htx.out _ hb).mono ?_); rintro e w3 ⟨rfl, rfl⟩))
        trace_state
        go_ret
        exact ⟨by simp, hb⟩

end Go.Proofs.YtiilihafcdmccaaDoor.P
