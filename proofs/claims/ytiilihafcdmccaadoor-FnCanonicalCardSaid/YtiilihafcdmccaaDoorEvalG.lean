/- Guards of the statements ('laws.few', 'laws.ascii'), 'spec.Name.Equal', and 'dns.IsFqdn' in the words of Core. -/
import Derived.Test.YtiilihafcdmccaaDoorEvalP
import Derived.Test.YtiilihafcdmccaaDoorFqdn
import Derived.Test.YtiilihafcdmccaaDoorPF20
import Derived.Test.YtiilihafcdmccaaDoorPF19
import Derived.Test.YtiilihafcdmccaaDoorPF18
import Derived.Test.YtiilihafcdmccaaDoorPF50
namespace Go.Proofs.YtiilihafcdmccaaDoor.P
open Go.RowKit Go.Proofs.YtiilihafcdmccaaDoorW.PrintWords
set_option linter.unusedVariables false
set_option linter.unusedSimpArgs false

theorem few_f (s : ByteArray) : laws_few.f s = some (decide (s.size ≤ 4096)) := by
  unfold laws_few.f
  congr 1
  exact decide_eq_decide.2 (by omega)
/-! ### guards -/
theorem ascii_from {s : ByteArray} (hs : s.size ≤ 140737488351232) (d : Nat) : ∀ (i : Nat), i + d = s.size → Ev (fun k => laws_ascii.l0 k s (s.size : Nat) (i : Nat)) (((bytesOf s).drop i).all fun x => decide (x < 128)) := by
  have hl := bytesOf_length s
  induction d with
  | zero =>
    intro i hi
    refine ⟨1, fun k hk => ?_⟩
    obtain ⟨m, rfl⟩ : ∃ m, k = m + 1 := ⟨k - 1, by omega⟩
    simp only [laws_ascii.l0]
    rw [if_neg (by omega), List.drop_of_length_le (by omega)]
    simp
  | succ d ih =>
    intro i hi
    have hlt : i < (bytesOf s).length := by omega
    have hb := bt_nat s i
    rw [List.getD_eq_getElem?_getD, List.getElem?_eq_getElem hlt, Option.getD_some] at hb
    rw [List.drop_eq_getElem_cons hlt]
    by_cases h : (bytesOf s)[i] ≥ 128
    · refine ⟨1, fun k hk => ?_⟩
      obtain ⟨m, rfl⟩ : ∃ m, k = m + 1 := ⟨k - 1, by omega⟩
      simp only [laws_ascii.l0]
      rw [if_pos (by omega), if_pos (by omega), if_pos (by omega), hb, if_pos h, List.all_cons, decide_eq_false (by omega)]
      rfl
    · rw [List.all_cons, decide_eq_true (by omega), Bool.true_and]
      refine Ev.step (fun k => ?_) (ih (i + 1) (by omega))
      simp only [laws_ascii.l0]
      rw [if_pos (by omega), if_pos (by omega), if_pos (by omega), hb, if_neg h, w64 (by omega) (by omega)]
      rfl
theorem ascii_ev {s : ByteArray} (hs : s.size ≤ 140737488351232) : Ev (fun k => laws_ascii.f k s) ((bytesOf s).all fun x => decide (x < 128)) := ascii_from hs s.size 0 (by omega)

def isAscii (l : List Int) : Bool := l.all fun x => decide (x < 128)
theorem isAscii_append (a b : List Int) : isAscii (a ++ b) = (isAscii a && isAscii b) := by simp [isAscii]

theorem Labs.snoc_inv {r : List Int} : ∀ {rs : List (List Int)} {ls : List (List Int)}, Labs (rs ++ [r]) ls → ∃ li l, ls = li ++ [l] ∧ Labs rs li ∧ Lab r l ∧ l ≠ []
  | [], _, .cons h1 h2 h3 => by cases h3; exact ⟨[], _, rfl, .nil, h1, h2⟩
  | x :: rs, _, .cons h1 h2 h3 => by
    obtain ⟨li, l, rfl, h4, h5, h6⟩ := Labs.snoc_inv (rs := rs) h3
    exact ⟨_ :: li, l, rfl, .cons h1 h2 h4, h5, h6⟩
theorem dotB : bytesOf (⟨#[46]⟩ : ByteArray) = [46] := rfl

/-! ### Equal -/
theorem neq_from (A B : List (List Int)) (hA : ∀ l ∈ A, IsB l) (hB : ∀ l ∈ B, IsB l) (hl : A.length = B.length) (hn : A.length ≤ 140737488351232) (d : Nat) : ∀ (i : Nat), i + d = A.length →
    Ev (fun k => spec_Name_Equal.l0 k (A.map strOfNums) (B.map strOfNums) (A.length : Nat) (i : Nat)) (decide (A.drop i = B.drop i)) := by
  induction d with
  | zero =>
    intro i hi
    refine ⟨1, fun k hk => ?_⟩
    obtain ⟨m, rfl⟩ : ∃ m, k = m + 1 := ⟨k - 1, by omega⟩
    simp only [spec_Name_Equal.l0]
    rw [if_neg (by omega), List.drop_of_length_le (by omega), List.drop_of_length_le (by omega)]
    simp
  | succ d ih =>
    intro i hi
    have hlt : i < A.length := by omega
    have hlt' : i < B.length := by omega
    have e1 : decide (A.drop i = B.drop i) = (decide (A[i] = B[i]) && decide (A.drop (i + 1) = B.drop (i + 1))) := by
      rw [← Bool.decide_and]
      apply decide_eq_decide.2
      rw [List.drop_eq_getElem_cons hlt, List.drop_eq_getElem_cons hlt', List.cons.injEq]
    rw [e1]
    by_cases h : A[i] = B[i]
    · rw [decide_eq_true h, Bool.true_and]
      refine Ev.step (fun k => ?_) (ih (i + 1) (by omega))
      simp only [spec_Name_Equal.l0]
      rw [if_pos (by omega), if_pos (by omega), if_pos (by rw [List.length_map]; omega), if_pos (by rw [List.length_map]; omega), rdOf_map A i hlt, rdOf_map B i hlt', if_pos (by rw [h]), w64 (by omega) (by omega)]
      rfl
    · rw [decide_eq_false h, Bool.false_and]
      refine ⟨1, fun k hk => ?_⟩
      obtain ⟨m, rfl⟩ : ∃ m, k = m + 1 := ⟨k - 1, by omega⟩
      simp only [spec_Name_Equal.l0]
      rw [if_pos (by omega), if_pos (by omega), if_pos (by rw [List.length_map]; omega), if_pos (by rw [List.length_map]; omega), rdOf_map A i hlt, rdOf_map B i hlt', if_neg]
      rw [toList_inj]
      exact fun e => h (strOfNums_inj (hA _ (List.getElem_mem _)) (hB _ (List.getElem_mem _)) e)
theorem neq_ev (A B : List (List Int)) (hA : ∀ l ∈ A, IsB l) (hB : ∀ l ∈ B, IsB l) (hn : A.length ≤ 140737488351232) :
    Ev (fun k => spec_Name_Equal.f k (A.map strOfNums) (B.map strOfNums)) (decide (A = B)) := by
  by_cases hl : A.length = B.length
  · have h := neq_from A B hA hB hl hn A.length 0 (by omega)
    refine Ev.congr (fun k => ?_) h
    unfold spec_Name_Equal.f
    rw [List.length_map, List.length_map, if_pos (by omega)]
    rfl
  · rw [decide_eq_false (fun e => hl (by rw [e]))]
    refine ⟨0, fun k _ => ?_⟩
    show spec_Name_Equal.f k _ _ = _
    unfold spec_Name_Equal.f
    rw [List.length_map, List.length_map, if_neg (by omega)]

/-! ### IsFqdn -/
theorem trail_take_succ' (l : List Int) (j : Nat) (h : j < l.length) : trail (l.take (j + 1)) = if l.getD j 0 = 92 then trail (l.take j) + 1 else 0 := by
  rw [List.take_succ_eq_append_getElem h, trail_snoc, List.getD_eq_getElem?_getD, List.getElem?_eq_getElem h, Option.getD_some]
theorem lastNB_eq (s : ByteArray) : ∀ i : Nat, i ≤ s.size → lastNB s i = (i : Int) - 1 - (trail ((bytesOf s).take i) : Int)
  | 0, _ => by rw [List.take_zero, trail_nil]; rfl
  | i + 1, h => by
    have hl := bytesOf_length s
    rw [trail_take_succ' _ i (by omega)]
    unfold lastNB
    rw [bt_nat s i]
    have := lastNB_eq s i (by omega)
    split <;> omega
instance (l : List Int) (j : Nat) : Decidable (cutL l j) := by unfold cutL; infer_instance
theorem fqB_eq (s : ByteArray) (h : s.size ≠ 0) : fqB s = decide (cutL (bytesOf s) (s.size - 1)) := by
  have hl := bytesOf_length s
  unfold fqB
  rw [if_neg h, bt_nat s (s.size - 1)]
  by_cases h46 : (bytesOf s).getD (s.size - 1) 0 = 46
  · rw [if_neg (by simpa using h46)]
    have e1 : bytesOf (s.extract 0 (s.size - 1)) = (bytesOf s).take (s.size - 1) := by rw [bytesOf_extract, List.drop_zero]
    have e2 := lastNB_eq (s.extract 0 (s.size - 1)) (s.size - 1) (by rw [ByteArray.size_extract]; omega)
    rw [e1, List.take_take, Nat.min_self] at e2
    by_cases h1 : s.size = 1
    · rw [if_pos h1]
      refine (decide_eq_true ⟨h46, ?_⟩).symm
      rw [h1]; rfl
    · rw [if_neg h1]
      have ht := trail_take_succ' (bytesOf s) (s.size - 2) (by omega)
      rw [show s.size - 2 + 1 = s.size - 1 by omega] at ht
      rw [bt_nat s (s.size - 2)]
      by_cases h92 : (bytesOf s).getD (s.size - 2) 0 = 92
      · rw [if_neg (by simpa using h92), e2]
        by_cases he : trail ((bytesOf s).take (s.size - 1)) % 2 = 0
        · rw [decide_eq_true ⟨h46, he⟩, bne_iff_ne]
          omega
        · rw [decide_eq_false (fun h => he h.2), bne_eq_false_iff_eq]
          omega
      · rw [if_pos h92]
        refine (decide_eq_true ⟨h46, ?_⟩).symm
        rw [ht, if_neg h92]
  · rw [if_pos h46]
    exact (decide_eq_false (fun h => h46 h.1)).symm
theorem fq_whole {s : ByteArray} {pre : List Int} (e : bytesOf s = pre ++ [46]) (he : trail pre % 2 = 0) : fqB s = true := by
  have hl := bytesOf_length s
  rw [e, List.length_append] at hl
  simp at hl
  rw [fqB_eq s (by omega), e, show s.size - 1 = pre.length by omega]
  exact decide_eq_true (dot_cut he)
theorem fq_rest {s : ByteArray} {pre r l : List Int} (e : bytesOf s = pre ++ r) (he : trail pre % 2 = 0) (h : Lab r l) (hr : r ≠ []) : fqB s = false := by
  have hl := bytesOf_length s
  have hp : 0 < r.length := List.length_pos_iff.2 hr
  rw [e, List.length_append] at hl
  rw [fqB_eq s (by omega), e]
  have := lab_cut h pre [] he (r.length - 1) (by omega)
  rw [List.append_nil, show pre.length + (r.length - 1) = s.size - 1 by omega] at this
  exact decide_eq_false this
theorem fq_f {s : ByteArray} (h : isAscii (bytesOf s) = true) (hs : s.size ≤ 140737488351232) : dns_IsFqdn.f s = some (fqB s) := by
  unfold dns_IsFqdn.f
  unfold isAscii at h
  rw [if_pos (by omega), if_pos h]

theorem fqdn_f {s : ByteArray} (h : isAscii (bytesOf s) = true) (hs : s.size ≤ 1000000) : ∃ f, dns_Fqdn.f s = some f ∧ bytesOf f = bytesOf s ++ (if fqB s = true then [] else [46]) := by
  unfold dns_Fqdn.f
  rw [fq_f h (by omega)]
  cases fqB s with
  | true => exact ⟨s, rfl, by simp⟩
  | false =>
    refine ⟨s ++ (⟨#[46]⟩ : ByteArray), ?_, ?_⟩
    · simp only [Option.bind_some, Bool.false_eq_true, if_false]
      rw [if_pos (by omega)]
    · rw [bytesOf_append, dotB]
      rfl
theorem namesOf_labs {rs ls : List (List Int)} {r l : List Int} (h1 : Labs rs ls) (h2 : Lab r l) : Labs (namesOf rs r) (namesOf ls l) := by
  unfold namesOf
  by_cases hl : l = []
  · rw [if_pos hl, if_pos (h2.nil_iff.2 hl)]
    exact h1
  · rw [if_neg hl, if_neg (fun h => hl (h2.nil_iff.1 h))]
    exact h1.snoc h2 hl
theorem fq_dec {s : ByteArray} {rs ls : List (List Int)} {r l : List Int} (h1 : Labs rs ls) (h2 : Lab r l) (e : bytesOf s = joinD rs ++ r) (h0 : bytesOf s ≠ []) : fqB s = decide (l = []) := by
  have hev : trail (joinD rs) % 2 = 0 := by have := join_even h1 [] rfl; simpa using this
  by_cases hl : l = []
  · subst hl
    obtain rfl := h2.nil_iff.2 rfl
    rw [decide_eq_true rfl]
    rw [List.append_nil] at e
    rcases List.eq_nil_or_concat rs with h0' | ⟨ri, rl, h0'⟩
    · subst h0'
      exact absurd e h0
    · rw [List.concat_eq_append] at h0'
      subst h0'
      rw [joinD_snoc, ← List.append_assoc] at e
      rcases Labs.snoc_inv h1 with ⟨li, ll, _, hi, hl, _⟩
      have he0 := join_even hi [] rfl
      rw [List.nil_append] at he0
      exact fq_whole e (lab_even hl _ he0)
  · rw [decide_eq_false hl]
    exact fq_rest e hev h2 (fun h => hl (h2.nil_iff.1 h))
/-- A text that is a list of labels (and a rest of one), made whole. -/
theorem fqdn_text {s : ByteArray} {rs ls : List (List Int)} {r l : List Int} (hA : isAscii (bytesOf s) = true) (hs : s.size ≤ 1000000) (h1 : Labs rs ls) (h2 : Lab r l) (e : bytesOf s = joinD rs ++ r) (h0 : bytesOf s ≠ []) :
    ∃ f, dns_Fqdn.f s = some f ∧ bytesOf f = joinD (namesOf rs r) := by
  obtain ⟨f, hf, ef⟩ := fqdn_f hA hs
  refine ⟨f, hf, ?_⟩
  rw [ef, fq_dec h1 h2 e h0, e]
  unfold namesOf
  by_cases hl : l = []
  · subst hl
    obtain rfl := h2.nil_iff.2 rfl
    simp
  · rw [decide_eq_false hl, if_neg (fun h => hl (h2.nil_iff.1 h)), joinD_snoc]
    simp

end Go.Proofs.YtiilihafcdmccaaDoor.P
