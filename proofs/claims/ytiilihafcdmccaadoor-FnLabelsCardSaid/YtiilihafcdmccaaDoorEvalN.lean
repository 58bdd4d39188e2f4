/- What the printed 'dns.NextLabel', 'dns.Split', 'dns.CountLabel' come to, in the words of Core. -/
import Derived.Test.YtiilihafcdmccaaDoorCore
import Derived.Test.YtiilihafcdmccaaDoorEvalP
import Derived.Test.YtiilihafcdmccaaDoorPF57
import Derived.Test.YtiilihafcdmccaaDoorPF54
import Derived.Test.YtiilihafcdmccaaDoorPF56
namespace Go.Proofs.YtiilihafcdmccaaDoor.P
open Go.RowKit Go.Proofs.YtiilihafcdmccaaDoorW.PrintWords
set_option linter.unusedVariables false
set_option linter.unusedSimpArgs false

theorem trail_take_succ (l : List Int) (j : Nat) (h : j < l.length) : trail (l.take (j + 1)) = if l.getD j 0 = 92 then trail (l.take j) + 1 else 0 := by
  rw [List.take_succ_eq_append_getElem h, trail_snoc, List.getD_eq_getElem?_getD, List.getElem?_eq_getElem h, Option.getD_some]
theorem tm2 {x : Int} (n : Nat) (h : x = -(n : Int)) : x.tmod 2 = 0 ↔ n % 2 = 0 := by
  subst h
  rw [Int.neg_tmod, Int.tmod_eq_emod_of_nonneg (by omega)]
  omega
/-- The loop over the backslashes ahead of a place. -/
theorem nl_back {s : ByteArray} (hs : s.size ≤ 140737488351232) {i : Nat} (hi : i < s.size) {R : Int × Bool}
    (hR : ∀ (c : Nat), trail ((bytesOf s).take i) = c → Ev (fun k => if c % 2 = 1 then dns_NextLabel.l0 k s ((i + 1 : Nat) : Int) else some (((i + 1 : Nat) : Int), false)) R) (j : Nat) : ∀ (c : Nat), j + c = i → trail ((bytesOf s).take i) = c + trail ((bytesOf s).take j) →
    Ev (fun k => dns_NextLabel.l1 k s (i : Nat) ((j : Int) - 1)) R := by
  have hlen := bytesOf_length s
  induction j with
  | zero =>
    intro c hc ht
    rw [List.take_zero, trail_nil] at ht
    have h := hR c ht
    refine Ev.step (fun k => ?_) h
    simp only [dns_NextLabel.l1]
    rw [if_neg (by omega), w64 (x := ((0 : Nat) : Int) - 1 - (i : Int)) (by omega) (by omega), w64 (x := (i : Int) + 1) (by omega) (by omega)]
    have e2 := tm2 (x := ((0 : Nat) : Int) - 1 - (i : Int)) (i + 1) (by omega)
    by_cases h2 : c % 2 = 1
    · rw [if_pos h2, if_pos (e2.2 (by omega))]; rfl
    · rw [if_neg h2, if_neg (fun h => by have := e2.1 h; omega)]; rfl
  | succ j ih =>
    intro c hc ht
    rw [trail_take_succ _ j (by omega)] at ht
    have hb := bt_nat s j
    by_cases h92 : (bytesOf s).getD j 0 = 92
    · rw [if_pos h92] at ht
      have h := ih (c + 1) (by omega) (by omega)
      refine Ev.step (fun k => ?_) h
      simp only [dns_NextLabel.l1]
      rw [show ((j + 1 : Nat) : Int) - 1 = (j : Int) by omega, if_pos (by omega), if_pos (by omega), if_pos (by omega), hb, if_pos h92, w64 (x := (j : Int) - 1) (by omega) (by omega)]
    · rw [if_neg h92] at ht
      have h := hR c (by omega)
      refine Ev.step (fun k => ?_) h
      simp only [dns_NextLabel.l1]
      rw [show ((j + 1 : Nat) : Int) - 1 = (j : Int) by omega, if_pos (by omega), if_pos (by omega), if_pos (by omega), hb, if_neg h92, w64 (x := (j : Int) - (i : Int)) (by omega) (by omega), w64 (x := (i : Int) + 1) (by omega) (by omega)]
      have e2 := tm2 (x := (j : Int) - (i : Int)) (i - j) (by omega)
      by_cases h2 : c % 2 = 1
      · rw [if_pos h2, if_pos (e2.2 (by omega))]; rfl
      · rw [if_neg h2, if_neg (fun h => by have := e2.1 h; omega)]; rfl
/-- One place that ends no label. -/
theorem nl_skip {s : ByteArray} (hs : s.size ≤ 140737488351232) {i : Nat} (hi : i + 1 < s.size) (hc : ¬ cutL (bytesOf s) i) {R : Int × Bool}
    (h : Ev (fun k => dns_NextLabel.l0 k s ((i + 1 : Nat) : Int)) R) : Ev (fun k => dns_NextLabel.l0 k s (i : Nat)) R := by
  have hb := bt_nat s i
  by_cases h46 : (bytesOf s).getD i 0 = 46
  · have h1 := nl_back hs (i := i) (by omega) (R := R) (fun c hcc => by
      have : c % 2 = 1 := by
        have := mt (fun e : c % 2 = 0 => (show cutL (bytesOf s) i from ⟨h46, hcc ▸ e⟩)) hc
        omega
      rw [show (fun k => if c % 2 = 1 then dns_NextLabel.l0 k s ((i + 1 : Nat) : Int) else some (((i + 1 : Nat) : Int), false)) = fun k => dns_NextLabel.l0 k s ((i + 1 : Nat) : Int) from funext fun k => if_pos this]
      exact h) i 0 (by omega) (by omega)
    refine Ev.step (fun k => ?_) h1
    simp only [dns_NextLabel.l0]
    rw [w64 (x := (s.size : Int) - 1) (by omega) (by omega), if_pos (by omega), if_pos (by omega), if_pos (by omega), hb, if_pos h46, w64 (x := (i : Int) - 1) (by omega) (by omega)]
  · refine Ev.step (fun k => ?_) h
    simp only [dns_NextLabel.l0]
    rw [w64 (x := (s.size : Int) - 1) (by omega) (by omega), if_pos (by omega), if_pos (by omega), if_pos (by omega), hb, if_neg h46, w64 (x := (i : Int) + 1) (by omega) (by omega)]
    rfl
theorem nl_found {s : ByteArray} (hs : s.size ≤ 140737488351232) {i : Nat} (hi : i + 1 < s.size) (hc : cutL (bytesOf s) i) :
    Ev (fun k => dns_NextLabel.l0 k s (i : Nat)) (((i + 1 : Nat) : Int), false) := by
  have hb := bt_nat s i
  obtain ⟨h46, h0⟩ := hc
  have h1 := nl_back hs (i := i) (by omega) (R := (((i + 1 : Nat) : Int), false)) (fun c hcc => by
    rw [show (fun k => if c % 2 = 1 then dns_NextLabel.l0 k s ((i + 1 : Nat) : Int) else some (((i + 1 : Nat) : Int), false)) = fun k => some (((i + 1 : Nat) : Int), false) from funext fun k => if_neg (by omega)]
    exact Ev.now _) i 0 (by omega) (by omega)
  refine Ev.step (fun k => ?_) h1
  simp only [dns_NextLabel.l0]
  rw [w64 (x := (s.size : Int) - 1) (by omega) (by omega), if_pos (by omega), if_pos (by omega), if_pos (by omega), hb, if_pos h46, w64 (x := (i : Int) - 1) (by omega) (by omega)]
theorem nl_end {s : ByteArray} (hs : s.size ≤ 140737488351232) {i : Nat} (hi : s.size ≤ i + 1) (hi2 : i ≤ 140737488351232) :
    Ev (fun k => dns_NextLabel.l0 k s (i : Nat)) (((i + 1 : Nat) : Int), true) := by
  refine ⟨1, fun k hk => ?_⟩
  obtain ⟨m, rfl⟩ : ∃ m, k = m + 1 := ⟨k - 1, by omega⟩
  simp only [dns_NextLabel.l0]
  rw [w64 (x := (s.size : Int) - 1) (by omega) (by omega), if_neg (by omega), w64 (x := (i : Int) + 1) (by omega) (by omega)]
  rfl
theorem nl_to {s : ByteArray} (hs : s.size ≤ 140737488351232) {R : Int × Bool} (d : Nat) : ∀ (i : Nat), i + d < s.size → (∀ j, i ≤ j → j < i + d → ¬ cutL (bytesOf s) j) →
    Ev (fun k => dns_NextLabel.l0 k s ((i + d : Nat) : Int)) R → Ev (fun k => dns_NextLabel.l0 k s (i : Nat)) R := by
  induction d with
  | zero => intro i hi _ h; exact h
  | succ d ih =>
    intro i hi hc h
    refine nl_skip hs (by omega) (hc i (Nat.le_refl _) (by omega)) (ih (i + 1) (by omega) (fun j h1 h2 => hc j (by omega) (by omega)) ?_)
    rw [show i + 1 + d = i + (d + 1) by omega]
    exact h
theorem nl_f {s : ByteArray} (h0 : 0 < s.size) {i : Int} {R : Int × Bool} (h : Ev (fun k => dns_NextLabel.l0 k s i) R) : Ev (fun k => dns_NextLabel.f k s i) R := by
  refine Ev.congr (fun k => ?_) h
  unfold dns_NextLabel.f
  rw [if_neg]
  rw [toList_nil]
  intro e
  have := bytesOf_length s
  rw [e] at this
  simp at this
  omega
/-- The next label begins behind the next end of a label. -/
theorem next_found {s : ByteArray} (hs : s.size ≤ 140737488351232) {i m : Nat} (him : i ≤ m) (hm : m + 1 < s.size) (hc : ∀ j, i ≤ j → j < m → ¬ cutL (bytesOf s) j) (hcm : cutL (bytesOf s) m) :
    Ev (fun k => dns_NextLabel.f k s (i : Nat)) (((m + 1 : Nat) : Int), false) := by
  refine nl_f (by omega) (nl_to hs (m - i) i (by omega) (fun j h1 h2 => hc j h1 (by omega)) ?_)
  rw [Nat.add_sub_cancel' him]
  exact nl_found hs hm hcm
theorem next_none {s : ByteArray} (hs : s.size ≤ 140737488351232) (h0 : 0 < s.size) {i : Nat} (hi : i < s.size) (hc : ∀ j, i ≤ j → j + 1 < s.size → ¬ cutL (bytesOf s) j) :
    Ev (fun k => dns_NextLabel.f k s (i : Nat)) (((s.size : Nat) : Int), true) := by
  refine nl_f h0 (nl_to hs (s.size - 1 - i) i (by omega) (fun j h1 h2 => hc j h1 (by omega)) ?_)
  rw [show i + (s.size - 1 - i) = s.size - 1 by omega]
  have := nl_end hs (i := s.size - 1) (by omega) (by omega)
  rwa [show s.size - 1 + 1 = s.size by omega] at this

theorem next_more {s : ByteArray} (hs : s.size ≤ 140737488351232) {pre r l rest : List Int} (he : trail pre % 2 = 0) (h : Lab r l) (e : bytesOf s = pre ++ (r ++ 46 :: rest)) (hne : rest ≠ []) :
    Ev (fun k => dns_NextLabel.f k s (pre.length : Nat)) (((pre ++ r ++ [46]).length : Nat), false) := by
  have hlen := bytesOf_length s
  rw [e] at hlen
  have hp : 0 < rest.length := List.length_pos_iff.2 hne
  simp only [List.length_append, List.length_cons] at hlen
  have hcut := dot_cut (pre := pre ++ r) (rest := rest) (lab_even h pre he)
  rw [List.append_assoc, ← e, List.length_append] at hcut
  have := next_found hs (i := pre.length) (m := pre.length + r.length) (by omega) (by omega) (fun j h1 h2 => by
    have := lab_cut h pre (46 :: rest) he (j - pre.length) (by omega)
    rwa [← e, Nat.add_sub_cancel' h1] at this) hcut
  rw [List.length_append, List.length_append]
  exact this
theorem next_last {s : ByteArray} (hs : s.size ≤ 140737488351232) {pre r l : List Int} (he : trail pre % 2 = 0) (h : Lab r l) (e : bytesOf s = pre ++ (r ++ [46])) :
    Ev (fun k => dns_NextLabel.f k s (pre.length : Nat)) (((s.size : Nat) : Int), true) := by
  have hlen := bytesOf_length s
  rw [e] at hlen
  simp only [List.length_append, List.length_cons, List.length_nil] at hlen
  refine next_none hs (by omega) (by omega) (fun j h1 h2 => ?_)
  have := lab_cut h pre [46] he (j - pre.length) (by omega)
  rwa [← e, Nat.add_sub_cancel' h1] at this
theorem next_rest {s : ByteArray} (hs : s.size ≤ 140737488351232) {pre r l : List Int} (he : trail pre % 2 = 0) (h : Lab r l) (e : bytesOf s = pre ++ r) (hne : r ≠ []) :
    Ev (fun k => dns_NextLabel.f k s (pre.length : Nat)) (((s.size : Nat) : Int), true) := by
  have hlen := bytesOf_length s
  rw [e] at hlen
  have hp : 0 < r.length := List.length_pos_iff.2 hne
  simp only [List.length_append] at hlen
  refine next_none hs (by omega) (by omega) (fun j h1 h2 => ?_)
  have := lab_cut h pre [] he (j - pre.length) (by omega)
  rwa [List.append_nil, ← e, Nat.add_sub_cancel' h1] at this

def starts (o : Nat) : List (List Int) → List Nat
  | [] => []
  | r :: rs => o :: starts (o + r.length + 1) rs
def nats (l : List Nat) : List Int := l.map (fun n : Nat => (n : Int))
theorem starts_length (rs : List (List Int)) : ∀ o, (starts o rs).length = rs.length := by
  induction rs with
  | nil => intro o; rfl
  | cons r rs ih => intro o; simp [starts, ih]
theorem namesOf_cons (r : List Int) (rs : List (List Int)) (x : List Int) : namesOf (r :: rs) x = r :: namesOf rs x := by
  unfold namesOf
  split <;> rfl
theorem namesOf_length (rs : List (List Int)) (x : List Int) : (namesOf rs x).length ≤ rs.length + 1 := by
  unfold namesOf
  split <;> simp
theorem split_from {s : ByteArray} (hs : s.size ≤ 140737488351232) {r l : List Int} (hr : Lab r l) {rs ls : List (List Int)} (hL : Labs rs ls) : ∀ (pre : List Int) (idx : List Int), trail pre % 2 = 0 → bytesOf s = pre ++ (joinD rs ++ r) → joinD rs ++ r ≠ [] → idx.length + rs.length + 1 < 17592186044416 →
    Ev (fun k => dns_Split.l0 k s idx (pre.length : Nat)) (idx ++ nats (starts pre.length (namesOf rs r)).tail) := by
  induction hL with
  | nil =>
    intro pre idx he e hne hi
    simp only [joinD, List.nil_append] at e hne
    refine Ev.step (f := fun k => (dns_NextLabel.f k s (pre.length : Nat)).bind fun b => if b.2 = true then some idx else if idx.length < 17592186044416 then dns_Split.l0 k s (idx ++ [b.1]) b.1 else none) (fun k => ?_) (Ev.bind (f := fun k b => if b.2 = true then some idx else if idx.length < 17592186044416 then dns_Split.l0 k s (idx ++ [b.1]) b.1 else none) (next_rest hs he hr e hne) ?_)
    · simp only [dns_Split.l0]
    · refine ⟨0, fun k _ => ?_⟩
      simp [namesOf, hne, starts, nats]
  | @cons r0 l0 rs ls h1 h2 hL ih =>
    intro pre idx he e hne hi
    have e' : bytesOf s = pre ++ (r0 ++ 46 :: (joinD rs ++ r)) := by rw [e]; simp [joinD]
    by_cases hrest : joinD rs ++ r = []
    · rw [hrest] at e'
      obtain ⟨hj, hr0⟩ := List.append_eq_nil_iff.1 hrest
      subst hr0
      have hrs : rs = [] := by cases rs with
        | nil => rfl
        | cons a b => simp [joinD] at hj
      subst hrs
      refine Ev.step (f := fun k => (dns_NextLabel.f k s (pre.length : Nat)).bind fun b => if b.2 = true then some idx else if idx.length < 17592186044416 then dns_Split.l0 k s (idx ++ [b.1]) b.1 else none) (fun k => ?_) (Ev.bind (f := fun k b => if b.2 = true then some idx else if idx.length < 17592186044416 then dns_Split.l0 k s (idx ++ [b.1]) b.1 else none) (next_last hs he h1 e') ?_)
      · simp only [dns_Split.l0]
      · refine ⟨0, fun k _ => ?_⟩
        simp [namesOf, starts, nats]
    · have ih' := ih (pre ++ r0 ++ [46]) (idx ++ [((pre ++ r0 ++ [46]).length : Int)]) (dot_even _) (by rw [e']; simp) hrest (by simp at *; omega)
      refine Ev.step (f := fun k => (dns_NextLabel.f k s (pre.length : Nat)).bind fun b => if b.2 = true then some idx else if idx.length < 17592186044416 then dns_Split.l0 k s (idx ++ [b.1]) b.1 else none) (fun k => ?_) (Ev.bind (f := fun k b => if b.2 = true then some idx else if idx.length < 17592186044416 then dns_Split.l0 k s (idx ++ [b.1]) b.1 else none) (next_more hs he h1 e' hrest) ?_)
      · simp only [dns_Split.l0]
      · refine Ev.congr (fun k => ?_) (show Ev (fun k => dns_Split.l0 k s (idx ++ [((pre ++ r0 ++ [46]).length : Int)]) ((pre ++ r0 ++ [46]).length : Nat)) _ from ?_)
        · rw [if_neg Bool.false_ne_true, if_pos (by simp at hi; omega)]
        · rw [namesOf_cons]
          rw [List.append_assoc idx] at ih'
          have e3 : [((pre ++ r0 ++ [46]).length : Int)] ++ nats (starts (pre ++ r0 ++ [46]).length (namesOf rs r)).tail = nats (starts pre.length (r0 :: namesOf rs r)).tail := by
            cases hn : namesOf rs r with
            | nil =>
              exfalso
              unfold namesOf at hn
              split at hn
              · rename_i hr0
                subst hn; subst hr0
                exact hrest rfl
              · simp at hn
            | cons a b =>
              have e4 : (pre ++ r0 ++ [46]).length = pre.length + r0.length + 1 := by simp; omega
              rw [e4]
              simp [starts, nats]
          rw [e3] at ih'
          exact ih'
theorem split_ev {s : ByteArray} (hs : s.size < 8796093022208) {rs ls : List (List Int)} {r l : List Int} (h : Labs rs ls) (k : Lab r l) (e : bytesOf s = joinD rs ++ r) (h0 : bytesOf s ≠ []) :
    Ev (fun k => dns_Split.f k s) (nats (starts 0 (namesOf rs r))) := by
  have hn := not_dot h k e
  have hl := bytesOf_length s
  rw [e, List.length_append] at hl
  have h1 := h.len
  have h3 := len_le_size ls
  have h4 := h.length
  have h2 := split_from (s := s) (by omega) k h [] (List.replicate 1 0) (by decide) (by rw [e]; rfl) (by rw [← e]; exact h0) (by simp; omega)
  have e3 : List.replicate 1 0 ++ nats (starts ([] : List Int).length (namesOf rs r)).tail = nats (starts 0 (namesOf rs r)) := by
    cases hn : namesOf rs r with
    | nil =>
      exfalso
      unfold namesOf at hn
      split at hn
      · subst hn; rename_i hr; subst hr; exact h0 e
      · simp at hn
    | cons a b => simp [starts, nats]
  rw [e3] at h2
  refine Ev.congr (fun k => ?_) h2
  unfold dns_Split.f
  rw [if_neg (by rw [toList_dot]; exact hn), if_pos (by decide)]
  rfl

theorem count_from {s : ByteArray} (hs : s.size ≤ 140737488351232) {r l : List Int} (hr : Lab r l) {rs ls : List (List Int)} (hL : Labs rs ls) : ∀ (pre : List Int) (c : Nat), trail pre % 2 = 0 → bytesOf s = pre ++ (joinD rs ++ r) → joinD rs ++ r ≠ [] → c + rs.length + 1 < 17592186044416 →
    Ev (fun k => dns_CountLabel.l0 k s (c : Nat) (pre.length : Nat)) ((c + (namesOf rs r).length : Nat) : Int) := by
  induction hL with
  | nil =>
    intro pre c he e hne hi
    simp only [joinD, List.nil_append] at e hne
    refine Ev.step (f := fun k => (dns_NextLabel.f k s (pre.length : Nat)).bind fun b => if b.2 = true then some (wrap64 ((c : Int) + 1)) else dns_CountLabel.l0 k s (wrap64 ((c : Int) + 1)) b.1) (fun k => ?_) (Ev.bind (f := fun k b => if b.2 = true then some (wrap64 ((c : Int) + 1)) else dns_CountLabel.l0 k s (wrap64 ((c : Int) + 1)) b.1) (next_rest hs he hr e hne) ?_)
    · simp only [dns_CountLabel.l0]
    · refine ⟨0, fun k _ => ?_⟩
      simp at hi
      simp only [if_true]
      rw [w64 (by omega) (by omega)]
      simp [namesOf, hne]
  | @cons r0 l0 rs ls h1 h2 hL ih =>
    intro pre c he e hne hi
    have e' : bytesOf s = pre ++ (r0 ++ 46 :: (joinD rs ++ r)) := by rw [e]; simp [joinD]
    simp at hi
    by_cases hrest : joinD rs ++ r = []
    · rw [hrest] at e'
      obtain ⟨hj, hr0⟩ := List.append_eq_nil_iff.1 hrest
      subst hr0
      have hrs : rs = [] := by cases rs with
        | nil => rfl
        | cons a b => simp [joinD] at hj
      subst hrs
      refine Ev.step (f := fun k => (dns_NextLabel.f k s (pre.length : Nat)).bind fun b => if b.2 = true then some (wrap64 ((c : Int) + 1)) else dns_CountLabel.l0 k s (wrap64 ((c : Int) + 1)) b.1) (fun k => ?_) (Ev.bind (f := fun k b => if b.2 = true then some (wrap64 ((c : Int) + 1)) else dns_CountLabel.l0 k s (wrap64 ((c : Int) + 1)) b.1) (next_last hs he h1 e') ?_)
      · simp only [dns_CountLabel.l0]
      · refine ⟨0, fun k _ => ?_⟩
        simp only [if_true]
        rw [w64 (by omega) (by omega)]
        simp [namesOf]
    · have ih' := ih (pre ++ r0 ++ [46]) (c + 1) (dot_even _) (by rw [e']; simp) hrest (by omega)
      refine Ev.step (f := fun k => (dns_NextLabel.f k s (pre.length : Nat)).bind fun b => if b.2 = true then some (wrap64 ((c : Int) + 1)) else dns_CountLabel.l0 k s (wrap64 ((c : Int) + 1)) b.1) (fun k => ?_) (Ev.bind (f := fun k b => if b.2 = true then some (wrap64 ((c : Int) + 1)) else dns_CountLabel.l0 k s (wrap64 ((c : Int) + 1)) b.1) (next_more hs he h1 e' hrest) ?_)
      · simp only [dns_CountLabel.l0]
      · refine Ev.congr (fun k => ?_) (show Ev (fun k => dns_CountLabel.l0 k s ((c + 1 : Nat) : Int) ((pre ++ r0 ++ [46]).length : Nat)) _ from ?_)
        · rw [if_neg Bool.false_ne_true, w64 (by omega) (by omega)]
          rfl
        · rw [namesOf_cons, List.length_cons, show c + ((namesOf rs r).length + 1) = c + 1 + (namesOf rs r).length by omega]
          exact ih'
theorem count_ev {s : ByteArray} (hs : s.size < 8796093022208) {rs ls : List (List Int)} {r l : List Int} (h : Labs rs ls) (k : Lab r l) (e : bytesOf s = joinD rs ++ r) (h0 : bytesOf s ≠ []) :
    Ev (fun k => dns_CountLabel.f k s) ((namesOf rs r).length : Int) := by
  have hn := not_dot h k e
  have hl := bytesOf_length s
  rw [e, List.length_append] at hl
  have h1 := h.len
  have h3 := len_le_size ls
  have h4 := h.length
  have h2 := count_from (s := s) (by omega) k h [] 0 (by decide) (by rw [e]; rfl) (by rw [← e]; exact h0) (by omega)
  rw [Nat.zero_add] at h2
  refine Ev.congr (fun k => ?_) h2
  unfold dns_CountLabel.f
  rw [if_neg (by rw [toList_dot]; exact hn)]
  rfl

end Go.Proofs.YtiilihafcdmccaaDoor.P
