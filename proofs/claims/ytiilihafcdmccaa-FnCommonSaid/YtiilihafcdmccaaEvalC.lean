/- What the printed 'dns.equal', 'dns.CompareDomainName', 'spec.Common' come to; and the plain law of FnCommon. -/
import Derived.Test.YtiilihafcdmccaaEvalN
import Derived.Test.YtiilihafcdmccaaP3
import Derived.Test.YtiilihafcdmccaaP4
import Derived.Test.YtiilihafcdmccaaP2
import Derived.Test.YtiilihafcdmccaaP1
import Derived.Test.YtiilihafcdmccaaP5
namespace Go.Proofs.Ytiilihafcdmccaa.P
open Go.RowKit Go.Proofs.YtiilihafcdmccaaW.PrintWords
set_option linter.unusedVariables false
set_option linter.unusedSimpArgs false

theorem or32 (a : Int) (h0 : 65 ≤ a) (h1 : a ≤ 90) : Go.bits .or .u8 a 32 = a + 32 := by
  obtain ⟨n, rfl⟩ := Int.eq_ofNat_of_zero_le (show 0 ≤ a by omega)
  have : ∀ m : Fin 91, 65 ≤ m.val → Go.bits .or .u8 (m.val : Int) 32 = (m.val : Int) + 32 := by decide
  exact this ⟨n, by omega⟩ (by simp; omega)

theorem take_map_snoc (l : List Int) (j : Nat) (h : j < l.length) : (l.take (j + 1)).map lowI = (l.take j).map lowI ++ [lowI (l.getD j 0)] := by
  rw [List.take_succ_eq_append_getElem h, List.map_append, List.getD_eq_getElem?_getD, List.getElem?_eq_getElem h]
  rfl
theorem equal_from {s t : ByteArray} (hs : s.size ≤ 140737488351232) (hst : s.size = t.size) (j : Nat) : j ≤ s.size →
    Ev (fun k => dns_equal.l0 k s t ((j : Int) - 1)) (decide (((bytesOf s).take j).map lowI = ((bytesOf t).take j).map lowI)) := by
  have hl := bytesOf_length s
  have hl' := bytesOf_length t
  induction j with
  | zero =>
    intro _
    refine ⟨1, fun k hk => ?_⟩
    obtain ⟨m, rfl⟩ : ∃ m, k = m + 1 := ⟨k - 1, by omega⟩
    simp only [dns_equal.l0]
    rw [if_neg (by omega)]
    simp
  | succ j ih =>
    intro hj
    have h := ih (by omega)
    have ha := bt_nat s j
    have hb := bt_nat t j
    rw [take_map_snoc _ _ (by omega), take_map_snoc _ _ (by omega)]
    generalize (bytesOf s).getD j 0 = a at *
    generalize (bytesOf t).getD j 0 = b at *
    have hd : decide (((bytesOf s).take j).map lowI ++ [lowI a] = ((bytesOf t).take j).map lowI ++ [lowI b]) = (decide (((bytesOf s).take j).map lowI = ((bytesOf t).take j).map lowI) && decide (lowI a = lowI b)) := by
      rw [← Bool.decide_and]
      apply decide_eq_decide.2
      constructor
      · intro e
        obtain ⟨e1, e2⟩ := List.append_inj e (by simp; omega)
        exact ⟨e1, by simpa using e2⟩
      · rintro ⟨e1, e2⟩
        rw [e1, e2]
    rw [hd]
    have hA : ∀ x : Int, (65 ≤ x ∧ x ≤ 90) → Go.bits .or .u8 x 32 = lowI x := fun x hx => by rw [or32 x hx.1 hx.2]; exact (if_pos hx).symm
    have hN : ∀ x : Int, ¬ (65 ≤ x ∧ x ≤ 90) → lowI x = x := fun x hx => if_neg hx
    refine Ev.step (f := fun k => dns_equal.j1 k s t (j : Int) a b (decide (65 ≤ a ∧ a ≤ 90))) (fun k => ?_) ?_
    · simp only [dns_equal.l0]
      rw [show ((j + 1 : Nat) : Int) - 1 = (j : Int) by omega, if_pos (by omega), if_pos (by omega), if_pos (by omega), if_pos (by omega), ha, hb]
      by_cases h65 : a ≥ 65
      · rw [if_pos h65]
        congr 1
        exact decide_eq_decide.2 (by omega)
      · rw [if_neg h65, decide_eq_false (by omega)]
    · refine Ev.step (f := fun k => dns_equal.j2 k s t (j : Int) (lowI a) b) (fun k => ?_) ?_
      · simp only [dns_equal.j1]
        by_cases hx : 65 ≤ a ∧ a ≤ 90
        · rw [decide_eq_true hx, if_pos rfl, hA a hx]
        · rw [decide_eq_false hx, if_neg Bool.false_ne_true, hN a hx]
      · refine Ev.step (f := fun k => dns_equal.j3 k s t (j : Int) (lowI a) b (decide (65 ≤ b ∧ b ≤ 90))) (fun k => ?_) ?_
        · simp only [dns_equal.j2]
          by_cases h65 : b ≥ 65
          · rw [if_pos h65]
            congr 1
            exact decide_eq_decide.2 (by omega)
          · rw [if_neg h65, decide_eq_false (by omega)]
        · by_cases hab : lowI a = lowI b
          · rw [decide_eq_true hab, Bool.and_true]
            refine Ev.step (fun k => ?_) h
            simp only [dns_equal.j3]
            rw [w64 (x := (j : Int) - 1) (by omega) (by omega)]
            by_cases hx : 65 ≤ b ∧ b ≤ 90
            · rw [decide_eq_true hx, if_pos rfl, hA b hx, if_pos hab]
            · rw [decide_eq_false hx, if_neg Bool.false_ne_true, if_pos (by rw [← hN b hx]; exact hab)]
          · rw [decide_eq_false hab, Bool.and_false]
            refine ⟨1, fun k hk => ?_⟩
            obtain ⟨m, rfl⟩ : ∃ m, k = m + 1 := ⟨k - 1, by omega⟩
            simp only [dns_equal.j3]
            by_cases hx : 65 ≤ b ∧ b ≤ 90
            · rw [decide_eq_true hx, if_pos rfl, hA b hx, if_neg hab]
            · rw [decide_eq_false hx, if_neg Bool.false_ne_true, if_neg (by rw [← hN b hx]; exact hab)]
theorem equal_ev {s t : ByteArray} (hs : s.size ≤ 140737488351232) : Ev (fun k => dns_equal.f k s t) (decide ((bytesOf s).map lowI = (bytesOf t).map lowI)) := by
  have hl := bytesOf_length s
  have hl' := bytesOf_length t
  by_cases hst : s.size = t.size
  · have h := equal_from hs hst s.size (Nat.le_refl _)
    rw [List.take_of_length_le (by omega), List.take_of_length_le (by omega)] at h
    refine Ev.congr (fun k => ?_) h
    unfold dns_equal.f
    rw [if_pos (by omega), w64 (by omega) (by omega)]
  · rw [decide_eq_false (fun e => hst (by have := congrArg List.length e; simp at this; omega))]
    refine ⟨0, fun k _ => ?_⟩
    show dns_equal.f k s t = _
    unfold dns_equal.f
    rw [if_neg (by omega)]

/-! ### how many labels two names have in common -/
def cm : List (List Int) → List (List Int) → Nat
  | a :: x, b :: y => if a = b then cm x y + 1 else 0
  | _, _ => 0
theorem cm_le (x : List (List Int)) : ∀ y, cm x y ≤ x.length ∧ cm x y ≤ y.length := by
  induction x with
  | nil => intro y; simp [cm]
  | cons a x ih =>
    intro y
    cases y with
    | nil => simp [cm]
    | cons b y =>
      simp only [cm]
      have := ih y
      split <;> simp <;> omega
theorem cm_eq (x : List (List Int)) : ∀ y j, j < cm x y → x[j]? = y[j]? := by
  induction x with
  | nil => intro y j hj; simp [cm] at hj
  | cons a x ih =>
    intro y j hj
    cases y with
    | nil => simp [cm] at hj
    | cons b y =>
      simp only [cm] at hj
      split at hj
      · rename_i hab
        subst hab
        cases j with
        | zero => rfl
        | succ j => simpa using ih y j (by omega)
      · omega
theorem cm_ne (x : List (List Int)) : ∀ y, cm x y < x.length → cm x y < y.length → x[cm x y]? ≠ y[cm x y]? := by
  induction x with
  | nil => intro y h; simp at h
  | cons a x ih =>
    intro y h h'
    cases y with
    | nil => simp at h'
    | cons b y =>
      simp only [cm] at *
      split
      · rename_i hab
        rw [if_pos hab] at h h'
        simp at h h'
        simpa using ih y h h'
      · rename_i hab
        simpa using hab
structure Com (A B : List (List Int)) (w : Nat) : Prop where
  la : w ≤ A.length
  lb : w ≤ B.length
  eq : ∀ j, j < w → ∀ (ha : A.length - 1 - j < A.length) (hb : B.length - 1 - j < B.length), A[A.length - 1 - j] = B[B.length - 1 - j]
  ne : w < A.length → w < B.length → ∀ (ha : A.length - 1 - w < A.length) (hb : B.length - 1 - w < B.length), A[A.length - 1 - w] ≠ B[B.length - 1 - w]
theorem Com.symm {A B : List (List Int)} {w : Nat} (h : Com A B w) : Com B A w :=
  ⟨h.lb, h.la, fun j hj ha hb => (h.eq j hj hb ha).symm, fun h1 h2 ha hb => (h.ne h2 h1 hb ha).symm⟩
theorem com_of (A B : List (List Int)) : ∃ w, Com A B w := by
  refine ⟨cm A.reverse B.reverse, ?_, ?_, ?_, ?_⟩
  · have := (cm_le A.reverse B.reverse).1; simpa using this
  · have := (cm_le A.reverse B.reverse).2; simpa using this
  · intro j hj ha hb
    have h1 := (cm_le A.reverse B.reverse).1
    have h2 := (cm_le A.reverse B.reverse).2
    rw [List.length_reverse] at h1 h2
    have h := cm_eq _ _ j hj
    rw [List.getElem?_reverse (by omega), List.getElem?_reverse (by omega), List.getElem?_eq_getElem ha, List.getElem?_eq_getElem hb] at h
    exact Option.some.inj h
  · intro h1 h2 ha hb
    have h := cm_ne A.reverse B.reverse (by simpa using h1) (by simpa using h2)
    rw [List.getElem?_reverse h1, List.getElem?_reverse h2, List.getElem?_eq_getElem ha, List.getElem?_eq_getElem hb] at h
    exact fun e => h (by rw [e])

/-! ### spec.Common -/
theorem low_isB {l : List Int} (h : IsB l) : IsB (l.map lowI) := by
  intro x hx
  obtain ⟨y, hy, rfl⟩ := List.mem_map.1 hx
  have := h y hy
  unfold lowI
  split <;> omega
theorem lower_f {l : List Int} (h : IsB l) (hl : l.length ≤ 9223372036854775807) : spec_lower.f (strOfNums l) = some (strOfNums (l.map lowI)) := by
  unfold spec_lower.f lowerB
  rw [if_pos (by rw [strOfNums_size]; exact hl), bytesOf_strOfNums h]
theorem nlower_from (n : List (List Int)) (hB : ∀ l ∈ n, IsB l) (hl : ∀ l ∈ n, l.length ≤ 9223372036854775807) (hn : n.length < 8796093022208) (d : Nat) : ∀ (i : Nat), i + d = n.length →
    Ev (fun k => spec_Name_Lower.l0 k ((n.take i).map fun l => strOfNums (l.map lowI)) (n.map strOfNums) (n.length : Nat) (i : Nat)) (n.map fun l => strOfNums (l.map lowI)) := by
  induction d with
  | zero =>
    intro i hi
    obtain rfl : i = n.length := by omega
    refine ⟨1, fun k hk => ?_⟩
    obtain ⟨m, rfl⟩ : ∃ m, k = m + 1 := ⟨k - 1, by omega⟩
    simp only [spec_Name_Lower.l0]
    rw [if_neg (by omega), List.take_length]
  | succ d ih =>
    intro i hi
    have hlt : i < n.length := by omega
    refine Ev.step (fun k => ?_) (ih (i + 1) (by omega))
    simp only [spec_Name_Lower.l0]
    rw [if_pos (by omega), if_pos (by omega), if_pos (by rw [List.length_map]; omega), rdOf_map n i hlt, lower_f (hB _ (List.getElem_mem hlt)) (hl _ (List.getElem_mem hlt))]
    simp only [Option.bind_some]
    rw [if_pos (by rw [List.length_map, List.length_take]; omega), w64 (x := (i : Int) + 1) (by omega) (by omega), List.take_succ_eq_append_getElem hlt, List.map_append]
    rfl
theorem nlower_ev (n : List (List Int)) (hB : ∀ l ∈ n, IsB l) (hl : ∀ l ∈ n, l.length ≤ 9223372036854775807) (hn : n.length < 8796093022208) :
    Ev (fun k => spec_Name_Lower.f k (n.map strOfNums)) ((n.map (List.map lowI)).map strOfNums) := by
  have h := nlower_from n hB hl hn n.length 0 (by omega)
  rw [List.map_map]
  refine Ev.congr (fun k => ?_) h
  unfold spec_Name_Lower.f
  rw [List.length_map]
  rfl
theorem common_from (A B : List (List Int)) (hA : ∀ l ∈ A, IsB l) (hB : ∀ l ∈ B, IsB l) (hnA : A.length < 8796093022208) (hnB : B.length < 8796093022208) {w : Nat} (h : Com A B w) (d : Nat) : ∀ (k : Nat), k + d = w →
    Ev (fun n => spec_Common.l0 n (A.map strOfNums) (B.map strOfNums) (k : Nat)) (w : Int) := by
  have la := h.la
  have lb := h.lb
  have rA : ∀ i : Nat, i < A.length → wrap64 (wrap64 (((A.map strOfNums).length : Int) - 1) - (i : Int)) = ((A.length - 1 - i : Nat) : Int) := fun i hi => by rw [List.length_map, w64 (x := (A.length : Int) - 1) (by omega) (by omega), w64 (by omega) (by omega)]; omega
  have rB : ∀ i : Nat, i < B.length → wrap64 (wrap64 (((B.map strOfNums).length : Int) - 1) - (i : Int)) = ((B.length - 1 - i : Nat) : Int) := fun i hi => by rw [List.length_map, w64 (x := (B.length : Int) - 1) (by omega) (by omega), w64 (by omega) (by omega)]; omega
  induction d with
  | zero =>
    intro k hk
    obtain rfl : k = w := by omega
    refine ⟨1, fun n hn => ?_⟩
    obtain ⟨m, rfl⟩ : ∃ m, n = m + 1 := ⟨n - 1, by omega⟩
    simp only [spec_Common.l0]
    by_cases h1 : k < A.length
    · by_cases h2 : k < B.length
      · rw [if_pos (by rw [List.length_map]; omega), if_pos (by rw [List.length_map]; omega), rA k h1, rB k h2, if_pos (by omega), if_pos (by rw [List.length_map]; omega), if_pos (by omega), if_pos (by rw [List.length_map]; omega),
          rdOf_map A _ (by omega), rdOf_map B _ (by omega), if_neg]
        rw [toList_inj]
        intro e
        exact h.ne h1 h2 (by omega) (by omega) (strOfNums_inj (hA _ (List.getElem_mem _)) (hB _ (List.getElem_mem _)) e)
      · rw [if_pos (by rw [List.length_map]; omega), if_neg (by rw [List.length_map]; omega)]
    · rw [if_neg (by rw [List.length_map]; omega)]
  | succ d ih =>
    intro k hk
    refine Ev.step (fun n => ?_) (ih (k + 1) (by omega))
    simp only [spec_Common.l0]
    rw [if_pos (by rw [List.length_map]; omega), if_pos (by rw [List.length_map]; omega), rA k (by omega), rB k (by omega), if_pos (by omega), if_pos (by rw [List.length_map]; omega), if_pos (by omega), if_pos (by rw [List.length_map]; omega),
      rdOf_map A _ (by omega), rdOf_map B _ (by omega), if_pos, w64 (by omega) (by omega)]
    · rfl
    · rw [h.eq k (by omega) (by omega) (by omega)]

theorem spec_common_ev (A B : List (List Int)) (hA : ∀ l ∈ A, IsB l) (hB : ∀ l ∈ B, IsB l) (hnA : sizeL A ≤ 1000000) (hnB : sizeL B ≤ 1000000) {w : Nat} (h : Com (A.map (List.map lowI)) (B.map (List.map lowI)) w) :
    Ev (fun n => spec_Common.f n (A.map strOfNums) (B.map strOfNums)) (w : Int) := by
  have hlen : ∀ (N : List (List Int)), sizeL N ≤ 1000000 → ∀ l ∈ N, l.length ≤ 9223372036854775807 := by
    intro N hN l hl
    have : l.length ≤ sizeL N := by
      clear hN
      induction N with
      | nil => cases hl
      | cons x N ih =>
        rcases List.mem_cons.1 hl with rfl | hl
        · simp [sizeL]; omega
        · have := ih hl; simp [sizeL]; omega
    omega
  have hl2 : ∀ (N : List (List Int)), (∀ l ∈ N, IsB l) → ∀ l ∈ N.map (List.map lowI), IsB l := by
    intro N hN l hl
    obtain ⟨x, hx, rfl⟩ := List.mem_map.1 hl
    exact low_isB (hN x hx)
  have e1 := len_le_size A
  have e2 := len_le_size B
  refine Ev.bind (f := fun n t => (spec_Name_Lower.f n (B.map strOfNums)).bind fun u => spec_Common.l0 n t u 0) (nlower_ev A hA (hlen A hnA) (by omega)) ?_
  refine Ev.bind (f := fun n u => spec_Common.l0 n _ u 0) (nlower_ev B hB (hlen B hnB) (by omega)) ?_
  exact common_from _ _ (hl2 A hA) (hl2 B hB) (by rw [List.length_map]; omega) (by rw [List.length_map]; omega) h w 0 (by omega)

/-! ### CompareDomainName -/
theorem starts_get (rs : List (List Int)) : ∀ (o i : Nat) (h : i < (starts o rs).length), (starts o rs)[i] = o + (joinD (rs.take i)).length := by
  induction rs with
  | nil => intro o i h; simp [starts] at h
  | cons r rs ih =>
    intro o i h
    cases i with
    | zero => simp [starts, joinD]
    | succ i =>
      simp only [starts, List.getElem_cons_succ, List.take_succ_cons, joinD, List.length_append, List.length_cons]
      rw [ih]
      omega
theorem rd_starts (rs : List (List Int)) (i : Nat) (h : i < rs.length) : rd (nats (starts 0 rs)) (i : Int) = ((joinD (rs.take i)).length : Int) := by
  have h' : i < (starts 0 rs).length := by rw [starts_length]; exact h
  unfold rd nats
  rw [Int.toNat_natCast, List.getD_eq_getElem?_getD, List.getElem?_map, List.getElem?_eq_getElem h', starts_get]
  simp
theorem joinD_split (rs : List (List Int)) (i : Nat) (h : i < rs.length) : joinD rs = joinD (rs.take i) ++ (rs[i] ++ 46 :: joinD (rs.drop (i + 1))) := by
  conv => lhs; rw [← List.take_append_drop i rs, List.drop_eq_getElem_cons h, joinD_append]
  rfl
theorem joinD_take_succ (rs : List (List Int)) (i : Nat) (h : i < rs.length) : (joinD (rs.take (i + 1))).length = (joinD (rs.take i)).length + (rs[i].length + 1) := by
  rw [List.take_succ_eq_append_getElem h, joinD_snoc]
  simp
/-- The text of a label, with the point behind it. -/
theorem seg {s : ByteArray} {rs : List (List Int)} (e : bytesOf s = joinD rs) (i : Nat) (h : i < rs.length) (b : Nat) (hb : b = (joinD (rs.take (i + 1))).length) :
    bytesOf (s.extract (joinD (rs.take i)).length b) = rs[i] ++ [46] := by
  subst hb
  rw [bytesOf_extract, e, joinD_take_succ rs i h, joinD_split rs i h, take_pre, List.drop_left, List.take_append, List.take_of_length_le (by omega), show rs[i].length + 1 - rs[i].length = 1 by omega]
  rfl
theorem seg_eq (x y : List Int) : decide ((x ++ [46]).map lowI = (y ++ [46]).map lowI) = decide (x.map lowI = y.map lowI) := by
  apply decide_eq_decide.2
  rw [List.map_append, List.map_append]
  exact List.append_left_inj _
section
variable {s t : ByteArray} {A B : List (List Int)} (hs : s.size ≤ 140737488351232) (ht : t.size ≤ 140737488351232) (eA : bytesOf s = joinD A) (eB : bytesOf t = joinD B)
theorem seg_ev (i j : Nat) (hi : i < A.length) (hj : j < B.length) (bi bj : Nat) (hbi : bi = (joinD (A.take (i + 1))).length) (hbj : bj = (joinD (B.take (j + 1))).length)
    (hs : s.size ≤ 140737488351232) (eA : bytesOf s = joinD A) (eB : bytesOf t = joinD B) :
    Ev (fun k => dns_equal.f k (s.extract (joinD (A.take i)).length bi) (t.extract (joinD (B.take j)).length bj)) (decide (A[i].map lowI = B[j].map lowI)) := by
  have h := equal_ev (s := s.extract (joinD (A.take i)).length bi) (t := t.extract (joinD (B.take j)).length bj) (by rw [ByteArray.size_extract]; omega)
  rw [seg eA i hi bi hbi, seg eB j hj bj hbj, seg_eq] at h
  exact h
end
theorem joinD_take_le (rs : List (List Int)) (i : Nat) : (joinD (rs.take i)).length ≤ (joinD rs).length := by
  conv => rhs; rw [← List.take_append_drop i rs, joinD_append]
  simp
theorem cmp_from {s t : ByteArray} {A B : List (List Int)} (hs : s.size ≤ 140737488351232) (ht : t.size ≤ 140737488351232) (eA : bytesOf s = joinD A) (eB : bytesOf t = joinD B) (hA : A.length < 10000000) (hB : B.length < 10000000)
    {w : Nat} (h : Com (A.map (List.map lowI)) (B.map (List.map lowI)) w) (d : Nat) : ∀ (c : Nat), 1 ≤ c → c + d = w →
    Ev (fun k => dns_CompareDomainName.l0 k s t (c : Nat) (nats (starts 0 A)) (nats (starts 0 B)) ((A.length : Int) - c) ((A.length : Int) - c - 1) ((B.length : Int) - c) ((B.length : Int) - c - 1)) (w : Int) := by
  have la := h.la
  have lb := h.lb
  have lA := bytesOf_length s
  have lB := bytesOf_length t
  rw [eA] at lA
  rw [eB] at lB
  rw [List.length_map] at la lb
  have nA : (nats (starts 0 A)).length = A.length := by unfold nats; rw [List.length_map, starts_length]
  have nB : (nats (starts 0 B)).length = B.length := by unfold nats; rw [List.length_map, starts_length]
  have key : ∀ (c : Nat), 1 ≤ c → c < A.length → c < B.length → ∀ (R : Int), Ev (fun k => if decide (A[A.length - 1 - c]!.map lowI = B[B.length - 1 - c]!.map lowI) = true then dns_CompareDomainName.l0 k s t ((c + 1 : Nat) : Int) (nats (starts 0 A)) (nats (starts 0 B)) ((A.length : Int) - ((c + 1 : Nat) : Int)) ((A.length : Int) - ((c + 1 : Nat) : Int) - 1) ((B.length : Int) - ((c + 1 : Nat) : Int)) ((B.length : Int) - ((c + 1 : Nat) : Int) - 1) else some (c : Int)) R →
      Ev (fun k => dns_CompareDomainName.l0 k s t (c : Nat) (nats (starts 0 A)) (nats (starts 0 B)) ((A.length : Int) - c) ((A.length : Int) - c - 1) ((B.length : Int) - c) ((B.length : Int) - c - 1)) R := by
    intro c hc1 hcA hcB R hR
    refine Ev.step (f := fun k => dns_CompareDomainName.j2 k s t (c : Nat) (nats (starts 0 A)) (nats (starts 0 B)) ((A.length : Int) - c) ((A.length : Int) - c - 1) ((B.length : Int) - c) ((B.length : Int) - c - 1) false) (fun k => ?_) ?_
    · simp only [dns_CompareDomainName.l0]
      rw [if_neg (by omega), decide_eq_false (by omega)]
    · have i1 : ((A.length : Int) - c - 1) = ((A.length - 1 - c : Nat) : Int) := by omega
      have i2 : ((A.length : Int) - c) = ((A.length - 1 - c + 1 : Nat) : Int) := by omega
      have i3 : ((B.length : Int) - c - 1) = ((B.length - 1 - c : Nat) : Int) := by omega
      have i4 : ((B.length : Int) - c) = ((B.length - 1 - c + 1 : Nat) : Int) := by omega
      have hx : A.length - 1 - c + 1 < A.length := by omega
      have hy : B.length - 1 - c + 1 < B.length := by omega
      have r1 := rd_starts A (A.length - 1 - c) (by omega)
      have r2 := rd_starts A (A.length - 1 - c + 1) hx
      have r3 := rd_starts B (B.length - 1 - c) (by omega)
      have r4 := rd_starts B (B.length - 1 - c + 1) hy
      have s1 := joinD_take_succ A (A.length - 1 - c) (by omega)
      have s2 := joinD_take_succ B (B.length - 1 - c) (by omega)
      have s3 := joinD_take_le A (A.length - 1 - c + 1)
      have s4 := joinD_take_le B (B.length - 1 - c + 1)
      have hseg := seg_ev (s := s) (t := t) (A := A) (B := B) (A.length - 1 - c) (B.length - 1 - c) (by omega) (by omega) _ _ rfl rfl hs eA eB
      rw [getElem!_pos A _ (by omega), getElem!_pos B _ (by omega)] at hR
      refine Ev.step (f := fun k => (dns_equal.f k (s.extract (joinD (A.take (A.length - 1 - c))).length (joinD (A.take (A.length - 1 - c + 1))).length) (t.extract (joinD (B.take (B.length - 1 - c))).length (joinD (B.take (B.length - 1 - c + 1))).length)).bind fun x => if x = true then dns_CompareDomainName.l0 k s t ((c + 1 : Nat) : Int) (nats (starts 0 A)) (nats (starts 0 B)) ((A.length : Int) - ((c + 1 : Nat) : Int)) ((A.length : Int) - ((c + 1 : Nat) : Int) - 1) ((B.length : Int) - ((c + 1 : Nat) : Int)) ((B.length : Int) - ((c + 1 : Nat) : Int) - 1) else some (c : Int)) (fun k => ?_) (Ev.bind (f := fun k x => if x = true then dns_CompareDomainName.l0 k s t ((c + 1 : Nat) : Int) (nats (starts 0 A)) (nats (starts 0 B)) ((A.length : Int) - ((c + 1 : Nat) : Int)) ((A.length : Int) - ((c + 1 : Nat) : Int) - 1) ((B.length : Int) - ((c + 1 : Nat) : Int)) ((B.length : Int) - ((c + 1 : Nat) : Int) - 1) else some (c : Int)) hseg hR)
      simp only [dns_CompareDomainName.j2]
      rw [if_neg Bool.false_ne_true, w64 (x := (c : Int) + 1) (by omega) (by omega), w64 (x := (A.length : Int) - c - 1) (by omega) (by omega), w64 (x := (A.length : Int) - c - 1 - 1) (by omega) (by omega), w64 (x := (B.length : Int) - c - 1) (by omega) (by omega), w64 (x := (B.length : Int) - c - 1 - 1) (by omega) (by omega)]
      rw [show ((A.length : Int) - ((c + 1 : Nat) : Int)) = (A.length : Int) - c - 1 by omega, show ((B.length : Int) - ((c + 1 : Nat) : Int)) = (B.length : Int) - c - 1 by omega]
      rw [nA, nB, i1, i2, i3, i4, r1, r2, r3, r4]
      rw [if_pos (by omega), if_pos (by omega), if_pos (by omega), if_pos (by omega), if_pos (by omega), if_pos (by omega), if_pos (by omega), if_pos (by omega), if_pos (by omega), if_pos (by omega), if_pos (by omega), if_pos (by omega), if_pos (by omega), if_pos (by omega)]
      rw [Int.toNat_natCast, Int.toNat_natCast, Int.toNat_natCast, Int.toNat_natCast]
      rfl
  induction d with
  | zero =>
    intro c hc1 hc
    obtain rfl : c = w := by omega
    by_cases h1 : c < A.length
    · by_cases h2 : c < B.length
      · refine key c hc1 h1 h2 _ ?_
        have hne := h.ne (by rw [List.length_map]; exact h1) (by rw [List.length_map]; exact h2) (by simp; omega) (by simp; omega)
        simp only [List.length_map, List.getElem_map] at hne
        rw [getElem!_pos A _ (by omega), getElem!_pos B _ (by omega), decide_eq_false hne]
        exact Ev.now _
      · refine ⟨2, fun k hk => ?_⟩
        obtain ⟨m, rfl⟩ : ∃ m, k = m + 2 := ⟨k - 2, by omega⟩
        simp only [dns_CompareDomainName.l0]
        rw [if_neg (by omega), decide_eq_true (by omega)]
        simp only [dns_CompareDomainName.j2]
        rw [if_pos trivial]
    · refine ⟨2, fun k hk => ?_⟩
      obtain ⟨m, rfl⟩ : ∃ m, k = m + 2 := ⟨k - 2, by omega⟩
      simp only [dns_CompareDomainName.l0]
      rw [if_pos (by omega)]
      simp only [dns_CompareDomainName.j2]
      rw [if_pos trivial]
  | succ d ih =>
    intro c hc1 hc
    refine key c hc1 (by omega) (by omega) _ ?_
    have heq := h.eq c (by omega) (by simp; omega) (by simp; omega)
    simp only [List.length_map, List.getElem_map] at heq
    rw [getElem!_pos A _ (by omega), getElem!_pos B _ (by omega), decide_eq_true heq]
    exact ih (c + 1) (by omega) (by omega)

theorem compare_ev {s t : ByteArray} {A B : List (List Int)} (hs : s.size ≤ 1000000) (ht : t.size ≤ 1000000) (eA : bytesOf s = joinD A) (eB : bytesOf t = joinD B) {lA lB : List (List Int)} (hA : Labs A lA) (hB : Labs B lB) (nA : A ≠ []) (nB : B ≠ [])
    {w : Nat} (h : Com (A.map (List.map lowI)) (B.map (List.map lowI)) w) : Ev (fun k => dns_CompareDomainName.f k s t) (w : Int) := by
  have zA := bytesOf_length s
  have zB := bytesOf_length t
  have pA : 0 < A.length := List.length_pos_iff.2 nA
  have pB : 0 < B.length := List.length_pos_iff.2 nB
  have dA := not_dot hA .nil (by rw [eA, List.append_nil])
  have dB := not_dot hB .nil (by rw [eB, List.append_nil])
  have spA := split_ev (s := s) (by omega) hA .nil (by rw [eA, List.append_nil]) (by rw [eA]; cases A with
    | nil => exact absurd rfl nA
    | cons r rs => simp [joinD])
  have spB := split_ev (s := t) (by omega) hB .nil (by rw [eB, List.append_nil]) (by rw [eB]; cases B with
    | nil => exact absurd rfl nB
    | cons r rs => simp [joinD])
  have kA : A.length < 10000000 := by
    have h1 := hA.len; have h2 := len_le_size lA; have h3 := hA.length
    rw [eA] at zA
    have : 1 ≤ s.size := by
      rw [← zA]
      cases A with
      | nil => exact absurd rfl nA
      | cons r rs => simp [joinD]; omega
    omega
  have kB : B.length < 10000000 := by
    have h1 := hB.len; have h2 := len_le_size lB; have h3 := hB.length
    rw [eB] at zB
    omega
  rw [namesOf, if_pos rfl] at spA spB
  have lnA : (nats (starts 0 A)).length = A.length := by unfold nats; rw [List.length_map, starts_length]
  have lnB : (nats (starts 0 B)).length = B.length := by unfold nats; rw [List.length_map, starts_length]
  rw [eA] at zA
  rw [eB] at zB
  have r1 := rd_starts A (A.length - 1) (by omega)
  have r2 := rd_starts B (B.length - 1) (by omega)
  have s1 := joinD_take_le A (A.length - 1)
  have s2 := joinD_take_le B (B.length - 1)
  have hseg := seg_ev (s := s) (t := t) (A := A) (B := B) (A.length - 1) (B.length - 1) (by omega) (by omega) s.size t.size (by rw [Nat.sub_add_cancel pA, List.take_length, zA]) (by rw [Nat.sub_add_cancel pB, List.take_length, zB]) (by omega) eA eB
  have hmain : Ev (fun k => if decide (A[A.length - 1].map lowI = B[B.length - 1].map lowI) = true then dns_CompareDomainName.l0 k s t ((1 : Nat) : Int) (nats (starts 0 A)) (nats (starts 0 B)) ((A.length : Int) - ((1 : Nat) : Int)) ((A.length : Int) - ((1 : Nat) : Int) - 1) ((B.length : Int) - ((1 : Nat) : Int)) ((B.length : Int) - ((1 : Nat) : Int) - 1) else some 0) (w : Int) := by
    by_cases hw : w = 0
    · subst hw
      have hne := h.ne (by rw [List.length_map]; exact pA) (by rw [List.length_map]; exact pB) (by simp; omega) (by simp; omega)
      simp only [List.length_map, List.getElem_map, Nat.sub_zero] at hne
      rw [decide_eq_false hne]
      exact Ev.now _
    · have heq := h.eq 0 (by omega) (by simp; omega) (by simp; omega)
      simp only [List.length_map, List.getElem_map, Nat.sub_zero] at heq
      rw [decide_eq_true heq]
      exact cmp_from (by omega) (by omega) eA eB kA kB h (w - 1) 1 (by omega) (by omega)
  refine Ev.congr (g := fun k => dns_CompareDomainName.f k s t) (f := fun k => dns_CompareDomainName.j0 k s t 0 false) (fun k => ?_) ?_
  · unfold dns_CompareDomainName.f
    rw [if_neg (by rw [toList_dot]; exact dA)]
    congr 1
    exact beq_eq_false_iff_ne.2 (by rw [Ne, toList_dot]; exact dB)
  · refine Ev.step (f := fun k => (dns_Split.f k s).bind fun x => (dns_Split.f k t).bind fun y => if 0 ≤ (wrap64 ((x.length : Int) - 1)) then (if (wrap64 ((x.length : Int) - 1)) < (x.length : Int) then (if 0 ≤ (rd x (wrap64 ((x.length : Int) - 1))) then (if (rd x (wrap64 ((x.length : Int) - 1))) ≤ (s.size : Int) then (if 0 ≤ (wrap64 ((y.length : Int) - 1)) then (if (wrap64 ((y.length : Int) - 1)) < (y.length : Int) then (if 0 ≤ (rd y (wrap64 ((y.length : Int) - 1))) then (if (rd y (wrap64 ((y.length : Int) - 1))) ≤ (t.size : Int) then ((dns_equal.f k (s.extract ((rd x (wrap64 ((x.length : Int) - 1))) : Int).toNat s.size) (t.extract ((rd y (wrap64 ((y.length : Int) - 1))) : Int).toNat t.size)).bind fun u => (if u = true then (dns_CompareDomainName.l0 k s t (wrap64 (0 + 1)) x y (wrap64 ((x.length : Int) - 1)) (wrap64 ((x.length : Int) - 2)) (wrap64 ((y.length : Int) - 1)) (wrap64 ((y.length : Int) - 2))) else (some 0))) else (none)) else (none)) else (none)) else (none)) else (none)) else (none)) else (none)) else (none)) (fun k => ?_) ?_
    · simp only [dns_CompareDomainName.j0]
      rw [if_neg Bool.false_ne_true]
    · refine Ev.bind (f := fun k x => _) spA (Ev.bind (f := fun k y => _) spB ?_)
      have g := Ev.bind (f := fun k u => if u = true then dns_CompareDomainName.l0 k s t ((1 : Nat) : Int) (nats (starts 0 A)) (nats (starts 0 B)) ((A.length : Int) - ((1 : Nat) : Int)) ((A.length : Int) - ((1 : Nat) : Int) - 1) ((B.length : Int) - ((1 : Nat) : Int)) ((B.length : Int) - ((1 : Nat) : Int) - 1) else some 0) hseg hmain
      refine Ev.congr (fun k => ?_) g
      rw [lnA, lnB, w64 (x := (A.length : Int) - 1) (by omega) (by omega), w64 (x := (A.length : Int) - 2) (by omega) (by omega), w64 (x := (B.length : Int) - 1) (by omega) (by omega), w64 (x := (B.length : Int) - 2) (by omega) (by omega), show wrap64 (0 + 1) = ((1 : Nat) : Int) from by rw [w64 (by decide) (by decide)]; rfl]
      rw [show (A.length : Int) - 1 = ((A.length - 1 : Nat) : Int) by omega, show (B.length : Int) - 1 = ((B.length - 1 : Nat) : Int) by omega, r1, r2]
      rw [if_pos (by omega), if_pos (by omega), if_pos (by omega), if_pos (by omega), if_pos (by omega), if_pos (by omega), if_pos (by omega), if_pos (by omega), Int.toNat_natCast, Int.toNat_natCast]
      rw [show (A.length : Int) - ((1 : Nat) : Int) = ((A.length - 1 : Nat) : Int) by omega, show (B.length : Int) - ((1 : Nat) : Int) = ((B.length - 1 : Nat) : Int) by omega, show (A.length : Int) - 2 = ((A.length - 1 : Nat) : Int) - 1 by omega, show (B.length : Int) - 2 = ((B.length - 1 : Nat) : Int) - 1 by omega]
theorem compare_dot {s t : ByteArray} (h : bytesOf s = [46] ∨ bytesOf t = [46]) : Ev (fun k => dns_CompareDomainName.f k s t) 0 := by
  refine ⟨1, fun k hk => ?_⟩
  obtain ⟨m, rfl⟩ : ∃ m, k = m + 1 := ⟨k - 1, by omega⟩
  show dns_CompareDomainName.f (m + 1) s t = _
  unfold dns_CompareDomainName.f
  by_cases h1 : bytesOf s = [46]
  · rw [if_pos (by rw [toList_dot]; exact h1)]
    simp only [dns_CompareDomainName.j0]
    rw [if_pos trivial]
  · have h2 : bytesOf t = [46] := h.resolve_left h1
    rw [if_neg (by rw [toList_dot]; exact h1), show (t.toList == ([46] : List UInt8)) = true from beq_iff_eq.2 ((toList_dot t).2 h2)]
    simp only [dns_CompareDomainName.j0]
    rw [if_pos trivial]

/-! ### guards -/
theorem ascii_from {s : ByteArray} (hs : s.size ≤ 140737488351232) (d : Nat) : ∀ (i : Nat), i + d = s.size → Ev (fun k => laws_ascii.l0 k s (s.size : Nat) (i : Nat)) (((bytesOf s).drop i).all fun x => decide (x < 128)) := by
  have hl := bytesOf_length s
  induction d with
  | zero =>
    intro i hi
    refine ⟨1, fun k hk => ?_⟩
    obtain ⟨m, rfl⟩ : ∃ m, k = m + 1 := ⟨k - 1, by omega⟩
    simp only [laws_ascii.l0]
    rw [if_neg (by omega), List.drop_of_length_le (by omega)]
    simp
  | succ d ih =>
    intro i hi
    have hlt : i < (bytesOf s).length := by omega
    have hb := bt_nat s i
    rw [List.getD_eq_getElem?_getD, List.getElem?_eq_getElem hlt, Option.getD_some] at hb
    rw [List.drop_eq_getElem_cons hlt]
    by_cases h : (bytesOf s)[i] ≥ 128
    · refine ⟨1, fun k hk => ?_⟩
      obtain ⟨m, rfl⟩ : ∃ m, k = m + 1 := ⟨k - 1, by omega⟩
      simp only [laws_ascii.l0]
      rw [if_pos (by omega), if_pos (by omega), if_pos (by omega), hb, if_pos h, List.all_cons, decide_eq_false (by omega)]
      rfl
    · rw [List.all_cons, decide_eq_true (by omega), Bool.true_and]
      refine Ev.step (fun k => ?_) (ih (i + 1) (by omega))
      simp only [laws_ascii.l0]
      rw [if_pos (by omega), if_pos (by omega), if_pos (by omega), hb, if_neg h, w64 (by omega) (by omega)]
      rfl
theorem ascii_ev {s : ByteArray} (hs : s.size ≤ 140737488351232) : Ev (fun k => laws_ascii.f k s) ((bytesOf s).all fun x => decide (x < 128)) := ascii_from hs s.size 0 (by omega)
theorem plain_from {s : ByteArray} (hs : s.size ≤ 140737488351232) (d : Nat) : ∀ (i : Nat), i + d = s.size → Ev (fun k => spec_Plain.l0 k s (s.size : Nat) (i : Nat)) (((bytesOf s).drop i).all fun x => decide (x ≠ 92)) := by
  have hl := bytesOf_length s
  induction d with
  | zero =>
    intro i hi
    refine ⟨1, fun k hk => ?_⟩
    obtain ⟨m, rfl⟩ : ∃ m, k = m + 1 := ⟨k - 1, by omega⟩
    simp only [spec_Plain.l0]
    rw [if_neg (by omega), List.drop_of_length_le (by omega)]
    simp
  | succ d ih =>
    intro i hi
    have hlt : i < (bytesOf s).length := by omega
    have hb := bt_nat s i
    rw [List.getD_eq_getElem?_getD, List.getElem?_eq_getElem hlt, Option.getD_some] at hb
    rw [List.drop_eq_getElem_cons hlt]
    by_cases h : (bytesOf s)[i] = 92
    · refine ⟨1, fun k hk => ?_⟩
      obtain ⟨m, rfl⟩ : ∃ m, k = m + 1 := ⟨k - 1, by omega⟩
      simp only [spec_Plain.l0]
      rw [if_pos (by omega), if_pos (by omega), if_pos (by omega), hb, if_pos h, List.all_cons, decide_eq_false (by omega)]
      rfl
    · rw [List.all_cons, decide_eq_true h, Bool.true_and]
      refine Ev.step (fun k => ?_) (ih (i + 1) (by omega))
      simp only [spec_Plain.l0]
      rw [if_pos (by omega), if_pos (by omega), if_pos (by omega), hb, if_neg h, w64 (by omega) (by omega)]
      rfl
theorem plainf_ev {s : ByteArray} (hs : s.size ≤ 140737488351232) : Ev (fun k => spec_Plain.f k s) ((bytesOf s).all fun x => decide (x ≠ 92)) := plain_from hs s.size 0 (by omega)
theorem Labs.plain {rs ls : List (List Int)} (h : Labs rs ls) (hp : ∀ x ∈ joinD rs, x ≠ 92) : ls = rs := by
  induction h with
  | nil => rfl
  | cons h1 h2 _ ih =>
    rw [h1.plain (fun x hx => hp x (by simp [joinD, hx])), ih (fun x hx => hp x (by simp [joinD, hx]))]
theorem lplain_of {s : ByteArray} (hs : s.size ≤ 4096) {n : List ByteArray} {w o : Bool} (h : Ev (fun k => spec_ParseName.f k s) (n, w, o)) :
    Ev (fun k => laws_plain.f k s) (n, w, o && (bytesOf s).all fun x => decide (x ≠ 92)) := by
  refine Ev.bind (f := fun k b => if b.2.2 = true then ((spec_Plain.f k s).bind fun t => (some (b.1, b.2.1, t))) else (some (b.1, b.2.1, false))) h ?_
  cases o with
  | false => exact Ev.now _
  | true =>
    simp only [if_true, Bool.true_and]
    exact Ev.bind (f := fun k t => some (n, w, t)) (plainf_ev (by omega)) (Ev.now _)
theorem lplain_ev {s : ByteArray} (hs : s.size ≤ 4096) : ∃ n w o, Ev (fun k => laws_plain.f k s) (n, w, o) ∧ (w = true → o = true → ∃ A : List (List Int), n = A.map strOfNums ∧ sizeL A ≤ 255 ∧ (∀ l ∈ A, IsB l) ∧ ((A = [] ∧ bytesOf s = [46]) ∨ (A ≠ [] ∧ Labs A A ∧ bytesOf s = joinD A))) := by
  by_cases h46 : bytesOf s = [46]
  · exact ⟨_, _, _, lplain_of hs (parse_dot h46), fun _ _ => ⟨[], rfl, by simp [sizeL], (fun l hl => by cases hl), .inl ⟨rfl, h46⟩⟩⟩
  · rcases dec (bytesOf s) with ⟨rs, ls, r, l, h1, h2, e⟩ | ⟨rs, ls, rest, h1, e⟩ | ⟨rs, ls, r, l, rest, h1, h2, e, hno⟩
    · refine ⟨_, _, _, lplain_of hs (parse_ok (by omega) h1 h2 e), fun hw ho => ?_⟩
      obtain ⟨rfl, hls⟩ := of_decide_eq_true hw
      obtain rfl := h2.nil_iff.2 rfl
      simp only [namesOf, if_true, Bool.and_eq_true, decide_eq_true_eq, List.all_eq_true] at ho
      rw [List.append_nil] at e
      have hp : ls = rs := h1.plain (fun x hx => ho.2 x (by rw [e]; exact hx))
      subst hp
      refine ⟨ls, by simp [namesOf], ?_, h1.isB (e ▸ bytesOf_isB s), .inr ⟨hls, h1, e⟩⟩
      have := ho.1.2
      unfold validB at this
      simp at this
      exact this.2
    · exact ⟨_, _, _, lplain_of hs (parse_empty (by omega) h1 e h46), fun hw => by cases hw⟩
    · exact ⟨_, _, _, lplain_of hs (parse_bad (by omega) h1 h2 e hno), fun hw => by cases hw⟩

end Go.Proofs.Ytiilihafcdmccaa.P
