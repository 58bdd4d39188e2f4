/- What the printed 'dns.SplitDomainName' and 'dns.PrevLabel' come to, in the words of Core. -/
import Derived.Test.YtiilihafcdmccaaDoorEvalN
import Derived.Test.YtiilihafcdmccaaDoorEvalG
import Derived.Test.YtiilihafcdmccaaDoorSdn
import Derived.Test.YtiilihafcdmccaaDoorPF58
namespace Go.Proofs.YtiilihafcdmccaaDoor.P
open Go.RowKit Go.Proofs.YtiilihafcdmccaaDoorW.PrintWords
set_option linter.unusedVariables false
set_option linter.unusedSimpArgs false

theorem joinD_split' (rs : List (List Int)) (i : Nat) (h : i < rs.length) : joinD rs = joinD (rs.take i) ++ (rs[i] ++ 46 :: joinD (rs.drop (i + 1))) := by
  conv => lhs; rw [← List.take_append_drop i rs, List.drop_eq_getElem_cons h, joinD_append]
  rfl
theorem joinD_take_succ' (rs : List (List Int)) (i : Nat) (h : i < rs.length) : (joinD (rs.take (i + 1))).length = (joinD (rs.take i)).length + (rs[i].length + 1) := by
  rw [List.take_succ_eq_append_getElem h, joinD_snoc]
  simp
theorem joinD_take_le' (rs : List (List Int)) (i : Nat) : (joinD (rs.take i)).length ≤ (joinD rs).length := by
  conv => rhs; rw [← List.take_append_drop i rs, joinD_append]
  simp
/-- A text, and the texts of its labels: a point behind each, but perhaps for the last one. -/
structure Sp (s : ByteArray) (N LS : List (List Int)) (w : Bool) : Prop where
  labs : Labs N LS
  ne : N ≠ []
  txt : joinD N = bytesOf s ++ (if w = true then [] else [46])
theorem sp_of {s : ByteArray} {rs ls : List (List Int)} {r l : List Int} (h1 : Labs rs ls) (h2 : Lab r l) (e : bytesOf s = joinD rs ++ r) (h0 : bytesOf s ≠ []) : Sp s (namesOf rs r) (namesOf ls l) (decide (l = [])) := by
  refine ⟨namesOf_labs h1 h2, ?_, ?_⟩
  · unfold namesOf
    split
    · rename_i hr
      subst hr
      intro h
      subst h
      exact h0 e
    · simp
  · unfold namesOf
    by_cases hl : l = []
    · subst hl
      obtain rfl := h2.nil_iff.2 rfl
      rw [e]
      simp
    · rw [if_neg (fun h => hl (h2.nil_iff.1 h)), decide_eq_false hl, joinD_snoc, e]
      simp
section
variable {s : ByteArray} {N LS : List (List Int)} {w : Bool}
theorem Sp.pos (h : Sp s N LS w) : 0 < N.length := List.length_pos_iff.2 h.ne
theorem Sp.len (h : Sp s N LS w) : (joinD N).length = s.size + (if w = true then 0 else 1) := by
  rw [h.txt, List.length_append, bytesOf_length]
  cases w <;> rfl
theorem Sp.mid (h : Sp s N LS w) (m : Nat) (hm : m + 1 < N.length) : ∃ rest, bytesOf s = joinD (N.take m) ++ (N[m] ++ 46 :: rest) ∧ rest ≠ [] := by
  have h1 := joinD_split' N m (by omega)
  have h2 : joinD (N.drop (m + 1)) ≠ [] := by
    rw [List.drop_eq_getElem_cons hm]
    simp [joinD]
  have hd : 1 < (joinD (N.drop (m + 1))).length := by
    rw [List.drop_eq_getElem_cons hm]
    have : N[m + 1] ≠ [] := by
      intro hx
      have hmem := h.labs
      have : ∀ (A B : List (List Int)), Labs A B → ∀ x ∈ A, x ≠ [] := by
        intro A B hAB
        induction hAB with
        | nil => intro x hx; cases hx
        | cons g1 g2 _ ih =>
          intro x hx
          rcases List.mem_cons.1 hx with rfl | hx
          · exact fun h => g2 (g1.nil_iff.1 h)
          · exact ih x hx
      exact this N LS hmem _ (List.getElem_mem hm) hx
    have : 0 < N[m + 1].length := List.length_pos_iff.2 this
    simp [joinD]; omega
  have h3 := h.txt
  cases w with
  | true =>
    rw [if_pos rfl, List.append_nil] at h3
    exact ⟨_, h3.symm.trans h1, h2⟩
  | false =>
    rw [if_neg Bool.false_ne_true] at h3
    rcases List.eq_nil_or_concat (joinD (N.drop (m + 1))) with hc | ⟨x, y, hc⟩
    · exact absurd hc h2
    · rw [List.concat_eq_append] at hc
      refine ⟨x, ?_, ?_⟩
      · have : bytesOf s ++ [46] = (joinD (N.take m) ++ (N[m] ++ 46 :: x)) ++ [y] := by
          rw [← h3, h1, hc]; simp
        exact (List.append_inj' this rfl).1
      · intro hx
        rw [hc, hx] at hd
        simp at hd
theorem Sp.last (h : Sp s N LS w) (m : Nat) (hm : m + 1 = N.length) : bytesOf s = joinD (N.take m) ++ (N[m] ++ (if w = true then [46] else [])) := by
  have h1 := joinD_split' N m (by omega)
  rw [show N.drop (m + 1) = [] from List.drop_of_length_le (by omega)] at h1
  have h3 := h.txt
  cases w with
  | true =>
    rw [if_pos rfl, List.append_nil] at h3
    rw [← h3, h1]
    rfl
  | false =>
    rw [if_neg Bool.false_ne_true] at h3 ⊢
    have : bytesOf s ++ [46] = (joinD (N.take m) ++ N[m]) ++ [46] := by
      rw [← h3, h1]; simp [joinD]
    rw [(List.append_inj' this rfl).1, List.append_nil]
/-- Where label m ends. -/
theorem Sp.fin (h : Sp s N LS w) (m : Nat) (hm : m < N.length) : (joinD (N.take m)).length + N[m].length ≤ s.size := by
  have h1 := joinD_take_succ' N m hm
  have h2 := joinD_take_le' N (m + 1)
  have h3 := h.len
  cases w with
  | true =>
    rw [if_pos rfl] at h3
    omega
  | false =>
    rw [if_neg Bool.false_ne_true] at h3
    omega
theorem Sp.at (h : Sp s N LS w) (m : Nat) (hm : m < N.length) : ∃ rest, bytesOf s = joinD (N.take m) ++ (N[m] ++ rest) := by
  by_cases h1 : m + 1 < N.length
  · obtain ⟨r, hr, _⟩ := h.mid m h1
    exact ⟨_, hr⟩
  · exact ⟨_, h.last m (by omega)⟩
theorem Sp.seg (h : Sp s N LS w) (m : Nat) (hm : m < N.length) : s.extract (joinD (N.take m)).length ((joinD (N.take m)).length + N[m].length) = strOfNums N[m] := by
  apply bytesOf_inj
  obtain ⟨rest, hr⟩ := h.at m hm
  have hB : IsB N[m] := by
    have := bytesOf_isB s
    rw [hr] at this
    exact this.right.left
  rw [bytesOf_strOfNums hB, bytesOf_extract, hr, take_pre, List.drop_left, List.take_append, List.take_of_length_le (Nat.le_refl _), Nat.sub_self]
  simp
end
theorem Labs.take {A B : List (List Int)} (h : Labs A B) : ∀ m, Labs (A.take m) (B.take m) := by
  induction h with
  | nil => intro m; simpa using Labs.nil
  | cons h1 h2 _ ih =>
    intro m
    cases m with
    | zero => exact .nil
    | succ m => exact .cons h1 h2 (ih m)
theorem Labs.at {A B : List (List Int)} (h : Labs A B) : ∀ (m : Nat) (ha : m < A.length) (hb : m < B.length), Lab A[m] B[m] ∧ B[m] ≠ [] := by
  induction h with
  | nil => intro m ha; simp at ha
  | cons h1 h2 _ ih =>
    intro m ha hb
    cases m with
    | zero => exact ⟨h1, h2⟩
    | succ m => exact ih m (by simpa using ha) (by simpa using hb)
theorem starts_get' (rs : List (List Int)) : ∀ (o i : Nat) (h : i < (starts o rs).length), (starts o rs)[i] = o + (joinD (rs.take i)).length := by
  induction rs with
  | nil => intro o i h; simp [starts] at h
  | cons r rs ih =>
    intro o i h
    cases i with
    | zero => simp [starts, joinD]
    | succ i =>
      simp only [starts, List.getElem_cons_succ, List.take_succ_cons, joinD, List.length_append, List.length_cons]
      rw [ih]
      omega
theorem rd_starts' (rs : List (List Int)) (i : Nat) (h : i < rs.length) : rd (nats (starts 0 rs)) (i : Int) = ((joinD (rs.take i)).length : Int) := by
  have h' : i < (starts 0 rs).length := by rw [starts_length]; exact h
  unfold rd nats
  rw [Int.toNat_natCast, List.getD_eq_getElem?_getD, List.getElem?_map, List.getElem?_eq_getElem h', starts_get']
  simp
theorem nats_len (rs : List (List Int)) : (nats (starts 0 rs)).length = rs.length := by unfold nats; rw [List.length_map, starts_length]
/-! ### SplitDomainName -/
theorem sdn_from {s : ByteArray} {N LS : List (List Int)} {w : Bool} (h : Sp s N LS w) (hs : s.size ≤ 1000000) (hN : N.length ≤ 10000000) {E : Nat} (hE : E + 1 = (joinD N).length) (d : Nat) : ∀ (j : Nat), j + d + 1 = N.length →
    Ev (fun k => dns_SplitDomainName.l0 k s ((N.take j).map strOfNums) (E : Nat) ((joinD (N.take j)).length : Nat) ((nats (starts 0 N)).drop 1) ((N.length - 1 : Nat) : Int) (j : Nat)) (N.map strOfNums) := by
  have hfin := h.fin
  have hseg := h.seg
  have hlen := h.len
  induction d with
  | zero =>
    intro j hj
    have hjl : j < N.length := by omega
    have h1 := joinD_take_succ' N j hjl
    rw [show N.take (j + 1) = N from List.take_of_length_le (by omega)] at h1
    have h2 := hfin j hjl
    have h3 := hseg j hjl
    refine ⟨1, fun k hk => ?_⟩
    obtain ⟨m, rfl⟩ : ∃ m, k = m + 1 := ⟨k - 1, by omega⟩
    simp only [dns_SplitDomainName.l0]
    rw [if_neg (by omega), if_pos (by omega), if_pos (by omega), if_pos (by omega), if_pos (by rw [List.length_map, List.length_take]; omega), Int.toNat_natCast, Int.toNat_natCast, show E = (joinD (N.take j)).length + N[j].length by omega, h3]
    congr 1
    have e : N.map strOfNums = (N.take (j + 1)).map strOfNums := by rw [List.take_of_length_le (by omega)]
    rw [e, List.take_succ_eq_append_getElem hjl, List.map_append]
    rfl
  | succ d ih =>
    intro j hj
    have hjl : j < N.length := by omega
    have h1 := joinD_take_succ' N j hjl
    have h2 := hfin j hjl
    have h3 := hseg j hjl
    have hr : rd ((nats (starts 0 N)).drop 1) (j : Int) = ((joinD (N.take (j + 1))).length : Int) := by
      have := rd_starts' N (j + 1) (by omega)
      unfold rd at this ⊢
      rw [Int.toNat_natCast] at this ⊢
      rw [← this, List.getD_eq_getElem?_getD, List.getD_eq_getElem?_getD, List.getElem?_drop, Nat.add_comm]
    refine Ev.step (fun k => ?_) (ih (j + 1) (by omega))
    simp only [dns_SplitDomainName.l0]
    rw [if_pos (by omega), if_pos (by omega), if_pos (by rw [List.length_drop, nats_len]; omega), hr, w64 (x := ((joinD (N.take (j + 1))).length : Int) - 1) (by omega) (by have := hfin (j + 1) (by omega); omega), if_pos (by omega), if_pos (by omega), if_pos (by omega), if_pos (by rw [List.length_map, List.length_take]; omega), w64 (x := (j : Int) + 1) (by omega) (by omega), Int.toNat_natCast,
      show (((joinD (N.take (j + 1))).length : Int) - 1).toNat = (joinD (N.take j)).length + N[j].length by omega, h3]
    rw [List.take_succ_eq_append_getElem hjl, List.map_append]
    rfl
theorem sdn_ev {s : ByteArray} {rs ls : List (List Int)} {r l : List Int} (hA : isAscii (bytesOf s) = true) (hs : s.size ≤ 1000000) (h1 : Labs rs ls) (h2 : Lab r l) (e : bytesOf s = joinD rs ++ r) (h0 : bytesOf s ≠ []) :
    Ev (fun k => dns_SplitDomainName.f k s) ((namesOf rs r).map strOfNums) := by
  have hsp := sp_of h1 h2 e h0
  have hsplit := split_ev (s := s) (by omega) h1 h2 e h0
  have hq := fq_dec h1 h2 e h0
  have hf := fq_f hA (by omega)
  have hpos := hsp.pos
  have hlen := hsp.len
  have hN : (namesOf rs r).length ≤ 10000000 := by
    have g1 := h1.len
    have g2 := len_le_size ls
    have g3 := h1.length
    have g4 := bytesOf_length s
    have g5 := namesOf_length rs r
    rw [e, List.length_append] at g4
    by_cases h00 : rs = []
    · subst h00; simp at g5; omega
    · omega
  generalize hNe : namesOf rs r = N at *
  have hE : ∃ E : Nat, E + 1 = (joinD N).length ∧ (if fqB s = true then wrap64 ((s.size : Int) - 1) else (s.size : Int)) = (E : Int) := by
    rw [hq]
    cases hw : decide (l = []) with
    | true =>
      rw [hw, if_pos rfl] at hlen
      have : 0 < (joinD N).length := by
        cases N with
        | nil => simp at hpos
        | cons a b => simp [joinD]; omega
      exact ⟨s.size - 1, by omega, by rw [if_pos rfl, w64 (by omega) (by omega)]; omega⟩
    | false =>
      rw [hw, if_neg Bool.false_ne_true] at hlen
      exact ⟨s.size, by omega, by rw [if_neg Bool.false_ne_true]⟩
  obtain ⟨E, hE1, hE2⟩ := hE
  have hfrom := sdn_from hsp hs hN hE1
  have hj : Ev (fun k => dns_SplitDomainName.j0 k s [] (E : Int) (nats (starts 0 N)) 0) (N.map strOfNums) := by
    by_cases h1N : N.length = 1
    · have h3 := hsp.seg 0 (by omega)
      have h4 := joinD_take_succ' N 0 (by omega)
      have h5 := hsp.fin 0 (by omega)
      rw [List.take_zero] at h3 h4 h5
      rw [show N.take (0 + 1) = N from List.take_of_length_le (by omega)] at h4
      simp only [joinD, List.length_nil, Nat.zero_add] at h3 h4 h5
      refine ⟨1, fun k hk => ?_⟩
      obtain ⟨m, rfl⟩ : ∃ m, k = m + 1 := ⟨k - 1, by omega⟩
      simp only [dns_SplitDomainName.j0]
      rw [nats_len, if_neg (by omega), if_pos (by omega), if_pos (by omega), if_pos (by omega), if_pos (by omega), if_pos (by decide), Int.toNat_natCast, show E = N[0].length by omega, show (0 : Int).toNat = 0 from rfl, h3]
      match N, h1N with
      | [x], _ => rfl
    · have h := hfrom (N.length - 1) 0 (by omega)
      refine Ev.step (fun k => ?_) h
      simp only [dns_SplitDomainName.j0]
      rw [nats_len, if_neg (by omega), if_neg (by omega), if_pos (by omega)]
      simp only [Option.bind_some, List.length_drop, nats_len]
      rfl
  refine Ev.congr (f := fun k => (dns_Split.f k s).bind fun t => dns_SplitDomainName.j0 k s [] (E : Int) t 0) (fun k => ?_) (Ev.bind (f := fun k t => dns_SplitDomainName.j0 k s [] (E : Int) t 0) hsplit hj)
  unfold dns_SplitDomainName.f
  rw [if_neg (by rw [toList_nil]; exact h0), hf]
  simp only [Option.bind_some]
  congr 1
  funext t
  rw [← hE2]
  cases fqB s <;> rfl

/-! ### PrevLabel -/
theorem pl_back {s : ByteArray} (hs : s.size ≤ 140737488351232) {i : Nat} (hi : i < s.size) {n : Int} {R : Int × Bool}
    (hR : ∀ (c : Nat), trail ((bytesOf s).take i) = c → Ev (fun k => dns_PrevLabel.j4 k s n (i : Nat) ((i : Int) - 1 - (c : Int))) R) (j : Nat) : ∀ (c : Nat), j + c = i → trail ((bytesOf s).take i) = c + trail ((bytesOf s).take j) →
    Ev (fun k => dns_PrevLabel.l1 k s n (i : Nat) ((j : Int) - 1)) R := by
  have hlen := bytesOf_length s
  induction j with
  | zero =>
    intro c hc ht
    rw [List.take_zero, trail_nil] at ht
    have h := hR c ht
    refine Ev.step (fun k => ?_) h
    simp only [dns_PrevLabel.l1]
    rw [if_neg (by omega), show ((0 : Nat) : Int) - 1 = (i : Int) - 1 - (c : Int) by omega]
  | succ j ih =>
    intro c hc ht
    rw [trail_take_succ _ j (by omega)] at ht
    have hb := bt_nat s j
    by_cases h92 : (bytesOf s).getD j 0 = 92
    · rw [if_pos h92] at ht
      have h := ih (c + 1) (by omega) (by omega)
      refine Ev.step (fun k => ?_) h
      simp only [dns_PrevLabel.l1]
      rw [show ((j + 1 : Nat) : Int) - 1 = (j : Int) by omega, if_pos (by omega), if_pos (by omega), if_pos (by omega), hb, if_pos h92, w64 (x := (j : Int) - 1) (by omega) (by omega)]
    · rw [if_neg h92] at ht
      have h := hR c (by omega)
      refine Ev.step (fun k => ?_) h
      simp only [dns_PrevLabel.l1]
      rw [show ((j + 1 : Nat) : Int) - 1 = (j : Int) by omega, if_pos (by omega), if_pos (by omega), if_pos (by omega), hb, if_neg h92, show (j : Int) = (i : Int) - 1 - (c : Int) by omega]
theorem pl_j4 {s : ByteArray} {i : Nat} (hi : i ≤ 140737488351232) {c : Nat} (hc : c ≤ i) {n : Nat} (hn : n ≤ 140737488351232) (k : Nat) :
    dns_PrevLabel.j4 (k + 1) s (n : Nat) (i : Nat) ((i : Int) - 1 - (c : Int)) = if c % 2 = 1 then dns_PrevLabel.l0 k s (n : Nat) ((i : Int) - 1) else if n = 1 then some (((i + 1 : Nat) : Int), false) else dns_PrevLabel.l0 k s ((n : Int) - 1) ((i : Int) - 1) := by
  simp only [dns_PrevLabel.j4]
  have e2 := tm2 (x := ((i : Int) - 1 - (c : Int)) - (i : Int)) (c + 1) (by omega)
  rw [w64 (x := ((i : Int) - 1 - (c : Int)) - (i : Int)) (by omega) (by omega), w64 (x := (i : Int) - 1) (by omega) (by omega), w64 (x := (n : Int) - 1) (by omega) (by omega), w64 (x := (i : Int) + 1) (by omega) (by omega)]
  by_cases h2 : c % 2 = 1
  · rw [if_pos h2, if_pos (e2.2 (by omega))]
  · rw [if_neg h2, if_neg (fun h => by have := e2.1 h; omega)]
    by_cases h1 : n = 1
    · rw [if_pos (by omega), if_pos h1]; rfl
    · rw [if_neg (by omega), if_neg h1]
theorem pl_head {s : ByteArray} (hs : s.size ≤ 140737488351232) {i : Nat} (hi : i < s.size) {n : Nat} (hn : 0 < n) (hn2 : n ≤ 140737488351232) {R : Int × Bool} (hc : ¬ cutL (bytesOf s) i → Ev (fun k => dns_PrevLabel.l0 k s (n : Nat) ((i : Int) - 1)) R)
    (hc2 : cutL (bytesOf s) i → Ev (fun k => if n = 1 then some (((i + 1 : Nat) : Int), false) else dns_PrevLabel.l0 k s ((n : Int) - 1) ((i : Int) - 1)) R) : Ev (fun k => dns_PrevLabel.l0 k s (n : Nat) (i : Nat)) R := by
  have hb := bt_nat s i
  refine Ev.step (f := fun k => dns_PrevLabel.j2 k s (n : Nat) (i : Nat) true) (fun k => ?_) ?_
  · simp only [dns_PrevLabel.l0]
    rw [if_pos (by omega), decide_eq_true (by omega)]
  · by_cases h46 : (bytesOf s).getD i 0 = 46
    · refine Ev.step (f := fun k => dns_PrevLabel.l1 k s (n : Nat) (i : Nat) ((i : Int) - 1)) (fun k => ?_) (pl_back hs hi (fun c ht => ?_) i 0 (by omega) (by omega))
      · simp only [dns_PrevLabel.j2]
        rw [if_pos trivial, if_pos (by omega), if_pos (by omega), hb, if_pos h46, w64 (by omega) (by omega)]
      · have hct : c ≤ i := by
          rw [← ht]
          unfold trail
          have h1 := (List.takeWhile_sublist (l := ((bytesOf s).take i).reverse) (fun x => x == (92 : Int))).length_le
          rw [List.length_reverse, List.length_take] at h1
          omega
        refine Ev.step (f := fun k => if c % 2 = 1 then dns_PrevLabel.l0 k s (n : Nat) ((i : Int) - 1) else if n = 1 then some (((i + 1 : Nat) : Int), false) else dns_PrevLabel.l0 k s ((n : Int) - 1) ((i : Int) - 1)) (fun k => pl_j4 (by omega) hct hn2 k) ?_
        by_cases h2 : c % 2 = 1
        · refine Ev.congr (fun k => if_pos h2) (hc (fun h => ?_))
          have := h.2
          omega
        · exact Ev.congr (fun k => if_neg h2) (hc2 ⟨h46, by omega⟩)
    · refine Ev.step (fun k => ?_) (hc (fun h => h46 h.1))
      simp only [dns_PrevLabel.j2]
      rw [if_pos trivial, if_pos (by omega), if_pos (by omega), hb, if_neg h46, w64 (by omega) (by omega)]
theorem pl_end {s : ByteArray} {n : Int} : Ev (fun k => dns_PrevLabel.l0 k s n (-1)) (0, decide (n > 1)) := by
  refine ⟨2, fun k hk => ?_⟩
  obtain ⟨m, rfl⟩ : ∃ m, k = m + 2 := ⟨k - 2, by omega⟩
  simp only [dns_PrevLabel.l0]
  rw [if_neg (by omega)]
  simp only [dns_PrevLabel.j2]
  rw [if_neg Bool.false_ne_true]
/-- Down to the place ahead of a label. -/
theorem pl_down {s : ByteArray} (hs : s.size ≤ 140737488351232) {n : Nat} (hn : 0 < n) (hn2 : n ≤ 140737488351232) {R : Int × Bool} {b : Nat} (d : Nat) : (∀ j, b ≤ j → j < b + d → ¬ cutL (bytesOf s) j) → b + d ≤ s.size →
    Ev (fun k => dns_PrevLabel.l0 k s (n : Nat) ((b : Int) - 1)) R → Ev (fun k => dns_PrevLabel.l0 k s (n : Nat) (((b + d : Nat) : Int) - 1)) R := by
  induction d with
  | zero => intro _ _ h; exact h
  | succ d ih =>
    intro hc hl h
    rw [show ((b + (d + 1) : Nat) : Int) - 1 = ((b + d : Nat) : Int) by omega]
    exact pl_head hs (by omega) hn hn2 (fun _ => ih (fun j h1 h2 => hc j h1 (by omega)) (by omega) h) (fun hx => absurd hx (hc (b + d) (by omega) (by omega)))
def plRes (N : List (List Int)) (m n : Nat) : Int × Bool := if n ≤ m then (((joinD (N.take (m - n + 1))).length : Int), false) else (0, decide (m + 1 < n))
theorem pl_from {s : ByteArray} {N LS : List (List Int)} {w : Bool} (h : Sp s N LS w) (hs : s.size ≤ 140737488351232) (m : Nat) : ∀ (n d : Nat), m < N.length → 0 < n → n ≤ 140737488351232 → d ≤ N[m]!.length → Ev (fun k => dns_PrevLabel.l0 k s (n : Nat) ((((joinD (N.take m)).length + d : Nat) : Int) - 1)) (plRes N m n) := by
  have hlab := h.labs
  have hat := h.at
  have hfin := h.fin
  induction m with
  | zero =>
    intro n d hm hn hn2 hd
    rw [getElem!_pos N _ hm] at hd
    obtain ⟨hl, _⟩ := hlab.at 0 hm (by rw [← hlab.length]; exact hm)
    obtain ⟨rest, hr⟩ := hat 0 hm
    have hf := hfin 0 hm
    refine pl_down hs hn hn2 d (fun j h1 h2 => ?_) (by omega) ?_
    · have := lab_cut hl (joinD (N.take 0)) rest rfl (j - (joinD (N.take 0)).length) (by omega)
      rwa [← hr, Nat.add_sub_cancel' h1] at this
    · have := pl_end (s := s) (n := (n : Int))
      rw [show (((joinD (N.take 0)).length : Nat) : Int) - 1 = -1 from rfl]
      unfold plRes
      rw [if_neg (by omega)]
      refine (show ((0 : Int), decide ((n : Int) > 1)) = (0, decide (0 + 1 < n)) from ?_) ▸ this
      congr 1
      exact decide_eq_decide.2 (by omega)
  | succ m ih =>
    intro n d hm hn hn2 hd
    rw [getElem!_pos N _ hm] at hd
    have hm' : m < N.length := by omega
    obtain ⟨hl, _⟩ := hlab.at (m + 1) hm (by rw [← hlab.length]; exact hm)
    obtain ⟨hl0, _⟩ := hlab.at m hm' (by rw [← hlab.length]; exact hm')
    obtain ⟨rest, hr⟩ := hat (m + 1) hm
    have hf := hfin (m + 1) hm
    have hts := joinD_take_succ' N m hm'
    have hev1 : trail (joinD (N.take (m + 1))) % 2 = 0 := by have := join_even (hlab.take (m + 1)) [] rfl; simpa using this
    have hev0 : trail (joinD (N.take m)) % 2 = 0 := by have := join_even (hlab.take m) [] rfl; simpa using this
    have hdot : bytesOf s = (joinD (N.take m) ++ N[m]) ++ 46 :: (N[m + 1] ++ rest) := by
      rw [hr, List.take_succ_eq_append_getElem hm', joinD_snoc]
      simp
    refine pl_down hs hn hn2 d (fun j h1 h2 => ?_) (by omega) ?_
    · have := lab_cut hl (joinD (N.take (m + 1))) rest hev1 (j - (joinD (N.take (m + 1))).length) (by omega)
      rwa [← hr, Nat.add_sub_cancel' h1] at this
    · have hc := dot_cut (pre := joinD (N.take m) ++ N[m]) (rest := N[m + 1] ++ rest) (lab_even hl0 _ hev0)
      rw [← hdot, List.length_append] at hc
      rw [show (((joinD (N.take (m + 1))).length : Nat) : Int) - 1 = (((joinD (N.take m)).length + N[m].length : Nat) : Int) by omega]
      refine pl_head hs (by omega) hn hn2 (fun hx => absurd hc hx) (fun _ => ?_)
      by_cases h1 : n = 1
      · subst h1
        refine Ev.congr (fun k => if_pos rfl) ?_
        unfold plRes
        rw [if_pos (by omega), show m + 1 - 1 + 1 = m + 1 by omega, hts]
        exact Ev.now _
      · refine Ev.congr (fun k => if_neg h1) ?_
        have hi := ih (n - 1) N[m].length hm' (by omega) (by omega) (by rw [getElem!_pos N _ hm']; exact Nat.le_refl _)
        have e : plRes N m (n - 1) = plRes N (m + 1) n := by
          unfold plRes
          by_cases hnm : n ≤ m + 1
          · rw [if_pos (by omega), if_pos hnm, show m - (n - 1) + 1 = m + 1 - n + 1 by omega]
          · rw [if_neg (by omega), if_neg hnm]
            congr 1
            exact decide_eq_decide.2 (by omega)
        rw [e, show ((n - 1 : Nat) : Int) = (n : Int) - 1 by omega] at hi
        exact hi
theorem prev_ev {s : ByteArray} {N LS : List (List Int)} {w : Bool} (h : Sp s N LS w) (hs : s.size ≤ 1000000) {i : Nat} (hi : i < N.length) (hN : N.length ≤ 10000000) :
    Ev (fun k => dns_PrevLabel.f k s ((N.length - i : Nat) : Int)) (((joinD (N.take i)).length : Int), false) := by
  have hpos := h.pos
  have hlast := h.last (N.length - 1) (by omega)
  have hlen := h.len
  have hN0 : N[N.length - 1] ≠ [] := by
    obtain ⟨g1, g2⟩ := h.labs.at (N.length - 1) (by omega) (by rw [← h.labs.length]; omega)
    exact fun hx => g2 (g1.nil_iff.1 hx)
  have hNp : 0 < N[N.length - 1].length := List.length_pos_iff.2 hN0
  have hl := bytesOf_length s
  have hl2 := hl
  rw [hlast] at hl2
  simp only [List.length_append] at hl2
  have hres : plRes N (N.length - 1) (N.length - i) = (((joinD (N.take i)).length : Int), false) := by
    unfold plRes
    by_cases h0 : i = 0
    · subst h0
      rw [if_neg (by omega), List.take_zero]
      congr 1
      exact decide_eq_false (by omega)
    · rw [if_pos (by omega), show N.length - 1 - (N.length - i) + 1 = i by omega]
  have hfrom := fun d hd => pl_from h (by omega) (N.length - 1) (N.length - i) d (by omega) (by omega) (by omega) hd
  rw [hres, getElem!_pos N _ (by omega)] at hfrom
  have hb := bt_nat s (s.size - 1)
  have hne : bytesOf s ≠ [] := by
    intro hx
    rw [hx] at hl
    simp at hl
    omega
  have key : ∀ (d : Nat), d ≤ N[N.length - 1].length → (if (bytesOf s).getD (s.size - 1) 0 = 46 then (s.size : Int) - 1 - 1 else (s.size : Int) - 1) = (((joinD (N.take (N.length - 1))).length + d : Nat) : Int) - 1 → Ev (fun k => dns_PrevLabel.f k s ((N.length - i : Nat) : Int)) (((joinD (N.take i)).length : Int), false) := by
    intro d hd he
    have hj := hfrom d hd
    refine Ev.congr (f := fun k => dns_PrevLabel.j0 k s ((N.length - i : Nat) : Int) ((((joinD (N.take (N.length - 1))).length + d : Nat) : Int) - 1)) (fun k => ?_) (Ev.step (fun k => ?_) hj)
    · unfold dns_PrevLabel.f
      rw [if_neg (by rw [toList_nil]; exact hne), if_neg (by omega), w64 (x := (s.size : Int) - 1) (by omega) (by omega), if_pos (by omega), if_pos (by omega), show (s.size : Int) - 1 = ((s.size - 1 : Nat) : Int) by omega, hb]
      rw [show (s.size : Int) - 1 = ((s.size - 1 : Nat) : Int) by omega] at he
      by_cases h46 : (bytesOf s).getD (s.size - 1) 0 = 46
      · rw [if_pos h46] at he ⊢
        rw [w64 (by omega) (by omega), he]
      · rw [if_neg h46] at he ⊢
        rw [he]
    · simp only [dns_PrevLabel.j0]
  cases w with
  | true =>
    rw [if_pos rfl] at hl2 hlast
    have h46 : (bytesOf s).getD (s.size - 1) 0 = 46 := by
      rw [hlast, ← List.append_assoc, show s.size - 1 = (joinD (N.take (N.length - 1)) ++ N[N.length - 1]).length + 0 by simp at hl2 ⊢; omega, getD_pre]
      rfl
    exact key N[N.length - 1].length (Nat.le_refl _) (by rw [if_pos h46]; simp at hl2; omega)
  | false =>
    rw [if_neg Bool.false_ne_true] at hl2
    simp at hl2
    by_cases h46 : (bytesOf s).getD (s.size - 1) 0 = 46
    · exact key (N[N.length - 1].length - 1) (by omega) (by rw [if_pos h46]; omega)
    · exact key N[N.length - 1].length (Nat.le_refl _) (by rw [if_neg h46]; omega)

end Go.Proofs.YtiilihafcdmccaaDoor.P
