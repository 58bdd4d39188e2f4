/- What is proved: for every text the law FnCanonical answers true: the canonical form of a name (of ASCII, without escapes of digits) is the whole name with small letters, and its own canonical form. Conditions: none beyond the row's own. -/
import Derived.Test.YtiilihafcdmccaaDoorEvalG
import Derived.Test.YtiilihafcdmccaaDoorCanon
import Derived.Test.YtiilihafcdmccaaDoorPF7
import Derived.Lib.TrimAscii
import Derived.Lib.MapLaws
namespace Go.Proofs.YtiilihafcdmccaaDoor.Pure
open Go.RowKit Go.Proofs.YtiilihafcdmccaaDoor.P Go.Proofs.YtiilihafcdmccaaDoorW.PrintWords Go.Proofs.YtiilihafcdmccaaDoorW.PrintLast
set_option linter.unusedVariables false
set_option linter.unusedSimpArgs false

theorem Ev.inj {α : Type} {g : Nat → Option α} {a b : α} (h : Ev g a) (k : Ev g b) : a = b := by
  obtain ⟨K, h⟩ := h
  obtain ⟨L, k⟩ := k
  have h1 := h (max K L) (by omega)
  have h2 := k (max K L) (by omega)
  rw [h1] at h2
  exact Option.some.inj h2
theorem lower_f {l : List Int} (h : IsB l) (hl : l.length ≤ 9223372036854775807) : spec_lower.f (strOfNums l) = some (strOfNums (l.map lowI)) := by
  unfold spec_lower.f lowerB
  rw [if_pos (by rw [strOfNums_size]; exact hl), bytesOf_strOfNums h]
theorem nlower_from (n : List (List Int)) (hB : ∀ l ∈ n, IsB l) (hl : ∀ l ∈ n, l.length ≤ 9223372036854775807) (hn : n.length < 8796093022208) (d : Nat) : ∀ (i : Nat), i + d = n.length →
    Ev (fun k => spec_Name_Lower.l0 k ((n.take i).map fun l => strOfNums (l.map lowI)) (n.map strOfNums) (n.length : Nat) (i : Nat)) (n.map fun l => strOfNums (l.map lowI)) := by
  induction d with
  | zero =>
    intro i hi
    obtain rfl : i = n.length := by omega
    refine ⟨1, fun k hk => ?_⟩
    obtain ⟨m, rfl⟩ : ∃ m, k = m + 1 := ⟨k - 1, by omega⟩
    simp only [spec_Name_Lower.l0]
    rw [if_neg (by omega), List.take_length]
  | succ d ih =>
    intro i hi
    have hlt : i < n.length := by omega
    refine Ev.step (fun k => ?_) (ih (i + 1) (by omega))
    simp only [spec_Name_Lower.l0]
    rw [if_pos (by omega), if_pos (by omega), if_pos (by rw [List.length_map]; omega), rdOf_map n i hlt, lower_f (hB _ (List.getElem_mem hlt)) (hl _ (List.getElem_mem hlt))]
    simp only [Option.bind_some]
    rw [if_pos (by rw [List.length_map, List.length_take]; omega), w64 (x := (i : Int) + 1) (by omega) (by omega), List.take_succ_eq_append_getElem hlt, List.map_append]
    rfl
theorem nlower_ev (n : List (List Int)) (hB : ∀ l ∈ n, IsB l) (hl : ∀ l ∈ n, l.length ≤ 9223372036854775807) (hn : n.length < 8796093022208) :
    Ev (fun k => spec_Name_Lower.f k (n.map strOfNums)) ((n.map (List.map lowI)).map strOfNums) := by
  have h := nlower_from n hB hl hn n.length 0 (by omega)
  rw [List.map_map]
  refine Ev.congr (fun k => ?_) h
  unfold spec_Name_Lower.f
  rw [List.length_map]
  rfl
/-! ### small letters -/
theorem lowR_eq (x : Int) : lowR x = lowI x := rfl
theorem mapD_low : ∀ l : List UInt8, (∀ b ∈ l, b.toNat < 128) → (Lib.mapD lowR l).map (fun b => (b.toNat : Int)) = (l.map fun b => (b.toNat : Int)).map lowI
  | [], _ => rfl
  | b :: t, h => by
    have hb := h b List.mem_cons_self
    rw [Lib.mapD_step lowR (b :: t) (by simp), Lib.decodeL_ascii b t hb]
    have h0 : 0 ≤ lowR (b.toNat : Int) ∧ lowR (b.toNat : Int) ≤ 127 := by unfold lowR; split <;> omega
    dsimp only
    rw [if_pos h0.1, List.map_append, List.drop_one, List.tail_cons, mapD_low t (fun x hx => h x (List.mem_cons_of_mem _ hx))]
    unfold Lib.encodeRune
    rw [Lib.encodeRuneZ_one h0.1 h0.2]
    simp only [List.map_nil, List.map_cons, List.cons_append, List.nil_append, ← lowR_eq]
    congr 1
    rw [show ((lowR (b.toNat : Int)).toNat.toUInt8).toNat = (lowR (b.toNat : Int)).toNat from by simp; omega]
    omega
theorem bytes_low {t : ByteArray} (h : isAscii (bytesOf t) = true) : bytesOf (⟨(Lib.mapD lowR t.data.toList).toArray⟩ : ByteArray) = (bytesOf t).map lowI := by
  refine mapD_low t.data.toList fun b hb => ?_
  have := List.all_eq_true.1 h (b.toNat : Int) (List.mem_map.2 ⟨b, hb, rfl⟩)
  have := of_decide_eq_true this
  omega
theorem low_ascii {l : List Int} (h : isAscii l = true) : isAscii (l.map lowI) = true := by
  unfold isAscii at *
  rw [List.all_eq_true] at *
  intro x hx
  obtain ⟨y, hy, rfl⟩ := List.mem_map.1 hx
  have := of_decide_eq_true (h y hy)
  refine decide_eq_true ?_
  unfold lowI
  split <;> omega
theorem low_low (l : List Int) : (l.map lowI).map lowI = l.map lowI := by
  rw [List.map_map]
  refine List.map_congr_left fun x _ => ?_
  show lowI (lowI x) = lowI x
  unfold lowI
  split
  · rw [if_neg (by omega)]
  · rfl
theorem low_isB {l : List Int} (h : IsB l) : IsB (l.map lowI) := by
  intro x hx
  obtain ⟨y, hy, rfl⟩ := List.mem_map.1 hx
  have := h y hy
  unfold lowI
  split <;> omega

/-! ### texts without escapes of digits -/
inductive NLab : List Int → List Int → Prop
  | nil : NLab [] []
  | plain {r l : List Int} (c : Int) : c ≠ 92 → c ≠ 46 → NLab r l → NLab (c :: r) (c :: l)
  | sign {r l : List Int} (d : Int) : ¬ dig d → NLab r l → NLab (92 :: d :: r) (d :: l)
theorem NLab.lab {r l : List Int} (h : NLab r l) : Lab r l := by
  induction h with
  | nil => exact .nil
  | plain c h1 h2 _ ih => exact .cons (t := [c]) (.plain c h1) (fun h => h2 h.2) ih
  | sign d h1 _ ih => exact .cons (t := [92, d]) (.sign d h1) (fun h => by cases h.1) ih
theorem NLab.low {r l : List Int} (h : NLab r l) : NLab (r.map lowI) (l.map lowI) := by
  induction h with
  | nil => exact .nil
  | plain c h1 h2 _ ih => exact .plain _ (by unfold lowI; split <;> omega) (by unfold lowI; split <;> omega) ih
  | sign d h1 _ ih =>
    have e : lowI 92 = 92 := rfl
    simp only [List.map_cons, e]
    exact .sign _ (by unfold dig at *; unfold lowI; split <;> omega) ih
inductive NLabs : List (List Int) → List (List Int) → Prop
  | nil : NLabs [] []
  | cons {r l : List Int} {rs ls : List (List Int)} : NLab r l → l ≠ [] → NLabs rs ls → NLabs (r :: rs) (l :: ls)
theorem NLabs.labs {rs ls : List (List Int)} (h : NLabs rs ls) : Labs rs ls := by
  induction h with
  | nil => exact .nil
  | cons h1 h2 _ ih => exact .cons h1.lab h2 ih
theorem NLabs.low {rs ls : List (List Int)} (h : NLabs rs ls) : NLabs (rs.map (List.map lowI)) (ls.map (List.map lowI)) := by
  induction h with
  | nil => exact .nil
  | cons h1 h2 _ ih => exact .cons h1.low (by simpa using h2) ih
theorem NLabs.snoc {rs ls : List (List Int)} {r l : List Int} (h : NLabs rs ls) (hl : NLab r l) (hn : l ≠ []) : NLabs (rs ++ [r]) (ls ++ [l]) := by
  induction h with
  | nil => exact .cons hl hn .nil
  | cons h1 h2 _ ih => exact .cons h1 h2 ih
theorem join_low : ∀ rs : List (List Int), (joinD rs).map lowI = joinD (rs.map (List.map lowI))
  | [] => rfl
  | r :: rs => by
    simp only [joinD, List.map_append, List.map_cons, join_low rs]
    rfl

/-! ### numbered -/
section numbered
variable {s : ByteArray} (hs : s.size ≤ 140737488351232)
include hs
theorem nu_end {i : Nat} (h : s.size ≤ i + 1) (hi : i ≤ s.size) : Ev (fun k => laws_numbered.l0 k s (i : Int)) false := by
  refine Ev.step (f := fun _ => some false) (fun k => ?_) (Ev.now _)
  rw [laws_numbered.l0, w64 (by omega) (by omega), if_neg (by omega)]
theorem nu_plain {pre rest : List Int} {c : Int} {Q : Prop} (h : bytesOf s = pre ++ c :: rest) (hc : c ≠ 92) (k : ∃ b, Ev (fun k => laws_numbered.l0 k s ((pre ++ [c]).length : Nat)) b ∧ (b = false → Q)) :
    ∃ b, Ev (fun k => laws_numbered.l0 k s (pre.length : Nat)) b ∧ (b = false → Q) := by
  have hl := bytesOf_length s
  rw [h, List.length_append, List.length_cons] at hl
  obtain ⟨b, h1, h2⟩ := k
  have h0 := bt_split h
  have hlen : (pre ++ [c]).length = pre.length + 1 := by simp
  by_cases hlast : rest.length = 0
  · have h3 := nu_end hs (i := (pre ++ [c]).length) (by omega) (by omega)
    exact ⟨false, nu_end hs (by omega) (by omega), fun _ => h2 (Ev.inj h1 h3)⟩
  · refine ⟨b, Ev.step (fun k => ?_) h1, h2⟩
    rw [laws_numbered.l0, w64 (x := (pre.length : Int) + 1) (by omega) (by omega), if_pos (by omega), if_pos (by omega), if_pos (by omega), h0, if_neg hc, hlen]
    rfl
theorem nu_sign {pre rest : List Int} {d : Int} {Q : Prop} (h : bytesOf s = pre ++ 92 :: d :: rest) (hd : ¬ dig d) (k : ∃ b, Ev (fun k => laws_numbered.l0 k s ((pre ++ [92, d]).length : Nat)) b ∧ (b = false → Q)) :
    ∃ b, Ev (fun k => laws_numbered.l0 k s (pre.length : Nat)) b ∧ (b = false → Q) := by
  have hl := bytesOf_length s
  rw [h, List.length_append, List.length_cons, List.length_cons] at hl
  obtain ⟨b, h1, h2⟩ := k
  have h0 := bt_split h
  have h3 := bt_at' (s := s) (pre := pre) (rest := rest) [92] (c := d) (by simpa using h) 1 rfl
  have hlen : (pre ++ [92, d]).length = pre.length + 1 + 1 := by simp
  refine ⟨b, Ev.step (fun k => ?_) h1, h2⟩
  unfold dig at hd
  rw [laws_numbered.l0, w64 (x := (pre.length : Int) + 1) (by omega) (by omega), if_pos (by omega), if_pos (by omega), if_pos (by omega), h0, if_pos rfl, if_pos (by omega), h3, w64 (x := (pre.length : Int) + 1 + 1) (by omega) (by omega), hlen]
  by_cases h48 : d ≥ 48
  · rw [if_pos h48, if_neg (by omega)]
    rfl
  · rw [if_neg h48]
    rfl
theorem nu_ddd {pre rest : List Int} {d : Int} (h : bytesOf s = pre ++ 92 :: d :: rest) (hd : dig d) : Ev (fun k => laws_numbered.l0 k s (pre.length : Nat)) true := by
  have hl := bytesOf_length s
  rw [h, List.length_append, List.length_cons, List.length_cons] at hl
  have h0 := bt_split h
  have h3 := bt_at' (s := s) (pre := pre) (rest := rest) [92] (c := d) (by simpa using h) 1 rfl
  refine Ev.step (f := fun _ => some true) (fun k => ?_) (Ev.now _)
  unfold dig at hd
  rw [laws_numbered.l0, w64 (x := (pre.length : Int) + 1) (by omega) (by omega), if_pos (by omega), if_pos (by omega), if_pos (by omega), h0, if_pos rfl, if_pos (by omega), h3, if_pos (by omega), if_pos (by omega)]
theorem nu_lab {r l : List Int} (hL : Lab r l) : ∀ {Q : Prop} (pre rest : List Int), bytesOf s = pre ++ (r ++ rest) → (∃ b, Ev (fun k => laws_numbered.l0 k s ((pre ++ r).length : Nat)) b ∧ (b = false → Q)) →
    ∃ b, Ev (fun k => laws_numbered.l0 k s (pre.length : Nat)) b ∧ (b = false → NLab r l ∧ Q) := by
  induction hL with
  | nil =>
    intro Q pre rest h ⟨b, h1, h2⟩
    rw [List.append_nil] at h1
    exact ⟨b, h1, fun e => ⟨.nil, h2 e⟩⟩
  | @cons t r l c p ht hc _ ih =>
    intro Q pre rest h hk
    have h' : bytesOf s = (pre ++ t) ++ (r ++ rest) := by rw [h]; simp
    obtain ⟨b, h1, h2⟩ := ih (pre ++ t) rest h' (by rw [List.append_assoc]; exact hk)
    cases ht with
    | plain c hn =>
      exact nu_plain hs (c := c) (rest := r ++ rest) (by rw [h]; simp) hn ⟨b, h1, fun e => ⟨.plain c hn (fun h46 => hc ⟨rfl, h46⟩) (h2 e).1, (h2 e).2⟩⟩
    | sign d hn =>
      exact nu_sign hs (d := c) (rest := r ++ rest) (by rw [h]; simp) hn ⟨b, h1, fun e => ⟨.sign c hn (h2 e).1, (h2 e).2⟩⟩
    | ddd a b c ha _ _ _ =>
      exact ⟨true, nu_ddd hs (d := a) (rest := b :: c :: (r ++ rest)) (by rw [h]; simp) ha, fun e => by cases e⟩
theorem nu_labs {rs ls : List (List Int)} (hL : Labs rs ls) : ∀ {Q : Prop} (pre rest : List Int), bytesOf s = pre ++ (joinD rs ++ rest) → (∃ b, Ev (fun k => laws_numbered.l0 k s ((pre ++ joinD rs).length : Nat)) b ∧ (b = false → Q)) →
    ∃ b, Ev (fun k => laws_numbered.l0 k s (pre.length : Nat)) b ∧ (b = false → NLabs rs ls ∧ Q) := by
  induction hL with
  | nil =>
    intro Q pre rest h ⟨b, h1, h2⟩
    simp only [joinD, List.append_nil] at h1
    exact ⟨b, h1, fun e => ⟨.nil, h2 e⟩⟩
  | @cons r l rs ls h1 h2 _ ih =>
    intro Q pre rest h hk
    simp only [joinD] at h hk
    obtain ⟨b, k1, k2⟩ := ih (pre ++ r ++ [46]) rest (by rw [h]; simp) (by simpa using hk)
    have hd := nu_plain hs (pre := pre ++ r) (c := 46) (rest := joinD rs ++ rest) (by rw [h]; simp) (by decide) ⟨b, k1, k2⟩
    obtain ⟨b', m1, m2⟩ := nu_lab hs h1 pre (46 :: (joinD rs ++ rest)) (by rw [h]; simp) hd
    exact ⟨b', m1, fun e => ⟨.cons (m2 e).1 h2 (m2 e).2.1, (m2 e).2.2⟩⟩
theorem nu_all {rs ls : List (List Int)} {r l : List Int} (h1 : Labs rs ls) (h2 : Lab r l) (e : bytesOf s = joinD rs ++ r) : ∃ b, Ev (fun k => laws_numbered.f k s) b ∧ (b = false → NLabs rs ls ∧ NLab r l) := by
  have hl := bytesOf_length s
  rw [e] at hl
  have h3 := nu_lab hs (Q := True) h2 (joinD rs) [] (by rw [e, List.append_nil]) ⟨false, by rw [hl]; exact nu_end hs (by omega) (by omega), fun _ => trivial⟩
  obtain ⟨b, k1, k2⟩ := nu_labs hs h1 [] r (by rw [e]; rfl) (by rw [List.nil_append]; exact h3)
  exact ⟨b, Ev.congr (fun k => rfl) k1, fun hb => ⟨(k2 hb).1, (k2 hb).2.1⟩⟩
end numbered

end Go.Proofs.YtiilihafcdmccaaDoor.Pure
