/- The plain mathematics of names as texts: bytes, escapes, labels, the places where labels end. No program is in sight. -/
import Derived.Laws.BytesArg
import Derived.WalkKit
import Derived.Lib.Bytes
import Derived.Test.YtiilihafcdmccaaDoorWWords
namespace Go.Proofs.YtiilihafcdmccaaDoor.P
open Go.RowKit Go.Proofs.YtiilihafcdmccaaDoorW.PrintWords
set_option linter.unusedVariables false
set_option linter.unusedSimpArgs false

/-! ### bytes -/
def IsB (l : List Int) : Prop := ∀ x ∈ l, 0 ≤ x ∧ x < 256
theorem IsB.nil : IsB [] := fun _ h => by cases h
theorem IsB.cons {x : Int} {l : List Int} (h : 0 ≤ x ∧ x < 256) (k : IsB l) : IsB (x :: l) := by
  intro y hy
  rcases List.mem_cons.1 hy with rfl | hy
  · exact h
  · exact k y hy
theorem IsB.append {l m : List Int} (h : IsB l) (k : IsB m) : IsB (l ++ m) := fun x hx => (List.mem_append.1 hx).elim (h x) (k x)
theorem IsB.left {l m : List Int} (h : IsB (l ++ m)) : IsB l := fun x hx => h x (List.mem_append_left _ hx)
theorem IsB.right {l m : List Int} (h : IsB (l ++ m)) : IsB m := fun x hx => h x (List.mem_append_right _ hx)
theorem IsB.tail {x : Int} {l : List Int} (h : IsB (x :: l)) : IsB l := fun y hy => h y (List.mem_cons_of_mem _ hy)
theorem IsB.head {x : Int} {l : List Int} (h : IsB (x :: l)) : 0 ≤ x ∧ x < 256 := h x List.mem_cons_self
theorem bytesOf_isB (s : ByteArray) : IsB (bytesOf s) := by
  intro x hx
  obtain ⟨b, _, rfl⟩ := List.mem_map.1 hx
  have := UInt8.toNat_lt b
  omega
theorem strOfNums_bytesOf (s : ByteArray) : strOfNums (bytesOf s) = s := by
  apply ByteArray.ext
  apply Array.ext'
  rw [strOfNums_data]
  unfold bytesOf
  rw [List.map_map]
  conv => rhs; rw [← List.map_id s.data.toList]
  apply List.map_congr_left
  intro b _
  simp
theorem bytesOf_strOfNums {l : List Int} (h : IsB l) : bytesOf (strOfNums l) = l := by
  unfold bytesOf
  rw [strOfNums_data, List.map_map]
  conv => rhs; rw [← List.map_id l]
  apply List.map_congr_left
  intro x hx
  obtain ⟨h0, h1⟩ := h x hx
  simp only [Function.comp, id]
  rw [UInt8.toNat_ofNat']
  omega
theorem bytesOf_inj {s t : ByteArray} (h : bytesOf s = bytesOf t) : s = t := by rw [← strOfNums_bytesOf s, h, strOfNums_bytesOf]
theorem strOfNums_inj {l m : List Int} (h : IsB l) (k : IsB m) (e : strOfNums l = strOfNums m) : l = m := by
  rw [← bytesOf_strOfNums h, e, bytesOf_strOfNums k]
theorem toList_iff (s : ByteArray) (l : List UInt8) : s.toList = l ↔ bytesOf s = l.map fun b => (b.toNat : Int) := by
  rw [Lib.toList_data]
  unfold bytesOf
  constructor
  · intro h; rw [h]
  · intro h
    apply List.map_inj_right (f := fun b : UInt8 => (b.toNat : Int)) (fun x y hxy => ?_) |>.1 h
    exact UInt8.toNat_inj.1 (by omega)
theorem toList_inj (s t : ByteArray) : s.toList = t.toList ↔ s = t := by
  constructor
  · intro h
    apply bytesOf_inj
    rw [Lib.toList_data, Lib.toList_data] at h
    unfold bytesOf
    rw [h]
  · intro h; rw [h]
theorem toList_nil (s : ByteArray) : s.toList = ([] : List UInt8) ↔ bytesOf s = [] := by rw [toList_iff]; rfl
theorem toList_dot (s : ByteArray) : s.toList = ([46] : List UInt8) ↔ bytesOf s = [46] := by rw [toList_iff]; rfl
theorem bt_nat (s : ByteArray) (i : Nat) : bt s (i : Int) = (bytesOf s).getD i 0 := by
  have h := rd_bytesOf s (i : Int)
  unfold rd at h
  rw [Int.toNat_natCast] at h
  exact h.symm
theorem bt_split {s : ByteArray} {pre rest : List Int} {c : Int} (h : bytesOf s = pre ++ c :: rest) : bt s (pre.length : Int) = c := by
  rw [bt_nat, h, List.getD_eq_getElem?_getD, List.getElem?_append_right (Nat.le_refl _)]
  simp
theorem size_eq_len (s : ByteArray) : s.size = (bytesOf s).length := (bytesOf_length s).symm
theorem bytesOf_append (s t : ByteArray) : bytesOf (s ++ t) = bytesOf s ++ bytesOf t := by
  unfold bytesOf
  rw [ByteArray.data_append, Array.toList_append, List.map_append]
theorem strOfNums_append (l m : List Int) : strOfNums l ++ strOfNums m = strOfNums (l ++ m) := by
  apply ByteArray.ext
  apply Array.ext'
  rw [ByteArray.data_append, Array.toList_append, strOfNums_data, strOfNums_data, strOfNums_data, List.map_append]
theorem bytesOf_extract (s : ByteArray) (a b : Nat) : bytesOf (s.extract a b) = ((bytesOf s).take b).drop a := by
  unfold bytesOf
  rw [ByteArray.data_extract, Array.toList_extract, List.extract_eq_take_drop, ← List.map_take, ← List.map_drop, List.take_drop]
  by_cases hab : a ≤ b
  · rw [Nat.add_sub_cancel' hab]
  · congr 1
    rw [List.drop_of_length_le (by rw [List.length_take]; omega), List.drop_of_length_le (by rw [List.length_take]; omega)]

/-! ### one byte of a text, perhaps an escape -/
def dig (d : Int) : Prop := 48 ≤ d ∧ d ≤ 57
instance (d : Int) : Decidable (dig d) := by unfold dig; infer_instance
def val3 (a b c : Int) : Int := (a - 48) * 100 + (b - 48) * 10 + (c - 48)
inductive Tok : List Int → Int → Bool → Prop
  | plain (c : Int) : c ≠ 92 → Tok [c] c true
  | sign (d : Int) : ¬ dig d → Tok [92, d] d false
  | ddd (a b c : Int) : dig a → dig b → dig c → val3 a b c < 256 → Tok [92, a, b, c] (val3 a b c) false
theorem Tok.ne {t : List Int} {c : Int} {p : Bool} (h : Tok t c p) : t ≠ [] := by cases h <;> simp
theorem Tok.pos {t : List Int} {c : Int} {p : Bool} (h : Tok t c p) : 1 ≤ t.length := by cases h <;> simp
theorem Tok.isB {t : List Int} {c : Int} {p : Bool} (h : Tok t c p) (hB : IsB t) : 0 ≤ c ∧ c < 256 := by
  cases h with
  | plain _ h => exact hB.head
  | sign _ h => exact hB.tail.head
  | ddd a b c ha hb hc hv => unfold dig at *; unfold val3 at *; omega
theorem Tok.true_inv {t : List Int} {c : Int} {p : Bool} (h : Tok t c p) (hp : p = true) : t = [c] ∧ c ≠ 92 := by
  cases h with
  | plain _ h => exact ⟨rfl, h⟩
  | sign _ _ => cases hp
  | ddd _ _ _ _ _ _ _ => cases hp
/-- The text of one label, and the bytes that it is. -/
inductive Lab : List Int → List Int → Prop
  | nil : Lab [] []
  | cons {t r l : List Int} {c : Int} {p : Bool} : Tok t c p → ¬ (p = true ∧ c = 46) → Lab r l → Lab (t ++ r) (c :: l)
theorem Lab.append {r l r' l' : List Int} (h : Lab r l) (k : Lab r' l') : Lab (r ++ r') (l ++ l') := by
  induction h with
  | nil => exact k
  | cons ht hc _ ih => rw [List.append_assoc, List.cons_append]; exact .cons ht hc ih
theorem Lab.one {t : List Int} {c : Int} {p : Bool} (ht : Tok t c p) (hc : ¬ (p = true ∧ c = 46)) : Lab t [c] := by
  have h := Lab.cons ht hc .nil
  rwa [List.append_nil] at h
theorem Lab.snoc {r l t : List Int} {c : Int} {p : Bool} (h : Lab r l) (ht : Tok t c p) (hc : ¬ (p = true ∧ c = 46)) : Lab (r ++ t) (l ++ [c]) := h.append (.one ht hc)
theorem Lab.isB {r l : List Int} (h : Lab r l) (hB : IsB r) : IsB l := by
  induction h with
  | nil => exact hB
  | cons ht hc _ ih => exact IsB.cons (ht.isB hB.left) (ih hB.right)
theorem Lab.len {r l : List Int} (h : Lab r l) : l.length ≤ r.length := by
  induction h with
  | nil => exact Nat.le_refl _
  | cons ht hc _ ih => have := ht.pos; simp; omega
theorem Lab.nil_iff {r l : List Int} (h : Lab r l) : r = [] ↔ l = [] := by
  cases h with
  | nil => simp
  | cons ht hc hr => have := ht.ne; simp [this]
theorem Lab.plain {r l : List Int} (h : Lab r l) (hp : ∀ x ∈ r, x ≠ 92) : l = r := by
  induction h with
  | nil => rfl
  | cons ht hc _ ih =>
    cases ht with
    | plain c h => rw [ih (fun x hx => hp x (List.mem_append_right _ hx))]; rfl
    | sign d h => exact absurd rfl (hp 92 (by simp))
    | ddd a b c _ _ _ _ => exact absurd rfl (hp 92 (by simp))

/-- Labels' texts, each with a point behind it. -/
def joinD : List (List Int) → List Int
  | [] => []
  | r :: rs => r ++ 46 :: joinD rs
theorem joinD_append (a b : List (List Int)) : joinD (a ++ b) = joinD a ++ joinD b := by
  induction a with
  | nil => rfl
  | cons r rs ih => simp [joinD, ih]
theorem joinD_snoc (a : List (List Int)) (r : List Int) : joinD (a ++ [r]) = joinD a ++ (r ++ [46]) := by
  rw [joinD_append]
  simp [joinD]
inductive Labs : List (List Int) → List (List Int) → Prop
  | nil : Labs [] []
  | cons {r l : List Int} {rs ls : List (List Int)} : Lab r l → l ≠ [] → Labs rs ls → Labs (r :: rs) (l :: ls)
theorem Labs.snoc {rs ls : List (List Int)} {r l : List Int} (h : Labs rs ls) (hl : Lab r l) (hn : l ≠ []) : Labs (rs ++ [r]) (ls ++ [l]) := by
  induction h with
  | nil => exact .cons hl hn .nil
  | cons h1 h2 _ ih => exact .cons h1 h2 ih
theorem Labs.length {rs ls : List (List Int)} (h : Labs rs ls) : rs.length = ls.length := by
  induction h with
  | nil => rfl
  | cons _ _ _ ih => simp [ih]
theorem Labs.isB {rs ls : List (List Int)} (h : Labs rs ls) (hB : IsB (joinD rs)) : ∀ l ∈ ls, IsB l := by
  induction h with
  | nil => intro l hl; cases hl
  | cons h1 h2 _ ih =>
    intro l hl
    rcases List.mem_cons.1 hl with rfl | hl
    · exact h1.isB hB.left
    · exact ih hB.right.tail l hl
theorem Labs.ne {rs ls : List (List Int)} (h : Labs rs ls) : ∀ l ∈ ls, l ≠ [] := by
  induction h with
  | nil => intro l hl; cases hl
  | cons h1 h2 _ ih =>
    intro l hl
    rcases List.mem_cons.1 hl with rfl | hl
    · exact h2
    · exact ih l hl

/-- A text is a list of labels and a rest of a label; or an empty label stands in it; or an escape that is none. -/
inductive Dec (x : List Int) : Prop
  | ok (rs ls : List (List Int)) (r l : List Int) : Labs rs ls → Lab r l → x = joinD rs ++ r → Dec x
  | empty (rs ls : List (List Int)) (rest : List Int) : Labs rs ls → x = joinD rs ++ 46 :: rest → Dec x
  | bad (rs ls : List (List Int)) (r l rest : List Int) : Labs rs ls → Lab r l → x = joinD rs ++ (r ++ 92 :: rest) → (∀ t c p rest', 92 :: rest = t ++ rest' → ¬ Tok t c p) → Dec x
theorem tok_or (x : Int) (l : List Int) : (∃ t c p rest, Tok t c p ∧ x :: l = t ++ rest) ∨ (x = 92 ∧ ∀ t c p rest', 92 :: l = t ++ rest' → ¬ Tok t c p) := by
  by_cases hx : x = 92
  · subst hx
    by_cases hex : ∃ t c p rest, Tok t c p ∧ 92 :: l = t ++ rest
    · exact .inl hex
    · exact .inr ⟨rfl, fun t c p rest' e ht => hex ⟨t, c, p, rest', ht, e⟩⟩
  · exact .inl ⟨[x], x, true, l, .plain x hx, rfl⟩
theorem dec_from (n : Nat) : ∀ (x : List Int) (rs ls : List (List Int)) (r l rest : List Int), rest.length ≤ n → Labs rs ls → Lab r l → x = joinD rs ++ (r ++ rest) → Dec x := by
  induction n with
  | zero =>
    intro x rs ls r l rest hn h1 h2 e
    obtain rfl : rest = [] := List.eq_nil_of_length_eq_zero (by omega)
    exact .ok rs ls r l h1 h2 (by rw [e, List.append_nil])
  | succ n ih =>
    intro x rs ls r l rest hn h1 h2 e
    cases rest with
    | nil => exact .ok rs ls r l h1 h2 (by rw [e, List.append_nil])
    | cons y ys =>
      rcases tok_or y ys with ⟨t, c, p, rest', ht, et⟩ | ⟨rfl, hno⟩
      · have hl : rest'.length ≤ n := by
          have := congrArg List.length et
          have := ht.pos
          simp at *
          omega
        by_cases hd : p = true ∧ c = 46
        · obtain ⟨rfl, rfl⟩ := hd
          obtain ⟨rfl, _⟩ := ht.true_inv rfl
          by_cases hr : l = []
          · subst hr
            obtain rfl := h2.nil_iff.2 rfl
            exact .empty rs ls rest' h1 (by rw [e, et]; rfl)
          · exact ih x (rs ++ [r]) (ls ++ [l]) [] [] rest' hl (h1.snoc h2 hr) .nil (by rw [e, et, joinD_snoc]; simp)
        · exact ih x rs ls (r ++ t) (l ++ [c]) rest' hl h1 (h2.snoc ht hd) (by rw [e, et]; simp)
      · exact .bad rs ls r l ys h1 h2 e hno
theorem dec (x : List Int) : Dec x := dec_from x.length x [] [] [] [] x (Nat.le_refl _) .nil .nil rfl

/-! ### where labels end: a point behind an even number of backslashes -/
def trail : List Int → Nat := fun l => (l.reverse.takeWhile (· == 92)).length
theorem trail_snoc (l : List Int) (c : Int) : trail (l ++ [c]) = if c = 92 then trail l + 1 else 0 := by
  unfold trail
  rw [List.reverse_append]
  by_cases h : c = 92 <;> simp [h]
theorem trail_nil : trail [] = 0 := rfl
def cutL (l : List Int) (j : Nat) : Prop := l.getD j 0 = 46 ∧ trail (l.take j) % 2 = 0
theorem take_pre (pre m : List Int) (k : Nat) : (pre ++ m).take (pre.length + k) = pre ++ m.take k := by
  rw [List.take_append, List.take_of_length_le (by omega), Nat.add_sub_cancel_left]
theorem getD_pre (pre m : List Int) (k : Nat) : (pre ++ m).getD (pre.length + k) 0 = m.getD k 0 := by
  rw [List.getD_eq_getElem?_getD, List.getElem?_append_right (by omega), Nat.add_sub_cancel_left, List.getD_eq_getElem?_getD]
theorem tok_even {pre t : List Int} {c : Int} {p : Bool} (h : Tok t c p) (he : trail pre % 2 = 0) : trail (pre ++ t) % 2 = 0 := by
  cases h with
  | plain _ h => rw [trail_snoc, if_neg h]
  | sign d h =>
    rw [show pre ++ [92, c] = (pre ++ [92]) ++ [c] by simp, trail_snoc, trail_snoc, if_pos rfl]
    split <;> omega
  | ddd a b d ha hb hc _ =>
    rw [show pre ++ [92, a, b, d] = (pre ++ [92, a, b]) ++ [d] by simp, trail_snoc, if_neg (by unfold dig at hc; omega)]
theorem tok_cut {pre t rest : List Int} {c : Int} {p : Bool} (h : Tok t c p) (he : trail pre % 2 = 0) (hc : ¬ (p = true ∧ c = 46)) (j : Nat) (hj : j < t.length) : ¬ cutL (pre ++ (t ++ rest)) (pre.length + j) := by
  unfold cutL
  rw [getD_pre, take_pre]
  rintro ⟨h1, h2⟩
  cases h with
  | plain _ h =>
    obtain rfl : j = 0 := by simp at hj; omega
    exact hc ⟨rfl, by simpa using h1⟩
  | sign d h =>
    match j, hj with
    | 0, _ => simp at h1
    | 1, _ =>
      have e : List.take 1 ([92, c] ++ rest) = [92] := by simp
      rw [e, trail_snoc, if_pos rfl] at h2
      omega
    | n + 2, hj => exact absurd hj (by simp)
  | ddd a b d ha hb hd _ =>
    unfold dig at *
    match j, hj with
    | 0, _ => simp at h1
    | 1, _ => simp at h1; omega
    | 2, _ => simp at h1; omega
    | 3, _ => simp at h1; omega
    | n + 4, hj => exact absurd hj (by simp)
theorem lab_even {r l : List Int} (h : Lab r l) : ∀ (pre : List Int), trail pre % 2 = 0 → trail (pre ++ r) % 2 = 0 := by
  induction h with
  | nil => intro pre he; rwa [List.append_nil]
  | cons ht hc _ ih =>
    intro pre he
    rw [← List.append_assoc]
    exact ih _ (tok_even ht he)
theorem lab_cut {r l : List Int} (h : Lab r l) : ∀ (pre rest : List Int), trail pre % 2 = 0 → ∀ j, j < r.length → ¬ cutL (pre ++ (r ++ rest)) (pre.length + j) := by
  induction h with
  | nil => intro pre rest he j hj; simp at hj
  | @cons t r l c p ht hc _ ih =>
    intro pre rest he j hj
    by_cases hjt : j < t.length
    · rw [List.append_assoc]
      exact tok_cut ht he hc j hjt
    · have h := ih (pre ++ t) rest (tok_even ht he) (j - t.length) (by simp at hj; omega)
      rw [List.length_append, show pre.length + t.length + (j - t.length) = pre.length + j by omega] at h
      rw [List.append_assoc] at h ⊢
      exact h
theorem dot_cut {pre rest : List Int} (he : trail pre % 2 = 0) : cutL (pre ++ 46 :: rest) pre.length := by
  unfold cutL
  have h1 := getD_pre pre (46 :: rest) 0
  have h2 := take_pre pre (46 :: rest) 0
  rw [Nat.add_zero] at h1 h2
  rw [h1, h2]
  simpa using he
theorem dot_even (pre : List Int) : trail (pre ++ [46]) % 2 = 0 := by rw [trail_snoc]; simp
theorem join_even {rs ls : List (List Int)} (h : Labs rs ls) : ∀ (pre : List Int), trail pre % 2 = 0 → trail (pre ++ joinD rs) % 2 = 0 := by
  induction h with
  | nil => intro pre he; simpa [joinD] using he
  | @cons r l rs ls h1 h2 _ ih =>
    intro pre he
    have := ih (pre ++ r ++ [46]) (dot_even _)
    simpa [joinD] using this

end Go.Proofs.YtiilihafcdmccaaDoor.P
