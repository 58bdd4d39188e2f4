/- Texts of this session merged by program (wip/tools/merge.py): Core, Base, P0, PF76, PF49, PF24, PF47, PF17, EvalP, Fqdn, PF20, PF19, PF18, PF50, EvalG, PackA, PF101, PF110, PF111, PackL. -/
import Derived.Laws.BytesArg
import Derived.WalkKit
import Derived.Lib.Bytes
import Derived.Test.YtiilihafcdmccaaDoorWWords
import Derived.Test.YtiilihafcdmccaaDoorProg
import Derived.Below
import Derived.Deep.Draws
import Derived.Deep.AppendLies
import Derived.Maps.AppendAt
import Derived.OwnWalk
import Derived.Laws.MakeOwn
import Derived.Laws.OwnMore
import Derived.Deep.OwnRows
import Derived.Tactics
import Derived.Lib.ConvBytes
import Derived.Lib.Hide
import Derived.Laws.Slices
import Derived.KernelRfl
import Derived.RowKit3
import Derived.Deep.LoopGhost
import Derived.Deep.QuietTactic
import Derived.BigQuiet
import Derived.WideLaws
import Derived.Deep.DeepCutAuto
import Derived.Deep.CutBlock
import Derived.Deep.RegionHeld3
import Derived.Laws.Rows
import Derived.Lib.AppendStr
import Derived.ArgAppend
import Derived.Laws.IdiomCopy
import Derived.OrdersHeld
import Derived.Laws.BitsLemmas
import Derived.RowKit
import Derived.Test.YtiilihafcdmccaaDoorWLast
import Derived.Test.YtiilihafcdmccaaDoorWTab
import Derived.Test.YtiilihafcdmccaaDoorWFour
import Derived.Test.YtiilihafcdmccaaDoorWMore
import Derived.Test.YtiilihafcdmccaaDoorWQPut
import Derived.Test.YtiilihafcdmccaaDoorWApart
import Derived.Test.YtiilihafcdmccaaDoorWArr
import Derived.Test.YtiilihafcdmccaaDoorWZeros
import Derived.Test.YtiilihafcdmccaaDoorWFoot
import Derived.Test.YtiilihafcdmccaaDoorWKept
import Derived.Test.YtiilihafcdmccaaDoorWShare
import Derived.Test.YtiilihafcdmccaaDoorWN
import Derived.Test.YtiilihafcdmccaaDoorWFootNe
import Derived.Test.YtiilihafcdmccaaDoorWAt
import Derived.Test.YtiilihafcdmccaaDoorWEqStruct
import Derived.Test.YtiilihafcdmccaaDoorWRepsOne
import Derived.Test.YtiilihafcdmccaaDoorWInv
import Derived.Test.YtiilihafcdmccaaDoorWInvWords
import Derived.Test.YtiilihafcdmccaaDoorWGuard
import Derived.Test.YtiilihafcdmccaaDoorWNEv
import Derived.Laws.Cover3
import Derived.Lib.LazyBuf
import Derived.WalkMore
import Derived.Laws.CopyOwn
import Derived.Lib.BufferWrite
import Derived.Laws.AppendOwn
/- The plain mathematics of names as texts: bytes, escapes, labels, the places where labels end. No program is in sight. -/
namespace Go.Proofs.YtiilihafcdmccaaDoor.P
open Go.RowKit Go.Proofs.YtiilihafcdmccaaDoorW.PrintWords
set_option linter.unusedVariables false
set_option linter.unusedSimpArgs false

/-! ### bytes -/
def IsB (l : List Int) : Prop := ∀ x ∈ l, 0 ≤ x ∧ x < 256
theorem IsB.nil : IsB [] := fun _ h => by cases h
theorem IsB.cons {x : Int} {l : List Int} (h : 0 ≤ x ∧ x < 256) (k : IsB l) : IsB (x :: l) := by
  intro y hy
  rcases List.mem_cons.1 hy with rfl | hy
  · exact h
  · exact k y hy
theorem IsB.append {l m : List Int} (h : IsB l) (k : IsB m) : IsB (l ++ m) := fun x hx => (List.mem_append.1 hx).elim (h x) (k x)
theorem IsB.left {l m : List Int} (h : IsB (l ++ m)) : IsB l := fun x hx => h x (List.mem_append_left _ hx)
theorem IsB.right {l m : List Int} (h : IsB (l ++ m)) : IsB m := fun x hx => h x (List.mem_append_right _ hx)
theorem IsB.tail {x : Int} {l : List Int} (h : IsB (x :: l)) : IsB l := fun y hy => h y (List.mem_cons_of_mem _ hy)
theorem IsB.head {x : Int} {l : List Int} (h : IsB (x :: l)) : 0 ≤ x ∧ x < 256 := h x List.mem_cons_self
theorem bytesOf_isB (s : ByteArray) : IsB (bytesOf s) := by
  intro x hx
  obtain ⟨b, _, rfl⟩ := List.mem_map.1 hx
  have := UInt8.toNat_lt b
  omega
theorem strOfNums_bytesOf (s : ByteArray) : strOfNums (bytesOf s) = s := by
  apply ByteArray.ext
  apply Array.ext'
  rw [strOfNums_data]
  unfold bytesOf
  rw [List.map_map]
  conv => rhs; rw [← List.map_id s.data.toList]
  apply List.map_congr_left
  intro b _
  simp
theorem bytesOf_strOfNums {l : List Int} (h : IsB l) : bytesOf (strOfNums l) = l := by
  unfold bytesOf
  rw [strOfNums_data, List.map_map]
  conv => rhs; rw [← List.map_id l]
  apply List.map_congr_left
  intro x hx
  obtain ⟨h0, h1⟩ := h x hx
  simp only [Function.comp, id]
  rw [UInt8.toNat_ofNat']
  omega
theorem bytesOf_inj {s t : ByteArray} (h : bytesOf s = bytesOf t) : s = t := by rw [← strOfNums_bytesOf s, h, strOfNums_bytesOf]
theorem strOfNums_inj {l m : List Int} (h : IsB l) (k : IsB m) (e : strOfNums l = strOfNums m) : l = m := by
  rw [← bytesOf_strOfNums h, e, bytesOf_strOfNums k]
theorem toList_iff (s : ByteArray) (l : List UInt8) : s.toList = l ↔ bytesOf s = l.map fun b => (b.toNat : Int) := by
  rw [Lib.toList_data]
  unfold bytesOf
  constructor
  · intro h; rw [h]
  · intro h
    apply List.map_inj_right (f := fun b : UInt8 => (b.toNat : Int)) (fun x y hxy => ?_) |>.1 h
    exact UInt8.toNat_inj.1 (by omega)
theorem toList_inj (s t : ByteArray) : s.toList = t.toList ↔ s = t := by
  constructor
  · intro h
    apply bytesOf_inj
    rw [Lib.toList_data, Lib.toList_data] at h
    unfold bytesOf
    rw [h]
  · intro h; rw [h]
theorem toList_nil (s : ByteArray) : s.toList = ([] : List UInt8) ↔ bytesOf s = [] := by rw [toList_iff]; rfl
theorem toList_dot (s : ByteArray) : s.toList = ([46] : List UInt8) ↔ bytesOf s = [46] := by rw [toList_iff]; rfl
theorem bt_nat (s : ByteArray) (i : Nat) : bt s (i : Int) = (bytesOf s).getD i 0 := by
  have h := rd_bytesOf s (i : Int)
  unfold rd at h
  rw [Int.toNat_natCast] at h
  exact h.symm
theorem bt_split {s : ByteArray} {pre rest : List Int} {c : Int} (h : bytesOf s = pre ++ c :: rest) : bt s (pre.length : Int) = c := by
  rw [bt_nat, h, List.getD_eq_getElem?_getD, List.getElem?_append_right (Nat.le_refl _)]
  simp
theorem size_eq_len (s : ByteArray) : s.size = (bytesOf s).length := (bytesOf_length s).symm
theorem bytesOf_append (s t : ByteArray) : bytesOf (s ++ t) = bytesOf s ++ bytesOf t := by
  unfold bytesOf
  rw [ByteArray.data_append, Array.toList_append, List.map_append]
theorem strOfNums_append (l m : List Int) : strOfNums l ++ strOfNums m = strOfNums (l ++ m) := by
  apply ByteArray.ext
  apply Array.ext'
  rw [ByteArray.data_append, Array.toList_append, strOfNums_data, strOfNums_data, strOfNums_data, List.map_append]
theorem bytesOf_extract (s : ByteArray) (a b : Nat) : bytesOf (s.extract a b) = ((bytesOf s).take b).drop a := by
  unfold bytesOf
  rw [ByteArray.data_extract, Array.toList_extract, List.extract_eq_take_drop, ← List.map_take, ← List.map_drop, List.take_drop]
  by_cases hab : a ≤ b
  · rw [Nat.add_sub_cancel' hab]
  · congr 1
    rw [List.drop_of_length_le (by rw [List.length_take]; omega), List.drop_of_length_le (by rw [List.length_take]; omega)]

/-! ### one byte of a text, perhaps an escape -/
def dig (d : Int) : Prop := 48 ≤ d ∧ d ≤ 57
instance (d : Int) : Decidable (dig d) := by unfold dig; infer_instance
def val3 (a b c : Int) : Int := (a - 48) * 100 + (b - 48) * 10 + (c - 48)
inductive Tok : List Int → Int → Bool → Prop
  | plain (c : Int) : c ≠ 92 → Tok [c] c true
  | sign (d : Int) : ¬ dig d → Tok [92, d] d false
  | ddd (a b c : Int) : dig a → dig b → dig c → val3 a b c < 256 → Tok [92, a, b, c] (val3 a b c) false
theorem Tok.ne {t : List Int} {c : Int} {p : Bool} (h : Tok t c p) : t ≠ [] := by cases h <;> simp
theorem Tok.pos {t : List Int} {c : Int} {p : Bool} (h : Tok t c p) : 1 ≤ t.length := by cases h <;> simp
theorem Tok.isB {t : List Int} {c : Int} {p : Bool} (h : Tok t c p) (hB : IsB t) : 0 ≤ c ∧ c < 256 := by
  cases h with
  | plain _ h => exact hB.head
  | sign _ h => exact hB.tail.head
  | ddd a b c ha hb hc hv => unfold dig at *; unfold val3 at *; omega
theorem Tok.true_inv {t : List Int} {c : Int} {p : Bool} (h : Tok t c p) (hp : p = true) : t = [c] ∧ c ≠ 92 := by
  cases h with
  | plain _ h => exact ⟨rfl, h⟩
  | sign _ _ => cases hp
  | ddd _ _ _ _ _ _ _ => cases hp
/-- The text of one label, and the bytes that it is. -/
inductive Lab : List Int → List Int → Prop
  | nil : Lab [] []
  | cons {t r l : List Int} {c : Int} {p : Bool} : Tok t c p → ¬ (p = true ∧ c = 46) → Lab r l → Lab (t ++ r) (c :: l)
theorem Lab.append {r l r' l' : List Int} (h : Lab r l) (k : Lab r' l') : Lab (r ++ r') (l ++ l') := by
  induction h with
  | nil => exact k
  | cons ht hc _ ih => rw [List.append_assoc, List.cons_append]; exact .cons ht hc ih
theorem Lab.one {t : List Int} {c : Int} {p : Bool} (ht : Tok t c p) (hc : ¬ (p = true ∧ c = 46)) : Lab t [c] := by
  have h := Lab.cons ht hc .nil
  rwa [List.append_nil] at h
theorem Lab.snoc {r l t : List Int} {c : Int} {p : Bool} (h : Lab r l) (ht : Tok t c p) (hc : ¬ (p = true ∧ c = 46)) : Lab (r ++ t) (l ++ [c]) := h.append (.one ht hc)
theorem Lab.isB {r l : List Int} (h : Lab r l) (hB : IsB r) : IsB l := by
  induction h with
  | nil => exact hB
  | cons ht hc _ ih => exact IsB.cons (ht.isB hB.left) (ih hB.right)
theorem Lab.len {r l : List Int} (h : Lab r l) : l.length ≤ r.length := by
  induction h with
  | nil => exact Nat.le_refl _
  | cons ht hc _ ih => have := ht.pos; simp; omega
theorem Lab.nil_iff {r l : List Int} (h : Lab r l) : r = [] ↔ l = [] := by
  cases h with
  | nil => simp
  | cons ht hc hr => have := ht.ne; simp [this]
theorem Lab.plain {r l : List Int} (h : Lab r l) (hp : ∀ x ∈ r, x ≠ 92) : l = r := by
  induction h with
  | nil => rfl
  | cons ht hc _ ih =>
    cases ht with
    | plain c h => rw [ih (fun x hx => hp x (List.mem_append_right _ hx))]; rfl
    | sign d h => exact absurd rfl (hp 92 (by simp))
    | ddd a b c _ _ _ _ => exact absurd rfl (hp 92 (by simp))

/-- Labels' texts, each with a point behind it. -/
def joinD : List (List Int) → List Int
  | [] => []
  | r :: rs => r ++ 46 :: joinD rs
theorem joinD_append (a b : List (List Int)) : joinD (a ++ b) = joinD a ++ joinD b := by
  induction a with
  | nil => rfl
  | cons r rs ih => simp [joinD, ih]
theorem joinD_snoc (a : List (List Int)) (r : List Int) : joinD (a ++ [r]) = joinD a ++ (r ++ [46]) := by
  rw [joinD_append]
  simp [joinD]
inductive Labs : List (List Int) → List (List Int) → Prop
  | nil : Labs [] []
  | cons {r l : List Int} {rs ls : List (List Int)} : Lab r l → l ≠ [] → Labs rs ls → Labs (r :: rs) (l :: ls)
theorem Labs.snoc {rs ls : List (List Int)} {r l : List Int} (h : Labs rs ls) (hl : Lab r l) (hn : l ≠ []) : Labs (rs ++ [r]) (ls ++ [l]) := by
  induction h with
  | nil => exact .cons hl hn .nil
  | cons h1 h2 _ ih => exact .cons h1 h2 ih
theorem Labs.length {rs ls : List (List Int)} (h : Labs rs ls) : rs.length = ls.length := by
  induction h with
  | nil => rfl
  | cons _ _ _ ih => simp [ih]
theorem Labs.isB {rs ls : List (List Int)} (h : Labs rs ls) (hB : IsB (joinD rs)) : ∀ l ∈ ls, IsB l := by
  induction h with
  | nil => intro l hl; cases hl
  | cons h1 h2 _ ih =>
    intro l hl
    rcases List.mem_cons.1 hl with rfl | hl
    · exact h1.isB hB.left
    · exact ih hB.right.tail l hl
theorem Labs.ne {rs ls : List (List Int)} (h : Labs rs ls) : ∀ l ∈ ls, l ≠ [] := by
  induction h with
  | nil => intro l hl; cases hl
  | cons h1 h2 _ ih =>
    intro l hl
    rcases List.mem_cons.1 hl with rfl | hl
    · exact h2
    · exact ih l hl

/-- A text is a list of labels and a rest of a label; or an empty label stands in it; or an escape that is none. -/
inductive Dec (x : List Int) : Prop
  | ok (rs ls : List (List Int)) (r l : List Int) : Labs rs ls → Lab r l → x = joinD rs ++ r → Dec x
  | empty (rs ls : List (List Int)) (rest : List Int) : Labs rs ls → x = joinD rs ++ 46 :: rest → Dec x
  | bad (rs ls : List (List Int)) (r l rest : List Int) : Labs rs ls → Lab r l → x = joinD rs ++ (r ++ 92 :: rest) → (∀ t c p rest', 92 :: rest = t ++ rest' → ¬ Tok t c p) → Dec x
theorem tok_or (x : Int) (l : List Int) : (∃ t c p rest, Tok t c p ∧ x :: l = t ++ rest) ∨ (x = 92 ∧ ∀ t c p rest', 92 :: l = t ++ rest' → ¬ Tok t c p) := by
  by_cases hx : x = 92
  · subst hx
    by_cases hex : ∃ t c p rest, Tok t c p ∧ 92 :: l = t ++ rest
    · exact .inl hex
    · exact .inr ⟨rfl, fun t c p rest' e ht => hex ⟨t, c, p, rest', ht, e⟩⟩
  · exact .inl ⟨[x], x, true, l, .plain x hx, rfl⟩
theorem dec_from (n : Nat) : ∀ (x : List Int) (rs ls : List (List Int)) (r l rest : List Int), rest.length ≤ n → Labs rs ls → Lab r l → x = joinD rs ++ (r ++ rest) → Dec x := by
  induction n with
  | zero =>
    intro x rs ls r l rest hn h1 h2 e
    obtain rfl : rest = [] := List.eq_nil_of_length_eq_zero (by omega)
    exact .ok rs ls r l h1 h2 (by rw [e, List.append_nil])
  | succ n ih =>
    intro x rs ls r l rest hn h1 h2 e
    cases rest with
    | nil => exact .ok rs ls r l h1 h2 (by rw [e, List.append_nil])
    | cons y ys =>
      rcases tok_or y ys with ⟨t, c, p, rest', ht, et⟩ | ⟨rfl, hno⟩
      · have hl : rest'.length ≤ n := by
          have := congrArg List.length et
          have := ht.pos
          simp at *
          omega
        by_cases hd : p = true ∧ c = 46
        · obtain ⟨rfl, rfl⟩ := hd
          obtain ⟨rfl, _⟩ := ht.true_inv rfl
          by_cases hr : l = []
          · subst hr
            obtain rfl := h2.nil_iff.2 rfl
            exact .empty rs ls rest' h1 (by rw [e, et]; rfl)
          · exact ih x (rs ++ [r]) (ls ++ [l]) [] [] rest' hl (h1.snoc h2 hr) .nil (by rw [e, et, joinD_snoc]; simp)
        · exact ih x rs ls (r ++ t) (l ++ [c]) rest' hl h1 (h2.snoc ht hd) (by rw [e, et]; simp)
      · exact .bad rs ls r l ys h1 h2 e hno
theorem dec (x : List Int) : Dec x := dec_from x.length x [] [] [] [] x (Nat.le_refl _) .nil .nil rfl

/-! ### where labels end: a point behind an even number of backslashes -/
def trail : List Int → Nat := fun l => (l.reverse.takeWhile (· == 92)).length
theorem trail_snoc (l : List Int) (c : Int) : trail (l ++ [c]) = if c = 92 then trail l + 1 else 0 := by
  unfold trail
  rw [List.reverse_append]
  by_cases h : c = 92 <;> simp [h]
theorem trail_nil : trail [] = 0 := rfl
def cutL (l : List Int) (j : Nat) : Prop := l.getD j 0 = 46 ∧ trail (l.take j) % 2 = 0
theorem take_pre (pre m : List Int) (k : Nat) : (pre ++ m).take (pre.length + k) = pre ++ m.take k := by
  rw [List.take_append, List.take_of_length_le (by omega), Nat.add_sub_cancel_left]
theorem getD_pre (pre m : List Int) (k : Nat) : (pre ++ m).getD (pre.length + k) 0 = m.getD k 0 := by
  rw [List.getD_eq_getElem?_getD, List.getElem?_append_right (by omega), Nat.add_sub_cancel_left, List.getD_eq_getElem?_getD]
theorem tok_even {pre t : List Int} {c : Int} {p : Bool} (h : Tok t c p) (he : trail pre % 2 = 0) : trail (pre ++ t) % 2 = 0 := by
  cases h with
  | plain _ h => rw [trail_snoc, if_neg h]
  | sign d h =>
    rw [show pre ++ [92, c] = (pre ++ [92]) ++ [c] by simp, trail_snoc, trail_snoc, if_pos rfl]
    split <;> omega
  | ddd a b d ha hb hc _ =>
    rw [show pre ++ [92, a, b, d] = (pre ++ [92, a, b]) ++ [d] by simp, trail_snoc, if_neg (by unfold dig at hc; omega)]
theorem tok_cut {pre t rest : List Int} {c : Int} {p : Bool} (h : Tok t c p) (he : trail pre % 2 = 0) (hc : ¬ (p = true ∧ c = 46)) (j : Nat) (hj : j < t.length) : ¬ cutL (pre ++ (t ++ rest)) (pre.length + j) := by
  unfold cutL
  rw [getD_pre, take_pre]
  rintro ⟨h1, h2⟩
  cases h with
  | plain _ h =>
    obtain rfl : j = 0 := by simp at hj; omega
    exact hc ⟨rfl, by simpa using h1⟩
  | sign d h =>
    match j, hj with
    | 0, _ => simp at h1
    | 1, _ =>
      have e : List.take 1 ([92, c] ++ rest) = [92] := by simp
      rw [e, trail_snoc, if_pos rfl] at h2
      omega
    | n + 2, hj => exact absurd hj (by simp)
  | ddd a b d ha hb hd _ =>
    unfold dig at *
    match j, hj with
    | 0, _ => simp at h1
    | 1, _ => simp at h1; omega
    | 2, _ => simp at h1; omega
    | 3, _ => simp at h1; omega
    | n + 4, hj => exact absurd hj (by simp)
theorem lab_even {r l : List Int} (h : Lab r l) : ∀ (pre : List Int), trail pre % 2 = 0 → trail (pre ++ r) % 2 = 0 := by
  induction h with
  | nil => intro pre he; rwa [List.append_nil]
  | cons ht hc _ ih =>
    intro pre he
    rw [← List.append_assoc]
    exact ih _ (tok_even ht he)
theorem lab_cut {r l : List Int} (h : Lab r l) : ∀ (pre rest : List Int), trail pre % 2 = 0 → ∀ j, j < r.length → ¬ cutL (pre ++ (r ++ rest)) (pre.length + j) := by
  induction h with
  | nil => intro pre rest he j hj; simp at hj
  | @cons t r l c p ht hc _ ih =>
    intro pre rest he j hj
    by_cases hjt : j < t.length
    · rw [List.append_assoc]
      exact tok_cut ht he hc j hjt
    · have h := ih (pre ++ t) rest (tok_even ht he) (j - t.length) (by simp at hj; omega)
      rw [List.length_append, show pre.length + t.length + (j - t.length) = pre.length + j by omega] at h
      rw [List.append_assoc] at h ⊢
      exact h
theorem dot_cut {pre rest : List Int} (he : trail pre % 2 = 0) : cutL (pre ++ 46 :: rest) pre.length := by
  unfold cutL
  have h1 := getD_pre pre (46 :: rest) 0
  have h2 := take_pre pre (46 :: rest) 0
  rw [Nat.add_zero] at h1 h2
  rw [h1, h2]
  simpa using he
theorem dot_even (pre : List Int) : trail (pre ++ [46]) % 2 = 0 := by rw [trail_snoc]; simp
theorem join_even {rs ls : List (List Int)} (h : Labs rs ls) : ∀ (pre : List Int), trail pre % 2 = 0 → trail (pre ++ joinD rs) % 2 = 0 := by
  induction h with
  | nil => intro pre he; simpa [joinD] using he
  | @cons r l rs ls h1 h2 _ ih =>
    intro pre he
    have := ih (pre ++ r ++ [46]) (dot_even _)
    simpa [joinD] using this

end Go.Proofs.YtiilihafcdmccaaDoor.P
/- Lemmas of this seat's hand-made contracts: a row of bytes that '[]byte(s)' made, a make with a capacity of its own. -/
namespace Go.Proofs.YtiilihafcdmccaaDoor.P
open Go.RowKit Go.Proofs.YtiilihafcdmccaaDoorW.PrintWords Go.Proofs.YtiilihafcdmccaaDoorW.PrintLast Go.Proofs.YtiilihafcdmccaaDoorW.PrintMore
set_option linter.unusedVariables false
set_option linter.unusedSimpArgs false

/-- Block b holds, from its head on, these bytes, and they may be written. -/
def RowB (wr : World) (b : Nat) (xs : List Int) : Prop :=
  ∀ j, j < xs.length → wr.cell? ⟨b, j, none⟩ = some (.int .u8 (xs.getD j 0)) ∧ wr.frozen? ⟨b, j, none⟩ = false

theorem RowB.cell {wr : World} {b : Nat} {xs : List Int} (h : RowB wr b xs) {j : Nat} (hj : j < xs.length) :
    wr.cell? ⟨b, j, none⟩ = some (.int .u8 (xs.getD j 0)) := (h j hj).1
theorem RowB.free {wr : World} {b : Nat} {xs : List Int} (h : RowB wr b xs) {j : Nat} (hj : j < xs.length) :
    wr.frozen? ⟨b, j, none⟩ = false := (h j hj).2

theorem RowB.set {wr : World} {b : Nat} {xs : List Int} (h : RowB wr b xs) (i : Nat) (x : Int) :
    RowB (wr.setCell ⟨b, i, none⟩ (.int .u8 x)) b (xs.set i x) := by
  intro j hj
  rw [List.length_set] at hj
  obtain ⟨h1, h2⟩ := h j hj
  refine ⟨?_, by rw [World.frozen?_setCell]; exact h2⟩
  by_cases e : i = j
  · subst e
    rw [World.cell?_setCell_same _ _ _ h1]
    simp [List.getD_eq_getElem?_getD, List.getElem?_set, hj]
  · rw [World.cell?_setCell_other _ _ _ _ (by intro he; injection he with _ he; exact e he), h1]
    simp [List.getD_eq_getElem?_getD, List.getElem?_set, e]

theorem RowB_bytes (w : World) (e : TypeId) (s : ByteArray) : RowB (Lib.bytesWorld w e s) w.heap.size (bytesOf s) := by
  intro j hj
  rw [bytesOf_length] at hj
  refine ⟨?_, ?_⟩
  · rw [Lib.bytesWorld_cell w e s j hj]
    have h' : j < s.data.toList.length := by rw [data_length]; exact hj
    simp [bytesOf, List.getD_eq_getElem?_getD, List.getElem?_eq_getElem h']
  · have hc : (Lib.bytesCells w e s).size ≥ s.size := by
      unfold Lib.bytesCells
      simp
    simp only [World.frozen?, Lib.bytesWorld_at_new]
    simp
    intro h
    omega

section
variable {α : Type} {P : Program} {ops : Array Oper} {rest : List Oper} {o : Oper} {a : Act} {Q : Exit → Act → World → Prop}
/-- make([]T, n, m): a length and a capacity of its own. -/
theorem R_makec (d : Kd α) {w0 W : World} (base e : Nat) (hgd : o.guard = none) {N : Tmp} (hd : o.dst = some N) (t : TypeId) (x y : Operand) (ho : o.op = .makeSlice t x y) (n m : Int) (hx : a.eval x = .int .i64 n) (hy : a.eval y = .int .i64 m) (hnm : n ≤ m)
    (ht : P.underlying t = some (.slice e)) (z : Value) (bytes : Nat) (hinfo : (P.info? e).map (fun i => (i.zero, i.size, i.bytes)) = some (some z, d.sz, bytes)) (hz : z.cells.size = d.sz) (hs0 : 0 < d.sz) (hb0 : 0 < bytes)
    (z0 : α) {ok okp : Nat → Prop} (hzero : d.M W base okp z0 z.cells.toList) (hok : ∀ k, okp k → ok k) (hfresh : ok W.heap.size) (h0 : 0 ≤ n) (hl : m.toNat * bytes ≤ 281474976710656) (HB : Below base w0 W) (hbase : base ≤ W.heap.size)
    (h : ∀ v1 w1, d.R e w1 base ok v1 (List.replicate n.toNat z0) → Below base w0 w1 → W.grownBy w1 none → (∃ b, v1.ownBlock = some b ∧ W.heap.size ≤ b) → wpList P ops Q rest (a.put o.dst v1) w1) : wpList P ops Q (o :: rest) a W := by
  obtain ⟨m, rfl⟩ := Int.eq_ofNat_of_zero_le (Int.le_trans h0 hnm)
  obtain ⟨n, rfl⟩ := Int.eq_ofNat_of_zero_le h0
  simp only [Int.toNat_natCast] at hl h
  obtain ⟨i0, hi, hzz⟩ := Option.map_eq_some_iff.1 hinfo
  simp only [Prod.mk.injEq] at hzz
  obtain ⟨hz0, hz1, hz2⟩ := hzz
  have hm : m ≤ 281474976710656 := Nat.le_trans (Nat.le_mul_of_pos_right _ hb0) hl
  have hr := run_make (P := P) W t e i0 z ht hi hz0 .i64 .i64 (n : Int) (m : Int) (by omega) hnm
    (by
      have h3 : ((i0.bytes * m : Nat) : Int) ≤ 281474976710656 := by rw [hz2, Nat.mul_comm]; omega
      rwa [Int.natCast_mul] at h3) (by omega)
  simp only [Int.toNat_natCast] at hr
  rw [hz1] at hr
  have hrep := Kd.reps_made hz hs0 hzero m
  have hR : d.R e (W.alloc (.cells (madeCells z.cells (m * d.sz)) e)) base ok (.slice (some ⟨W.heap.size, 0, none⟩) m m) (List.replicate m z0) := by
    refine ⟨fun k hk => ?_, (madeCells z.cells (m * d.sz)).toList, ?_, ?_⟩
    · have : W.heap.size = k := by simpa [Value.ownBlock] using hk
      subst this
      exact hfresh
    · have h2 := World.ownsRow_lit (base := base) (e := e) (size := d.sz) W (madeCells z.cells (m * d.sz)) m hbase (by simp [maxLen]; omega) (by simp [size_madeCells])
      simpa using h2
    · refine hrep.imp_ (fun p c hp => d.M_mono (fun k hk => ⟨hok k hk.1, fun he => ?_⟩) (Kd.M_below (d.M_bound hp) (below_alloc (Below.refl _ _) _)))
      have h3 : k = W.heap.size := by simpa [Value.ownBlock] using he
      have := hk.2.2.1
      omega
  have hR' := Kd.R_take (m := n) hR (by rw [List.length_replicate]; omega)
  rw [List.take_replicate, Nat.min_eq_left (by omega)] at hR'
  refine Kd.event_run hgd (w1 := W.alloc (.cells (madeCells z.cells (m * d.sz)) e)) (v := .slice (some ⟨W.heap.size, 0, none⟩) n m) ?_ (h _ _ hR' (HB.alloc hbase _) (World.grownBy_alloc W _ none) ⟨W.heap.size, by simp [Value.ownBlock], Nat.le_refl _⟩)
  simp [execOp, ho, hx, hy, hr]
end

end Go.Proofs.YtiilihafcdmccaaDoor.P
-- Written by a program of this session (wip/tools/pprint.py) out of the translation: it goes by the kit's print and by the contracts of YtiilihafcdmccaaDoorHand. Not trusted: Lean checks it.
namespace Go.Proofs.YtiilihafcdmccaaDoor.P
open Go.RowKit Go.Proofs.YtiilihafcdmccaaDoorW.PrintWords Go.Proofs.YtiilihafcdmccaaDoorW.PrintLast Go.Proofs.YtiilihafcdmccaaDoorW.PrintMore
attribute [local go_sem] max2_int min2_int max_two min_two max_three min_three max_four min_four   -- for this text's walks alone
set_option linter.unusedVariables false
set_option linter.unusedSimpArgs false



def errW : Option Int → Value
  | none => .nilIface
  | some c => .iface 0 (.int .i64 c)
theorem errW_none : errW none = .nilIface := rfl
theorem errW_some (c : Int) : errW (some c) = .iface 0 (.int .i64 c) := rfl

theorem info3 : (Tryd.prog.info? 3).map (fun i => (i.zero, i.size, i.bytes)) = some (some (.int .i64 0), 1, 8) := by kernel_rfl
theorem info5 : (Tryd.prog.info? 5).map (fun i => (i.zero, i.size, i.bytes)) = some (some (.int .u8 0), 1, 1) := by kernel_rfl
theorem info9 : (Tryd.prog.info? 9).map (fun i => (i.zero, i.size, i.bytes)) = some (some (.string ⟨#[]⟩), 1, 16) := by kernel_rfl
theorem info85 : (Tryd.prog.info? 85).map (fun i => (i.zero, i.size, i.bytes)) = some (some (.agg #[(.int .i64 0), (.string ⟨#[]⟩)]), 2, 24) := by kernel_rfl
-- the values' own types
def rd_L3 (xs : List (List Int)) (i : Int) : (List Int) := xs.getD i.toNat ([] : List Int)
theorem at_L3 {w : World} {A : Option Addr} {n : Nat} {xs : List (List Int)} (h : Kd.C (Kd.slice 5 (Kd.int .u8)) w A n xs) (i : Int) (h0 : 0 ≤ i) (h1 : i < n) : ∃ ad A0 c0, A = some ad ∧ w.cell? (ad.add i.toNat) = some (.slice A0 (rd_L3 xs i).length c0) ∧ (rd_L3 xs i).length ≤ c0 ∧ (Kd.int .u8).C w A0 (rd_L3 xs i).length (rd_L3 xs i) := by
  obtain ⟨ad, c, e, _, hK, hc0⟩ := Kd.C_get h ([] : List Int) i h0 h1
  have hc : ∀ j u, c[j]? = some u → w.cell? (ad.add (i.toNat * 1 + j)) = some u := hc0
  obtain ⟨A0, c0, rfl, l0, g0⟩ := hK
  exact ⟨ad, A0, c0, e, by have hq := hc 0 _ rfl; rwa [Nat.mul_one, Nat.add_zero] at hq, l0, g0⟩

/-! #### struct type 85 -/
structure S85 where
  f0 : Int
  f1 : ByteArray
def z85 : S85 := ⟨(0 : Int), (⟨#[]⟩ : ByteArray)⟩
def k85 : Kd S85 := Kd.iso (Kd.pair (Kd.int .i64) Kd.string) (fun x : S85 => (x.f0, x.f1))
theorem k85_open {w : World} {x : S85} {cs : List Value} (h : k85.K w x cs) : cs = [.int .i64 x.f0, .string x.f1] := by
  obtain ⟨_, _, rfl, rfl, rfl⟩ := h
  exact rfl
theorem k85_openM {w : World} {base : Nat} {ok : Nat → Prop} {x : S85} {cs : List Value} (h : k85.M w base ok x cs) : cs = [.int .i64 x.f0, .string x.f1] := by
  obtain ⟨_, _, rfl, rfl, rfl⟩ := h
  exact rfl
theorem k85_mk (w : World) (x : S85)  : k85.K w x [.int .i64 x.f0, .string x.f1] := ⟨[.int .i64 x.f0], [.string x.f1], rfl, rfl, rfl⟩
theorem k85_mkM (w : World) (base : Nat) (ok : Nat → Prop) (x : S85)  : k85.M w base ok x [.int .i64 x.f0, .string x.f1] := ⟨[.int .i64 x.f0], [.string x.f1], rfl, rfl, rfl⟩
def rd_T85 (xs : List S85) (i : Int) : S85 := xs.getD i.toNat z85
theorem at_T85 {w : World} {A : Option Addr} {n : Nat} {xs : List S85} (h : Kd.C k85 w A n xs) (i : Int) (h0 : 0 ≤ i) (h1 : i < n) : ∃ ad , A = some ad ∧ w.cell? (ad.add (i.toNat * 2)) = some (.int .i64 (rd_T85 xs i).f0) ∧ w.cell? ⟨(ad.add (i.toNat * 2)).block, (ad.add (i.toNat * 2)).off + 1, none⟩ = some (.string (rd_T85 xs i).f1) := by
  obtain ⟨ad, c, e, _, hK, hc0⟩ := Kd.C_get h z85 i h0 h1
  have hc : ∀ j u, c[j]? = some u → w.cell? (ad.add (i.toNat * 2 + j)) = some u := hc0
  obtain rfl := k85_open hK
  exact ⟨ad, e, hc 0 _ rfl, by rw [← add_field _ _ 1 (by omega)]; exact hc 1 _ rfl⟩

end Go.Proofs.YtiilihafcdmccaaDoor.P
-- Written by a program of this session (wip/tools/pprint.py) out of the translation: it goes by the kit's print and by the contracts of YtiilihafcdmccaaDoorHand. Not trusted: Lean checks it.
namespace Go.Proofs.YtiilihafcdmccaaDoor.P
open Go.RowKit Go.Proofs.YtiilihafcdmccaaDoorW.PrintWords Go.Proofs.YtiilihafcdmccaaDoorW.PrintLast Go.Proofs.YtiilihafcdmccaaDoorW.PrintMore
attribute [local go_sem] max2_int min2_int max_two min_two max_three min_three max_four min_four   -- for this text's walks alone
set_option linter.unusedVariables false
set_option linter.unusedSimpArgs false

/-! ### spec_isDigit: function 76 -/
def spec_isDigit.f (a0 : Int) : Option (Bool) := if a0 ≥ 48 then (some (decide (a0 ≤ 57))) else (some false)
set_option maxHeartbeats 8000000 in
set_option maxRecDepth 100000 in
theorem spec_isDigit.calls (a0 : Int) (r : Bool) (w : World) (h : spec_isDigit.f a0 = some r) :
    Calls Tryd.prog 76 #[.int .u8 a0] w fun e w' => e = .returned (.bool r) ∧ Drawn0 w w' := by
  have H : (if a0 ≥ 48 then (some (decide (a0 ≤ 57))) else (some false)) = some r := h
  clear h
  by_cases c2 : a0 ≥ 48
  · rw [if_pos c2] at H
    have c2b0 : decide (48 ≤ a0) = true := decide_eq_true c2
    clear c2
    obtain rfl := Option.some.inj H
    go_enter Tryd.func76, Tryd.ntmps76
    go_wp2
    go_ret
    exact ⟨by first | rfl | (simp; done) | (simp [*]; done) | (simp [wrap64]; done), by repeat (first | exact Drawn0.refl _ | apply Drawn0.step)⟩
  · rw [if_neg c2] at H
    have c2b0 : decide (48 ≤ a0) = false := decide_eq_false c2
    clear c2
    obtain rfl := Option.some.inj H
    go_enter Tryd.func76, Tryd.ntmps76
    go_wp2
    go_ret
    exact ⟨by first | rfl | (simp; done) | (simp [*]; done) | (simp [wrap64]; done), by repeat (first | exact Drawn0.refl _ | apply Drawn0.step)⟩

end Go.Proofs.YtiilihafcdmccaaDoor.P
-- Written by a program of this session (wip/tools/pprint.py) out of the translation: it goes by the kit's print and by the contracts of YtiilihafcdmccaaDoorHand. Not trusted: Lean checks it.
namespace Go.Proofs.YtiilihafcdmccaaDoor.P
open Go.RowKit Go.Proofs.YtiilihafcdmccaaDoorW.PrintWords Go.Proofs.YtiilihafcdmccaaDoorW.PrintLast Go.Proofs.YtiilihafcdmccaaDoorW.PrintMore
attribute [local go_sem] max2_int min2_int max_two min_two max_three min_three max_four min_four   -- for this text's walks alone
set_option linter.unusedVariables false
set_option linter.unusedSimpArgs false

/-! ### spec_escaped: function 49 -/
def spec_escaped.f (a0 : ByteArray) (a1 : Int) : Option (Int × Int × Bool × Bool) := if 0 ≤ a1 then (if a1 < (a0.size : Int) then (if (bt a0 a1) = 92 then (if (wrap64 (a1 + 1)) ≥ (a0.size : Int) then (some (0, 0, false, false)) else (if 0 ≤ (wrap64 (a1 + 1)) then (if (wrap64 (a1 + 1)) < (a0.size : Int) then ((spec_isDigit.f (bt a0 (wrap64 (a1 + 1)))).bind fun t104 => (if t104 = true then (if (wrap64 (a1 + 3)) ≥ (a0.size : Int) then (some (0, 0, false, false)) else (if 0 ≤ (wrap64 (a1 + 2)) then (if (wrap64 (a1 + 2)) < (a0.size : Int) then ((spec_isDigit.f (bt a0 (wrap64 (a1 + 2)))).bind fun t105 => (if t105 = true then (if 0 ≤ (wrap64 (a1 + 3)) then (if (wrap64 (a1 + 3)) < (a0.size : Int) then ((spec_isDigit.f (bt a0 (wrap64 (a1 + 3)))).bind fun t106 => (if t106 = true then (some (((((((bt a0 (wrap64 (a1 + 1))) - 48) % 256) * 100) + ((((bt a0 (wrap64 (a1 + 2))) - 48) % 256) * 10)) + (((bt a0 (wrap64 (a1 + 3))) - 48) % 256)) % 256, wrap64 (a1 + 4), false, decide (((((((bt a0 (wrap64 (a1 + 1))) - 48) % 256) * 100) + ((((bt a0 (wrap64 (a1 + 2))) - 48) % 256) * 10)) + (((bt a0 (wrap64 (a1 + 3))) - 48) % 256)) < 256))) else (some (0, 0, false, false)))) else (none)) else (none)) else (some (0, 0, false, false)))) else (none)) else (none))) else (some (bt a0 (wrap64 (a1 + 1)), wrap64 (a1 + 2), false, true)))) else (none)) else (none))) else (some (bt a0 a1, wrap64 (a1 + 1), true, true))) else (none)) else (none)
set_option maxHeartbeats 8000000 in
set_option maxRecDepth 100000 in
theorem spec_escaped.calls (a0 : ByteArray) (a1 : Int) (r1 : Int) (r2 : Int) (r3 : Bool) (r4 : Bool) (w : World) (h : spec_escaped.f a0 a1 = some (r1, r2, r3, r4)) :
    Calls Tryd.prog 49 #[.string a0, .int .i64 a1] w fun e w' => e = .returned (.tuple #[.int .u8 r1, .int .i64 r2, .bool r3, .bool r4]) ∧ Drawn0 w w' := by
  have H : (if 0 ≤ a1 then (if a1 < (a0.size : Int) then (if (bt a0 a1) = 92 then (if (wrap64 (a1 + 1)) ≥ (a0.size : Int) then (some (0, 0, false, false)) else (if 0 ≤ (wrap64 (a1 + 1)) then (if (wrap64 (a1 + 1)) < (a0.size : Int) then ((spec_isDigit.f (bt a0 (wrap64 (a1 + 1)))).bind fun t104 => (if t104 = true then (if (wrap64 (a1 + 3)) ≥ (a0.size : Int) then (some (0, 0, false, false)) else (if 0 ≤ (wrap64 (a1 + 2)) then (if (wrap64 (a1 + 2)) < (a0.size : Int) then ((spec_isDigit.f (bt a0 (wrap64 (a1 + 2)))).bind fun t105 => (if t105 = true then (if 0 ≤ (wrap64 (a1 + 3)) then (if (wrap64 (a1 + 3)) < (a0.size : Int) then ((spec_isDigit.f (bt a0 (wrap64 (a1 + 3)))).bind fun t106 => (if t106 = true then (some (((((((bt a0 (wrap64 (a1 + 1))) - 48) % 256) * 100) + ((((bt a0 (wrap64 (a1 + 2))) - 48) % 256) * 10)) + (((bt a0 (wrap64 (a1 + 3))) - 48) % 256)) % 256, wrap64 (a1 + 4), false, decide (((((((bt a0 (wrap64 (a1 + 1))) - 48) % 256) * 100) + ((((bt a0 (wrap64 (a1 + 2))) - 48) % 256) * 10)) + (((bt a0 (wrap64 (a1 + 3))) - 48) % 256)) < 256))) else (some (0, 0, false, false)))) else (none)) else (none)) else (some (0, 0, false, false)))) else (none)) else (none))) else (some (bt a0 (wrap64 (a1 + 1)), wrap64 (a1 + 2), false, true)))) else (none)) else (none))) else (some (bt a0 a1, wrap64 (a1 + 1), true, true))) else (none)) else (none)) = some (r1, r2, r3, r4) := h
  clear h
  by_cases c3 : 0 ≤ a1
  · rw [if_pos c3] at H
    have c3b0 : decide (0 ≤ a1) = true := decide_eq_true c3
    clear c3
    by_cases c4 : a1 < (a0.size : Int)
    · rw [if_pos c4] at H
      have c4b0 : decide (a1 < (a0.size : Int)) = true := decide_eq_true c4
      clear c4
      by_cases c6 : (bt a0 a1) = 92
      · rw [if_pos c6] at H
        have c6b0 : ((bt a0 a1) == 92) = true := beq_iff_eq.mpr c6
        have c6b1 : ((bt a0 a1) != 92) = false := bne_eq_false_iff_eq.mpr c6
        clear c6
        by_cases c7 : (wrap64 (a1 + 1)) ≥ (a0.size : Int)
        · rw [if_pos c7] at H
          have c7b0 : decide ((a0.size : Int) ≤ (wrap64 (a1 + 1))) = true := decide_eq_true c7
          clear c7
          simp only [Option.some.injEq, Prod.mk.injEq] at H
          obtain ⟨rfl, rfl, rfl, rfl⟩ := H
          have p5 : 0 ≤ (a1 : Int) := of_decide_eq_true (by first | (with_reducible assumption) | assumption)
          have q5 : a1 < (a0.size : Int) := of_decide_eq_true (by first | (with_reducible assumption) | assumption)
          have hx5 := bt_at a0 a1
          replace p5 := eq_true p5
          replace q5 := eq_true q5
          go_enter Tryd.func49, Tryd.ntmps49
          go_wp2
          repeat (go_quiet (fail); try go_wp2)
          refine bodyPost_ret (results_list (rs := [.tmp 4, .tmp 5, .tmp 6, .tmp 7]) rfl (by simp) (.tmp (.tmp (.tmp (.tmp .nil))))) rfl ?_
          exact ⟨by first | rfl | (simp; done) | (simp [*]; done) | (simp [wrap64]; done), by repeat (first | exact Drawn0.refl _ | apply Drawn0.step)⟩
        · rw [if_neg c7] at H
          have c7b0 : decide ((a0.size : Int) ≤ (wrap64 (a1 + 1))) = false := decide_eq_false c7
          clear c7
          obtain ⟨ji8, hji8⟩ : ∃ j_ : Int, (wrap64 (a1 + 1)) = j_ := ⟨_, rfl⟩
          replace H : (if 0 ≤ (ji8) then (if (ji8) < (a0.size : Int) then ((spec_isDigit.f (bt a0 (ji8))).bind fun t104 => (if t104 = true then (if (wrap64 (a1 + 3)) ≥ (a0.size : Int) then (some (0, 0, false, false)) else (if 0 ≤ (wrap64 (a1 + 2)) then (if (wrap64 (a1 + 2)) < (a0.size : Int) then ((spec_isDigit.f (bt a0 (wrap64 (a1 + 2)))).bind fun t105 => (if t105 = true then (if 0 ≤ (wrap64 (a1 + 3)) then (if (wrap64 (a1 + 3)) < (a0.size : Int) then ((spec_isDigit.f (bt a0 (wrap64 (a1 + 3)))).bind fun t106 => (if t106 = true then (some (((((((bt a0 (ji8)) - 48) % 256) * 100) + ((((bt a0 (wrap64 (a1 + 2))) - 48) % 256) * 10)) + (((bt a0 (wrap64 (a1 + 3))) - 48) % 256)) % 256, wrap64 (a1 + 4), false, decide (((((((bt a0 (ji8)) - 48) % 256) * 100) + ((((bt a0 (wrap64 (a1 + 2))) - 48) % 256) * 10)) + (((bt a0 (wrap64 (a1 + 3))) - 48) % 256)) < 256))) else (some (0, 0, false, false)))) else (none)) else (none)) else (some (0, 0, false, false)))) else (none)) else (none))) else (some (bt a0 (ji8), wrap64 (a1 + 2), false, true)))) else (none)) else (none)) = some (r1, r2, r3, r4) := by first | (rw [hji8] at H; exact H) | (simp only [hji8] at H ⊢; exact H)
          (try rw [hji8] at c7b0)
          have hji8w : (IntKind.i64.wrap (a1 + 1)) = ji8 := (i64_w _).trans hji8
          by_cases c9 : 0 ≤ (ji8)
          · rw [if_pos c9] at H
            have c9b0 : decide (0 ≤ (ji8)) = true := decide_eq_true c9
            clear c9
            by_cases c10 : (ji8) < (a0.size : Int)
            · rw [if_pos c10] at H
              have c10b0 : decide ((ji8) < (a0.size : Int)) = true := decide_eq_true c10
              clear c10
              replace H := Option.bind_eq_some_iff.mp H
              obtain ⟨t104, A120, H⟩ := H
              replace H : (if t104 = true then (if (wrap64 (a1 + 3)) ≥ (a0.size : Int) then (some (0, 0, false, false)) else (if 0 ≤ (wrap64 (a1 + 2)) then (if (wrap64 (a1 + 2)) < (a0.size : Int) then ((spec_isDigit.f (bt a0 (wrap64 (a1 + 2)))).bind fun t105 => (if t105 = true then (if 0 ≤ (wrap64 (a1 + 3)) then (if (wrap64 (a1 + 3)) < (a0.size : Int) then ((spec_isDigit.f (bt a0 (wrap64 (a1 + 3)))).bind fun t106 => (if t106 = true then (some (((((((bt a0 (ji8)) - 48) % 256) * 100) + ((((bt a0 (wrap64 (a1 + 2))) - 48) % 256) * 10)) + (((bt a0 (wrap64 (a1 + 3))) - 48) % 256)) % 256, wrap64 (a1 + 4), false, decide (((((((bt a0 (ji8)) - 48) % 256) * 100) + ((((bt a0 (wrap64 (a1 + 2))) - 48) % 256) * 10)) + (((bt a0 (wrap64 (a1 + 3))) - 48) % 256)) < 256))) else (some (0, 0, false, false)))) else (none)) else (none)) else (some (0, 0, false, false)))) else (none)) else (none))) else (some (bt a0 (ji8), wrap64 (a1 + 2), false, true))) = some (r1, r2, r3, r4) := H
              have A12 := Aside0.mk A120
              clear A120
              by_cases c13 : t104 = true
              · subst c13
                have H1 : (if (wrap64 (a1 + 3)) ≥ (a0.size : Int) then (some (0, 0, false, false)) else (if 0 ≤ (wrap64 (a1 + 2)) then (if (wrap64 (a1 + 2)) < (a0.size : Int) then ((spec_isDigit.f (bt a0 (wrap64 (a1 + 2)))).bind fun t105 => (if t105 = true then (if 0 ≤ (wrap64 (a1 + 3)) then (if (wrap64 (a1 + 3)) < (a0.size : Int) then ((spec_isDigit.f (bt a0 (wrap64 (a1 + 3)))).bind fun t106 => (if t106 = true then (some (((((((bt a0 (ji8)) - 48) % 256) * 100) + ((((bt a0 (wrap64 (a1 + 2))) - 48) % 256) * 10)) + (((bt a0 (wrap64 (a1 + 3))) - 48) % 256)) % 256, wrap64 (a1 + 4), false, decide (((((((bt a0 (ji8)) - 48) % 256) * 100) + ((((bt a0 (wrap64 (a1 + 2))) - 48) % 256) * 10)) + (((bt a0 (wrap64 (a1 + 3))) - 48) % 256)) < 256))) else (some (0, 0, false, false)))) else (none)) else (none)) else (some (0, 0, false, false)))) else (none)) else (none))) = some (r1, r2, r3, r4) := by rw [if_pos rfl] at H; exact H
                clear H
                have H := H1
                clear H1
                by_cases c14 : (wrap64 (a1 + 3)) ≥ (a0.size : Int)
                · rw [if_pos c14] at H
                  have c14b0 : decide ((a0.size : Int) ≤ (wrap64 (a1 + 3))) = true := decide_eq_true c14
                  clear c14
                  simp only [Option.some.injEq, Prod.mk.injEq] at H
                  obtain ⟨rfl, rfl, rfl, rfl⟩ := H
                  have p5 : 0 ≤ (a1 : Int) := of_decide_eq_true (by first | (with_reducible assumption) | assumption)
                  have q5 : a1 < (a0.size : Int) := of_decide_eq_true (by first | (with_reducible assumption) | assumption)
                  have hx5 := bt_at a0 a1
                  replace p5 := eq_true p5
                  replace q5 := eq_true q5
                  have p11 : 0 ≤ ((ji8) : Int) := of_decide_eq_true (by first | (with_reducible assumption) | assumption)
                  have q11 : (ji8) < (a0.size : Int) := of_decide_eq_true (by first | (with_reducible assumption) | assumption)
                  have hx11 := bt_at a0 (ji8)
                  replace p11 := eq_true p11
                  replace q11 := eq_true q11
                  go_enter Tryd.func49, Tryd.ntmps49
                  go_wp2_with (first | (go_at_call 76; (with_reducible refine (spec_isDigit.calls (bt a0 (ji8)) true _ A12.out).mono ?_); rintro e w' ⟨rfl, ⟨nd, rfl⟩⟩; (try first | exact ⟨rfl, _, World.drewN_drewN _ _ _⟩ | exact ⟨rfl, _, Eq.trans (World.drewN_drewN _ _ _) (congrArg (World.drewN _) (Nat.add_assoc _ _ _))⟩)))
                  repeat (go_quiet (first | (go_at_call 76; (with_reducible refine (spec_isDigit.calls (bt a0 (ji8)) true _ A12.out).mono ?_); rintro e w' ⟨rfl, ⟨nd, rfl⟩⟩; (try first | exact ⟨rfl, _, World.drewN_drewN _ _ _⟩ | exact ⟨rfl, _, Eq.trans (World.drewN_drewN _ _ _) (congrArg (World.drewN _) (Nat.add_assoc _ _ _))⟩))); try go_wp2_with (first | (go_at_call 76; (with_reducible refine (spec_isDigit.calls (bt a0 (ji8)) true _ A12.out).mono ?_); rintro e w' ⟨rfl, ⟨nd, rfl⟩⟩; (try first | exact ⟨rfl, _, World.drewN_drewN _ _ _⟩ | exact ⟨rfl, _, Eq.trans (World.drewN_drewN _ _ _) (congrArg (World.drewN _) (Nat.add_assoc _ _ _))⟩))))
                  refine bodyPost_ret (results_list (rs := [.tmp 4, .tmp 5, .tmp 6, .tmp 7]) rfl (by simp) (.tmp (.tmp (.tmp (.tmp .nil))))) rfl ?_
                  exact ⟨by first | rfl | (simp; done) | (simp only [← hji8] <;> (first | rfl | simp)) | (simp [*]; done), by repeat (first | exact Drawn0.refl _ | apply Drawn0.step)⟩
                · rw [if_neg c14] at H
                  have c14b0 : decide ((a0.size : Int) ≤ (wrap64 (a1 + 3))) = false := decide_eq_false c14
                  clear c14
                  obtain ⟨ji15, hji15⟩ : ∃ j_ : Int, (wrap64 (a1 + 2)) = j_ := ⟨_, rfl⟩
                  replace H : (if 0 ≤ (ji15) then (if (ji15) < (a0.size : Int) then ((spec_isDigit.f (bt a0 (ji15))).bind fun t105 => (if t105 = true then (if 0 ≤ (wrap64 (a1 + 3)) then (if (wrap64 (a1 + 3)) < (a0.size : Int) then ((spec_isDigit.f (bt a0 (wrap64 (a1 + 3)))).bind fun t106 => (if t106 = true then (some (((((((bt a0 (ji8)) - 48) % 256) * 100) + ((((bt a0 (ji15)) - 48) % 256) * 10)) + (((bt a0 (wrap64 (a1 + 3))) - 48) % 256)) % 256, wrap64 (a1 + 4), false, decide (((((((bt a0 (ji8)) - 48) % 256) * 100) + ((((bt a0 (ji15)) - 48) % 256) * 10)) + (((bt a0 (wrap64 (a1 + 3))) - 48) % 256)) < 256))) else (some (0, 0, false, false)))) else (none)) else (none)) else (some (0, 0, false, false)))) else (none)) else (none)) = some (r1, r2, r3, r4) := by first | (rw [hji15] at H; exact H) | (simp only [hji15] at H ⊢; exact H)
                  (try rw [hji15] at A12)
                  have hji15w : (IntKind.i64.wrap (a1 + 2)) = ji15 := (i64_w _).trans hji15
                  by_cases c16 : 0 ≤ (ji15)
                  · rw [if_pos c16] at H
                    have c16b0 : decide (0 ≤ (ji15)) = true := decide_eq_true c16
                    clear c16
                    by_cases c17 : (ji15) < (a0.size : Int)
                    · rw [if_pos c17] at H
                      have c17b0 : decide ((ji15) < (a0.size : Int)) = true := decide_eq_true c17
                      clear c17
                      replace H := Option.bind_eq_some_iff.mp H
                      obtain ⟨t105, A190, H⟩ := H
                      replace H : (if t105 = true then (if 0 ≤ (wrap64 (a1 + 3)) then (if (wrap64 (a1 + 3)) < (a0.size : Int) then ((spec_isDigit.f (bt a0 (wrap64 (a1 + 3)))).bind fun t106 => (if t106 = true then (some (((((((bt a0 (ji8)) - 48) % 256) * 100) + ((((bt a0 (ji15)) - 48) % 256) * 10)) + (((bt a0 (wrap64 (a1 + 3))) - 48) % 256)) % 256, wrap64 (a1 + 4), false, decide (((((((bt a0 (ji8)) - 48) % 256) * 100) + ((((bt a0 (ji15)) - 48) % 256) * 10)) + (((bt a0 (wrap64 (a1 + 3))) - 48) % 256)) < 256))) else (some (0, 0, false, false)))) else (none)) else (none)) else (some (0, 0, false, false))) = some (r1, r2, r3, r4) := H
                      have A19 := Aside0.mk A190
                      clear A190
                      by_cases c20 : t105 = true
                      · subst c20
                        have H1 : (if 0 ≤ (wrap64 (a1 + 3)) then (if (wrap64 (a1 + 3)) < (a0.size : Int) then ((spec_isDigit.f (bt a0 (wrap64 (a1 + 3)))).bind fun t106 => (if t106 = true then (some (((((((bt a0 (ji8)) - 48) % 256) * 100) + ((((bt a0 (ji15)) - 48) % 256) * 10)) + (((bt a0 (wrap64 (a1 + 3))) - 48) % 256)) % 256, wrap64 (a1 + 4), false, decide (((((((bt a0 (ji8)) - 48) % 256) * 100) + ((((bt a0 (ji15)) - 48) % 256) * 10)) + (((bt a0 (wrap64 (a1 + 3))) - 48) % 256)) < 256))) else (some (0, 0, false, false)))) else (none)) else (none)) = some (r1, r2, r3, r4) := by rw [if_pos rfl] at H; exact H
                        clear H
                        have H := H1
                        clear H1
                        obtain ⟨ji21, hji21⟩ : ∃ j_ : Int, (wrap64 (a1 + 3)) = j_ := ⟨_, rfl⟩
                        replace H : (if 0 ≤ (ji21) then (if (ji21) < (a0.size : Int) then ((spec_isDigit.f (bt a0 (ji21))).bind fun t106 => (if t106 = true then (some (((((((bt a0 (ji8)) - 48) % 256) * 100) + ((((bt a0 (ji15)) - 48) % 256) * 10)) + (((bt a0 (ji21)) - 48) % 256)) % 256, wrap64 (a1 + 4), false, decide (((((((bt a0 (ji8)) - 48) % 256) * 100) + ((((bt a0 (ji15)) - 48) % 256) * 10)) + (((bt a0 (ji21)) - 48) % 256)) < 256))) else (some (0, 0, false, false)))) else (none)) else (none)) = some (r1, r2, r3, r4) := by first | (rw [hji21] at H; exact H) | (simp only [hji21] at H ⊢; exact H)
                        (try rw [hji21] at c14b0)
                        (try rw [hji21] at A12)
                        (try rw [hji21] at A19)
                        have hji21w : (IntKind.i64.wrap (a1 + 3)) = ji21 := (i64_w _).trans hji21
                        by_cases c22 : 0 ≤ (ji21)
                        · rw [if_pos c22] at H
                          have c22b0 : decide (0 ≤ (ji21)) = true := decide_eq_true c22
                          clear c22
                          by_cases c23 : (ji21) < (a0.size : Int)
                          · rw [if_pos c23] at H
                            have c23b0 : decide ((ji21) < (a0.size : Int)) = true := decide_eq_true c23
                            clear c23
                            replace H := Option.bind_eq_some_iff.mp H
                            obtain ⟨t106, A250, H⟩ := H
                            replace H : (if t106 = true then (some (((((((bt a0 (ji8)) - 48) % 256) * 100) + ((((bt a0 (ji15)) - 48) % 256) * 10)) + (((bt a0 (ji21)) - 48) % 256)) % 256, wrap64 (a1 + 4), false, decide (((((((bt a0 (ji8)) - 48) % 256) * 100) + ((((bt a0 (ji15)) - 48) % 256) * 10)) + (((bt a0 (ji21)) - 48) % 256)) < 256))) else (some (0, 0, false, false))) = some (r1, r2, r3, r4) := H
                            have A25 := Aside0.mk A250
                            clear A250
                            by_cases c26 : t106 = true
                            · subst c26
                              have H1 : (some (((((((bt a0 (ji8)) - 48) % 256) * 100) + ((((bt a0 (ji15)) - 48) % 256) * 10)) + (((bt a0 (ji21)) - 48) % 256)) % 256, wrap64 (a1 + 4), false, decide (((((((bt a0 (ji8)) - 48) % 256) * 100) + ((((bt a0 (ji15)) - 48) % 256) * 10)) + (((bt a0 (ji21)) - 48) % 256)) < 256))) = some (r1, r2, r3, r4) := by rw [if_pos rfl] at H; exact H
                              clear H
                              have H := H1
                              clear H1
                              simp only [Option.some.injEq, Prod.mk.injEq] at H
                              obtain ⟨rfl, rfl, rfl, rfl⟩ := H
                              have p5 : 0 ≤ (a1 : Int) := of_decide_eq_true (by first | (with_reducible assumption) | assumption)
                              have q5 : a1 < (a0.size : Int) := of_decide_eq_true (by first | (with_reducible assumption) | assumption)
                              have hx5 := bt_at a0 a1
                              replace p5 := eq_true p5
                              replace q5 := eq_true q5
                              have p11 : 0 ≤ ((ji8) : Int) := of_decide_eq_true (by first | (with_reducible assumption) | assumption)
                              have q11 : (ji8) < (a0.size : Int) := of_decide_eq_true (by first | (with_reducible assumption) | assumption)
                              have hx11 := bt_at a0 (ji8)
                              replace p11 := eq_true p11
                              replace q11 := eq_true q11
                              go_enter Tryd.func49, Tryd.ntmps49
                              go_wp2_with (first | (go_at_call 76; (with_reducible refine (spec_isDigit.calls (bt a0 (ji8)) true _ A12.out).mono ?_); rintro e w' ⟨rfl, ⟨nd, rfl⟩⟩; (try first | exact ⟨rfl, _, World.drewN_drewN _ _ _⟩ | exact ⟨rfl, _, Eq.trans (World.drewN_drewN _ _ _) (congrArg (World.drewN _) (Nat.add_assoc _ _ _))⟩); have p18 : 0 ≤ ((ji15) : Int) := of_decide_eq_true (by first | (with_reducible assumption) | assumption); have q18 : (ji15) < (a0.size : Int) := of_decide_eq_true (by first | (with_reducible assumption) | assumption); have hx18 := bt_at a0 (ji15); replace p18 := eq_true p18; replace q18 := eq_true q18) | (go_at_call 76; (with_reducible refine (spec_isDigit.calls (bt a0 (ji15)) true _ A19.out).mono ?_); rintro e w' ⟨rfl, ⟨nd, rfl⟩⟩; (try first | exact ⟨rfl, _, World.drewN_drewN _ _ _⟩ | exact ⟨rfl, _, Eq.trans (World.drewN_drewN _ _ _) (congrArg (World.drewN _) (Nat.add_assoc _ _ _))⟩); have p24 : 0 ≤ ((ji21) : Int) := of_decide_eq_true (by first | (with_reducible assumption) | assumption); have q24 : (ji21) < (a0.size : Int) := of_decide_eq_true (by first | (with_reducible assumption) | assumption); have hx24 := bt_at a0 (ji21); replace p24 := eq_true p24; replace q24 := eq_true q24) | (go_at_call 76; (with_reducible refine (spec_isDigit.calls (bt a0 (ji21)) true _ A25.out).mono ?_); rintro e w' ⟨rfl, ⟨nd, rfl⟩⟩; (try first | exact ⟨rfl, _, World.drewN_drewN _ _ _⟩ | exact ⟨rfl, _, Eq.trans (World.drewN_drewN _ _ _) (congrArg (World.drewN _) (Nat.add_assoc _ _ _))⟩); have p27 : 0 ≤ ((ji8) : Int) := of_decide_eq_true (by first | (with_reducible assumption) | assumption); have q27 : (ji8) < (a0.size : Int) := of_decide_eq_true (by first | (with_reducible assumption) | assumption); have hx27 := bt_at a0 (ji8); replace p27 := eq_true p27; replace q27 := eq_true q27; have p28 : 0 ≤ ((ji15) : Int) := of_decide_eq_true (by first | (with_reducible assumption) | assumption); have q28 : (ji15) < (a0.size : Int) := of_decide_eq_true (by first | (with_reducible assumption) | assumption); have hx28 := bt_at a0 (ji15); replace p28 := eq_true p28; replace q28 := eq_true q28; have p29 : 0 ≤ ((ji21) : Int) := of_decide_eq_true (by first | (with_reducible assumption) | assumption); have q29 : (ji21) < (a0.size : Int) := of_decide_eq_true (by first | (with_reducible assumption) | assumption); have hx29 := bt_at a0 (ji21); replace p29 := eq_true p29; replace q29 := eq_true q29))
                              repeat (go_quiet (first | (go_at_call 76; (with_reducible refine (spec_isDigit.calls (bt a0 (ji8)) true _ A12.out).mono ?_); rintro e w' ⟨rfl, ⟨nd, rfl⟩⟩; (try first | exact ⟨rfl, _, World.drewN_drewN _ _ _⟩ | exact ⟨rfl, _, Eq.trans (World.drewN_drewN _ _ _) (congrArg (World.drewN _) (Nat.add_assoc _ _ _))⟩); have p18 : 0 ≤ ((ji15) : Int) := of_decide_eq_true (by first | (with_reducible assumption) | assumption); have q18 : (ji15) < (a0.size : Int) := of_decide_eq_true (by first | (with_reducible assumption) | assumption); have hx18 := bt_at a0 (ji15); replace p18 := eq_true p18; replace q18 := eq_true q18) | (go_at_call 76; (with_reducible refine (spec_isDigit.calls (bt a0 (ji15)) true _ A19.out).mono ?_); rintro e w' ⟨rfl, ⟨nd, rfl⟩⟩; (try first | exact ⟨rfl, _, World.drewN_drewN _ _ _⟩ | exact ⟨rfl, _, Eq.trans (World.drewN_drewN _ _ _) (congrArg (World.drewN _) (Nat.add_assoc _ _ _))⟩); have p24 : 0 ≤ ((ji21) : Int) := of_decide_eq_true (by first | (with_reducible assumption) | assumption); have q24 : (ji21) < (a0.size : Int) := of_decide_eq_true (by first | (with_reducible assumption) | assumption); have hx24 := bt_at a0 (ji21); replace p24 := eq_true p24; replace q24 := eq_true q24) | (go_at_call 76; (with_reducible refine (spec_isDigit.calls (bt a0 (ji21)) true _ A25.out).mono ?_); rintro e w' ⟨rfl, ⟨nd, rfl⟩⟩; (try first | exact ⟨rfl, _, World.drewN_drewN _ _ _⟩ | exact ⟨rfl, _, Eq.trans (World.drewN_drewN _ _ _) (congrArg (World.drewN _) (Nat.add_assoc _ _ _))⟩); have p27 : 0 ≤ ((ji8) : Int) := of_decide_eq_true (by first | (with_reducible assumption) | assumption); have q27 : (ji8) < (a0.size : Int) := of_decide_eq_true (by first | (with_reducible assumption) | assumption); have hx27 := bt_at a0 (ji8); replace p27 := eq_true p27; replace q27 := eq_true q27; have p28 : 0 ≤ ((ji15) : Int) := of_decide_eq_true (by first | (with_reducible assumption) | assumption); have q28 : (ji15) < (a0.size : Int) := of_decide_eq_true (by first | (with_reducible assumption) | assumption); have hx28 := bt_at a0 (ji15); replace p28 := eq_true p28; replace q28 := eq_true q28; have p29 : 0 ≤ ((ji21) : Int) := of_decide_eq_true (by first | (with_reducible assumption) | assumption); have q29 : (ji21) < (a0.size : Int) := of_decide_eq_true (by first | (with_reducible assumption) | assumption); have hx29 := bt_at a0 (ji21); replace p29 := eq_true p29; replace q29 := eq_true q29)); try go_wp2_with (first | (go_at_call 76; (with_reducible refine (spec_isDigit.calls (bt a0 (ji8)) true _ A12.out).mono ?_); rintro e w' ⟨rfl, ⟨nd, rfl⟩⟩; (try first | exact ⟨rfl, _, World.drewN_drewN _ _ _⟩ | exact ⟨rfl, _, Eq.trans (World.drewN_drewN _ _ _) (congrArg (World.drewN _) (Nat.add_assoc _ _ _))⟩); have p18 : 0 ≤ ((ji15) : Int) := of_decide_eq_true (by first | (with_reducible assumption) | assumption); have q18 : (ji15) < (a0.size : Int) := of_decide_eq_true (by first | (with_reducible assumption) | assumption); have hx18 := bt_at a0 (ji15); replace p18 := eq_true p18; replace q18 := eq_true q18) | (go_at_call 76; (with_reducible refine (spec_isDigit.calls (bt a0 (ji15)) true _ A19.out).mono ?_); rintro e w' ⟨rfl, ⟨nd, rfl⟩⟩; (try first | exact ⟨rfl, _, World.drewN_drewN _ _ _⟩ | exact ⟨rfl, _, Eq.trans (World.drewN_drewN _ _ _) (congrArg (World.drewN _) (Nat.add_assoc _ _ _))⟩); have p24 : 0 ≤ ((ji21) : Int) := of_decide_eq_true (by first | (with_reducible assumption) | assumption); have q24 : (ji21) < (a0.size : Int) := of_decide_eq_true (by first | (with_reducible assumption) | assumption); have hx24 := bt_at a0 (ji21); replace p24 := eq_true p24; replace q24 := eq_true q24) | (go_at_call 76; (with_reducible refine (spec_isDigit.calls (bt a0 (ji21)) true _ A25.out).mono ?_); rintro e w' ⟨rfl, ⟨nd, rfl⟩⟩; (try first | exact ⟨rfl, _, World.drewN_drewN _ _ _⟩ | exact ⟨rfl, _, Eq.trans (World.drewN_drewN _ _ _) (congrArg (World.drewN _) (Nat.add_assoc _ _ _))⟩); have p27 : 0 ≤ ((ji8) : Int) := of_decide_eq_true (by first | (with_reducible assumption) | assumption); have q27 : (ji8) < (a0.size : Int) := of_decide_eq_true (by first | (with_reducible assumption) | assumption); have hx27 := bt_at a0 (ji8); replace p27 := eq_true p27; replace q27 := eq_true q27; have p28 : 0 ≤ ((ji15) : Int) := of_decide_eq_true (by first | (with_reducible assumption) | assumption); have q28 : (ji15) < (a0.size : Int) := of_decide_eq_true (by first | (with_reducible assumption) | assumption); have hx28 := bt_at a0 (ji15); replace p28 := eq_true p28; replace q28 := eq_true q28; have p29 : 0 ≤ ((ji21) : Int) := of_decide_eq_true (by first | (with_reducible assumption) | assumption); have q29 : (ji21) < (a0.size : Int) := of_decide_eq_true (by first | (with_reducible assumption) | assumption); have hx29 := bt_at a0 (ji21); replace p29 := eq_true p29; replace q29 := eq_true q29)))
                              refine bodyPost_ret (results_list (rs := [.tmp 4, .tmp 5, .tmp 6, .tmp 7]) rfl (by simp) (.tmp (.tmp (.tmp (.tmp .nil))))) rfl ?_
                              exact ⟨by first | rfl | (simp; done) | (simp only [← hji8, ← hji15, ← hji21] <;> (first | rfl | simp)) | (simp [*]; done), by repeat (first | exact Drawn0.refl _ | apply Drawn0.step)⟩
                            · replace c26 := Bool.eq_false_iff.mpr c26
                              subst c26
                              have H1 : (some (0, 0, false, false)) = some (r1, r2, r3, r4) := by rw [if_neg (show ¬ (false = true) by decide)] at H; exact H
                              clear H
                              have H := H1
                              clear H1
                              simp only [Option.some.injEq, Prod.mk.injEq] at H
                              obtain ⟨rfl, rfl, rfl, rfl⟩ := H
                              have p5 : 0 ≤ (a1 : Int) := of_decide_eq_true (by first | (with_reducible assumption) | assumption)
                              have q5 : a1 < (a0.size : Int) := of_decide_eq_true (by first | (with_reducible assumption) | assumption)
                              have hx5 := bt_at a0 a1
                              replace p5 := eq_true p5
                              replace q5 := eq_true q5
                              have p11 : 0 ≤ ((ji8) : Int) := of_decide_eq_true (by first | (with_reducible assumption) | assumption)
                              have q11 : (ji8) < (a0.size : Int) := of_decide_eq_true (by first | (with_reducible assumption) | assumption)
                              have hx11 := bt_at a0 (ji8)
                              replace p11 := eq_true p11
                              replace q11 := eq_true q11
                              go_enter Tryd.func49, Tryd.ntmps49
                              go_wp2_with (first | (go_at_call 76; (with_reducible refine (spec_isDigit.calls (bt a0 (ji8)) true _ A12.out).mono ?_); rintro e w' ⟨rfl, ⟨nd, rfl⟩⟩; (try first | exact ⟨rfl, _, World.drewN_drewN _ _ _⟩ | exact ⟨rfl, _, Eq.trans (World.drewN_drewN _ _ _) (congrArg (World.drewN _) (Nat.add_assoc _ _ _))⟩); have p18 : 0 ≤ ((ji15) : Int) := of_decide_eq_true (by first | (with_reducible assumption) | assumption); have q18 : (ji15) < (a0.size : Int) := of_decide_eq_true (by first | (with_reducible assumption) | assumption); have hx18 := bt_at a0 (ji15); replace p18 := eq_true p18; replace q18 := eq_true q18) | (go_at_call 76; (with_reducible refine (spec_isDigit.calls (bt a0 (ji15)) true _ A19.out).mono ?_); rintro e w' ⟨rfl, ⟨nd, rfl⟩⟩; (try first | exact ⟨rfl, _, World.drewN_drewN _ _ _⟩ | exact ⟨rfl, _, Eq.trans (World.drewN_drewN _ _ _) (congrArg (World.drewN _) (Nat.add_assoc _ _ _))⟩); have p24 : 0 ≤ ((ji21) : Int) := of_decide_eq_true (by first | (with_reducible assumption) | assumption); have q24 : (ji21) < (a0.size : Int) := of_decide_eq_true (by first | (with_reducible assumption) | assumption); have hx24 := bt_at a0 (ji21); replace p24 := eq_true p24; replace q24 := eq_true q24) | (go_at_call 76; (with_reducible refine (spec_isDigit.calls (bt a0 (ji21)) false _ A25.out).mono ?_); rintro e w' ⟨rfl, ⟨nd, rfl⟩⟩; (try first | exact ⟨rfl, _, World.drewN_drewN _ _ _⟩ | exact ⟨rfl, _, Eq.trans (World.drewN_drewN _ _ _) (congrArg (World.drewN _) (Nat.add_assoc _ _ _))⟩)))
                              repeat (go_quiet (first | (go_at_call 76; (with_reducible refine (spec_isDigit.calls (bt a0 (ji8)) true _ A12.out).mono ?_); rintro e w' ⟨rfl, ⟨nd, rfl⟩⟩; (try first | exact ⟨rfl, _, World.drewN_drewN _ _ _⟩ | exact ⟨rfl, _, Eq.trans (World.drewN_drewN _ _ _) (congrArg (World.drewN _) (Nat.add_assoc _ _ _))⟩); have p18 : 0 ≤ ((ji15) : Int) := of_decide_eq_true (by first | (with_reducible assumption) | assumption); have q18 : (ji15) < (a0.size : Int) := of_decide_eq_true (by first | (with_reducible assumption) | assumption); have hx18 := bt_at a0 (ji15); replace p18 := eq_true p18; replace q18 := eq_true q18) | (go_at_call 76; (with_reducible refine (spec_isDigit.calls (bt a0 (ji15)) true _ A19.out).mono ?_); rintro e w' ⟨rfl, ⟨nd, rfl⟩⟩; (try first | exact ⟨rfl, _, World.drewN_drewN _ _ _⟩ | exact ⟨rfl, _, Eq.trans (World.drewN_drewN _ _ _) (congrArg (World.drewN _) (Nat.add_assoc _ _ _))⟩); have p24 : 0 ≤ ((ji21) : Int) := of_decide_eq_true (by first | (with_reducible assumption) | assumption); have q24 : (ji21) < (a0.size : Int) := of_decide_eq_true (by first | (with_reducible assumption) | assumption); have hx24 := bt_at a0 (ji21); replace p24 := eq_true p24; replace q24 := eq_true q24) | (go_at_call 76; (with_reducible refine (spec_isDigit.calls (bt a0 (ji21)) false _ A25.out).mono ?_); rintro e w' ⟨rfl, ⟨nd, rfl⟩⟩; (try first | exact ⟨rfl, _, World.drewN_drewN _ _ _⟩ | exact ⟨rfl, _, Eq.trans (World.drewN_drewN _ _ _) (congrArg (World.drewN _) (Nat.add_assoc _ _ _))⟩))); try go_wp2_with (first | (go_at_call 76; (with_reducible refine (spec_isDigit.calls (bt a0 (ji8)) true _ A12.out).mono ?_); rintro e w' ⟨rfl, ⟨nd, rfl⟩⟩; (try first | exact ⟨rfl, _, World.drewN_drewN _ _ _⟩ | exact ⟨rfl, _, Eq.trans (World.drewN_drewN _ _ _) (congrArg (World.drewN _) (Nat.add_assoc _ _ _))⟩); have p18 : 0 ≤ ((ji15) : Int) := of_decide_eq_true (by first | (with_reducible assumption) | assumption); have q18 : (ji15) < (a0.size : Int) := of_decide_eq_true (by first | (with_reducible assumption) | assumption); have hx18 := bt_at a0 (ji15); replace p18 := eq_true p18; replace q18 := eq_true q18) | (go_at_call 76; (with_reducible refine (spec_isDigit.calls (bt a0 (ji15)) true _ A19.out).mono ?_); rintro e w' ⟨rfl, ⟨nd, rfl⟩⟩; (try first | exact ⟨rfl, _, World.drewN_drewN _ _ _⟩ | exact ⟨rfl, _, Eq.trans (World.drewN_drewN _ _ _) (congrArg (World.drewN _) (Nat.add_assoc _ _ _))⟩); have p24 : 0 ≤ ((ji21) : Int) := of_decide_eq_true (by first | (with_reducible assumption) | assumption); have q24 : (ji21) < (a0.size : Int) := of_decide_eq_true (by first | (with_reducible assumption) | assumption); have hx24 := bt_at a0 (ji21); replace p24 := eq_true p24; replace q24 := eq_true q24) | (go_at_call 76; (with_reducible refine (spec_isDigit.calls (bt a0 (ji21)) false _ A25.out).mono ?_); rintro e w' ⟨rfl, ⟨nd, rfl⟩⟩; (try first | exact ⟨rfl, _, World.drewN_drewN _ _ _⟩ | exact ⟨rfl, _, Eq.trans (World.drewN_drewN _ _ _) (congrArg (World.drewN _) (Nat.add_assoc _ _ _))⟩))))
                              refine bodyPost_ret (results_list (rs := [.tmp 4, .tmp 5, .tmp 6, .tmp 7]) rfl (by simp) (.tmp (.tmp (.tmp (.tmp .nil))))) rfl ?_
                              exact ⟨by first | rfl | (simp; done) | (simp only [← hji8, ← hji15, ← hji21] <;> (first | rfl | simp)) | (simp [*]; done), by repeat (first | exact Drawn0.refl _ | apply Drawn0.step)⟩
                          · rw [if_neg c23] at H
                            exact absurd H (by simp)
                        · rw [if_neg c22] at H
                          exact absurd H (by simp)
                      · replace c20 := Bool.eq_false_iff.mpr c20
                        subst c20
                        have H1 : (some (0, 0, false, false)) = some (r1, r2, r3, r4) := by rw [if_neg (show ¬ (false = true) by decide)] at H; exact H
                        clear H
                        have H := H1
                        clear H1
                        simp only [Option.some.injEq, Prod.mk.injEq] at H
                        obtain ⟨rfl, rfl, rfl, rfl⟩ := H
                        have p5 : 0 ≤ (a1 : Int) := of_decide_eq_true (by first | (with_reducible assumption) | assumption)
                        have q5 : a1 < (a0.size : Int) := of_decide_eq_true (by first | (with_reducible assumption) | assumption)
                        have hx5 := bt_at a0 a1
                        replace p5 := eq_true p5
                        replace q5 := eq_true q5
                        have p11 : 0 ≤ ((ji8) : Int) := of_decide_eq_true (by first | (with_reducible assumption) | assumption)
                        have q11 : (ji8) < (a0.size : Int) := of_decide_eq_true (by first | (with_reducible assumption) | assumption)
                        have hx11 := bt_at a0 (ji8)
                        replace p11 := eq_true p11
                        replace q11 := eq_true q11
                        go_enter Tryd.func49, Tryd.ntmps49
                        go_wp2_with (first | (go_at_call 76; (with_reducible refine (spec_isDigit.calls (bt a0 (ji8)) true _ A12.out).mono ?_); rintro e w' ⟨rfl, ⟨nd, rfl⟩⟩; (try first | exact ⟨rfl, _, World.drewN_drewN _ _ _⟩ | exact ⟨rfl, _, Eq.trans (World.drewN_drewN _ _ _) (congrArg (World.drewN _) (Nat.add_assoc _ _ _))⟩); have p18 : 0 ≤ ((ji15) : Int) := of_decide_eq_true (by first | (with_reducible assumption) | assumption); have q18 : (ji15) < (a0.size : Int) := of_decide_eq_true (by first | (with_reducible assumption) | assumption); have hx18 := bt_at a0 (ji15); replace p18 := eq_true p18; replace q18 := eq_true q18) | (go_at_call 76; (with_reducible refine (spec_isDigit.calls (bt a0 (ji15)) false _ A19.out).mono ?_); rintro e w' ⟨rfl, ⟨nd, rfl⟩⟩; (try first | exact ⟨rfl, _, World.drewN_drewN _ _ _⟩ | exact ⟨rfl, _, Eq.trans (World.drewN_drewN _ _ _) (congrArg (World.drewN _) (Nat.add_assoc _ _ _))⟩)))
                        repeat (go_quiet (first | (go_at_call 76; (with_reducible refine (spec_isDigit.calls (bt a0 (ji8)) true _ A12.out).mono ?_); rintro e w' ⟨rfl, ⟨nd, rfl⟩⟩; (try first | exact ⟨rfl, _, World.drewN_drewN _ _ _⟩ | exact ⟨rfl, _, Eq.trans (World.drewN_drewN _ _ _) (congrArg (World.drewN _) (Nat.add_assoc _ _ _))⟩); have p18 : 0 ≤ ((ji15) : Int) := of_decide_eq_true (by first | (with_reducible assumption) | assumption); have q18 : (ji15) < (a0.size : Int) := of_decide_eq_true (by first | (with_reducible assumption) | assumption); have hx18 := bt_at a0 (ji15); replace p18 := eq_true p18; replace q18 := eq_true q18) | (go_at_call 76; (with_reducible refine (spec_isDigit.calls (bt a0 (ji15)) false _ A19.out).mono ?_); rintro e w' ⟨rfl, ⟨nd, rfl⟩⟩; (try first | exact ⟨rfl, _, World.drewN_drewN _ _ _⟩ | exact ⟨rfl, _, Eq.trans (World.drewN_drewN _ _ _) (congrArg (World.drewN _) (Nat.add_assoc _ _ _))⟩))); try go_wp2_with (first | (go_at_call 76; (with_reducible refine (spec_isDigit.calls (bt a0 (ji8)) true _ A12.out).mono ?_); rintro e w' ⟨rfl, ⟨nd, rfl⟩⟩; (try first | exact ⟨rfl, _, World.drewN_drewN _ _ _⟩ | exact ⟨rfl, _, Eq.trans (World.drewN_drewN _ _ _) (congrArg (World.drewN _) (Nat.add_assoc _ _ _))⟩); have p18 : 0 ≤ ((ji15) : Int) := of_decide_eq_true (by first | (with_reducible assumption) | assumption); have q18 : (ji15) < (a0.size : Int) := of_decide_eq_true (by first | (with_reducible assumption) | assumption); have hx18 := bt_at a0 (ji15); replace p18 := eq_true p18; replace q18 := eq_true q18) | (go_at_call 76; (with_reducible refine (spec_isDigit.calls (bt a0 (ji15)) false _ A19.out).mono ?_); rintro e w' ⟨rfl, ⟨nd, rfl⟩⟩; (try first | exact ⟨rfl, _, World.drewN_drewN _ _ _⟩ | exact ⟨rfl, _, Eq.trans (World.drewN_drewN _ _ _) (congrArg (World.drewN _) (Nat.add_assoc _ _ _))⟩))))
                        refine bodyPost_ret (results_list (rs := [.tmp 4, .tmp 5, .tmp 6, .tmp 7]) rfl (by simp) (.tmp (.tmp (.tmp (.tmp .nil))))) rfl ?_
                        exact ⟨by first | rfl | (simp; done) | (simp only [← hji8, ← hji15] <;> (first | rfl | simp)) | (simp [*]; done), by repeat (first | exact Drawn0.refl _ | apply Drawn0.step)⟩
                    · rw [if_neg c17] at H
                      exact absurd H (by simp)
                  · rw [if_neg c16] at H
                    exact absurd H (by simp)
              · replace c13 := Bool.eq_false_iff.mpr c13
                subst c13
                have H1 : (some (bt a0 (ji8), wrap64 (a1 + 2), false, true)) = some (r1, r2, r3, r4) := by rw [if_neg (show ¬ (false = true) by decide)] at H; exact H
                clear H
                have H := H1
                clear H1
                simp only [Option.some.injEq, Prod.mk.injEq] at H
                obtain ⟨rfl, rfl, rfl, rfl⟩ := H
                have p5 : 0 ≤ (a1 : Int) := of_decide_eq_true (by first | (with_reducible assumption) | assumption)
                have q5 : a1 < (a0.size : Int) := of_decide_eq_true (by first | (with_reducible assumption) | assumption)
                have hx5 := bt_at a0 a1
                replace p5 := eq_true p5
                replace q5 := eq_true q5
                have p11 : 0 ≤ ((ji8) : Int) := of_decide_eq_true (by first | (with_reducible assumption) | assumption)
                have q11 : (ji8) < (a0.size : Int) := of_decide_eq_true (by first | (with_reducible assumption) | assumption)
                have hx11 := bt_at a0 (ji8)
                replace p11 := eq_true p11
                replace q11 := eq_true q11
                go_enter Tryd.func49, Tryd.ntmps49
                go_wp2_with (first | (go_at_call 76; (with_reducible refine (spec_isDigit.calls (bt a0 (ji8)) false _ A12.out).mono ?_); rintro e w' ⟨rfl, ⟨nd, rfl⟩⟩; (try first | exact ⟨rfl, _, World.drewN_drewN _ _ _⟩ | exact ⟨rfl, _, Eq.trans (World.drewN_drewN _ _ _) (congrArg (World.drewN _) (Nat.add_assoc _ _ _))⟩); have p30 : 0 ≤ ((ji8) : Int) := of_decide_eq_true (by first | (with_reducible assumption) | assumption); have q30 : (ji8) < (a0.size : Int) := of_decide_eq_true (by first | (with_reducible assumption) | assumption); have hx30 := bt_at a0 (ji8); replace p30 := eq_true p30; replace q30 := eq_true q30))
                repeat (go_quiet (first | (go_at_call 76; (with_reducible refine (spec_isDigit.calls (bt a0 (ji8)) false _ A12.out).mono ?_); rintro e w' ⟨rfl, ⟨nd, rfl⟩⟩; (try first | exact ⟨rfl, _, World.drewN_drewN _ _ _⟩ | exact ⟨rfl, _, Eq.trans (World.drewN_drewN _ _ _) (congrArg (World.drewN _) (Nat.add_assoc _ _ _))⟩); have p30 : 0 ≤ ((ji8) : Int) := of_decide_eq_true (by first | (with_reducible assumption) | assumption); have q30 : (ji8) < (a0.size : Int) := of_decide_eq_true (by first | (with_reducible assumption) | assumption); have hx30 := bt_at a0 (ji8); replace p30 := eq_true p30; replace q30 := eq_true q30)); try go_wp2_with (first | (go_at_call 76; (with_reducible refine (spec_isDigit.calls (bt a0 (ji8)) false _ A12.out).mono ?_); rintro e w' ⟨rfl, ⟨nd, rfl⟩⟩; (try first | exact ⟨rfl, _, World.drewN_drewN _ _ _⟩ | exact ⟨rfl, _, Eq.trans (World.drewN_drewN _ _ _) (congrArg (World.drewN _) (Nat.add_assoc _ _ _))⟩); have p30 : 0 ≤ ((ji8) : Int) := of_decide_eq_true (by first | (with_reducible assumption) | assumption); have q30 : (ji8) < (a0.size : Int) := of_decide_eq_true (by first | (with_reducible assumption) | assumption); have hx30 := bt_at a0 (ji8); replace p30 := eq_true p30; replace q30 := eq_true q30)))
                refine bodyPost_ret (results_list (rs := [.tmp 4, .tmp 5, .tmp 6, .tmp 7]) rfl (by simp) (.tmp (.tmp (.tmp (.tmp .nil))))) rfl ?_
                exact ⟨by first | rfl | (simp; done) | (simp only [← hji8] <;> (first | rfl | simp)) | (simp [*]; done), by repeat (first | exact Drawn0.refl _ | apply Drawn0.step)⟩
            · rw [if_neg c10] at H
              exact absurd H (by simp)
          · rw [if_neg c9] at H
            exact absurd H (by simp)
      · rw [if_neg c6] at H
        have c6b0 : ((bt a0 a1) == 92) = false := beq_eq_false_iff_ne.mpr c6
        have c6b1 : ((bt a0 a1) != 92) = true := bne_iff_ne.mpr c6
        simp only [Option.some.injEq, Prod.mk.injEq] at H
        obtain ⟨rfl, rfl, rfl, rfl⟩ := H
        have p5 : 0 ≤ (a1 : Int) := of_decide_eq_true (by first | (with_reducible assumption) | assumption)
        have q5 : a1 < (a0.size : Int) := of_decide_eq_true (by first | (with_reducible assumption) | assumption)
        have hx5 := bt_at a0 a1
        replace p5 := eq_true p5
        replace q5 := eq_true q5
        have p31 : 0 ≤ (a1 : Int) := of_decide_eq_true (by first | (with_reducible assumption) | assumption)
        have q31 : a1 < (a0.size : Int) := of_decide_eq_true (by first | (with_reducible assumption) | assumption)
        have hx31 := bt_at a0 a1
        replace p31 := eq_true p31
        replace q31 := eq_true q31
        go_enter Tryd.func49, Tryd.ntmps49
        go_wp2
        repeat (go_quiet (fail); try go_wp2)
        refine bodyPost_ret (results_list (rs := [.tmp 4, .tmp 5, .tmp 6, .tmp 7]) rfl (by simp) (.tmp (.tmp (.tmp (.tmp .nil))))) rfl ?_
        exact ⟨by first | rfl | (simp; done) | (simp [*]; done) | (simp [wrap64]; done), by repeat (first | exact Drawn0.refl _ | apply Drawn0.step)⟩
    · rw [if_neg c4] at H
      exact absurd H (by simp)
  · rw [if_neg c3] at H
    exact absurd H (by simp)

end Go.Proofs.YtiilihafcdmccaaDoor.P
-- Written by a program of this session (wip/tools/pprint.py) out of the translation: it goes by the kit's print and by the contracts of YtiilihafcdmccaaDoorHand. Not trusted: Lean checks it.
namespace Go.Proofs.YtiilihafcdmccaaDoor.P
open Go.RowKit Go.Proofs.YtiilihafcdmccaaDoorW.PrintWords Go.Proofs.YtiilihafcdmccaaDoorW.PrintLast Go.Proofs.YtiilihafcdmccaaDoorW.PrintMore
attribute [local go_sem] max2_int min2_int max_two min_two max_three min_three max_four min_four   -- for this text's walks alone
set_option linter.unusedVariables false
set_option linter.unusedSimpArgs false

/-! ### spec_Name_Size: function 24 -/
def spec_Name_Size.l0 : Nat → Int → List ByteArray → Int → Int → Option (Int)
  | 0, _, _, _, _ => none
  | k + 1, x3, x6, x7, x8 => if x8 < x7 then (if 0 ≤ x8 then (if x8 < (x6.length : Int) then (spec_Name_Size.l0 k (wrap64 (x3 + (wrap64 (1 + ((rdOf ByteArray.empty x6 x8).size : Int))))) x6 x7 (wrap64 (x8 + 1))) else (none)) else (none)) else (some x3)
def spec_Name_Size.f (k : Nat) (l0 : List ByteArray) : Option (Int) := spec_Name_Size.l0 k 1 l0 (l0.length : Int) 0
theorem spec_Name_Size.mono_l : ∀ k, (∀ y0 y1 y2 y3, LeO (spec_Name_Size.l0 k y0 y1 y2 y3) (spec_Name_Size.l0 (k + 1) y0 y1 y2 y3))
  | 0 => fun _ _ _ _ r h => by simp [spec_Name_Size.l0] at h
  | k + 1 => by
    have ih0 := spec_Name_Size.mono_l k
    · intro y0 y1 y2 y3
      unfold spec_Name_Size.l0
      repeat' first
      | (with_reducible exact ih0 _ _ _ _)
      | (with_reducible exact LeO.refl _)
      | (with_reducible exact LeO.none _)
      | (with_reducible refine LeO.ite ?_ ?_)
      | (with_reducible refine LeO.bind ?_ (fun _ => ?_))
      | exact ih0 _ _ _ _
      | exact LeO.none _
      | refine LeO.ite ?_ ?_
      | refine LeO.bind ?_ (fun _ => ?_)
theorem spec_Name_Size.mono : ∀ a0 k, LeO (spec_Name_Size.f k a0) (spec_Name_Size.f (k + 1) a0) := by
  intro a0 k
  have ih0 := spec_Name_Size.mono_l k
  unfold spec_Name_Size.f
  repeat' first
      | (with_reducible exact ih0 _ _ _ _)
      | (with_reducible exact LeO.refl _)
      | (with_reducible exact LeO.none _)
      | (with_reducible refine LeO.ite ?_ ?_)
      | (with_reducible refine LeO.bind ?_ (fun _ => ?_))
      | exact ih0 _ _ _ _
      | exact LeO.none _
      | refine LeO.ite ?_ ?_
      | refine LeO.bind ?_ (fun _ => ?_)
set_option maxHeartbeats 8000000 in
set_option maxRecDepth 100000 in
theorem spec_Name_Size.calls (k : Nat) (A0 : Option Addr) (c0 : Nat) (l0 : List ByteArray) (r : Int) (w : World) (hr0 : Kd.C Kd.string w A0 l0.length l0) (hc0 : l0.length ≤ c0) (h : spec_Name_Size.f k l0 = some r) :
    Calls Tryd.prog 24 #[.slice A0 l0.length c0] w fun e w' => e = .returned (.int .i64 r) ∧ Drawn0 w w' := by
  have HR0 := Aside0.mk hr0
  have HC0 := Aside0.mk hc0
  clear hr0 hc0
  have H : (spec_Name_Size.l0 k 1 l0 (l0.length : Int) 0) = some r := h
  clear h
  have H' := Aside0.mk H
  clear H
  go_enter Tryd.func24, Tryd.ntmps24
  go_wp2
  go_loopg [3, 8] k (fun kq v3 v8 w' => ∃ (x3_1 : Int) (x8_1 : Int), v3 = .int .i64 x3_1 ∧ v8 = .int .i64 x8_1 ∧ Aside0 (spec_Name_Size.l0 kq x3_1 l0 (l0.length : Int) x8_1 = some r) ∧ Aside0 (kq ≤ k) ∧ Drawn0 w w')
  case atStart => exact ⟨(1), (0), (by first | rfl | (simp; done) | (simp [*]; done) | (simp [wrap64]; done)), (by first | rfl | (simp; done) | (simp [*]; done) | (simp [wrap64]; done)), H', ⟨Nat.le_refl _⟩, by repeat (first | exact Drawn0.refl _ | apply Drawn0.step)⟩
  case round =>
    clear H'
    obtain ⟨x3_1, x8_1, rfl, rfl, HA, HK1, ⟨m1, rfl⟩⟩ := hrel
    cases gk with
    | zero => exact absurd HA.out (by simp [spec_Name_Size.l0])
    | succ k1 =>
      have H := HA.out
      clear HA
      simp only [spec_Name_Size.l0] at H
      by_cases c2 : x8_1 < (l0.length : Int)
      · rw [if_pos c2] at H
        have c2b0 : decide (x8_1 < (l0.length : Int)) = true := decide_eq_true c2
        clear c2
        by_cases c3 : 0 ≤ x8_1
        · rw [if_pos c3] at H
          have c3b0 : decide (0 ≤ x8_1) = true := decide_eq_true c3
          clear c3
          by_cases c4 : x8_1 < (l0.length : Int)
          · rw [if_pos c4] at H
            have c4b0 : decide (x8_1 < (l0.length : Int)) = true := decide_eq_true c4
            clear c4
            have H' := Aside0.mk H
            clear H
            have p101 : 0 ≤ (x8_1 : Int) := of_decide_eq_true (by first | (with_reducible assumption) | assumption)
            have q101 : x8_1 < (l0.length : Int) := of_decide_eq_true (by first | (with_reducible assumption) | assumption)
            obtain ⟨ad101, e101, hx101_0⟩ := Kd.at_string HR0.out x8_1 p101 q101
            cases e101
            replace p101 := eq_true p101
            replace q101 := eq_true q101
            go_wp2
            go_roundg k1
            case measure => have := HK1.out; omega
            case rel => exact ⟨(wrap64 (x3_1 + (wrap64 (1 + ((rdOf ByteArray.empty l0 x8_1).size : Int))))), (wrap64 (x8_1 + 1)), (by first | rfl | (simp; done) | (simp [*]; done) | (simp [wrap64]; done)), (by first | rfl | (simp; done) | (simp [*]; done) | (simp [wrap64]; done)), H', ⟨by have := HK1.out; omega⟩, by repeat (first | exact Drawn0.refl _ | apply Drawn0.step)⟩
          · rw [if_neg c4] at H
            exact absurd H (by simp)
        · rw [if_neg c3] at H
          exact absurd H (by simp)
      · rw [if_neg c2] at H
        have c2b0 : decide (x8_1 < (l0.length : Int)) = false := decide_eq_false c2
        clear c2
        obtain rfl := Option.some.inj H
        go_wp2
        go_ret
        exact ⟨by first | rfl | (simp; done) | (simp [*]; done) | (simp [wrap64]; done), by repeat (first | exact Drawn0.refl _ | apply Drawn0.step)⟩

end Go.Proofs.YtiilihafcdmccaaDoor.P
-- Written by a program of this session (wip/tools/pprint.py) out of the translation: it goes by the kit's print and by the contracts of YtiilihafcdmccaaDoorHand. Not trusted: Lean checks it.
namespace Go.Proofs.YtiilihafcdmccaaDoor.P
open Go.RowKit Go.Proofs.YtiilihafcdmccaaDoorW.PrintWords Go.Proofs.YtiilihafcdmccaaDoorW.PrintLast Go.Proofs.YtiilihafcdmccaaDoorW.PrintMore
attribute [local go_sem] max2_int min2_int max_two min_two max_three min_three max_four min_four   -- for this text's walks alone
set_option linter.unusedVariables false
set_option linter.unusedSimpArgs false

/-! ### spec_Name_Valid: function 47 -/
def spec_Name_Valid.l0 : Nat → List ByteArray → List ByteArray → Int → Int → Option (Bool)
  | 0, _, _, _, _ => none
  | k + 1, x0, x5, x6, x7 => if x7 < x6 then (if 0 ≤ x7 then (if x7 < (x5.length : Int) then (if ((rdOf ByteArray.empty x5 x7).size : Int) = 0 then (some false) else (if ((rdOf ByteArray.empty x5 x7).size : Int) > 63 then (some false) else (spec_Name_Valid.l0 k x0 x5 x6 (wrap64 (x7 + 1))))) else (none)) else (none)) else ((spec_Name_Size.f k x0).bind fun t103 => (some (decide (t103 ≤ 255))))
def spec_Name_Valid.f (k : Nat) (l0 : List ByteArray) : Option (Bool) := spec_Name_Valid.l0 k l0 l0 (l0.length : Int) 0
theorem spec_Name_Valid.mono_l : ∀ k, (∀ y0 y1 y2 y3, LeO (spec_Name_Valid.l0 k y0 y1 y2 y3) (spec_Name_Valid.l0 (k + 1) y0 y1 y2 y3))
  | 0 => fun _ _ _ _ r h => by simp [spec_Name_Valid.l0] at h
  | k + 1 => by
    have ih0 := spec_Name_Valid.mono_l k
    · intro y0 y1 y2 y3
      unfold spec_Name_Valid.l0
      repeat' first
      | (with_reducible exact ih0 _ _ _ _)
      | (with_reducible exact spec_Name_Size.mono _ _)
      | (with_reducible exact LeO.refl _)
      | (with_reducible exact LeO.none _)
      | (with_reducible refine LeO.ite ?_ ?_)
      | (with_reducible refine LeO.bind ?_ (fun _ => ?_))
      | exact ih0 _ _ _ _
      | exact spec_Name_Size.mono _ _
      | exact LeO.none _
      | refine LeO.ite ?_ ?_
      | refine LeO.bind ?_ (fun _ => ?_)
theorem spec_Name_Valid.mono : ∀ a0 k, LeO (spec_Name_Valid.f k a0) (spec_Name_Valid.f (k + 1) a0) := by
  intro a0 k
  have ih0 := spec_Name_Valid.mono_l k
  unfold spec_Name_Valid.f
  repeat' first
      | (with_reducible exact ih0 _ _ _ _)
      | (with_reducible exact spec_Name_Size.mono _ _)
      | (with_reducible exact LeO.refl _)
      | (with_reducible exact LeO.none _)
      | (with_reducible refine LeO.ite ?_ ?_)
      | (with_reducible refine LeO.bind ?_ (fun _ => ?_))
      | exact ih0 _ _ _ _
      | exact spec_Name_Size.mono _ _
      | exact LeO.none _
      | refine LeO.ite ?_ ?_
      | refine LeO.bind ?_ (fun _ => ?_)
set_option maxHeartbeats 8000000 in
set_option maxRecDepth 100000 in
theorem spec_Name_Valid.calls (k : Nat) (A0 : Option Addr) (c0 : Nat) (l0 : List ByteArray) (r : Bool) (w : World) (hr0 : Kd.C Kd.string w A0 l0.length l0) (hc0 : l0.length ≤ c0) (h : spec_Name_Valid.f k l0 = some r) :
    Calls Tryd.prog 47 #[.slice A0 l0.length c0] w fun e w' => e = .returned (.bool r) ∧ Drawn0 w w' := by
  have HR0 := Aside0.mk hr0
  have HC0 := Aside0.mk hc0
  clear hr0 hc0
  have H : (spec_Name_Valid.l0 k l0 l0 (l0.length : Int) 0) = some r := h
  clear h
  have H' := Aside0.mk H
  clear H
  go_enter Tryd.func47, Tryd.ntmps47
  go_wp2
  go_loopg [7] k (fun kq v7 w' => ∃ (x7_1 : Int), v7 = .int .i64 x7_1 ∧ Aside0 (spec_Name_Valid.l0 kq l0 l0 (l0.length : Int) x7_1 = some r) ∧ Aside0 (kq ≤ k) ∧ Drawn0 w w')
  case atStart => exact ⟨(0), (by first | rfl | (simp; done) | (simp [*]; done) | (simp [wrap64]; done)), H', ⟨Nat.le_refl _⟩, by repeat (first | exact Drawn0.refl _ | apply Drawn0.step)⟩
  case round =>
    clear H'
    obtain ⟨x7_1, rfl, HA, HK1, ⟨m1, rfl⟩⟩ := hrel
    cases gk with
    | zero => exact absurd HA.out (by simp [spec_Name_Valid.l0])
    | succ k1 =>
      have H := HA.out
      clear HA
      simp only [spec_Name_Valid.l0] at H
      by_cases c2 : x7_1 < (l0.length : Int)
      · rw [if_pos c2] at H
        have c2b0 : decide (x7_1 < (l0.length : Int)) = true := decide_eq_true c2
        clear c2
        by_cases c3 : 0 ≤ x7_1
        · rw [if_pos c3] at H
          have c3b0 : decide (0 ≤ x7_1) = true := decide_eq_true c3
          clear c3
          by_cases c4 : x7_1 < (l0.length : Int)
          · rw [if_pos c4] at H
            have c4b0 : decide (x7_1 < (l0.length : Int)) = true := decide_eq_true c4
            clear c4
            by_cases c5 : ((rdOf ByteArray.empty l0 x7_1).size : Int) = 0
            · rw [if_pos c5] at H
              have c5b0 : (((rdOf ByteArray.empty l0 x7_1).size : Int) == 0) = true := beq_iff_eq.mpr c5
              have c5b1 : (((rdOf ByteArray.empty l0 x7_1).size : Int) != 0) = false := bne_eq_false_iff_eq.mpr c5
              clear c5
              obtain rfl := Option.some.inj H
              have p102 : 0 ≤ (x7_1 : Int) := of_decide_eq_true (by first | (with_reducible assumption) | assumption)
              have q102 : x7_1 < (l0.length : Int) := of_decide_eq_true (by first | (with_reducible assumption) | assumption)
              obtain ⟨ad102, e102, hx102_0⟩ := Kd.at_string HR0.out x7_1 p102 q102
              cases e102
              replace p102 := eq_true p102
              replace q102 := eq_true q102
              go_wp2
              go_ret
              exact ⟨by first | rfl | (simp; done) | (simp [*]; done) | (simp [wrap64]; done), by repeat (first | exact Drawn0.refl _ | apply Drawn0.step)⟩
            · rw [if_neg c5] at H
              have c5b0 : (((rdOf ByteArray.empty l0 x7_1).size : Int) == 0) = false := beq_eq_false_iff_ne.mpr c5
              have c5b1 : (((rdOf ByteArray.empty l0 x7_1).size : Int) != 0) = true := bne_iff_ne.mpr c5
              by_cases c6 : ((rdOf ByteArray.empty l0 x7_1).size : Int) > 63
              · rw [if_pos c6] at H
                have c6b0 : decide (63 < ((rdOf ByteArray.empty l0 x7_1).size : Int)) = true := decide_eq_true c6
                have c6b1 : decide (63 < (rdOf ByteArray.empty l0 x7_1).size) = true := decide_eq_true (by omega)
                clear c6
                obtain rfl := Option.some.inj H
                have p102 : 0 ≤ (x7_1 : Int) := of_decide_eq_true (by first | (with_reducible assumption) | assumption)
                have q102 : x7_1 < (l0.length : Int) := of_decide_eq_true (by first | (with_reducible assumption) | assumption)
                obtain ⟨ad102, e102, hx102_0⟩ := Kd.at_string HR0.out x7_1 p102 q102
                cases e102
                replace p102 := eq_true p102
                replace q102 := eq_true q102
                go_wp2
                go_ret
                exact ⟨by first | rfl | (simp; done) | (simp [*]; done) | (simp [wrap64]; done), by repeat (first | exact Drawn0.refl _ | apply Drawn0.step)⟩
              · rw [if_neg c6] at H
                have c6b0 : decide (63 < ((rdOf ByteArray.empty l0 x7_1).size : Int)) = false := decide_eq_false c6
                have c6b1 : decide (63 < (rdOf ByteArray.empty l0 x7_1).size) = false := decide_eq_false (by omega)
                clear c6
                have H' := Aside0.mk H
                clear H
                have p102 : 0 ≤ (x7_1 : Int) := of_decide_eq_true (by first | (with_reducible assumption) | assumption)
                have q102 : x7_1 < (l0.length : Int) := of_decide_eq_true (by first | (with_reducible assumption) | assumption)
                obtain ⟨ad102, e102, hx102_0⟩ := Kd.at_string HR0.out x7_1 p102 q102
                cases e102
                replace p102 := eq_true p102
                replace q102 := eq_true q102
                go_wp2
                go_roundg k1
                case measure => have := HK1.out; omega
                case rel => exact ⟨(wrap64 (x7_1 + 1)), (by first | rfl | (simp; done) | (simp [*]; done) | (simp [wrap64]; done)), H', ⟨by have := HK1.out; omega⟩, by repeat (first | exact Drawn0.refl _ | apply Drawn0.step)⟩
          · rw [if_neg c4] at H
            exact absurd H (by simp)
        · rw [if_neg c3] at H
          exact absurd H (by simp)
      · rw [if_neg c2] at H
        have c2b0 : decide (x7_1 < (l0.length : Int)) = false := decide_eq_false c2
        clear c2
        replace H := Option.bind_eq_some_iff.mp H
        obtain ⟨t103, A70, H⟩ := H
        replace H : (some (decide (t103 ≤ 255))) = some r := H
        have A7 := Aside0.mk A70
        clear A70
        obtain rfl := Option.some.inj H
        go_wp2_with (first | ((with_reducible refine gate_callee (f := 24) rfl ?_); refine goesL_ (some 21) rfl rfl Tryd.func24 (by kernel_rfl) rfl #[.slice A0 l0.length c0] rfl (by (try simp only [List.map_toArray, List.map_cons, List.map_nil]); first | done | rfl | (simp only [List.length_drop, List.length_take]; rfl)) ?_; (with_reducible refine (spec_Name_Size.calls k1 _ _ l0 t103 _ ?side1 ?side2 A7.out).mono ?_); (case side1 => repeat (first | exact HR0.out | (with_reducible refine Kd.C_alloc ?_ _) | (with_reducible refine Kd.C_drewN ?_ _) | (with_reducible refine Kd.C_drew ?_))); (case side2 => exact HC0.out); rintro e w' ⟨rfl, ⟨nd, rfl⟩⟩; refine ⟨_, rfl, ?_⟩))
        go_ret
        exact ⟨by first | rfl | (simp; done) | (simp [*]; done) | (simp [wrap64]; done), by repeat (first | exact Drawn0.refl _ | apply Drawn0.step)⟩

end Go.Proofs.YtiilihafcdmccaaDoor.P
-- Written by a program of this session (wip/tools/pprint.py) out of the translation: it goes by the kit's print and by the contracts of YtiilihafcdmccaaDoorHand. Not trusted: Lean checks it.
namespace Go.Proofs.YtiilihafcdmccaaDoor.P
open Go.RowKit Go.Proofs.YtiilihafcdmccaaDoorW.PrintWords Go.Proofs.YtiilihafcdmccaaDoorW.PrintLast Go.Proofs.YtiilihafcdmccaaDoorW.PrintMore
attribute [local go_sem] max2_int min2_int max_two min_two max_three min_three max_four min_four   -- for this text's walks alone
set_option linter.unusedVariables false
set_option linter.unusedSimpArgs false

/-! ### spec_ParseName: function 17 -/
mutual
def spec_ParseName.l0 : Nat → ByteArray → List ByteArray → ByteArray → Int → Option (List ByteArray × Bool × Bool)
  | 0, _, _, _, _ => none
  | k + 1, x0, x2, x5, x6 => if x6 < (x0.size : Int) then ((spec_escaped.f x0 x6).bind fun bt112 => (if bt112.2.2.2 = true then (if bt112.2.2.1 = true then (spec_ParseName.j1 k x0 x2 x5 bt112.2.1 bt112.1 (bt112.1 == 46)) else (spec_ParseName.j1 k x0 x2 x5 bt112.2.1 bt112.1 false)) else (some (([] : List ByteArray), false, false)))) else (if x5.toList = ([] : List UInt8) then (if (x2.length : Int) > 0 then ((spec_Name_Valid.f k x2).bind fun t107 => (some (x2, decide ((x2.length : Int) > 0), t107))) else (some (x2, decide ((x2.length : Int) > 0), false))) else (if x2.length < 8796093022208 then ((some (x2 ++ [x5] : List ByteArray)).bind fun y108 => (if (y108.length : Int) > 0 then ((spec_Name_Valid.f k y108).bind fun t111 => (some (y108, false, t111))) else (some (y108, false, false)))) else (none)))
def spec_ParseName.j1 : Nat → ByteArray → List ByteArray → ByteArray → Int → Int → Bool → Option (List ByteArray × Bool × Bool)
  | 0, _, _, _, _, _, _ => none
  | k + 1, x0, x2, x5, x6, x7, x32 => if x32 = true then (if x5.toList = ([] : List UInt8) then (some (([] : List ByteArray), false, false)) else (if x2.length < 8796093022208 then (spec_ParseName.l0 k x0 (x2 ++ [x5]) (⟨#[]⟩ : ByteArray) x6) else (none))) else ((some (([x7] : List Int) : List Int)).bind fun y119 => (if x5.size + (strOfNums y119).size ≤ 9223372036854775807 then (spec_ParseName.l0 k x0 x2 (x5 ++ (strOfNums y119)) x6) else (none)))
end
def spec_ParseName.f (k : Nat) (a0 : ByteArray) : Option (List ByteArray × Bool × Bool) := if a0.toList = ([46] : List UInt8) then (some (([] : List ByteArray), true, true)) else (spec_ParseName.l0 k a0 ([] : List ByteArray) (⟨#[]⟩ : ByteArray) 0)
theorem spec_ParseName.mono_l : ∀ k, (∀ y0 y1 y2 y3, LeO (spec_ParseName.l0 k y0 y1 y2 y3) (spec_ParseName.l0 (k + 1) y0 y1 y2 y3)) ∧ (∀ y0 y1 y2 y3 y4 y5, LeO (spec_ParseName.j1 k y0 y1 y2 y3 y4 y5) (spec_ParseName.j1 (k + 1) y0 y1 y2 y3 y4 y5))
  | 0 => ⟨fun _ _ _ _ r h => by simp [spec_ParseName.l0] at h, fun _ _ _ _ _ _ r h => by simp [spec_ParseName.j1] at h⟩
  | k + 1 => by
    obtain ⟨ih0, ih1⟩ := spec_ParseName.mono_l k
    refine ⟨?_, ?_⟩
    · intro y0 y1 y2 y3
      unfold spec_ParseName.l0
      repeat' first
      | (with_reducible exact ih0 _ _ _ _)
      | (with_reducible exact ih1 _ _ _ _ _ _)
      | (with_reducible exact spec_Name_Valid.mono _ _)
      | (with_reducible exact LeO.refl _)
      | (with_reducible exact LeO.none _)
      | (with_reducible refine LeO.ite ?_ ?_)
      | (with_reducible refine LeO.bind ?_ (fun _ => ?_))
      | exact ih0 _ _ _ _
      | exact ih1 _ _ _ _ _ _
      | exact spec_Name_Valid.mono _ _
      | exact LeO.none _
      | refine LeO.ite ?_ ?_
      | refine LeO.bind ?_ (fun _ => ?_)
    · intro y0 y1 y2 y3 y4 y5
      unfold spec_ParseName.j1
      repeat' first
      | (with_reducible exact ih0 _ _ _ _)
      | (with_reducible exact ih1 _ _ _ _ _ _)
      | (with_reducible exact spec_Name_Valid.mono _ _)
      | (with_reducible exact LeO.refl _)
      | (with_reducible exact LeO.none _)
      | (with_reducible refine LeO.ite ?_ ?_)
      | (with_reducible refine LeO.bind ?_ (fun _ => ?_))
      | exact ih0 _ _ _ _
      | exact ih1 _ _ _ _ _ _
      | exact spec_Name_Valid.mono _ _
      | exact LeO.none _
      | refine LeO.ite ?_ ?_
      | refine LeO.bind ?_ (fun _ => ?_)
theorem spec_ParseName.mono : ∀ a0 k, LeO (spec_ParseName.f k a0) (spec_ParseName.f (k + 1) a0) := by
  intro a0 k
  obtain ⟨ih0, ih1⟩ := spec_ParseName.mono_l k
  unfold spec_ParseName.f
  repeat' first
      | (with_reducible exact ih0 _ _ _ _)
      | (with_reducible exact ih1 _ _ _ _ _ _)
      | (with_reducible exact spec_Name_Valid.mono _ _)
      | (with_reducible exact LeO.refl _)
      | (with_reducible exact LeO.none _)
      | (with_reducible refine LeO.ite ?_ ?_)
      | (with_reducible refine LeO.bind ?_ (fun _ => ?_))
      | exact ih0 _ _ _ _
      | exact ih1 _ _ _ _ _ _
      | exact spec_Name_Valid.mono _ _
      | exact LeO.none _
      | refine LeO.ite ?_ ?_
      | refine LeO.bind ?_ (fun _ => ?_)
set_option maxHeartbeats 8000000 in
set_option maxRecDepth 100000 in
theorem spec_ParseName.calls (k : Nat) (a0 : ByteArray) (r1 : List ByteArray) (r2 : Bool) (r3 : Bool) (w : World) (h : spec_ParseName.f k a0 = some (r1, r2, r3)) :
    Calls Tryd.prog 17 #[.string a0] w fun e w' => ∃ v0_ : Value, e = .returned (.tuple #[v0_, .bool r2, .bool r3]) ∧ Kd.R Kd.string 9 w' w.heap.size (fun _ => True) v0_ r1 ∧ Below w.heap.size w w' := by
  have HB := Aside0.mk (Below.refl w.heap.size w)
  have H : (if a0.toList = ([46] : List UInt8) then (some (([] : List ByteArray), true, true)) else (spec_ParseName.l0 k a0 ([] : List ByteArray) (⟨#[]⟩ : ByteArray) 0)) = some (r1, r2, r3) := h
  clear h
  by_cases c2 : a0.toList = ([46] : List UInt8)
  · rw [if_pos c2] at H
    have c2b0 : (a0.toList == ([46] : List UInt8)) = true := beq_iff_eq.mpr c2
    have c2b1 : (a0.toList != ([46] : List UInt8)) = false := bne_eq_false_iff_eq.mpr c2
    clear c2
    simp only [Option.some.injEq, Prod.mk.injEq] at H
    obtain ⟨rfl, rfl, rfl⟩ := H
    go_enter Tryd.func17, Tryd.ntmps17
    go_wp2
    go_ret3
    exact ⟨_, by first | rfl | (simp [errW_none, errW_some] <;> rfl) | (simp [*, errW_none, errW_some] <;> rfl), by first | exact Kd.R_nil _ _ _ _ _ | exact Kd.N_nil _ _ _ _ _ | exact Kd.V_nil _ _ _ _ _ | exact Kd.Q_nil _ _ _ _ _ | exact Kd.S_nil _ _ _ _ _, by repeat (first | (with_reducible first | exact HB.out | apply below_alloc | apply pw_below_drewN | apply below_drew1) | exact HB.out)⟩
  · rw [if_neg c2] at H
    have c2b0 : (a0.toList == ([46] : List UInt8)) = false := beq_eq_false_iff_ne.mpr c2
    have c2b1 : (a0.toList != ([46] : List UInt8)) = true := bne_iff_ne.mpr c2
    have H' := Aside0.mk H
    clear H
    go_enter Tryd.func17, Tryd.ntmps17
    go_wp2
    go_loopg [2, 5, 6] k (fun kq v2 v5 v6 w' => ∃ (x2_1 : List ByteArray) (x5_1 : ByteArray) (x6_1 : Int), v5 = .string x5_1 ∧ v6 = .int .i64 x6_1 ∧ Aside0 (spec_ParseName.l0 kq a0 x2_1 x5_1 x6_1 = some (r1, r2, r3)) ∧ Aside0 (kq ≤ k) ∧ Aside0 (Kd.R Kd.string 9 w' w.heap.size (fun _ => True) v2 x2_1) ∧ Aside0 (Below w.heap.size w w'))
    case atStart => exact ⟨(([] : List ByteArray)), ((⟨#[]⟩ : ByteArray)), (0), (by first | rfl | (simp; done) | (simp [*]; done) | (simp [wrap64]; done)), (by first | rfl | (simp; done) | (simp [*]; done) | (simp [wrap64]; done)), H', ⟨Nat.le_refl _⟩, ⟨by first | exact Kd.R_nil _ _ _ _ _ | exact Kd.N_nil _ _ _ _ _ | exact Kd.V_nil _ _ _ _ _ | exact Kd.Q_nil _ _ _ _ _ | exact Kd.S_nil _ _ _ _ _⟩, ⟨by repeat (first | (with_reducible first | exact HB.out | apply below_alloc | apply pw_below_drewN | apply below_drew1) | exact HB.out)⟩⟩
    case round =>
      clear H'
      try clear c1
      try clear c2
      try clear c2b0
      try clear c2b1
      try clear p2
      obtain ⟨x2_1, x5_1, x6_1, rfl, rfl, HA, HK1, HO_2, HB⟩ := hrel
      cases gk with
      | zero => exact absurd HA.out (by simp [spec_ParseName.l0])
      | succ k1 =>
        have H := HA.out
        clear HA
        simp only [spec_ParseName.l0] at H
        by_cases c3 : x6_1 < (a0.size : Int)
        · rw [if_pos c3] at H
          have c3b0 : decide (x6_1 < (a0.size : Int)) = true := decide_eq_true c3
          clear c3
          replace H := Option.bind_eq_some_iff.mp H
          obtain ⟨⟨t112, t113, t114, t115⟩, A40, H⟩ := H
          replace H : (if t115 = true then (if t114 = true then (spec_ParseName.j1 k1 a0 x2_1 x5_1 t113 t112 (t112 == 46)) else (spec_ParseName.j1 k1 a0 x2_1 x5_1 t113 t112 false)) else (some (([] : List ByteArray), false, false))) = some (r1, r2, r3) := H
          have A4 := Aside0.mk A40
          clear A40
          by_cases c5 : t115 = true
          · subst c5
            have H1 : (if t114 = true then (spec_ParseName.j1 k1 a0 x2_1 x5_1 t113 t112 (t112 == 46)) else (spec_ParseName.j1 k1 a0 x2_1 x5_1 t113 t112 false)) = some (r1, r2, r3) := by rw [if_pos rfl] at H; exact H
            clear H
            have H := H1
            clear H1
            have HC6 := Aside0.mk H
            clear H
            go_upto_region 10 with (first | ((with_reducible refine gate_callee (f := 49) rfl ?_); refine goesL_ (some 20) rfl rfl Tryd.func49 (by kernel_rfl) rfl #[.string a0, .int .i64 x6_1] rfl (by (try simp only [List.map_toArray, List.map_cons, List.map_nil]); first | done | rfl | (simp only [List.length_drop, List.length_take]; rfl)) ?_; (with_reducible refine (spec_escaped.calls a0 x6_1 t112 t113 t114 true _ A4.out).mono ?_); rintro e w' ⟨rfl, ⟨nd, rfl⟩⟩; refine ⟨_, rfl, ?_⟩))
            (try simp only [Act.put, List.setIfInBounds_toArray, List.set_cons_zero, List.set_cons_succ])
            go_cut [32] (fun v32 wc => ∃ (kq : Nat) (x32_5 : Bool), v32 = .bool x32_5 ∧ Aside0 (spec_ParseName.j1 kq a0 x2_1 x5_1 t113 t112 x32_5 = some (r1, r2, r3)) ∧ Aside0 (kq ≤ k1) ∧ Aside0 (Kd.R Kd.string 9 wc w.heap.size (fun _ => True) u2 x2_1) ∧ Aside0 (Below w.heap.size w wc))
            case first =>
              have H := HC6.out
              clear HC6
              by_cases c7 : t114 = true
              · subst c7
                have H1 : (spec_ParseName.j1 k1 a0 x2_1 x5_1 t113 t112 (t112 == 46)) = some (r1, r2, r3) := by rw [if_pos rfl] at H; exact H
                clear H
                have H := H1
                clear H1
                have H' := Aside0.mk H
                clear H
                go_wp2
                go_meet
                case rel => exact ⟨_, ((t112 == 46)), (by first | rfl | (simp; done) | (simp [*]; done) | (simp [wrap64]; done)), H', ⟨by have := HK1.out; first | omega | exact Nat.le_refl _⟩, ⟨by (with_reducible repeat (first | apply Kd.R_alloc | apply Kd.R_drewN | apply Kd.R_drew)); exact HO_2.out⟩, ⟨by repeat (first | (with_reducible first | exact HB.out | apply below_alloc | apply pw_below_drewN | apply below_drew1) | exact HB.out)⟩⟩
              · replace c7 := Bool.eq_false_iff.mpr c7
                subst c7
                have H1 : (spec_ParseName.j1 k1 a0 x2_1 x5_1 t113 t112 false) = some (r1, r2, r3) := by rw [if_neg (show ¬ (false = true) by decide)] at H; exact H
                clear H
                have H := H1
                clear H1
                have H' := Aside0.mk H
                clear H
                go_wp2
                go_meet
                case rel => exact ⟨_, (false), (by first | rfl | (simp; done) | (simp [*]; done) | (simp [wrap64]; done)), H', ⟨by have := HK1.out; first | omega | exact Nat.le_refl _⟩, ⟨by (with_reducible repeat (first | apply Kd.R_alloc | apply Kd.R_drewN | apply Kd.R_drew)); exact HO_2.out⟩, ⟨by repeat (first | (with_reducible first | exact HB.out | apply below_alloc | apply pw_below_drewN | apply below_drew1) | exact HB.out)⟩⟩
            case rest =>
              clear HC6
              try clear c1
              try clear c2
              try clear c2b0
              try clear c2b1
              try clear p2
              try clear c3
              try clear c3b0
              try clear c4
              try clear c5
              try clear p6
              try clear c7
              try clear p2
              obtain ⟨kq, x32_5, rfl, HA, HJ5, HO_2, HB⟩ := hcut
              cases kq with
              | zero => exact absurd HA.out (by simp [spec_ParseName.j1])
              | succ kj5 =>
                have H := HA.out
                clear HA
                simp only [spec_ParseName.j1] at H
                by_cases c8 : x32_5 = true
                · subst c8
                  have H1 : (if x5_1.toList = ([] : List UInt8) then (some (([] : List ByteArray), false, false)) else (if x2_1.length < 8796093022208 then (spec_ParseName.l0 kj5 a0 (x2_1 ++ [x5_1]) (⟨#[]⟩ : ByteArray) t113) else (none))) = some (r1, r2, r3) := by rw [if_pos rfl] at H; exact H
                  clear H
                  have H := H1
                  clear H1
                  by_cases c9 : x5_1.toList = ([] : List UInt8)
                  · rw [if_pos c9] at H
                    have c9b0 : (x5_1.toList == ([] : List UInt8)) = true := beq_iff_eq.mpr c9
                    have c9b1 : (x5_1.toList != ([] : List UInt8)) = false := bne_eq_false_iff_eq.mpr c9
                    clear c9
                    simp only [Option.some.injEq, Prod.mk.injEq] at H
                    obtain ⟨rfl, rfl, rfl⟩ := H
                    go_wp2
                    go_ret3
                    exact ⟨_, by first | rfl | (simp [errW_none, errW_some] <;> rfl) | (simp [*, errW_none, errW_some] <;> rfl), by first | exact Kd.R_nil _ _ _ _ _ | exact Kd.N_nil _ _ _ _ _ | exact Kd.V_nil _ _ _ _ _ | exact Kd.Q_nil _ _ _ _ _ | exact Kd.S_nil _ _ _ _ _, by repeat (first | (with_reducible first | exact HB.out | apply below_alloc | apply pw_below_drewN | apply below_drew1) | exact HB.out)⟩
                  · rw [if_neg c9] at H
                    have c9b0 : (x5_1.toList == ([] : List UInt8)) = false := beq_eq_false_iff_ne.mpr c9
                    have c9b1 : (x5_1.toList != ([] : List UInt8)) = true := bne_iff_ne.mpr c9
                    by_cases c10 : x2_1.length < 8796093022208
                    · rw [if_pos c10] at H
                      have LMc10 := Aside0.mk c10
                      clear c10
                      obtain ⟨y116, hy116⟩ : ∃ y_ : List ByteArray, y_ = (x2_1 ++ [x5_1]) := ⟨_, rfl⟩
                      replace H : (spec_ParseName.l0 kj5 a0 y116 (⟨#[]⟩ : ByteArray) t113) = some (r1, r2, r3) := by first | (rw [hy116]; with_reducible exact H) | (have H2_ := (Option.bind_some _ _).symm.trans H; rw [hy116]; with_reducible exact H2_) | (have H2_ := (Option.bind_some _ _).symm.trans H; with_reducible exact H2_) | with_reducible exact H | (rw [hy116]; exact H) | exact H
                      have Ny116 := Aside0.mk hy116
                      clear hy116
                      have H' := Aside0.mk H
                      clear H
                      go_wp2_with (first | ((with_reducible refine gate_builtin (b := .append) (xs := #[.tmp 35, .tmp 37]) rfl ?_); (try (refine gate_guard (by rfl) ?_; dsimp only)); at_builtin; refine Kd.R_append Kd.string (w0 := w) w.heap.size rfl (.tmp 35) (.tmp 37) 25 9 (.string ⟨#[]⟩) 16 rfl Tryd.underlying25 info9 rfl (by decide) (by omega) u2 x2_1 x5_1 [.string x5_1] (fun _ => True) (fun _ => False) rfl rfl ?aP (fun _ hk => hk.elim) ?aF ?aO ?aB ?aS ?aL ?_; (case aP => exact rfl); (case aB => exact (by repeat (first | (with_reducible first | exact HB.out | apply below_alloc | apply pw_below_drewN | apply below_drew1) | exact HB.out))); (case aF => exact (fun _ _ => trivial)); (case aO => exact (by (with_reducible repeat (first | apply Kd.R_alloc | apply Kd.R_drewN | apply Kd.R_drew)); exact HO_2.out)); (case aS => exact (below_size (by repeat (first | (with_reducible first | exact HB.out | apply below_alloc | apply pw_below_drewN | apply below_drew1) | exact HB.out)))); (case aL => have := LMc10.out; omega); intro v117 w11 ho hb hg hat; rw [← Ny116.out] at ho; have n0_ := Aside0.mk (hb); have n1_ := Aside0.mk (ho); clear HB; clear HO_2; have HB := n0_; have HO118 := n1_; clear n0_ n1_; clear ho hb hg hat))
                      go_roundg kj5
                      case measure => have := HK1.out; have := HJ5.out; omega
                      case rel => exact ⟨(y116), ((⟨#[]⟩ : ByteArray)), (t113), (by first | rfl | (simp; done) | (simp [*]; done) | (simp [wrap64]; done)), (by first | rfl | (simp; done) | (simp [*]; done) | (simp [wrap64]; done)), H', ⟨by have := HK1.out; have := HJ5.out; omega⟩, ⟨by (with_reducible repeat (first | apply Kd.R_alloc | apply Kd.R_drewN | apply Kd.R_drew)); exact HO118.out⟩, ⟨by repeat (first | (with_reducible first | exact HB.out | apply below_alloc | apply pw_below_drewN | apply below_drew1) | exact HB.out)⟩⟩
                    · rw [if_neg c10] at H
                      exact absurd H (by simp)
                · replace c8 := Bool.eq_false_iff.mpr c8
                  subst c8
                  have H1 : ((some (([t112] : List Int) : List Int)).bind fun y119 => (if x5_1.size + (strOfNums y119).size ≤ 9223372036854775807 then (spec_ParseName.l0 kj5 a0 x2_1 (x5_1 ++ (strOfNums y119)) t113) else (none))) = some (r1, r2, r3) := by rw [if_neg (show ¬ (false = true) by decide)] at H; exact H
                  clear H
                  have H := H1
                  clear H1
                  obtain ⟨y119, hy119⟩ : ∃ y_ : List Int, y_ = (([t112] : List Int)) := ⟨_, rfl⟩
                  replace H : (if x5_1.size + (strOfNums y119).size ≤ 9223372036854775807 then (spec_ParseName.l0 kj5 a0 x2_1 (x5_1 ++ (strOfNums y119)) t113) else (none)) = some (r1, r2, r3) := by first | (rw [hy119]; with_reducible exact H) | (have H2_ := (Option.bind_some _ _).symm.trans H; rw [hy119]; with_reducible exact H2_) | (have H2_ := (Option.bind_some _ _).symm.trans H; with_reducible exact H2_) | with_reducible exact H | (rw [hy119]; exact H) | exact H
                  have Ny119 := Aside0.mk hy119
                  clear hy119
                  by_cases c12 : x5_1.size + (strOfNums y119).size ≤ 9223372036854775807
                  · rw [if_pos c12] at H
                    have c12b0 := eq_true c12
                    have c12b1 : decide (x5_1.size + (strOfNums y119).size ≤ 9223372036854775807) = true := decide_eq_true c12
                    try have c12b2 : (9223372036854775807 < x5_1.size + (strOfNums y119).size) = False := eq_false (Nat.not_lt.2 c12)
                    have H' := Aside0.mk H
                    clear H
                    go_wp2_with (first | ((with_reducible refine gate_dst (N := 41) rfl ?_); (try (refine gate_guard (by rfl) ?_; dsimp only)); refine Kd.R_lit (Kd.int .u8) _ 5 ?hg (N := 41) ?hd (xs := ([t112] : List Int)) (inner := [.int .u8 t112]) (ok := fun _ => True) (okp := fun _ => True) ?hr ?hp (fun _ hk => hk) trivial (Below.refl _ _) (Nat.le_refl _) (by simp) ?_; (case hd => rfl); (case hg => rfl); (case hr => first | (go_simp; done) | (go_simp; rfl)); (case hp => exact (Reps.one (show Kd.M (Kd.int .u8) _ _ _ t112 [.int .u8 t112] from rfl) (Reps.none _ _))); intro v120 w13 ho14 hb hg_ hnew_; clear hg_ hnew_; (first | rw [← Ny119.out] at ho14 | (simp only [Int.reduceToNat] at ho14; rw [← Ny119.out] at ho14)); have n0_ := Aside0.mk (Kd.R_below (by (with_reducible repeat (first | apply Kd.R_alloc | apply Kd.R_drewN | apply Kd.R_drew)); exact HO_2.out) hb); have n1_ := Aside0.mk (Kd.R_lower ho14 (below_size (by repeat (first | (with_reducible first | exact HB.out | apply below_alloc | apply pw_below_drewN | apply below_drew1) | exact HB.out)))); have n2_ := Aside0.mk (below_step (by repeat (first | (with_reducible first | exact HB.out | apply below_alloc | apply pw_below_drewN | apply below_drew1) | exact HB.out)) hb); clear HO_2; clear HB; have HO_2 := n0_; have HO121 := n1_; have HB := n2_; clear n0_ n1_ n2_; clear hb ho14; have hcv15 := own_string (P := Tryd.prog) Tryd.underlying22 Tryd.underlying5 Tryd.underlying9 (Kd.own_of_R HO121.out)))
                    go_roundg kj5
                    case measure => have := HK1.out; have := HJ5.out; omega
                    case rel => exact ⟨(x2_1), (x5_1 ++ (strOfNums y119)), (t113), (by first | rfl | (simp; done) | (simp [*]; done) | (simp [wrap64]; done)), (by first | rfl | (simp; done) | (simp [*]; done) | (simp [wrap64]; done)), H', ⟨by have := HK1.out; have := HJ5.out; omega⟩, ⟨by (with_reducible repeat (first | apply Kd.R_alloc | apply Kd.R_drewN | apply Kd.R_drew)); exact HO_2.out⟩, ⟨by repeat (first | (with_reducible first | exact HB.out | apply below_alloc | apply pw_below_drewN | apply below_drew1) | exact HB.out)⟩⟩
                  · rw [if_neg c12] at H
                    exact absurd H (by simp)
          · replace c5 := Bool.eq_false_iff.mpr c5
            subst c5
            have H1 : (some (([] : List ByteArray), false, false)) = some (r1, r2, r3) := by rw [if_neg (show ¬ (false = true) by decide)] at H; exact H
            clear H
            have H := H1
            clear H1
            simp only [Option.some.injEq, Prod.mk.injEq] at H
            obtain ⟨rfl, rfl, rfl⟩ := H
            go_wp2_with (first | ((with_reducible refine gate_callee (f := 49) rfl ?_); refine goesL_ (some 20) rfl rfl Tryd.func49 (by kernel_rfl) rfl #[.string a0, .int .i64 x6_1] rfl (by (try simp only [List.map_toArray, List.map_cons, List.map_nil]); first | done | rfl | (simp only [List.length_drop, List.length_take]; rfl)) ?_; (with_reducible refine (spec_escaped.calls a0 x6_1 t112 t113 t114 false _ A4.out).mono ?_); rintro e w' ⟨rfl, ⟨nd, rfl⟩⟩; refine ⟨_, rfl, ?_⟩))
            go_ret3
            exact ⟨_, by first | rfl | (simp [errW_none, errW_some] <;> rfl) | (simp [*, errW_none, errW_some] <;> rfl), by first | exact Kd.R_nil _ _ _ _ _ | exact Kd.N_nil _ _ _ _ _ | exact Kd.V_nil _ _ _ _ _ | exact Kd.Q_nil _ _ _ _ _ | exact Kd.S_nil _ _ _ _ _, by repeat (first | (with_reducible first | exact HB.out | apply below_alloc | apply pw_below_drewN | apply below_drew1) | exact HB.out)⟩
        · rw [if_neg c3] at H
          have c3b0 : decide (x6_1 < (a0.size : Int)) = false := decide_eq_false c3
          clear c3
          by_cases c16 : x5_1.toList = ([] : List UInt8)
          · rw [if_pos c16] at H
            have c16b0 : (x5_1.toList == ([] : List UInt8)) = true := beq_iff_eq.mpr c16
            have c16b1 : (x5_1.toList != ([] : List UInt8)) = false := bne_eq_false_iff_eq.mpr c16
            clear c16
            by_cases c17 : (x2_1.length : Int) > 0
            · rw [if_pos c17] at H
              have c17b0 : decide (0 < (x2_1.length : Int)) = true := decide_eq_true c17
              have c17b1 : decide (0 < x2_1.length) = true := decide_eq_true (by omega)
              clear c17
              replace H := Option.bind_eq_some_iff.mp H
              obtain ⟨t107, A180, H⟩ := H
              replace H : (some (x2_1, decide ((x2_1.length : Int) > 0), t107)) = some (r1, r2, r3) := H
              have A18 := Aside0.mk A180
              clear A180
              simp only [Option.some.injEq, Prod.mk.injEq] at H
              obtain ⟨rfl, rfl, rfl⟩ := H
              obtain ⟨Ao19, co19, eo19⟩ := Kd.R_slice HO_2.out
              subst eo19
              go_wp2_with (first | (go_at_call 47; (with_reducible refine (spec_Name_Valid.calls k1 _ _ x2_1 t107 _ ?side1 ?side2 A18.out).mono ?_); (case side1 => repeat (first | exact (Kd.R_reads' HO_2.out).2.2 | (with_reducible refine Kd.C_alloc ?_ _) | (with_reducible refine Kd.C_drewN ?_ _) | (with_reducible refine Kd.C_drew ?_))); (case side2 => exact (Kd.R_reads' HO_2.out).2.1); rintro e w' ⟨rfl, ⟨nd, rfl⟩⟩))
              go_ret3
              exact ⟨_, by first | rfl | (simp [errW_none, errW_some] <;> rfl) | (simp [*, errW_none, errW_some] <;> rfl), by (with_reducible repeat (first | apply Kd.R_alloc | apply Kd.R_drewN | apply Kd.R_drew)); exact HO_2.out, by repeat (first | (with_reducible first | exact HB.out | apply below_alloc | apply pw_below_drewN | apply below_drew1) | exact HB.out)⟩
            · rw [if_neg c17] at H
              have c17b0 : decide (0 < (x2_1.length : Int)) = false := decide_eq_false c17
              have c17b1 : decide (0 < x2_1.length) = false := decide_eq_false (by omega)
              clear c17
              simp only [Option.some.injEq, Prod.mk.injEq] at H
              obtain ⟨rfl, rfl, rfl⟩ := H
              obtain ⟨Ao20, co20, eo20⟩ := Kd.R_slice HO_2.out
              subst eo20
              go_wp2
              go_ret3
              exact ⟨_, by first | rfl | (simp [errW_none, errW_some] <;> rfl) | (simp [*, errW_none, errW_some] <;> rfl), by (with_reducible repeat (first | apply Kd.R_alloc | apply Kd.R_drewN | apply Kd.R_drew)); exact HO_2.out, by repeat (first | (with_reducible first | exact HB.out | apply below_alloc | apply pw_below_drewN | apply below_drew1) | exact HB.out)⟩
          · rw [if_neg c16] at H
            have c16b0 : (x5_1.toList == ([] : List UInt8)) = false := beq_eq_false_iff_ne.mpr c16
            have c16b1 : (x5_1.toList != ([] : List UInt8)) = true := bne_iff_ne.mpr c16
            by_cases c21 : x2_1.length < 8796093022208
            · rw [if_pos c21] at H
              have LMc21 := Aside0.mk c21
              clear c21
              obtain ⟨y108, hy108⟩ : ∃ y_ : List ByteArray, y_ = (x2_1 ++ [x5_1]) := ⟨_, rfl⟩
              replace H : (if (y108.length : Int) > 0 then ((spec_Name_Valid.f k1 y108).bind fun t111 => (some (y108, false, t111))) else (some (y108, false, false))) = some (r1, r2, r3) := by first | (rw [hy108]; with_reducible exact H) | (have H2_ := (Option.bind_some _ _).symm.trans H; rw [hy108]; with_reducible exact H2_) | (have H2_ := (Option.bind_some _ _).symm.trans H; with_reducible exact H2_) | with_reducible exact H | (rw [hy108]; exact H) | exact H
              have Ny108 := Aside0.mk hy108
              clear hy108
              by_cases c22 : (y108.length : Int) > 0
              · rw [if_pos c22] at H
                have c22b0 : decide (0 < (y108.length : Int)) = true := decide_eq_true c22
                have c22b1 : decide (0 < y108.length) = true := decide_eq_true (by omega)
                clear c22
                replace H := Option.bind_eq_some_iff.mp H
                obtain ⟨t111, A230, H⟩ := H
                replace H : (some (y108, false, t111)) = some (r1, r2, r3) := H
                have A23 := Aside0.mk A230
                clear A230
                simp only [Option.some.injEq, Prod.mk.injEq] at H
                obtain ⟨rfl, rfl, rfl⟩ := H
                go_wp2_with (first | ((with_reducible refine gate_builtin (b := .append) (xs := #[.tmp 48, .tmp 50]) rfl ?_); (try (refine gate_guard (by rfl) ?_; dsimp only)); at_builtin; refine Kd.R_append Kd.string (w0 := w) w.heap.size rfl (.tmp 48) (.tmp 50) 25 9 (.string ⟨#[]⟩) 16 rfl Tryd.underlying25 info9 rfl (by decide) (by omega) u2 x2_1 x5_1 [.string x5_1] (fun _ => True) (fun _ => False) rfl rfl ?aP (fun _ hk => hk.elim) ?aF ?aO ?aB ?aS ?aL ?_; (case aP => exact rfl); (case aB => exact (by repeat (first | (with_reducible first | exact HB.out | apply below_alloc | apply pw_below_drewN | apply below_drew1) | exact HB.out))); (case aF => exact (fun _ _ => trivial)); (case aO => exact (by (with_reducible repeat (first | apply Kd.R_alloc | apply Kd.R_drewN | apply Kd.R_drew)); exact HO_2.out)); (case aS => exact (below_size (by repeat (first | (with_reducible first | exact HB.out | apply below_alloc | apply pw_below_drewN | apply below_drew1) | exact HB.out)))); (case aL => have := LMc21.out; omega); intro v109 w24 ho hb hg hat; rw [← Ny108.out] at ho; have n0_ := Aside0.mk (hb); have n1_ := Aside0.mk (ho); clear HB; clear HO_2; have HB := n0_; have HO110 := n1_; clear n0_ n1_; clear ho hb hg hat; obtain ⟨Ao25, co25, eo25⟩ := Kd.R_slice HO110.out; subst eo25) | (go_at_call 47; (with_reducible refine (spec_Name_Valid.calls k1 _ _ y108 t111 _ ?side1 ?side2 A23.out).mono ?_); (case side1 => repeat (first | exact (Kd.R_reads' HO110.out).2.2 | (with_reducible refine Kd.C_alloc ?_ _) | (with_reducible refine Kd.C_drewN ?_ _) | (with_reducible refine Kd.C_drew ?_))); (case side2 => exact (Kd.R_reads' HO110.out).2.1); rintro e w' ⟨rfl, ⟨nd, rfl⟩⟩))
                go_ret3
                exact ⟨_, by first | rfl | (simp [errW_none, errW_some] <;> rfl) | (simp [*, errW_none, errW_some] <;> rfl), by (with_reducible repeat (first | apply Kd.R_alloc | apply Kd.R_drewN | apply Kd.R_drew)); exact HO110.out, by repeat (first | (with_reducible first | exact HB.out | apply below_alloc | apply pw_below_drewN | apply below_drew1) | exact HB.out)⟩
              · rw [if_neg c22] at H
                have c22b0 : decide (0 < (y108.length : Int)) = false := decide_eq_false c22
                have c22b1 : decide (0 < y108.length) = false := decide_eq_false (by omega)
                clear c22
                simp only [Option.some.injEq, Prod.mk.injEq] at H
                obtain ⟨rfl, rfl, rfl⟩ := H
                go_wp2_with (first | ((with_reducible refine gate_builtin (b := .append) (xs := #[.tmp 48, .tmp 50]) rfl ?_); (try (refine gate_guard (by rfl) ?_; dsimp only)); at_builtin; refine Kd.R_append Kd.string (w0 := w) w.heap.size rfl (.tmp 48) (.tmp 50) 25 9 (.string ⟨#[]⟩) 16 rfl Tryd.underlying25 info9 rfl (by decide) (by omega) u2 x2_1 x5_1 [.string x5_1] (fun _ => True) (fun _ => False) rfl rfl ?aP (fun _ hk => hk.elim) ?aF ?aO ?aB ?aS ?aL ?_; (case aP => exact rfl); (case aB => exact (by repeat (first | (with_reducible first | exact HB.out | apply below_alloc | apply pw_below_drewN | apply below_drew1) | exact HB.out))); (case aF => exact (fun _ _ => trivial)); (case aO => exact (by (with_reducible repeat (first | apply Kd.R_alloc | apply Kd.R_drewN | apply Kd.R_drew)); exact HO_2.out)); (case aS => exact (below_size (by repeat (first | (with_reducible first | exact HB.out | apply below_alloc | apply pw_below_drewN | apply below_drew1) | exact HB.out)))); (case aL => have := LMc21.out; omega); intro v109 w26 ho hb hg hat; rw [← Ny108.out] at ho; have n0_ := Aside0.mk (hb); have n1_ := Aside0.mk (ho); clear HB; clear HO_2; have HB := n0_; have HO110 := n1_; clear n0_ n1_; clear ho hb hg hat; obtain ⟨Ao27, co27, eo27⟩ := Kd.R_slice HO110.out; subst eo27))
                go_ret3
                exact ⟨_, by first | rfl | (simp [errW_none, errW_some] <;> rfl) | (simp [*, errW_none, errW_some] <;> rfl), by (with_reducible repeat (first | apply Kd.R_alloc | apply Kd.R_drewN | apply Kd.R_drew)); exact HO110.out, by repeat (first | (with_reducible first | exact HB.out | apply below_alloc | apply pw_below_drewN | apply below_drew1) | exact HB.out)⟩
            · rw [if_neg c21] at H
              exact absurd H (by simp)

end Go.Proofs.YtiilihafcdmccaaDoor.P
/- What the printed 'spec.escaped', 'spec.Name.Size', 'spec.Name.Valid', 'spec.ParseName' come to, in the words of Core. -/
namespace Go.Proofs.YtiilihafcdmccaaDoor.P
open Go.RowKit Go.Proofs.YtiilihafcdmccaaDoorW.PrintWords
set_option linter.unusedVariables false
set_option linter.unusedSimpArgs false

theorem w64 {x : Int} (h0 : -9223372036854775808 ≤ x) (h : x ≤ 9223372036854775807) : wrap64 x = x := by unfold wrap64; omega

theorem isDigit_eq (c : Int) : spec_isDigit.f c = some (decide (dig c)) := by
  have e : decide (dig c) = decide (48 ≤ c ∧ c ≤ 57) := decide_eq_decide.2 Iff.rfl
  rw [e]
  unfold spec_isDigit.f
  by_cases h : c ≥ 48
  · rw [if_pos h]; congr 1; apply decide_eq_decide.2; omega
  · rw [if_neg h]; congr 1; exact (decide_eq_false (by omega)).symm

theorem bt_at' {s : ByteArray} {pre rest : List Int} (m : List Int) {c : Int} (h : bytesOf s = pre ++ (m ++ c :: rest)) (n : Int) (hn : n = m.length) : bt s (pre.length + n) = c := by
  subst hn
  have := bt_split (s := s) (pre := pre ++ m) (rest := rest) (c := c) (by rw [h, List.append_assoc])
  rwa [List.length_append, Int.natCast_add] at this

theorem esc_tok {s : ByteArray} {pre t rest : List Int} {c : Int} {p : Bool} (hs : s.size ≤ 140737488351232) (h : bytesOf s = pre ++ (t ++ rest)) (ht : Tok t c p) :
    spec_escaped.f s (pre.length : Int) = some (c, ((pre.length + t.length : Nat) : Int), p, true) := by
  have hl := bytesOf_length s
  rw [h] at hl
  simp only [List.length_append] at hl
  have hp := ht.pos
  have hB : IsB t := (h ▸ bytesOf_isB s).right.left
  unfold spec_escaped.f
  rw [if_pos (by omega), if_pos (by omega)]
  cases ht with
  | plain _ h92 =>
    have h0 := bt_at' (s := s) (pre := pre) (rest := rest) [] (c := c) (by simpa using h) 0 rfl
    rw [Int.add_zero] at h0
    rw [h0, if_neg h92, w64 (by omega) (by omega)]
    simp
  | sign _ hd =>
    have h0 := bt_at' (s := s) (pre := pre) (rest := c :: rest) [] (c := 92) (by simpa using h) 0 rfl
    rw [Int.add_zero] at h0
    have h1 := bt_at' (s := s) (pre := pre) (rest := rest) [92] (c := c) (by simpa using h) 1 rfl
    simp at hl
    rw [h0, if_pos rfl, w64 (x := (pre.length : Int) + 1) (by omega) (by omega), w64 (x := (pre.length : Int) + 2) (by omega) (by omega), if_neg (by omega), if_pos (by omega), if_pos (by omega), h1, isDigit_eq, decide_eq_false hd]
    simp
  | ddd a b d ha hb hd hv =>
    have h0 := bt_at' (s := s) (pre := pre) (rest := a :: b :: d :: rest) [] (c := 92) (by simpa using h) 0 rfl
    rw [Int.add_zero] at h0
    have h1 := bt_at' (s := s) (pre := pre) (rest := b :: d :: rest) [92] (c := a) (by simpa using h) 1 rfl
    have h2 := bt_at' (s := s) (pre := pre) (rest := d :: rest) [92, a] (c := b) (by simpa using h) 2 rfl
    have h3 := bt_at' (s := s) (pre := pre) (rest := rest) [92, a, b] (c := d) (by simpa using h) 3 rfl
    simp at hl
    rw [h0, if_pos rfl, w64 (x := (pre.length : Int) + 1) (by omega) (by omega), w64 (x := (pre.length : Int) + 2) (by omega) (by omega), w64 (x := (pre.length : Int) + 3) (by omega) (by omega), w64 (x := (pre.length : Int) + 4) (by omega) (by omega), if_neg (by omega), if_pos (by omega), if_pos (by omega), h1, isDigit_eq, decide_eq_true ha, h2, h3]
    simp only [Option.bind_some, if_true]
    rw [if_neg (by omega), if_pos (by omega), if_pos (by omega), isDigit_eq, decide_eq_true hb]
    simp only [Option.bind_some, if_true]
    rw [if_pos (by omega), if_pos (by omega), isDigit_eq, decide_eq_true hd]
    simp only [Option.bind_some, if_true]
    have e : (((a - 48) % 256 * 100 + (b - 48) % 256 * 10 + (d - 48) % 256)) = val3 a b d := by
      unfold dig at *; unfold val3; omega
    have e0 : 0 ≤ val3 a b d := by unfold dig at *; unfold val3; omega
    rw [e, decide_eq_true hv, show val3 a b d % 256 = val3 a b d by omega]
    simp

theorem esc_bad {s : ByteArray} {pre rest : List Int} (hs : s.size ≤ 140737488351232) (h : bytesOf s = pre ++ 92 :: rest) (hno : ∀ t c p rest', 92 :: rest = t ++ rest' → ¬ Tok t c p) :
    ∃ x y z, spec_escaped.f s (pre.length : Int) = some (x, y, z, false) := by
  have hl := bytesOf_length s
  rw [h] at hl
  simp only [List.length_append, List.length_cons] at hl
  have h0 := bt_at' (s := s) (pre := pre) (rest := rest) [] (c := 92) (by simpa using h) 0 rfl
  rw [Int.add_zero] at h0
  unfold spec_escaped.f
  rw [if_pos (by omega), if_pos (by omega), h0, if_pos rfl, w64 (x := (pre.length : Int) + 1) (by omega) (by omega), w64 (x := (pre.length : Int) + 2) (by omega) (by omega), w64 (x := (pre.length : Int) + 3) (by omega) (by omega)]
  match rest, hno, h, hl with
  | [], hno, h, hl => rw [if_pos (by simp at hl; omega)]; exact ⟨_, _, _, rfl⟩
  | a :: r1, hno, h, hl =>
    have ha : dig a := by
      by_cases ha : dig a
      · exact ha
      · exact absurd (Tok.sign a ha) (hno [92, a] a false r1 rfl)
    have h1 := bt_at' (s := s) (pre := pre) (rest := r1) [92] (c := a) (by simpa using h) 1 rfl
    simp at hl
    rw [if_neg (by omega), if_pos (by omega), if_pos (by omega), h1, isDigit_eq, decide_eq_true ha]
    simp only [Option.bind_some, if_true]
    match r1, hno, h, hl with
    | [], hno, h, hl => rw [if_pos (by simp at hl; omega)]; exact ⟨_, _, _, rfl⟩
    | [b], hno, h, hl => rw [if_pos (by simp at hl; omega)]; exact ⟨_, _, _, rfl⟩
    | b :: d :: r2, hno, h, hl =>
      have h2 := bt_at' (s := s) (pre := pre) (rest := d :: r2) [92, a] (c := b) (by simpa using h) 2 rfl
      have h3 := bt_at' (s := s) (pre := pre) (rest := r2) [92, a, b] (c := d) (by simpa using h) 3 rfl
      simp at hl
      rw [if_neg (by omega), if_pos (by omega), if_pos (by omega), h2, isDigit_eq]
      by_cases hb : dig b
      · rw [decide_eq_true hb]
        simp only [Option.bind_some, if_true]
        rw [if_pos (by omega), if_pos (by omega), h3, isDigit_eq]
        by_cases hd : dig d
        · rw [decide_eq_true hd]
          simp only [Option.bind_some, if_true]
          have e : (((a - 48) % 256 * 100 + (b - 48) % 256 * 10 + (d - 48) % 256)) = val3 a b d := by
            unfold dig at *; unfold val3; omega
          rw [e, decide_eq_false (fun hv => hno [92, a, b, d] _ false r2 rfl (.ddd a b d ha hb hd hv))]
          exact ⟨_, _, _, rfl⟩
        · rw [decide_eq_false hd]
          exact ⟨_, _, _, rfl⟩
      · rw [decide_eq_false hb]
        exact ⟨_, _, _, rfl⟩

/-! ### sizes -/
def sizeL : List (List Int) → Nat
  | [] => 1
  | l :: ls => 1 + l.length + sizeL ls
theorem sizeL_pos (n : List (List Int)) : 1 ≤ sizeL n := by cases n <;> simp [sizeL]; omega
theorem sizeL_append (a b : List (List Int)) : sizeL (a ++ b) + 1 = sizeL a + sizeL b := by
  induction a with
  | nil => simp [sizeL]; omega
  | cons l ls ih => simp [sizeL]; omega
def okB (n : List (List Int)) : Bool := n.all (fun l => decide (l.length ≠ 0 ∧ l.length ≤ 63))
theorem okB_cons (l : List Int) (n : List (List Int)) : okB (l :: n) = (decide (l.length ≠ 0 ∧ l.length ≤ 63) && okB n) := rfl
def validB (n : List (List Int)) : Bool := okB n && decide (sizeL n ≤ 255)
theorem rdOf_map (n : List (List Int)) (i : Nat) (h : i < n.length) : rdOf ByteArray.empty (n.map strOfNums) (i : Int) = strOfNums (n[i]) := by
  unfold rdOf
  rw [Int.toNat_natCast, List.getD_eq_getElem?_getD, List.getElem?_map, List.getElem?_eq_getElem h]
  rfl
theorem size_from (n : List (List Int)) (hb : sizeL n ≤ 4611686018427387904) (d : Nat) : ∀ (i : Nat), i + d = n.length →
    Ev (fun k => spec_Name_Size.l0 k (sizeL (n.take i) : Nat) (n.map strOfNums) (n.length : Nat) (i : Nat)) (sizeL n : Nat) := by
  induction d with
  | zero =>
    intro i hi
    obtain rfl : i = n.length := by omega
    refine ⟨1, fun k hk => ?_⟩
    obtain ⟨m, rfl⟩ : ∃ m, k = m + 1 := ⟨k - 1, by omega⟩
    simp only [spec_Name_Size.l0]
    rw [if_neg (by omega), List.take_length]
  | succ d ih =>
    intro i hi
    have hlt : i < n.length := by omega
    refine Ev.step (f := fun k => spec_Name_Size.l0 k (sizeL (n.take (i + 1)) : Nat) (n.map strOfNums) (n.length : Nat) ((i + 1 : Nat) : Int)) (fun k => ?_) (ih (i + 1) (by omega))
    have e : sizeL (n.take (i + 1)) = sizeL (n.take i) + (1 + n[i].length) := by
      rw [List.take_succ_eq_append_getElem hlt]
      have h5 := sizeL_append (n.take i) [n[i]]
      rw [show sizeL [n[i]] = 1 + n[i].length + 1 from rfl] at h5
      omega
    have e2 : sizeL (n.take (i + 1)) ≤ sizeL n := by
      have h1 := sizeL_append (n.take (i + 1)) (n.drop (i + 1))
      rw [List.take_append_drop] at h1
      have := sizeL_pos (n.drop (i + 1))
      omega
    have e3 : n.length ≤ sizeL n := by
      clear ih e e2 hlt hi hb
      induction n with
      | nil => simp
      | cons l ls ih => simp [sizeL]; omega
    simp only [spec_Name_Size.l0]
    rw [if_pos (by omega), if_pos (by omega), if_pos (by rw [List.length_map]; omega), rdOf_map n i hlt, strOfNums_size]
    rw [w64 (x := 1 + (n[i].length : Int)) (by omega) (by omega), w64 (x := (sizeL (n.take i) : Int) + (1 + (n[i].length : Int))) (by omega) (by omega), w64 (x := (i : Int) + 1) (by omega) (by omega), e]
    rfl
theorem size_ev (n : List (List Int)) (hb : sizeL n ≤ 4611686018427387904) : Ev (fun k => spec_Name_Size.f k (n.map strOfNums)) (sizeL n : Nat) := by
  have h := size_from n hb n.length 0 (by omega)
  refine Ev.congr (fun k => ?_) h
  unfold spec_Name_Size.f
  rw [List.length_map]
  rfl
theorem len_le_size (n : List (List Int)) : n.length + 1 ≤ sizeL n := by
  induction n with
  | nil => simp [sizeL]
  | cons l ls ih => simp [sizeL]; omega
theorem valid_from (n : List (List Int)) (hb : sizeL n ≤ 4611686018427387904) (d : Nat) : ∀ (i : Nat), i + d = n.length →
    Ev (fun k => spec_Name_Valid.l0 k (n.map strOfNums) (n.map strOfNums) (n.length : Nat) (i : Nat)) (okB (n.drop i) && decide (sizeL n ≤ 255)) := by
  have e3 := len_le_size n
  induction d with
  | zero =>
    intro i hi
    obtain rfl : i = n.length := by omega
    refine Ev.step (f := fun k => (spec_Name_Size.f k (n.map strOfNums)).bind fun t => some (decide (t ≤ 255))) (fun k => ?_) (Ev.bind (f := fun _ t => some (decide (t ≤ 255))) (size_ev n hb) ?_)
    · simp only [spec_Name_Valid.l0]
      rw [if_neg (by omega)]
    · rw [List.drop_length]
      refine ⟨0, fun k _ => ?_⟩
      have e : decide ((sizeL n : Int) ≤ 255) = decide (sizeL n ≤ 255) := decide_eq_decide.2 (by omega)
      simp only [e]
      rfl
  | succ d ih =>
    intro i hi
    have hlt : i < n.length := by omega
    have hd := List.drop_eq_getElem_cons hlt
    rw [hd, okB_cons]
    by_cases h0 : n[i].length ≠ 0 ∧ n[i].length ≤ 63
    · rw [decide_eq_true h0, Bool.true_and]
      refine Ev.step (f := fun k => spec_Name_Valid.l0 k (n.map strOfNums) (n.map strOfNums) (n.length : Nat) ((i + 1 : Nat) : Int)) (fun k => ?_) (ih (i + 1) (by omega))
      simp only [spec_Name_Valid.l0]
      rw [if_pos (by omega), if_pos (by omega), if_pos (by rw [List.length_map]; omega), rdOf_map n i hlt, strOfNums_size, if_neg (by omega), if_neg (by omega), w64 (x := (i : Int) + 1) (by omega) (by omega)]
      rfl
    · rw [decide_eq_false h0, Bool.false_and, Bool.false_and]
      refine ⟨1, fun k hk => ?_⟩
      obtain ⟨m, rfl⟩ : ∃ m, k = m + 1 := ⟨k - 1, by omega⟩
      simp only [spec_Name_Valid.l0]
      rw [if_pos (by omega), if_pos (by omega), if_pos (by rw [List.length_map]; omega), rdOf_map n i hlt, strOfNums_size]
      by_cases h1 : n[i].length = 0
      · rw [if_pos (by omega)]
      · rw [if_neg (by omega), if_pos (by omega)]
theorem valid_ev (n : List (List Int)) (hb : sizeL n ≤ 4611686018427387904) : Ev (fun k => spec_Name_Valid.f k (n.map strOfNums)) (validB n) := by
  have h := valid_from n hb n.length 0 (by omega)
  rw [List.drop_zero] at h
  refine Ev.congr (fun k => ?_) h
  unfold spec_Name_Valid.f
  rw [List.length_map]
  rfl

/-! ### ParseName -/
abbrev PnR := List ByteArray × Bool × Bool
theorem pn_tok {s : ByteArray} {pre t rest cur : List Int} {c : Int} {p : Bool} {acc : List ByteArray} {R : PnR} (hs : s.size ≤ 140737488351232) (h : bytesOf s = pre ++ (t ++ rest)) (ht : Tok t c p) (hc : ¬ (p = true ∧ c = 46))
    (hcur : cur.length ≤ pre.length) (k : Ev (fun k => spec_ParseName.l0 k s acc (strOfNums (cur ++ [c])) ((pre ++ t).length : Nat)) R) : Ev (fun k => spec_ParseName.l0 k s acc (strOfNums cur) (pre.length : Nat)) R := by
  have he := esc_tok hs h ht
  have hl := bytesOf_length s
  rw [h] at hl
  simp only [List.length_append] at hl
  have hp := ht.pos
  rw [List.length_append] at k
  refine Ev.step (f := fun k => spec_ParseName.j1 k s acc (strOfNums cur) ((pre.length + t.length : Nat) : Int) c false) (fun k => ?_) ?_
  · simp only [spec_ParseName.l0]
    rw [if_pos (by omega), he]
    simp only [Option.bind_some, if_true]
    cases p with
    | false => simp
    | true =>
      have h46 : (c == 46) = false := beq_eq_false_iff_ne.2 fun e => hc ⟨rfl, e⟩
      simp [h46]
  · refine Ev.step (fun k => ?_) k
    simp only [spec_ParseName.j1, Option.bind_some]
    rw [if_neg (by decide), strOfNums_size, strOfNums_size, if_pos (by simp; omega), strOfNums_append]
theorem pn_lab {s : ByteArray} {rest : List Int} {acc : List ByteArray} {R : PnR} (hs : s.size ≤ 140737488351232) {r l : List Int} (hL : Lab r l) : ∀ (pre cur : List Int), bytesOf s = pre ++ (r ++ rest) → cur.length ≤ pre.length →
    Ev (fun k => spec_ParseName.l0 k s acc (strOfNums (cur ++ l)) ((pre ++ r).length : Nat)) R → Ev (fun k => spec_ParseName.l0 k s acc (strOfNums cur) (pre.length : Nat)) R := by
  induction hL with
  | nil => intro pre cur h hcur k; simpa using k
  | @cons t r l c p ht hc _ ih =>
    intro pre cur h hcur k
    refine pn_tok hs (rest := r ++ rest) (by rw [h, List.append_assoc]) ht hc hcur ?_
    refine ih (pre ++ t) (cur ++ [c]) (by rw [h]; simp) (by have := ht.pos; simp; omega) ?_
    rw [List.append_assoc, List.append_assoc]
    exact k
theorem pn_dot {s : ByteArray} {pre rest cur : List Int} {acc : List ByteArray} {R : PnR} (hs : s.size ≤ 140737488351232) (h : bytesOf s = pre ++ 46 :: rest) (hcB : IsB cur) (hne : cur ≠ []) (hacc : acc.length < 8796093022208)
    (k : Ev (fun k => spec_ParseName.l0 k s (acc ++ [strOfNums cur]) (strOfNums []) ((pre ++ [46]).length : Nat)) R) : Ev (fun k => spec_ParseName.l0 k s acc (strOfNums cur) (pre.length : Nat)) R := by
  have he := esc_tok (s := s) (pre := pre) (t := [46]) (rest := rest) hs (by rw [h]; rfl) (.plain 46 (by decide))
  have hl := bytesOf_length s
  rw [h] at hl
  simp only [List.length_append, List.length_cons] at hl
  rw [List.length_append] at k
  refine Ev.step (f := fun k => spec_ParseName.j1 k s acc (strOfNums cur) ((pre.length + [(46 : Int)].length : Nat) : Int) 46 true) (fun k => ?_) ?_
  · simp only [spec_ParseName.l0]
    rw [if_pos (by omega), he]
    simp
  · refine Ev.step (fun k => ?_) k
    simp only [spec_ParseName.j1]
    rw [if_pos trivial, if_neg (by rw [toList_nil, bytesOf_strOfNums hcB]; exact hne), if_pos hacc]
    rfl
theorem pn_empty {s : ByteArray} {pre rest : List Int} {acc : List ByteArray} (hs : s.size ≤ 140737488351232) (h : bytesOf s = pre ++ 46 :: rest) :
    Ev (fun k => spec_ParseName.l0 k s acc (strOfNums []) (pre.length : Nat)) ([], false, false) := by
  have he := esc_tok (s := s) (pre := pre) (t := [46]) (rest := rest) hs (by rw [h]; rfl) (.plain 46 (by decide))
  have hl := bytesOf_length s
  rw [h] at hl
  simp only [List.length_append, List.length_cons] at hl
  refine Ev.step (f := fun k => spec_ParseName.j1 k s acc (strOfNums []) ((pre.length + [(46 : Int)].length : Nat) : Int) 46 true) (fun k => ?_) ?_
  · simp only [spec_ParseName.l0]
    rw [if_pos (by omega), he]
    simp
  · refine ⟨1, fun k hk => ?_⟩
    obtain ⟨m, rfl⟩ : ∃ m, k = m + 1 := ⟨k - 1, by omega⟩
    simp only [spec_ParseName.j1]
    rw [if_pos trivial, if_pos (by rw [toList_nil, bytesOf_strOfNums IsB.nil])]
theorem pn_bad {s : ByteArray} {pre rest cur : List Int} {acc : List ByteArray} (hs : s.size ≤ 140737488351232) (h : bytesOf s = pre ++ 92 :: rest) (hno : ∀ t c p rest', 92 :: rest = t ++ rest' → ¬ Tok t c p) :
    Ev (fun k => spec_ParseName.l0 k s acc (strOfNums cur) (pre.length : Nat)) ([], false, false) := by
  obtain ⟨x, y, z, he⟩ := esc_bad hs h hno
  have hl := bytesOf_length s
  rw [h] at hl
  simp only [List.length_append, List.length_cons] at hl
  refine ⟨1, fun k hk => ?_⟩
  obtain ⟨m, rfl⟩ : ∃ m, k = m + 1 := ⟨k - 1, by omega⟩
  simp only [spec_ParseName.l0]
  rw [if_pos (by omega), he]
  simp
theorem pn_labs {s : ByteArray} {rest : List Int} {R : PnR} (hs : s.size ≤ 140737488351232) {rs ls : List (List Int)} (hL : Labs rs ls) : ∀ (pre : List Int) (acc : List ByteArray), bytesOf s = pre ++ (joinD rs ++ rest) → acc.length ≤ pre.length → s.size < 8796093022208 →
    Ev (fun k => spec_ParseName.l0 k s (acc ++ ls.map strOfNums) (strOfNums []) ((pre ++ joinD rs).length : Nat)) R → Ev (fun k => spec_ParseName.l0 k s acc (strOfNums []) (pre.length : Nat)) R := by
  induction hL with
  | nil => intro pre acc h hacc hsz k; simpa [joinD] using k
  | @cons r l rs ls h1 h2 _ ih =>
    intro pre acc h hacc hsz k
    have hl := bytesOf_length s
    have hB : IsB (pre ++ (joinD (r :: rs) ++ rest)) := h ▸ bytesOf_isB s
    have hBr : IsB l := h1.isB (by have := hB.right.left; simp only [joinD] at this; exact this.left)
    rw [h] at hl
    simp only [List.length_append, joinD, List.length_cons] at hl
    refine pn_lab hs (r := r) (l := l) (rest := 46 :: joinD rs ++ rest) h1 pre [] (by rw [h]; simp [joinD]) (by simp) ?_
    refine pn_dot hs (rest := joinD rs ++ rest) (by rw [h]; simp [joinD]) hBr h2 (by omega) ?_
    refine ih (pre ++ r ++ [46]) (acc ++ [strOfNums l]) (by rw [h]; simp [joinD]) (by simp; omega) hsz ?_
    have e1 : acc ++ [strOfNums l] ++ ls.map strOfNums = acc ++ (l :: ls).map strOfNums := by simp
    have e2 : pre ++ r ++ [46] ++ joinD rs = pre ++ joinD (r :: rs) := by simp [joinD]
    rw [e1, e2]
    exact k

def namesOf (ls : List (List Int)) (l : List Int) : List (List Int) := if l = [] then ls else ls ++ [l]
theorem pn_end {s : ByteArray} {ls : List (List Int)} {l : List Int} (hs : s.size < 8796093022208) (hlB : IsB l) (hls : ls.length ≤ s.size) (hsz : sizeL (namesOf ls l) ≤ 4611686018427387904) :
    Ev (fun k => spec_ParseName.l0 k s (ls.map strOfNums) (strOfNums l) (s.size : Nat))
      ((namesOf ls l).map strOfNums, decide (l = [] ∧ ls ≠ []), (decide (namesOf ls l ≠ []) && validB (namesOf ls l))) := by
  have hv := valid_ev (namesOf ls l) hsz
  by_cases hl : l = []
  · subst hl
    have en : namesOf ls [] = ls := if_pos rfl
    rw [en] at hv ⊢
    by_cases hn : ls = []
    · subst hn
      refine ⟨1, fun k hk => ?_⟩
      obtain ⟨m, rfl⟩ : ∃ m, k = m + 1 := ⟨k - 1, by omega⟩
      simp only [spec_ParseName.l0]
      rw [if_neg (by omega), if_pos (by rw [toList_nil, bytesOf_strOfNums hlB])]
      simp
    · have hp : 0 < ls.length := List.length_pos_iff.2 hn
      refine Ev.step (f := fun k => (spec_Name_Valid.f k (ls.map strOfNums)).bind fun t => some (ls.map strOfNums, true, t)) (fun k => ?_) (Ev.bind (f := fun _ t => some (ls.map strOfNums, true, t)) hv ?_)
      · simp only [spec_ParseName.l0]
        rw [if_neg (by omega), if_pos (by rw [toList_nil, bytesOf_strOfNums hlB]), if_pos (by rw [List.length_map]; omega)]
        simp [hp]
      · exact ⟨0, fun k _ => by simp [hn]⟩
  · have en : namesOf ls l = ls ++ [l] := if_neg hl
    rw [en] at hv ⊢
    refine Ev.step (f := fun k => (spec_Name_Valid.f k ((ls ++ [l]).map strOfNums)).bind fun t => some ((ls ++ [l]).map strOfNums, false, t)) (fun k => ?_) (Ev.bind (f := fun _ t => some ((ls ++ [l]).map strOfNums, false, t)) hv ?_)
    · simp only [spec_ParseName.l0]
      rw [if_neg (by omega), if_neg (by rw [toList_nil, bytesOf_strOfNums hlB]; exact hl), if_pos (by rw [List.length_map]; omega)]
      simp
    · exact ⟨0, fun k _ => by simp [hl]⟩

theorem Labs.len {rs ls : List (List Int)} (h : Labs rs ls) : sizeL ls ≤ (joinD rs).length + 1 := by
  induction h with
  | nil => simp [sizeL, joinD]
  | cons h1 h2 _ ih => have := h1.len; simp [sizeL, joinD]; omega
theorem namesOf_size {rs ls : List (List Int)} {r l : List Int} (h : Labs rs ls) (k : Lab r l) : sizeL (namesOf ls l) ≤ (joinD rs).length + r.length + 2 := by
  have h1 := h.len
  have h2 := k.len
  unfold namesOf
  split
  · omega
  · have := sizeL_append ls [l]
    rw [show sizeL [l] = 1 + l.length + 1 from rfl] at this
    omega
theorem not_dot {s : ByteArray} {rs ls : List (List Int)} {r l : List Int} (h : Labs rs ls) (k : Lab r l) (e : bytesOf s = joinD rs ++ r) : bytesOf s ≠ [46] := by
  intro h46
  rw [h46] at e
  cases h with
  | nil =>
    simp [joinD] at e
    subst e
    generalize hx : [(46 : Int)] = x at k
    cases k with
    | nil => cases hx
    | cons ht hc hr =>
      cases ht with
      | plain c _ => simp at hx; exact hc ⟨rfl, hx.1.symm⟩
      | sign d _ => simp at hx
      | ddd a b c _ _ _ _ => simp at hx
  | cons h1 h2 _ =>
    have := h1.len
    have h3 : 1 ≤ _ := List.length_pos_iff.2 h2
    have := congrArg List.length e
    simp [joinD] at this
    omega
/-- A text that is a list of labels (and a rest of one). -/
theorem parse_ok {s : ByteArray} {rs ls : List (List Int)} {r l : List Int} (hs : s.size < 8796093022208) (h : Labs rs ls) (k : Lab r l) (e : bytesOf s = joinD rs ++ r) :
    Ev (fun k => spec_ParseName.f k s) ((namesOf ls l).map strOfNums, decide (l = [] ∧ ls ≠ []), (decide (namesOf ls l ≠ []) && validB (namesOf ls l))) := by
  have hn := not_dot h k e
  have hB : IsB (joinD rs ++ r) := e ▸ bytesOf_isB s
  have hl := bytesOf_length s
  rw [e, List.length_append] at hl
  have hz := namesOf_size h k
  have hle := len_le_size ls
  have h1 := h.len
  have h5 := pn_end (s := s) hs (k.isB hB.right) (ls := ls) (by
    by_cases h0 : rs = []
    · subst h0
      cases h
      simp
    · omega) (by omega)
  have h3 := pn_lab (s := s) (acc := ls.map strOfNums) (rest := []) (by omega) k (joinD rs) [] (by rw [e, List.append_nil]) (by simp) (by rw [List.nil_append, List.length_append, hl]; exact h5)
  have h2 := pn_labs (s := s) (rest := r) (by omega) h [] [] (by rw [e]; rfl) (by simp) hs (by rw [List.nil_append, List.nil_append]; exact h3)
  refine Ev.congr (fun k => ?_) h2
  unfold spec_ParseName.f
  rw [if_neg (by rw [toList_dot]; exact hn)]
  rfl
theorem parse_dot {s : ByteArray} (h : bytesOf s = [46]) : Ev (fun k => spec_ParseName.f k s) ([], true, true) := by
  refine ⟨0, fun k _ => ?_⟩
  show spec_ParseName.f k s = _
  unfold spec_ParseName.f
  rw [if_pos (by rw [toList_dot]; exact h)]
theorem parse_empty {s : ByteArray} {rs ls : List (List Int)} {rest : List Int} (hs : s.size < 8796093022208) (h : Labs rs ls) (e : bytesOf s = joinD rs ++ 46 :: rest) (hn : bytesOf s ≠ [46]) :
    Ev (fun k => spec_ParseName.f k s) ([], false, false) := by
  have h3 := pn_empty (s := s) (pre := joinD rs) (acc := ls.map strOfNums) (by omega) e
  have h2 := pn_labs (s := s) (rest := 46 :: rest) (by omega) h [] [] (by rw [e]; rfl) (by simp) hs (by rw [List.nil_append, List.nil_append]; exact h3)
  refine Ev.congr (fun k => ?_) h2
  unfold spec_ParseName.f
  rw [if_neg (by rw [toList_dot]; exact hn)]
  rfl
theorem parse_bad {s : ByteArray} {rs ls : List (List Int)} {r l rest : List Int} (hs : s.size < 8796093022208) (h : Labs rs ls) (k : Lab r l) (e : bytesOf s = joinD rs ++ (r ++ 92 :: rest)) (hno : ∀ t c p rest', 92 :: rest = t ++ rest' → ¬ Tok t c p) :
    Ev (fun k => spec_ParseName.f k s) ([], false, false) := by
  have hn : bytesOf s ≠ [46] := by
    intro h46
    have : (92 : Int) ∈ bytesOf s := by rw [e]; simp
    rw [h46] at this
    simp at this
  have h4 := pn_bad (s := s) (pre := joinD rs ++ r) (cur := l) (acc := ls.map strOfNums) (by omega) (by rw [e, List.append_assoc]) hno
  have h3 := pn_lab (s := s) (acc := ls.map strOfNums) (rest := 92 :: rest) (by omega) k (joinD rs) [] e (by simp) h4
  have h2 := pn_labs (s := s) (rest := r ++ 92 :: rest) (by omega) h [] [] (by rw [e]; rfl) (by simp) hs (by rw [List.nil_append, List.nil_append]; exact h3)
  refine Ev.congr (fun k => ?_) h2
  unfold spec_ParseName.f
  rw [if_neg (by rw [toList_dot]; exact hn)]
  rfl

end Go.Proofs.YtiilihafcdmccaaDoor.P
/- 'dns.IsFqdn' for texts of ASCII: whether a text ends with a point behind an even number of backslashes. -/
namespace Go.Proofs.YtiilihafcdmccaaDoor.P
open Go.RowKit Go.Proofs.YtiilihafcdmccaaDoorW.PrintWords Go.Proofs.YtiilihafcdmccaaDoorW.PrintLast Go.Proofs.YtiilihafcdmccaaDoorW.PrintMore
set_option linter.unusedVariables false
set_option linter.unusedSimpArgs false

/-- The last byte of a text's first i bytes that is no backslash: its place, or -1. -/
def lastNB (s : ByteArray) : Nat → Int
  | 0 => -1
  | i + 1 => if bt s i = 92 then lastNB s i else i

theorem bt_extract (s : ByteArray) (i : Nat) (j : Nat) (hj : j < i) (hi : i ≤ s.size) : bt (s.extract 0 i) (j : Int) = bt s (j : Int) := by
  unfold bt
  rw [Int.toNat_natCast]
  have h1 : j < (s.extract 0 i).size := by rw [ByteArray.size_extract]; omega
  have h2 : j < s.size := by omega
  rw [dif_pos h1, dif_pos h2]
  congr 2
  simp [ByteArray.getElem_extract]

theorem bt_at_nat (s : ByteArray) (i : Nat) : ∀ h : i < s.size, ((s[i]'h).toNat : Int) = bt s (i : Int) := fun h => by simp [bt, h]

set_option maxHeartbeats 1000000 in
theorem dlr_ascii (s : ByteArray) (w : World) (n : Nat) (c : Int) (hn : s.size = n + 1) (hs : s.size ≤ 9223372036854775807) (hc : bt s (n : Int) = c) (hb : c < 128) :
    Calls Tryd.prog 129 #[.string s] w fun e w' => e = .returned (.tuple #[.int .i32 c, .int .i64 1]) ∧ w = w' := by
  have hx : ∀ h : n < s.size, ((s[n]'h).toNat : Int) = c := fun h => by rw [bt_at_nat, hc]
  have h0 : 0 ≤ c := by have := bt_range s (n : Int); omega
  clear hc
  go_enter Tryd.func129, Tryd.ntmps129
  go_wp2_with fail
  go_ret2
  exact ⟨rfl, rfl⟩

set_option maxHeartbeats 1000000 in
theorem ifq1 (c : Int) (w : World) :
    Calls Tryd.prog 78 #[.int .i32 c] w fun e w' => e = .returned (.bool (c != 92)) ∧ w = w' := by
  go_enter Tryd.func78, Tryd.ntmps78
  go_wp2
  go_ret
  exact ⟨rfl, rfl⟩
set_option maxHeartbeats 2000000 in
set_option maxRecDepth 100000 in
theorem lif_ascii (s : ByteArray) (w : World) (hs : s.size ≤ 9223372036854775807) (hb : ∀ i : Nat, bt s (i : Int) < 128) :
    Calls Tryd.prog 100 #[.string s, .func (.func 78) #[] #[], .bool true] w fun e w' => e = .returned (.int .i64 (lastNB s s.size)) ∧ w = w' := by
  have HB := Aside0.mk hb
  clear hb
  go_enter Tryd.func100, Tryd.ntmps100
  go_wp2_with fail
  go_loop [7] (fun i => ∃ k : Nat, i = .int .i64 k ∧ k ≤ s.size ∧ Aside0 (lastNB s s.size = lastNB s k)) (fun i => (intOf i).toNat)
  case atStart => exact ⟨s.size, rfl, Nat.le_refl _, ⟨rfl⟩⟩
  case round =>
    obtain ⟨k, rfl, hk, hl⟩ := hrel
    cases k with
    | zero =>
      go_wp2
      go_ret
      exact ⟨by rw [hl.out]; rfl, rfl⟩
    | succ k =>
      have hbk := HB.out k
      have he := bt_extract s (k + 1) k (by omega) hk
      have hsz : (s.extract 0 (k + 1)).size = k + 1 := by rw [ByteArray.size_extract]; omega
      have hstep : lastNB s (k + 1) = if bt s (k : Int) = 92 then lastNB s k else (k : Int) := rfl
      generalize hc : bt s (k : Int) = c at *
      have He := Aside0.mk he
      have Hsz := Aside0.mk hsz
      have Hst := Aside0.mk hstep
      clear he hsz hstep hc
      have hk1 : (k : Int) + 1 ≤ (s.size : Int) := by omega
      have hk0 : (0 : Int) ≤ (k : Int) + 1 := by omega
      by_cases h92 : c = 92
      · subst h92
        go_wp2_with (first | (go_at_call 129; refine (dlr_ascii _ _ k 92 Hsz.out (by rw [Hsz.out]; omega) He.out hbk).mono ?_; rintro e w' ⟨rfl, rfl⟩) | (go_at_call 78; refine (ifq1 _ _).mono ?_; rintro e w' ⟨rfl, rfl⟩))
        go_round
        case rel => exact ⟨k, by go_num, by omega, ⟨by rw [hl.out, Hst.out, if_pos trivial]⟩⟩
        case measure => simp [intOf]
      · have h92b : (c != 92) = true := by simpa using h92
        go_wp2_with (first | (go_at_call 129; refine (dlr_ascii _ _ k c Hsz.out (by rw [Hsz.out]; omega) He.out hbk).mono ?_; rintro e w' ⟨rfl, rfl⟩) | (go_at_call 78; refine (ifq1 _ _).mono ?_; rintro e w' ⟨rfl, rfl⟩))
        go_ret
        exact ⟨by rw [hl.out, Hst.out, if_neg h92]; go_num, rfl⟩

set_option maxHeartbeats 1000000 in
theorem li_ascii (s : ByteArray) (w : World) (hs : s.size ≤ 9223372036854775807) (hb : ∀ i : Nat, bt s (i : Int) < 128) :
    Calls Tryd.prog 77 #[.string s, .func (.func 78) #[] #[]] w fun e w' => e = .returned (.int .i64 (lastNB s s.size)) ∧ w = w' := by
  go_enter Tryd.func77, Tryd.ntmps77
  go_wp2_with (go_at_call 100; refine (lif_ascii _ _ hs hb).mono ?_; rintro e w' ⟨rfl, rfl⟩)
  go_ret
  exact ⟨rfl, rfl⟩

theorem lastNB_bd (s : ByteArray) : ∀ n : Nat, -1 ≤ lastNB s n ∧ lastNB s n < n
  | 0 => by unfold lastNB; omega
  | n + 1 => by
    unfold lastNB
    have := lastNB_bd s n
    split <;> omega
theorem bt_extract' (s : ByteArray) (i : Nat) (hi : i ≤ s.size) (j : Nat) : bt (s.extract 0 i) (j : Int) = if j < i then bt s (j : Int) else 0 := by
  split
  · exact bt_extract s i j ‹_› hi
  · unfold bt
    rw [dif_neg]
    rw [ByteArray.size_extract]
    omega
/-- Does a text end with a point behind an even number of backslashes? -/
def fqB (s : ByteArray) : Bool :=
  if s.size = 0 then false
  else if bt s ((s.size - 1 : Nat) : Int) ≠ 46 then false
  else if s.size = 1 then true
  else if bt s ((s.size - 2 : Nat) : Int) ≠ 92 then true
  else (((s.size - 1 : Nat) : Int) - lastNB (s.extract 0 (s.size - 1)) (s.size - 1)) % 2 != 0

theorem toList_ne (s : ByteArray) (h : s.size ≠ 0) : (s.toList == ([] : List UInt8)) = false := by
  rw [beq_eq_false_iff_ne]
  intro e
  rw [ByteArray.toList_eq] at e
  exact h (by have := congrArg List.length e; simpa using this)
set_option maxHeartbeats 2000000 in
set_option maxRecDepth 100000 in
theorem isfqdn_any (s : ByteArray) (w : World) (hs : s.size ≤ 9223372036854775807) (hb : ∀ i : Nat, bt s (i : Int) < 128) :
    Calls Tryd.prog 51 #[.string s] w fun e w' => e = .returned (.bool (fqB s)) ∧ w = w' := by
  rcases hn : s.size with _ | n
  · have hnil : s.toList = [] := by rw [ByteArray.toList_eq]; exact List.eq_nil_of_length_eq_zero hn
    have hnb : (s.toList == ([] : List UInt8)) = true := beq_iff_eq.mpr hnil
    have hf := Aside0.mk (show fqB s = false by unfold fqB; rw [if_pos hn])
    clear hn
    go_enter Tryd.func51, Tryd.ntmps51
    go_wp2
    go_ret
    exact ⟨by rw [hf.out]; rfl, rfl⟩
  · have hnb := toList_ne s (by omega)
    have hnb' : (!(s.toList.isEmpty)) = true := by
      cases h : s.toList with
      | nil => rw [h] at hnb; cases hnb
      | cons _ _ => rfl
    have hx : ∀ h : n < s.size, ((s[n]'h).toNat : Int) = bt s (n : Int) := bt_at_nat s n
    have hF := Aside0.mk (show fqB s = if bt s ((n : Nat) : Int) ≠ 46 then false
      else if n = 0 then true
      else if bt s ((n - 1 : Nat) : Int) ≠ 92 then true
      else ((n : Int) - lastNB (s.extract 0 n) n) % 2 != 0 by
        unfold fqB
        rw [hn, if_neg (by omega), show n + 1 - 1 = n by omega, show n + 1 - 2 = n - 1 by omega]
        by_cases h0 : n = 0
        · subst h0; rfl
        · rw [if_neg (show ¬ n + 1 = 1 by omega), if_neg h0])
    have hle := Aside0.mk (bt_extract' s n (by omega))
    have hsz : (s.extract 0 n).size = n := by rw [ByteArray.size_extract]; omega
    have hn1 : n ≤ s.size := by omega
    have hn2 : (n : Int) ≤ (s.size : Int) := by omega
    have Hn := Aside0.mk hn
    generalize hc : bt s (n : Int) = c at *
    have HB := Aside0.mk hb
    clear hb hc
    by_cases h46 : c = 46
    · have h46b : (c != 46) = false := by simpa using h46
      rw [hn] at hs
      cases n with
      | zero =>
        have hnil : (s.extract 0 0).toList = [] := by rw [ByteArray.toList_eq]; exact List.eq_nil_of_length_eq_zero hsz
        have hnb2 : ((s.extract 0 0).toList == ([] : List UInt8)) = true := beq_iff_eq.mpr hnil
        clear hsz hnil
        subst h46
        go_enter Tryd.func51, Tryd.ntmps51
        go_wp2_with fail
        go_ret
        exact ⟨by rw [hF.out]; rfl, rfl⟩
      | succ n =>
        have hnb2 := toList_ne (s.extract 0 (n + 1)) (by omega)
        have hnb2' : (!((s.extract 0 (n + 1)).toList.isEmpty)) = true := by
          cases h : (s.extract 0 (n + 1)).toList with
          | nil => rw [h] at hnb2; cases hnb2
          | cons _ _ => rfl
        have hd := hle.out n
        rw [if_pos (by omega)] at hd
        have hx2 : ∀ h : n < (s.extract 0 (n + 1)).size, (((s.extract 0 (n + 1))[n]'h).toNat : Int) = bt s (n : Int) := fun h => by rw [← hd]; exact bt_at_nat _ n h
        clear hd
        have hb2 := Aside0.mk (fun j : Nat => show bt (s.extract 0 (n + 1)) (j : Int) < 128 by
          rw [hle.out j]
          split
          · exact HB.out j
          · decide)
        clear hle
        have hFF := hF.out
        rw [if_neg (by rw [h46]; decide), if_neg (by omega), Nat.add_sub_cancel] at hFF
        clear hF
        have hF := Aside0.mk hFF
        clear hFF
        subst h46
        have HL0 := li_ascii (s.extract 0 (n + 1)) w (by rw [hsz]; omega) hb2.out
        rw [hsz] at HL0
        have HL := Aside0.mk HL0
        clear HL0
        have Hbd := lastNB_bd (s.extract 0 (n + 1)) (n + 1)
        generalize lastNB (s.extract 0 (n + 1)) (n + 1) = z at *
        generalize bt s (n : Int) = d at *
        clear hb2 HB
        have hw : IntKind.i64.wrap ((n : Int) + 1 - z) = (n : Int) + 1 - z := IntWalk.i64_in _ (by omega)
        by_cases h92 : d = 92
        · have h92b : (d != 92) = false := by simpa using h92
          have hFF := hF.out
          rw [if_neg (by rw [h92]; decide)] at hFF
          clear hF h92
          have hF := Aside0.mk hFF
          clear hFF
          go_enter Tryd.func51, Tryd.ntmps51
          go_wp2_with (go_at_call 77; refine HL.out.mono ?_; rintro e w' ⟨rfl, rfl⟩)
          go_ret
          exact ⟨by rw [hF.out, Int.natCast_add]; rfl, rfl⟩
        · have h92b : (d != 92) = true := by simpa using h92
          have hf := Aside0.mk (hF.out.trans (if_pos h92))
          clear hF h92
          go_enter Tryd.func51, Tryd.ntmps51
          go_wp2_with fail
          go_ret
          exact ⟨by rw [hf.out]; rfl, rfl⟩
    · have h46b : (c != 46) = true := by simpa using h46
      have hf := Aside0.mk (hF.out.trans (if_pos h46))
      clear hF hle h46 Hn HB
      go_enter Tryd.func51, Tryd.ntmps51
      go_wp2
      go_ret
      exact ⟨by rw [hf.out]; rfl, rfl⟩

def dns_IsFqdn.f (a0 : ByteArray) : Option (Bool) := if a0.size ≤ 9223372036854775807 then (if (bytesOf a0).all (fun x => decide (x < 128)) = true then some (fqB a0) else none) else none
theorem dns_IsFqdn.calls (a0 : ByteArray) (r : Bool) (w : World) (h : dns_IsFqdn.f a0 = some r) :
    Calls Tryd.prog 51 #[.string a0] w fun e w' => e = .returned (.bool r) ∧ Drawn0 w w' := by
  unfold dns_IsFqdn.f at h
  split at h
  · split at h
    · obtain rfl := Option.some.inj h
      rename_i h1 h2
      rw [List.all_eq_true] at h2
      refine (isfqdn_any a0 w h1 (fun i => ?_)).mono ?_
      · by_cases hi : i < a0.size
        · have hl : i < (bytesOf a0).length := by rw [bytesOf_length]; exact hi
          have hb := rd_bytesOf a0 (i : Int)
          unfold rd at hb
          rw [Int.toNat_natCast, List.getD_eq_getElem?_getD, List.getElem?_eq_getElem hl, Option.getD_some] at hb
          rw [← hb]
          exact of_decide_eq_true (h2 _ (List.getElem_mem hl))
        · unfold bt
          rw [dif_neg (by rw [Int.toNat_natCast]; exact hi)]
          decide
      · rintro e w' ⟨rfl, rfl⟩
        exact ⟨rfl, Drawn0.refl _⟩
    · cases h
  · cases h

end Go.Proofs.YtiilihafcdmccaaDoor.P
-- Written by a program of this session (wip/tools/pprint.py) out of the translation: it goes by the kit's print and by the contracts of YtiilihafcdmccaaDoorHand. Not trusted: Lean checks it.
namespace Go.Proofs.YtiilihafcdmccaaDoor.P
open Go.RowKit Go.Proofs.YtiilihafcdmccaaDoorW.PrintWords Go.Proofs.YtiilihafcdmccaaDoorW.PrintLast Go.Proofs.YtiilihafcdmccaaDoorW.PrintMore
attribute [local go_sem] max2_int min2_int max_two min_two max_three min_three max_four min_four   -- for this text's walks alone
set_option linter.unusedVariables false
set_option linter.unusedSimpArgs false

/-! ### laws_ascii: function 20 -/
def laws_ascii.l0 : Nat → ByteArray → Int → Int → Option (Bool)
  | 0, _, _, _ => none
  | k + 1, x0, x5, x6 => if x6 < x5 then (if 0 ≤ x6 then (if x6 < (x0.size : Int) then (if (bt x0 x6) ≥ 128 then (some false) else (laws_ascii.l0 k x0 x5 (wrap64 (x6 + 1)))) else (none)) else (none)) else (some true)
def laws_ascii.f (k : Nat) (a0 : ByteArray) : Option (Bool) := laws_ascii.l0 k a0 (a0.size : Int) 0
theorem laws_ascii.mono_l : ∀ k, (∀ y0 y1 y2, LeO (laws_ascii.l0 k y0 y1 y2) (laws_ascii.l0 (k + 1) y0 y1 y2))
  | 0 => fun _ _ _ r h => by simp [laws_ascii.l0] at h
  | k + 1 => by
    have ih0 := laws_ascii.mono_l k
    · intro y0 y1 y2
      unfold laws_ascii.l0
      repeat' first
      | (with_reducible exact ih0 _ _ _)
      | (with_reducible exact LeO.refl _)
      | (with_reducible exact LeO.none _)
      | (with_reducible refine LeO.ite ?_ ?_)
      | (with_reducible refine LeO.bind ?_ (fun _ => ?_))
      | exact ih0 _ _ _
      | exact LeO.none _
      | refine LeO.ite ?_ ?_
      | refine LeO.bind ?_ (fun _ => ?_)
theorem laws_ascii.mono : ∀ a0 k, LeO (laws_ascii.f k a0) (laws_ascii.f (k + 1) a0) := by
  intro a0 k
  have ih0 := laws_ascii.mono_l k
  unfold laws_ascii.f
  repeat' first
      | (with_reducible exact ih0 _ _ _)
      | (with_reducible exact LeO.refl _)
      | (with_reducible exact LeO.none _)
      | (with_reducible refine LeO.ite ?_ ?_)
      | (with_reducible refine LeO.bind ?_ (fun _ => ?_))
      | exact ih0 _ _ _
      | exact LeO.none _
      | refine LeO.ite ?_ ?_
      | refine LeO.bind ?_ (fun _ => ?_)
set_option maxHeartbeats 8000000 in
set_option maxRecDepth 100000 in
theorem laws_ascii.calls (k : Nat) (a0 : ByteArray) (r : Bool) (w : World) (h : laws_ascii.f k a0 = some r) :
    Calls Tryd.prog 20 #[.string a0] w fun e w' => e = .returned (.bool r) ∧ Drawn0 w w' := by
  have H : (laws_ascii.l0 k a0 (a0.size : Int) 0) = some r := h
  clear h
  have H' := Aside0.mk H
  clear H
  go_enter Tryd.func20, Tryd.ntmps20
  go_wp2
  go_loopg [6] k (fun kq v6 w' => ∃ (x6_1 : Int), v6 = .int .i64 x6_1 ∧ Aside0 (laws_ascii.l0 kq a0 (a0.size : Int) x6_1 = some r) ∧ Aside0 (kq ≤ k) ∧ Drawn0 w w')
  case atStart => exact ⟨(0), (by first | rfl | (simp; done) | (simp [*]; done) | (simp [wrap64]; done)), H', ⟨Nat.le_refl _⟩, by repeat (first | exact Drawn0.refl _ | apply Drawn0.step)⟩
  case round =>
    clear H'
    obtain ⟨x6_1, rfl, HA, HK1, ⟨m1, rfl⟩⟩ := hrel
    cases gk with
    | zero => exact absurd HA.out (by simp [laws_ascii.l0])
    | succ k1 =>
      have H := HA.out
      clear HA
      simp only [laws_ascii.l0] at H
      by_cases c2 : x6_1 < (a0.size : Int)
      · rw [if_pos c2] at H
        have c2b0 : decide (x6_1 < (a0.size : Int)) = true := decide_eq_true c2
        clear c2
        by_cases c3 : 0 ≤ x6_1
        · rw [if_pos c3] at H
          have c3b0 : decide (0 ≤ x6_1) = true := decide_eq_true c3
          clear c3
          by_cases c4 : x6_1 < (a0.size : Int)
          · rw [if_pos c4] at H
            have c4b0 : decide (x6_1 < (a0.size : Int)) = true := decide_eq_true c4
            clear c4
            by_cases c6 : (bt a0 x6_1) ≥ 128
            · rw [if_pos c6] at H
              have c6b0 : decide (128 ≤ (bt a0 x6_1)) = true := decide_eq_true c6
              clear c6
              obtain rfl := Option.some.inj H
              have p5 : 0 ≤ (x6_1 : Int) := of_decide_eq_true (by first | (with_reducible assumption) | assumption)
              have q5 : x6_1 < (a0.size : Int) := of_decide_eq_true (by first | (with_reducible assumption) | assumption)
              have hx5 := bt_at a0 x6_1
              replace p5 := eq_true p5
              replace q5 := eq_true q5
              go_wp2
              go_ret
              exact ⟨by first | rfl | (simp; done) | (simp [*]; done) | (simp [wrap64]; done), by repeat (first | exact Drawn0.refl _ | apply Drawn0.step)⟩
            · rw [if_neg c6] at H
              have c6b0 : decide (128 ≤ (bt a0 x6_1)) = false := decide_eq_false c6
              clear c6
              have H' := Aside0.mk H
              clear H
              have p5 : 0 ≤ (x6_1 : Int) := of_decide_eq_true (by first | (with_reducible assumption) | assumption)
              have q5 : x6_1 < (a0.size : Int) := of_decide_eq_true (by first | (with_reducible assumption) | assumption)
              have hx5 := bt_at a0 x6_1
              replace p5 := eq_true p5
              replace q5 := eq_true q5
              go_wp2
              go_roundg k1
              case measure => have := HK1.out; omega
              case rel => exact ⟨(wrap64 (x6_1 + 1)), (by first | rfl | (simp; done) | (simp [*]; done) | (simp [wrap64]; done)), H', ⟨by have := HK1.out; omega⟩, by repeat (first | exact Drawn0.refl _ | apply Drawn0.step)⟩
          · rw [if_neg c4] at H
            exact absurd H (by simp)
        · rw [if_neg c3] at H
          exact absurd H (by simp)
      · rw [if_neg c2] at H
        have c2b0 : decide (x6_1 < (a0.size : Int)) = false := decide_eq_false c2
        clear c2
        obtain rfl := Option.some.inj H
        go_wp2
        go_ret
        exact ⟨by first | rfl | (simp; done) | (simp [*]; done) | (simp [wrap64]; done), by repeat (first | exact Drawn0.refl _ | apply Drawn0.step)⟩

end Go.Proofs.YtiilihafcdmccaaDoor.P
-- Written by a program of this session (wip/tools/pprint.py) out of the translation: it goes by the kit's print and by the contracts of YtiilihafcdmccaaDoorHand. Not trusted: Lean checks it.
namespace Go.Proofs.YtiilihafcdmccaaDoor.P
open Go.RowKit Go.Proofs.YtiilihafcdmccaaDoorW.PrintWords Go.Proofs.YtiilihafcdmccaaDoorW.PrintLast Go.Proofs.YtiilihafcdmccaaDoorW.PrintMore
attribute [local go_sem] max2_int min2_int max_two min_two max_three min_three max_four min_four   -- for this text's walks alone
set_option linter.unusedVariables false
set_option linter.unusedSimpArgs false

/-! ### laws_few: function 19 -/
def laws_few.f (a0 : ByteArray) : Option (Bool) := some (decide ((a0.size : Int) ≤ 4096))
set_option maxHeartbeats 8000000 in
set_option maxRecDepth 100000 in
theorem laws_few.calls (a0 : ByteArray) (r : Bool) (w : World) (h : laws_few.f a0 = some r) :
    Calls Tryd.prog 19 #[.string a0] w fun e w' => e = .returned (.bool r) ∧ Drawn0 w w' := by
  have H : (some (decide ((a0.size : Int) ≤ 4096))) = some r := h
  clear h
  obtain rfl := Option.some.inj H
  go_enter Tryd.func19, Tryd.ntmps19
  go_wp2
  go_ret
  exact ⟨by first | rfl | (simp; done) | (simp [*]; done) | (simp [wrap64]; done), by repeat (first | exact Drawn0.refl _ | apply Drawn0.step)⟩

end Go.Proofs.YtiilihafcdmccaaDoor.P
-- Written by a program of this session (wip/tools/pprint.py) out of the translation: it goes by the kit's print and by the contracts of YtiilihafcdmccaaDoorHand. Not trusted: Lean checks it.
namespace Go.Proofs.YtiilihafcdmccaaDoor.P
open Go.RowKit Go.Proofs.YtiilihafcdmccaaDoorW.PrintWords Go.Proofs.YtiilihafcdmccaaDoorW.PrintLast Go.Proofs.YtiilihafcdmccaaDoorW.PrintMore
attribute [local go_sem] max2_int min2_int max_two min_two max_three min_three max_four min_four   -- for this text's walks alone
set_option linter.unusedVariables false
set_option linter.unusedSimpArgs false

/-! ### spec_Name_Equal: function 18 -/
def spec_Name_Equal.l0 : Nat → List ByteArray → List ByteArray → Int → Int → Option (Bool)
  | 0, _, _, _, _ => none
  | k + 1, x0, x1, x12, x13 => if x13 < x12 then (if 0 ≤ x13 then (if x13 < (x0.length : Int) then (if x13 < (x1.length : Int) then (if (rdOf ByteArray.empty x0 x13).toList = (rdOf ByteArray.empty x1 x13).toList then (spec_Name_Equal.l0 k x0 x1 x12 (wrap64 (x13 + 1))) else (some false)) else (none)) else (none)) else (none)) else (some true)
def spec_Name_Equal.f (k : Nat) (l0 : List ByteArray) (l1 : List ByteArray) : Option (Bool) := if (l0.length : Int) = (l1.length : Int) then (spec_Name_Equal.l0 k l0 l1 (l0.length : Int) 0) else (some false)
theorem spec_Name_Equal.mono_l : ∀ k, (∀ y0 y1 y2 y3, LeO (spec_Name_Equal.l0 k y0 y1 y2 y3) (spec_Name_Equal.l0 (k + 1) y0 y1 y2 y3))
  | 0 => fun _ _ _ _ r h => by simp [spec_Name_Equal.l0] at h
  | k + 1 => by
    have ih0 := spec_Name_Equal.mono_l k
    · intro y0 y1 y2 y3
      unfold spec_Name_Equal.l0
      repeat' first
      | (with_reducible exact ih0 _ _ _ _)
      | (with_reducible exact LeO.refl _)
      | (with_reducible exact LeO.none _)
      | (with_reducible refine LeO.ite ?_ ?_)
      | (with_reducible refine LeO.bind ?_ (fun _ => ?_))
      | exact ih0 _ _ _ _
      | exact LeO.none _
      | refine LeO.ite ?_ ?_
      | refine LeO.bind ?_ (fun _ => ?_)
theorem spec_Name_Equal.mono : ∀ a0 a1 k, LeO (spec_Name_Equal.f k a0 a1) (spec_Name_Equal.f (k + 1) a0 a1) := by
  intro a0 a1 k
  have ih0 := spec_Name_Equal.mono_l k
  unfold spec_Name_Equal.f
  repeat' first
      | (with_reducible exact ih0 _ _ _ _)
      | (with_reducible exact LeO.refl _)
      | (with_reducible exact LeO.none _)
      | (with_reducible refine LeO.ite ?_ ?_)
      | (with_reducible refine LeO.bind ?_ (fun _ => ?_))
      | exact ih0 _ _ _ _
      | exact LeO.none _
      | refine LeO.ite ?_ ?_
      | refine LeO.bind ?_ (fun _ => ?_)
set_option maxHeartbeats 8000000 in
set_option maxRecDepth 100000 in
theorem spec_Name_Equal.calls (k : Nat) (A0 : Option Addr) (c0 : Nat) (l0 : List ByteArray) (A1 : Option Addr) (c1 : Nat) (l1 : List ByteArray) (r : Bool) (w : World) (hr0 : Kd.C Kd.string w A0 l0.length l0) (hc0 : l0.length ≤ c0) (hr1 : Kd.C Kd.string w A1 l1.length l1) (hc1 : l1.length ≤ c1) (h : spec_Name_Equal.f k l0 l1 = some r) :
    Calls Tryd.prog 18 #[.slice A0 l0.length c0, .slice A1 l1.length c1] w fun e w' => e = .returned (.bool r) ∧ Drawn0 w w' := by
  have HR0 := Aside0.mk hr0
  have HC0 := Aside0.mk hc0
  clear hr0 hc0
  have HR1 := Aside0.mk hr1
  have HC1 := Aside0.mk hc1
  clear hr1 hc1
  have H : (if (l0.length : Int) = (l1.length : Int) then (spec_Name_Equal.l0 k l0 l1 (l0.length : Int) 0) else (some false)) = some r := h
  clear h
  by_cases c3 : (l0.length : Int) = (l1.length : Int)
  · rw [if_pos c3] at H
    have c3b0 : ((l0.length : Int) == (l1.length : Int)) = true := beq_iff_eq.mpr c3
    have c3b1 : ((l0.length : Int) != (l1.length : Int)) = false := bne_eq_false_iff_eq.mpr c3
    have c3b2 : (l0.length == l1.length) = true := by first | simpa using c3 | (simp at c3 ⊢; omega)
    clear c3
    have H' := Aside0.mk H
    clear H
    go_enter Tryd.func18, Tryd.ntmps18
    go_wp2
    repeat (go_quiet (fail); try go_wp2)
    go_loopg [13] k (fun kq v13 w' => ∃ (x13_1 : Int), v13 = .int .i64 x13_1 ∧ Aside0 (spec_Name_Equal.l0 kq l0 l1 (l0.length : Int) x13_1 = some r) ∧ Aside0 (kq ≤ k) ∧ Drawn0 w w')
    case atStart => exact ⟨(0), (by first | rfl | (simp; done) | (simp [*]; done) | (simp [wrap64]; done)), H', ⟨Nat.le_refl _⟩, by repeat (first | exact Drawn0.refl _ | apply Drawn0.step)⟩
    case round =>
      clear H'
      try clear c1
      try clear p2
      try clear c3
      try clear c3b0
      try clear c3b1
      try clear c3b2
      obtain ⟨x13_1, rfl, HA, HK1, ⟨m1, rfl⟩⟩ := hrel
      cases gk with
      | zero => exact absurd HA.out (by simp [spec_Name_Equal.l0])
      | succ k1 =>
        have H := HA.out
        clear HA
        simp only [spec_Name_Equal.l0] at H
        by_cases c4 : x13_1 < (l0.length : Int)
        · rw [if_pos c4] at H
          have c4b0 : decide (x13_1 < (l0.length : Int)) = true := decide_eq_true c4
          clear c4
          by_cases c5 : 0 ≤ x13_1
          · rw [if_pos c5] at H
            have c5b0 : decide (0 ≤ x13_1) = true := decide_eq_true c5
            clear c5
            by_cases c6 : x13_1 < (l0.length : Int)
            · rw [if_pos c6] at H
              have c6b0 : decide (x13_1 < (l0.length : Int)) = true := decide_eq_true c6
              clear c6
              by_cases c7 : x13_1 < (l1.length : Int)
              · rw [if_pos c7] at H
                have c7b0 : decide (x13_1 < (l1.length : Int)) = true := decide_eq_true c7
                clear c7
                by_cases c8 : (rdOf ByteArray.empty l0 x13_1).toList = (rdOf ByteArray.empty l1 x13_1).toList
                · rw [if_pos c8] at H
                  have c8b0 : ((rdOf ByteArray.empty l0 x13_1).toList == (rdOf ByteArray.empty l1 x13_1).toList) = true := beq_iff_eq.mpr c8
                  have c8b1 : ((rdOf ByteArray.empty l0 x13_1).toList != (rdOf ByteArray.empty l1 x13_1).toList) = false := bne_eq_false_iff_eq.mpr c8
                  clear c8
                  have H' := Aside0.mk H
                  clear H
                  have p122 : 0 ≤ (x13_1 : Int) := of_decide_eq_true (by first | (with_reducible assumption) | assumption)
                  have q122 : x13_1 < (l0.length : Int) := of_decide_eq_true (by first | (with_reducible assumption) | assumption)
                  obtain ⟨ad122, e122, hx122_0⟩ := Kd.at_string HR0.out x13_1 p122 q122
                  cases e122
                  replace p122 := eq_true p122
                  replace q122 := eq_true q122
                  have p123 : 0 ≤ (x13_1 : Int) := of_decide_eq_true (by first | (with_reducible assumption) | assumption)
                  have q123 : x13_1 < (l1.length : Int) := of_decide_eq_true (by first | (with_reducible assumption) | assumption)
                  obtain ⟨ad123, e123, hx123_0⟩ := Kd.at_string HR1.out x13_1 p123 q123
                  cases e123
                  replace p123 := eq_true p123
                  replace q123 := eq_true q123
                  go_wp2
                  repeat (go_quiet (fail); try go_wp2)
                  go_roundg k1
                  case measure => have := HK1.out; omega
                  case rel => exact ⟨(wrap64 (x13_1 + 1)), (by first | rfl | (simp; done) | (simp [*]; done) | (simp [wrap64]; done)), H', ⟨by have := HK1.out; omega⟩, by repeat (first | exact Drawn0.refl _ | apply Drawn0.step)⟩
                · rw [if_neg c8] at H
                  have c8b0 : ((rdOf ByteArray.empty l0 x13_1).toList == (rdOf ByteArray.empty l1 x13_1).toList) = false := beq_eq_false_iff_ne.mpr c8
                  have c8b1 : ((rdOf ByteArray.empty l0 x13_1).toList != (rdOf ByteArray.empty l1 x13_1).toList) = true := bne_iff_ne.mpr c8
                  obtain rfl := Option.some.inj H
                  have p122 : 0 ≤ (x13_1 : Int) := of_decide_eq_true (by first | (with_reducible assumption) | assumption)
                  have q122 : x13_1 < (l0.length : Int) := of_decide_eq_true (by first | (with_reducible assumption) | assumption)
                  obtain ⟨ad122, e122, hx122_0⟩ := Kd.at_string HR0.out x13_1 p122 q122
                  cases e122
                  replace p122 := eq_true p122
                  replace q122 := eq_true q122
                  have p123 : 0 ≤ (x13_1 : Int) := of_decide_eq_true (by first | (with_reducible assumption) | assumption)
                  have q123 : x13_1 < (l1.length : Int) := of_decide_eq_true (by first | (with_reducible assumption) | assumption)
                  obtain ⟨ad123, e123, hx123_0⟩ := Kd.at_string HR1.out x13_1 p123 q123
                  cases e123
                  replace p123 := eq_true p123
                  replace q123 := eq_true q123
                  go_wp2
                  repeat (go_quiet (fail); try go_wp2)
                  go_ret
                  exact ⟨by first | rfl | (simp; done) | (simp [*]; done) | (simp [wrap64]; done), by repeat (first | exact Drawn0.refl _ | apply Drawn0.step)⟩
              · rw [if_neg c7] at H
                exact absurd H (by simp)
            · rw [if_neg c6] at H
              exact absurd H (by simp)
          · rw [if_neg c5] at H
            exact absurd H (by simp)
        · rw [if_neg c4] at H
          have c4b0 : decide (x13_1 < (l0.length : Int)) = false := decide_eq_false c4
          clear c4
          obtain rfl := Option.some.inj H
          go_wp2
          repeat (go_quiet (fail); try go_wp2)
          go_ret
          exact ⟨by first | rfl | (simp; done) | (simp [*]; done) | (simp [wrap64]; done), by repeat (first | exact Drawn0.refl _ | apply Drawn0.step)⟩
  · rw [if_neg c3] at H
    have c3b0 : ((l0.length : Int) == (l1.length : Int)) = false := beq_eq_false_iff_ne.mpr c3
    have c3b1 : ((l0.length : Int) != (l1.length : Int)) = true := bne_iff_ne.mpr c3
    have c3b2 : (l0.length == l1.length) = false := by first | simpa using c3 | (simp at c3 ⊢; omega)
    obtain rfl := Option.some.inj H
    go_enter Tryd.func18, Tryd.ntmps18
    go_wp2
    repeat (go_quiet (fail); try go_wp2)
    go_ret
    exact ⟨by first | rfl | (simp; done) | (simp [*]; done) | (simp [wrap64]; done), by repeat (first | exact Drawn0.refl _ | apply Drawn0.step)⟩

end Go.Proofs.YtiilihafcdmccaaDoor.P
-- Written by a program of this session (wip/tools/pprint.py) out of the translation: it goes by the kit's print and by the contracts of YtiilihafcdmccaaDoorHand. Not trusted: Lean checks it.
namespace Go.Proofs.YtiilihafcdmccaaDoor.P
open Go.RowKit Go.Proofs.YtiilihafcdmccaaDoorW.PrintWords Go.Proofs.YtiilihafcdmccaaDoorW.PrintLast Go.Proofs.YtiilihafcdmccaaDoorW.PrintMore
attribute [local go_sem] max2_int min2_int max_two min_two max_three min_three max_four min_four   -- for this text's walks alone
set_option linter.unusedVariables false
set_option linter.unusedSimpArgs false

/-! ### dns_Fqdn: function 50 -/
def dns_Fqdn.f (a0 : ByteArray) : Option (ByteArray) := (dns_IsFqdn.f a0).bind fun t125 => (if t125 = true then (some a0) else (if a0.size + 1 ≤ 9223372036854775807 then (some (a0 ++ (⟨#[46]⟩ : ByteArray))) else (none)))
set_option maxHeartbeats 8000000 in
set_option maxRecDepth 100000 in
theorem dns_Fqdn.calls (a0 : ByteArray) (r : ByteArray) (w : World) (h : dns_Fqdn.f a0 = some r) :
    Calls Tryd.prog 50 #[.string a0] w fun e w' => e = .returned (.string r) ∧ Drawn0 w w' := by
  have H : ((dns_IsFqdn.f a0).bind fun t125 => (if t125 = true then (some a0) else (if a0.size + 1 ≤ 9223372036854775807 then (some (a0 ++ (⟨#[46]⟩ : ByteArray))) else (none)))) = some r := h
  clear h
  replace H := Option.bind_eq_some_iff.mp H
  obtain ⟨t125, A20, H⟩ := H
  replace H : (if t125 = true then (some a0) else (if a0.size + 1 ≤ 9223372036854775807 then (some (a0 ++ (⟨#[46]⟩ : ByteArray))) else (none))) = some r := H
  have A2 := Aside0.mk A20
  clear A20
  by_cases c3 : t125 = true
  · subst c3
    have H1 : (some a0) = some r := by rw [if_pos rfl] at H; exact H
    clear H
    have H := H1
    clear H1
    obtain rfl := Option.some.inj H
    go_enter Tryd.func50, Tryd.ntmps50
    go_wp2_with (first | ((with_reducible refine gate_callee (f := 51) rfl ?_); refine goesL_ (some 4) rfl rfl Tryd.func51 (by kernel_rfl) rfl #[.string a0] rfl (by (try simp only [List.map_toArray, List.map_cons, List.map_nil]); first | done | rfl | (simp only [List.length_drop, List.length_take]; rfl)) ?_; (with_reducible refine (dns_IsFqdn.calls a0 true _ A2.out).mono ?_); rintro e w' ⟨rfl, ⟨nd, rfl⟩⟩; refine ⟨_, rfl, ?_⟩))
    go_ret
    exact ⟨by first | rfl | (simp; done) | (simp [*]; done) | (simp [wrap64]; done), by repeat (first | exact Drawn0.refl _ | apply Drawn0.step)⟩
  · replace c3 := Bool.eq_false_iff.mpr c3
    subst c3
    have H1 : (if a0.size + 1 ≤ 9223372036854775807 then (some (a0 ++ (⟨#[46]⟩ : ByteArray))) else (none)) = some r := by rw [if_neg (show ¬ (false = true) by decide)] at H; exact H
    clear H
    have H := H1
    clear H1
    by_cases c4 : a0.size + 1 ≤ 9223372036854775807
    · rw [if_pos c4] at H
      have c4b0 := eq_true c4
      have c4b1 : decide (a0.size + 1 ≤ 9223372036854775807) = true := decide_eq_true c4
      try have c4b2 : (9223372036854775807 < a0.size + 1) = False := eq_false (Nat.not_lt.2 c4)
      obtain rfl := Option.some.inj H
      go_enter Tryd.func50, Tryd.ntmps50
      go_wp2_with (first | ((with_reducible refine gate_callee (f := 51) rfl ?_); refine goesL_ (some 4) rfl rfl Tryd.func51 (by kernel_rfl) rfl #[.string a0] rfl (by (try simp only [List.map_toArray, List.map_cons, List.map_nil]); first | done | rfl | (simp only [List.length_drop, List.length_take]; rfl)) ?_; (with_reducible refine (dns_IsFqdn.calls a0 false _ A2.out).mono ?_); rintro e w' ⟨rfl, ⟨nd, rfl⟩⟩; refine ⟨_, rfl, ?_⟩))
      go_ret
      exact ⟨by first | rfl | (simp; done) | (simp [*]; done) | (simp [wrap64]; done), by repeat (first | exact Drawn0.refl _ | apply Drawn0.step)⟩
    · rw [if_neg c4] at H
      exact absurd H (by simp)

end Go.Proofs.YtiilihafcdmccaaDoor.P
/- Guards of the statements ('laws.few', 'laws.ascii'), 'spec.Name.Equal', and 'dns.IsFqdn' in the words of Core. -/
namespace Go.Proofs.YtiilihafcdmccaaDoor.P
open Go.RowKit Go.Proofs.YtiilihafcdmccaaDoorW.PrintWords
set_option linter.unusedVariables false
set_option linter.unusedSimpArgs false

theorem few_f (s : ByteArray) : laws_few.f s = some (decide (s.size ≤ 4096)) := by
  unfold laws_few.f
  congr 1
  exact decide_eq_decide.2 (by omega)
/-! ### guards -/
theorem ascii_from {s : ByteArray} (hs : s.size ≤ 140737488351232) (d : Nat) : ∀ (i : Nat), i + d = s.size → Ev (fun k => laws_ascii.l0 k s (s.size : Nat) (i : Nat)) (((bytesOf s).drop i).all fun x => decide (x < 128)) := by
  have hl := bytesOf_length s
  induction d with
  | zero =>
    intro i hi
    refine ⟨1, fun k hk => ?_⟩
    obtain ⟨m, rfl⟩ : ∃ m, k = m + 1 := ⟨k - 1, by omega⟩
    simp only [laws_ascii.l0]
    rw [if_neg (by omega), List.drop_of_length_le (by omega)]
    simp
  | succ d ih =>
    intro i hi
    have hlt : i < (bytesOf s).length := by omega
    have hb := bt_nat s i
    rw [List.getD_eq_getElem?_getD, List.getElem?_eq_getElem hlt, Option.getD_some] at hb
    rw [List.drop_eq_getElem_cons hlt]
    by_cases h : (bytesOf s)[i] ≥ 128
    · refine ⟨1, fun k hk => ?_⟩
      obtain ⟨m, rfl⟩ : ∃ m, k = m + 1 := ⟨k - 1, by omega⟩
      simp only [laws_ascii.l0]
      rw [if_pos (by omega), if_pos (by omega), if_pos (by omega), hb, if_pos h, List.all_cons, decide_eq_false (by omega)]
      rfl
    · rw [List.all_cons, decide_eq_true (by omega), Bool.true_and]
      refine Ev.step (fun k => ?_) (ih (i + 1) (by omega))
      simp only [laws_ascii.l0]
      rw [if_pos (by omega), if_pos (by omega), if_pos (by omega), hb, if_neg h, w64 (by omega) (by omega)]
      rfl
theorem ascii_ev {s : ByteArray} (hs : s.size ≤ 140737488351232) : Ev (fun k => laws_ascii.f k s) ((bytesOf s).all fun x => decide (x < 128)) := ascii_from hs s.size 0 (by omega)

def isAscii (l : List Int) : Bool := l.all fun x => decide (x < 128)
theorem isAscii_append (a b : List Int) : isAscii (a ++ b) = (isAscii a && isAscii b) := by simp [isAscii]

theorem Labs.snoc_inv {r : List Int} : ∀ {rs : List (List Int)} {ls : List (List Int)}, Labs (rs ++ [r]) ls → ∃ li l, ls = li ++ [l] ∧ Labs rs li ∧ Lab r l ∧ l ≠ []
  | [], _, .cons h1 h2 h3 => by cases h3; exact ⟨[], _, rfl, .nil, h1, h2⟩
  | x :: rs, _, .cons h1 h2 h3 => by
    obtain ⟨li, l, rfl, h4, h5, h6⟩ := Labs.snoc_inv (rs := rs) h3
    exact ⟨_ :: li, l, rfl, .cons h1 h2 h4, h5, h6⟩
theorem dotB : bytesOf (⟨#[46]⟩ : ByteArray) = [46] := rfl

/-! ### Equal -/
theorem neq_from (A B : List (List Int)) (hA : ∀ l ∈ A, IsB l) (hB : ∀ l ∈ B, IsB l) (hl : A.length = B.length) (hn : A.length ≤ 140737488351232) (d : Nat) : ∀ (i : Nat), i + d = A.length →
    Ev (fun k => spec_Name_Equal.l0 k (A.map strOfNums) (B.map strOfNums) (A.length : Nat) (i : Nat)) (decide (A.drop i = B.drop i)) := by
  induction d with
  | zero =>
    intro i hi
    refine ⟨1, fun k hk => ?_⟩
    obtain ⟨m, rfl⟩ : ∃ m, k = m + 1 := ⟨k - 1, by omega⟩
    simp only [spec_Name_Equal.l0]
    rw [if_neg (by omega), List.drop_of_length_le (by omega), List.drop_of_length_le (by omega)]
    simp
  | succ d ih =>
    intro i hi
    have hlt : i < A.length := by omega
    have hlt' : i < B.length := by omega
    have e1 : decide (A.drop i = B.drop i) = (decide (A[i] = B[i]) && decide (A.drop (i + 1) = B.drop (i + 1))) := by
      rw [← Bool.decide_and]
      apply decide_eq_decide.2
      rw [List.drop_eq_getElem_cons hlt, List.drop_eq_getElem_cons hlt', List.cons.injEq]
    rw [e1]
    by_cases h : A[i] = B[i]
    · rw [decide_eq_true h, Bool.true_and]
      refine Ev.step (fun k => ?_) (ih (i + 1) (by omega))
      simp only [spec_Name_Equal.l0]
      rw [if_pos (by omega), if_pos (by omega), if_pos (by rw [List.length_map]; omega), if_pos (by rw [List.length_map]; omega), rdOf_map A i hlt, rdOf_map B i hlt', if_pos (by rw [h]), w64 (by omega) (by omega)]
      rfl
    · rw [decide_eq_false h, Bool.false_and]
      refine ⟨1, fun k hk => ?_⟩
      obtain ⟨m, rfl⟩ : ∃ m, k = m + 1 := ⟨k - 1, by omega⟩
      simp only [spec_Name_Equal.l0]
      rw [if_pos (by omega), if_pos (by omega), if_pos (by rw [List.length_map]; omega), if_pos (by rw [List.length_map]; omega), rdOf_map A i hlt, rdOf_map B i hlt', if_neg]
      rw [toList_inj]
      exact fun e => h (strOfNums_inj (hA _ (List.getElem_mem _)) (hB _ (List.getElem_mem _)) e)
theorem neq_ev (A B : List (List Int)) (hA : ∀ l ∈ A, IsB l) (hB : ∀ l ∈ B, IsB l) (hn : A.length ≤ 140737488351232) :
    Ev (fun k => spec_Name_Equal.f k (A.map strOfNums) (B.map strOfNums)) (decide (A = B)) := by
  by_cases hl : A.length = B.length
  · have h := neq_from A B hA hB hl hn A.length 0 (by omega)
    refine Ev.congr (fun k => ?_) h
    unfold spec_Name_Equal.f
    rw [List.length_map, List.length_map, if_pos (by omega)]
    rfl
  · rw [decide_eq_false (fun e => hl (by rw [e]))]
    refine ⟨0, fun k _ => ?_⟩
    show spec_Name_Equal.f k _ _ = _
    unfold spec_Name_Equal.f
    rw [List.length_map, List.length_map, if_neg (by omega)]

/-! ### IsFqdn -/
theorem trail_take_succ' (l : List Int) (j : Nat) (h : j < l.length) : trail (l.take (j + 1)) = if l.getD j 0 = 92 then trail (l.take j) + 1 else 0 := by
  rw [List.take_succ_eq_append_getElem h, trail_snoc, List.getD_eq_getElem?_getD, List.getElem?_eq_getElem h, Option.getD_some]
theorem lastNB_eq (s : ByteArray) : ∀ i : Nat, i ≤ s.size → lastNB s i = (i : Int) - 1 - (trail ((bytesOf s).take i) : Int)
  | 0, _ => by rw [List.take_zero, trail_nil]; rfl
  | i + 1, h => by
    have hl := bytesOf_length s
    rw [trail_take_succ' _ i (by omega)]
    unfold lastNB
    rw [bt_nat s i]
    have := lastNB_eq s i (by omega)
    split <;> omega
instance (l : List Int) (j : Nat) : Decidable (cutL l j) := by unfold cutL; infer_instance
theorem fqB_eq (s : ByteArray) (h : s.size ≠ 0) : fqB s = decide (cutL (bytesOf s) (s.size - 1)) := by
  have hl := bytesOf_length s
  unfold fqB
  rw [if_neg h, bt_nat s (s.size - 1)]
  by_cases h46 : (bytesOf s).getD (s.size - 1) 0 = 46
  · rw [if_neg (by simpa using h46)]
    have e1 : bytesOf (s.extract 0 (s.size - 1)) = (bytesOf s).take (s.size - 1) := by rw [bytesOf_extract, List.drop_zero]
    have e2 := lastNB_eq (s.extract 0 (s.size - 1)) (s.size - 1) (by rw [ByteArray.size_extract]; omega)
    rw [e1, List.take_take, Nat.min_self] at e2
    by_cases h1 : s.size = 1
    · rw [if_pos h1]
      refine (decide_eq_true ⟨h46, ?_⟩).symm
      rw [h1]; rfl
    · rw [if_neg h1]
      have ht := trail_take_succ' (bytesOf s) (s.size - 2) (by omega)
      rw [show s.size - 2 + 1 = s.size - 1 by omega] at ht
      rw [bt_nat s (s.size - 2)]
      by_cases h92 : (bytesOf s).getD (s.size - 2) 0 = 92
      · rw [if_neg (by simpa using h92), e2]
        by_cases he : trail ((bytesOf s).take (s.size - 1)) % 2 = 0
        · rw [decide_eq_true ⟨h46, he⟩, bne_iff_ne]
          omega
        · rw [decide_eq_false (fun h => he h.2), bne_eq_false_iff_eq]
          omega
      · rw [if_pos h92]
        refine (decide_eq_true ⟨h46, ?_⟩).symm
        rw [ht, if_neg h92]
  · rw [if_pos h46]
    exact (decide_eq_false (fun h => h46 h.1)).symm
theorem fq_whole {s : ByteArray} {pre : List Int} (e : bytesOf s = pre ++ [46]) (he : trail pre % 2 = 0) : fqB s = true := by
  have hl := bytesOf_length s
  rw [e, List.length_append] at hl
  simp at hl
  rw [fqB_eq s (by omega), e, show s.size - 1 = pre.length by omega]
  exact decide_eq_true (dot_cut he)
theorem fq_rest {s : ByteArray} {pre r l : List Int} (e : bytesOf s = pre ++ r) (he : trail pre % 2 = 0) (h : Lab r l) (hr : r ≠ []) : fqB s = false := by
  have hl := bytesOf_length s
  have hp : 0 < r.length := List.length_pos_iff.2 hr
  rw [e, List.length_append] at hl
  rw [fqB_eq s (by omega), e]
  have := lab_cut h pre [] he (r.length - 1) (by omega)
  rw [List.append_nil, show pre.length + (r.length - 1) = s.size - 1 by omega] at this
  exact decide_eq_false this
theorem fq_f {s : ByteArray} (h : isAscii (bytesOf s) = true) (hs : s.size ≤ 140737488351232) : dns_IsFqdn.f s = some (fqB s) := by
  unfold dns_IsFqdn.f
  unfold isAscii at h
  rw [if_pos (by omega), if_pos h]

theorem fqdn_f {s : ByteArray} (h : isAscii (bytesOf s) = true) (hs : s.size ≤ 1000000) : ∃ f, dns_Fqdn.f s = some f ∧ bytesOf f = bytesOf s ++ (if fqB s = true then [] else [46]) := by
  unfold dns_Fqdn.f
  rw [fq_f h (by omega)]
  cases fqB s with
  | true => exact ⟨s, rfl, by simp⟩
  | false =>
    refine ⟨s ++ (⟨#[46]⟩ : ByteArray), ?_, ?_⟩
    · simp only [Option.bind_some, Bool.false_eq_true, if_false]
      rw [if_pos (by omega)]
    · rw [bytesOf_append, dotB]
      rfl
theorem namesOf_labs {rs ls : List (List Int)} {r l : List Int} (h1 : Labs rs ls) (h2 : Lab r l) : Labs (namesOf rs r) (namesOf ls l) := by
  unfold namesOf
  by_cases hl : l = []
  · rw [if_pos hl, if_pos (h2.nil_iff.2 hl)]
    exact h1
  · rw [if_neg hl, if_neg (fun h => hl (h2.nil_iff.1 h))]
    exact h1.snoc h2 hl
theorem fq_dec {s : ByteArray} {rs ls : List (List Int)} {r l : List Int} (h1 : Labs rs ls) (h2 : Lab r l) (e : bytesOf s = joinD rs ++ r) (h0 : bytesOf s ≠ []) : fqB s = decide (l = []) := by
  have hev : trail (joinD rs) % 2 = 0 := by have := join_even h1 [] rfl; simpa using this
  by_cases hl : l = []
  · subst hl
    obtain rfl := h2.nil_iff.2 rfl
    rw [decide_eq_true rfl]
    rw [List.append_nil] at e
    rcases List.eq_nil_or_concat rs with h0' | ⟨ri, rl, h0'⟩
    · subst h0'
      exact absurd e h0
    · rw [List.concat_eq_append] at h0'
      subst h0'
      rw [joinD_snoc, ← List.append_assoc] at e
      rcases Labs.snoc_inv h1 with ⟨li, ll, _, hi, hl, _⟩
      have he0 := join_even hi [] rfl
      rw [List.nil_append] at he0
      exact fq_whole e (lab_even hl _ he0)
  · rw [decide_eq_false hl]
    exact fq_rest e hev h2 (fun h => hl (h2.nil_iff.1 h))
/-- A text that is a list of labels (and a rest of one), made whole. -/
theorem fqdn_text {s : ByteArray} {rs ls : List (List Int)} {r l : List Int} (hA : isAscii (bytesOf s) = true) (hs : s.size ≤ 1000000) (h1 : Labs rs ls) (h2 : Lab r l) (e : bytesOf s = joinD rs ++ r) (h0 : bytesOf s ≠ []) :
    ∃ f, dns_Fqdn.f s = some f ∧ bytesOf f = joinD (namesOf rs r) := by
  obtain ⟨f, hf, ef⟩ := fqdn_f hA hs
  refine ⟨f, hf, ?_⟩
  rw [ef, fq_dec h1 h2 e h0, e]
  unfold namesOf
  by_cases hl : l = []
  · subst hl
    obtain rfl := h2.nil_iff.2 rfl
    simp
  · rw [decide_eq_false hl, if_neg (fun h => hl (h2.nil_iff.1 h)), joinD_snoc]
    simp

end Go.Proofs.YtiilihafcdmccaaDoor.P
/- What packDomainName calls: compressionMap.valid at no map, isRootLabel; a row of bytes that is written in part. -/
namespace Go.Proofs.YtiilihafcdmccaaDoor.P
open Go.RowKit Go.Proofs.YtiilihafcdmccaaDoorW.PrintWords Go.Proofs.YtiilihafcdmccaaDoorW.PrintLast Go.Proofs.YtiilihafcdmccaaDoorW.PrintMore
set_option linter.unusedVariables false
set_option linter.unusedSimpArgs false

/-- The package's errors are laid: ErrBuf, ErrRdata, ErrFqdn. -/
def GoodP (w : World) : Prop := ∃ t0 x0 t2 x2, w.cell? ⟨0, 0, none⟩ = some (.iface t0 x0) ∧ w.cell? ⟨2, 0, none⟩ = some (.iface t2 x2)
theorem GoodP.below {w w' : World} (h : GoodP w) (hb : Below w.heap.size w w') : GoodP w' := by
  obtain ⟨t0, x0, t2, x2, h0, h2⟩ := h
  exact ⟨t0, x0, t2, x2, (hb.cell (World.block_lt_of_cell? w _ h0)).trans h0, (hb.cell (World.block_lt_of_cell? w _ h2)).trans h2⟩

theorem RowB.setCells {b : Nat} : ∀ (vs : List Int) (o : Nat) {wr : World} {xs : List Int}, RowB wr b xs → o + vs.length ≤ xs.length →
    RowB (wr.setCells b o (vs.map fun x => Value.int .u8 x)) b (xs.take o ++ vs ++ xs.drop (o + vs.length))
  | [], o, wr, xs, h, _ => by
    simp only [List.map_nil, World.setCells, List.append_nil, List.length_nil, Nat.add_zero, List.take_append_drop]
    exact h
  | v :: vs, o, wr, xs, h, hl => by
    rw [List.length_cons] at hl
    have ih := RowB.setCells vs (o + 1) (h.set o v) (by rw [List.length_set]; omega)
    simp only [List.map_cons, World.setCells]
    have e1 : (xs.set o v).take (o + 1) = xs.take o ++ [v] := by
      rw [List.take_succ_eq_append_getElem (by rw [List.length_set]; omega), List.getElem_set_self]
      congr 1
      rw [List.take_set_of_le (Nat.le_refl _)]
    have e2 : (xs.set o v).drop (o + 1 + vs.length) = xs.drop (o + (v :: vs).length) := by
      rw [List.drop_set_of_lt (by omega), List.length_cons]
      congr 1
      omega
    rw [e1, e2] at ih
    simpa using ih

set_option maxRecDepth 100000
set_option maxHeartbeats 1000000
theorem cmap_valid (w : World) : Calls Tryd.prog 112 #[.agg #[.map none, .map none]] w fun e w' => e = .returned (.bool false) ∧ Below w.heap.size w w' := by
  have q1 := fun W => run_neq_map_nil (P := Tryd.prog) W 105 _ _ none Tryd.underlying105
  have q2 := fun W => run_neq_map_nil (P := Tryd.prog) W 103 _ _ none Tryd.underlying103
  go_enter Tryd.func112, Tryd.ntmps112
  go_wp2
  go_ret
  exact ⟨rfl, by repeat (first | (with_reducible first | exact Below.refl _ _ | apply below_alloc | apply pw_below_drewN | apply below_drew1) | exact Below.refl _ _)⟩
theorem root_nil (s : ByteArray) (n : Nat) (w : World) (h : n ≤ s.size) : Calls Tryd.prog 113 #[.string s, .slice none 0 0, .int .i64 0, .int .i64 (n : Int)] w fun e w' => e = .returned (.bool ((s.extract 0 n).toList == [46])) ∧ w' = w := by
  have q1 := fun W => run_eql_slice_nil (P := Tryd.prog) W 22 _ none 0 0 Tryd.underlying22
  have c0 : (0 : Int) ≤ (n : Int) := by omega
  have c1 : (n : Int) ≤ (s.size : Int) := by omega
  go_enter Tryd.func113, Tryd.ntmps113
  go_wp2
  go_ret
  exact ⟨by simp, rfl⟩
theorem root_row (s : ByteArray) (n : Int) (a : Addr) (len cap : Nat) (w : World) (h : 1 < n) (h2 : n ≤ 1000000000) : Calls Tryd.prog 113 #[.string s, .slice (some a) len cap, .int .i64 0, .int .i64 n] w fun e w' => e = .returned (.bool false) ∧ w' = w := by
  have q1 := fun W => run_eql_slice_nil (P := Tryd.prog) W 22 _ (some a) len cap Tryd.underlying22
  have c0 : ((n - 0) == 1) = false := beq_eq_false_iff_ne.mpr (by omega)
  have c1 : (n == 1) = false := beq_eq_false_iff_ne.mpr (by omega)
  have c2 : wrap64 (n - 0) = n := by unfold wrap64; omega
  have c3 : wrap64 n = n := by unfold wrap64; omega
  go_enter Tryd.func113, Tryd.ntmps113
  go_wp2
  go_ret
  exact ⟨by simp, rfl⟩

end Go.Proofs.YtiilihafcdmccaaDoor.P
-- Written by a program of this session (wip/tools/pprint.py) out of the translation: it goes by the kit's print and by the contracts of YtiilihafcdmccaaDoorHand. Not trusted: Lean checks it.
namespace Go.Proofs.YtiilihafcdmccaaDoor.P
open Go.RowKit Go.Proofs.YtiilihafcdmccaaDoorW.PrintWords Go.Proofs.YtiilihafcdmccaaDoorW.PrintLast Go.Proofs.YtiilihafcdmccaaDoorW.PrintMore
attribute [local go_sem] max2_int min2_int max_two min_two max_three min_three max_four min_four   -- for this text's walks alone
set_option linter.unusedVariables false
set_option linter.unusedSimpArgs false

/-! ### dns_isDigit: function 101 -/
def dns_isDigit.f (a0 : Int) : Option (Bool) := if a0 ≥ 48 then (some (decide (a0 ≤ 57))) else (some false)
set_option maxHeartbeats 8000000 in
set_option maxRecDepth 100000 in
theorem dns_isDigit.calls (a0 : Int) (r : Bool) (w : World) (h : dns_isDigit.f a0 = some r) :
    Calls Tryd.prog 101 #[.int .u8 a0] w fun e w' => e = .returned (.bool r) ∧ Drawn0 w w' := by
  have H : (if a0 ≥ 48 then (some (decide (a0 ≤ 57))) else (some false)) = some r := h
  clear h
  by_cases c2 : a0 ≥ 48
  · rw [if_pos c2] at H
    have c2b0 : decide (48 ≤ a0) = true := decide_eq_true c2
    clear c2
    obtain rfl := Option.some.inj H
    go_enter Tryd.func101, Tryd.ntmps101
    go_wp2
    go_ret
    exact ⟨by first | rfl | (simp; done) | (simp [*]; done) | (simp [wrap64]; done), by repeat (first | exact Drawn0.refl _ | apply Drawn0.step)⟩
  · rw [if_neg c2] at H
    have c2b0 : decide (48 ≤ a0) = false := decide_eq_false c2
    clear c2
    obtain rfl := Option.some.inj H
    go_enter Tryd.func101, Tryd.ntmps101
    go_wp2
    go_ret
    exact ⟨by first | rfl | (simp; done) | (simp [*]; done) | (simp [wrap64]; done), by repeat (first | exact Drawn0.refl _ | apply Drawn0.step)⟩

end Go.Proofs.YtiilihafcdmccaaDoor.P
-- Written by a program of this session (wip/tools/pprint.py) out of the translation: it goes by the kit's print and by the contracts of YtiilihafcdmccaaDoorHand. Not trusted: Lean checks it.
namespace Go.Proofs.YtiilihafcdmccaaDoor.P
open Go.RowKit Go.Proofs.YtiilihafcdmccaaDoorW.PrintWords Go.Proofs.YtiilihafcdmccaaDoorW.PrintLast Go.Proofs.YtiilihafcdmccaaDoorW.PrintMore
attribute [local go_sem] max2_int min2_int max_two min_two max_three min_three max_four min_four   -- for this text's walks alone
set_option linter.unusedVariables false
set_option linter.unusedSimpArgs false

/-! ### dns_isDDD_byte: function 110 -/
def dns_isDDD_byte.f (l0 : List Int) : Option (Bool) := if (l0.length : Int) ≥ 3 then (if 0 < (l0.length : Int) then ((dns_isDigit.f (rd l0 0)).bind fun t347 => (if t347 = true then (if 1 < (l0.length : Int) then ((dns_isDigit.f (rd l0 1)).bind fun t349 => (if t349 = true then (if 2 < (l0.length : Int) then ((dns_isDigit.f (rd l0 2)).bind fun t351 => (some t351)) else (none)) else (some false))) else (none)) else (some false))) else (none)) else (some false)
set_option maxHeartbeats 8000000 in
set_option maxRecDepth 100000 in
theorem dns_isDDD_byte.calls (A0 : Option Addr) (c0 : Nat) (l0 : List Int) (r : Bool) (w : World) (hr0 : Kd.C (Kd.int .u8) w A0 l0.length l0) (hc0 : l0.length ≤ c0) (h : dns_isDDD_byte.f l0 = some r) :
    Calls Tryd.prog 110 #[.slice A0 l0.length c0] w fun e w' => e = .returned (.bool r) ∧ Drawn0 w w' := by
  have HR0 := Aside0.mk hr0
  have HC0 := Aside0.mk hc0
  clear hr0 hc0
  have H : (if (l0.length : Int) ≥ 3 then (if 0 < (l0.length : Int) then ((dns_isDigit.f (rd l0 0)).bind fun t347 => (if t347 = true then (if 1 < (l0.length : Int) then ((dns_isDigit.f (rd l0 1)).bind fun t349 => (if t349 = true then (if 2 < (l0.length : Int) then ((dns_isDigit.f (rd l0 2)).bind fun t351 => (some t351)) else (none)) else (some false))) else (none)) else (some false))) else (none)) else (some false)) = some r := h
  clear h
  by_cases c2 : (l0.length : Int) ≥ 3
  · rw [if_pos c2] at H
    have c2b0 : decide (3 ≤ (l0.length : Int)) = true := decide_eq_true c2
    have c2b1 : decide (3 ≤ l0.length) = true := decide_eq_true (by omega)
    clear c2
    by_cases c3 : 0 < (l0.length : Int)
    · rw [if_pos c3] at H
      have c3b0 : decide (0 < (l0.length : Int)) = true := decide_eq_true c3
      have c3b1 : decide (0 < l0.length) = true := decide_eq_true (by omega)
      clear c3
      replace H := Option.bind_eq_some_iff.mp H
      obtain ⟨t347, A40, H⟩ := H
      replace H : (if t347 = true then (if 1 < (l0.length : Int) then ((dns_isDigit.f (rd l0 1)).bind fun t349 => (if t349 = true then (if 2 < (l0.length : Int) then ((dns_isDigit.f (rd l0 2)).bind fun t351 => (some t351)) else (none)) else (some false))) else (none)) else (some false)) = some r := H
      have A4 := Aside0.mk A40
      clear A40
      by_cases c5 : t347 = true
      · subst c5
        have H1 : (if 1 < (l0.length : Int) then ((dns_isDigit.f (rd l0 1)).bind fun t349 => (if t349 = true then (if 2 < (l0.length : Int) then ((dns_isDigit.f (rd l0 2)).bind fun t351 => (some t351)) else (none)) else (some false))) else (none)) = some r := by rw [if_pos rfl] at H; exact H
        clear H
        have H := H1
        clear H1
        by_cases c6 : 1 < (l0.length : Int)
        · rw [if_pos c6] at H
          have c6b0 : decide (1 < (l0.length : Int)) = true := decide_eq_true c6
          have c6b1 : decide (1 < l0.length) = true := decide_eq_true (by omega)
          clear c6
          replace H := Option.bind_eq_some_iff.mp H
          obtain ⟨t349, A70, H⟩ := H
          replace H : (if t349 = true then (if 2 < (l0.length : Int) then ((dns_isDigit.f (rd l0 2)).bind fun t351 => (some t351)) else (none)) else (some false)) = some r := H
          have A7 := Aside0.mk A70
          clear A70
          by_cases c8 : t349 = true
          · subst c8
            have H1 : (if 2 < (l0.length : Int) then ((dns_isDigit.f (rd l0 2)).bind fun t351 => (some t351)) else (none)) = some r := by rw [if_pos rfl] at H; exact H
            clear H
            have H := H1
            clear H1
            by_cases c9 : 2 < (l0.length : Int)
            · rw [if_pos c9] at H
              have c9b0 : decide (2 < (l0.length : Int)) = true := decide_eq_true c9
              have c9b1 : decide (2 < l0.length) = true := decide_eq_true (by omega)
              clear c9
              replace H := Option.bind_eq_some_iff.mp H
              obtain ⟨t351, A100, H⟩ := H
              replace H : (some t351) = some r := H
              have A10 := Aside0.mk A100
              clear A100
              obtain rfl := Option.some.inj H
              have p346 : 0 ≤ (0 : Int) := (by omega)
              have q346 : 0 < (l0.length : Int) := of_decide_eq_true (by first | (with_reducible assumption) | assumption)
              obtain ⟨ad346, e346, hx346_0⟩ := Kd.at_int HR0.out 0 p346 q346
              cases e346
              have qi346 : (0 < l0.length) = True := eq_true (by omega)
              (try rw [show ((0 : Int)).toNat = 0 from rfl] at hx346_0)
              (try rw [Addr.add_zero'] at hx346_0)
              replace p346 := eq_true p346
              replace q346 := eq_true q346
              go_enter Tryd.func110, Tryd.ntmps110
              go_wp2_with (first | (go_at_call 101; (with_reducible refine (dns_isDigit.calls (rd l0 0) true _ A4.out).mono ?_); rintro e w' ⟨rfl, ⟨nd, rfl⟩⟩; have p348 : 0 ≤ (1 : Int) := (by omega); have q348 : 1 < (l0.length : Int) := of_decide_eq_true (by first | (with_reducible assumption) | assumption); obtain ⟨ad348, e348, hx348_0⟩ := Kd.at_int HR0.out 1 p348 q348; obtain rfl : ad346 = ad348 := (by injection e348); (try simp only [show (1 : Int).toNat = 1 from rfl, Nat.reduceMul, Nat.reduceEqDiff, Go.Addr.add, ↓reduceIte] at hx348_0); have qi348 : (1 < l0.length) = True := eq_true (by omega); (try rw [show ((1 : Int)).toNat = 1 from rfl] at hx348_0); replace p348 := eq_true p348; replace q348 := eq_true q348) | (go_at_call 101; (with_reducible refine (dns_isDigit.calls (rd l0 1) true _ A7.out).mono ?_); rintro e w' ⟨rfl, ⟨nd, rfl⟩⟩; have p350 : 0 ≤ (2 : Int) := (by omega); have q350 : 2 < (l0.length : Int) := of_decide_eq_true (by first | (with_reducible assumption) | assumption); obtain ⟨ad350, e350, hx350_0⟩ := Kd.at_int HR0.out 2 p350 q350; obtain rfl : ad346 = ad350 := (by injection e350); (try simp only [show (2 : Int).toNat = 2 from rfl, Nat.reduceMul, Nat.reduceEqDiff, Go.Addr.add, ↓reduceIte] at hx350_0); have qi350 : (2 < l0.length) = True := eq_true (by omega); (try rw [show ((2 : Int)).toNat = 2 from rfl] at hx350_0); replace p350 := eq_true p350; replace q350 := eq_true q350) | (go_at_call 101; (with_reducible refine (dns_isDigit.calls (rd l0 2) t351 _ A10.out).mono ?_); rintro e w' ⟨rfl, ⟨nd, rfl⟩⟩))
              go_ret
              exact ⟨by first | rfl | (simp; done) | (simp [*]; done) | (simp [wrap64]; done), by repeat (first | exact Drawn0.refl _ | apply Drawn0.step)⟩
            · rw [if_neg c9] at H
              exact absurd H (by simp)
          · replace c8 := Bool.eq_false_iff.mpr c8
            subst c8
            have H1 : (some false) = some r := by rw [if_neg (show ¬ (false = true) by decide)] at H; exact H
            clear H
            have H := H1
            clear H1
            obtain rfl := Option.some.inj H
            have p346 : 0 ≤ (0 : Int) := (by omega)
            have q346 : 0 < (l0.length : Int) := of_decide_eq_true (by first | (with_reducible assumption) | assumption)
            obtain ⟨ad346, e346, hx346_0⟩ := Kd.at_int HR0.out 0 p346 q346
            cases e346
            have qi346 : (0 < l0.length) = True := eq_true (by omega)
            (try rw [show ((0 : Int)).toNat = 0 from rfl] at hx346_0)
            (try rw [Addr.add_zero'] at hx346_0)
            replace p346 := eq_true p346
            replace q346 := eq_true q346
            go_enter Tryd.func110, Tryd.ntmps110
            go_wp2_with (first | (go_at_call 101; (with_reducible refine (dns_isDigit.calls (rd l0 0) true _ A4.out).mono ?_); rintro e w' ⟨rfl, ⟨nd, rfl⟩⟩; have p348 : 0 ≤ (1 : Int) := (by omega); have q348 : 1 < (l0.length : Int) := of_decide_eq_true (by first | (with_reducible assumption) | assumption); obtain ⟨ad348, e348, hx348_0⟩ := Kd.at_int HR0.out 1 p348 q348; obtain rfl : ad346 = ad348 := (by injection e348); (try simp only [show (1 : Int).toNat = 1 from rfl, Nat.reduceMul, Nat.reduceEqDiff, Go.Addr.add, ↓reduceIte] at hx348_0); have qi348 : (1 < l0.length) = True := eq_true (by omega); (try rw [show ((1 : Int)).toNat = 1 from rfl] at hx348_0); replace p348 := eq_true p348; replace q348 := eq_true q348) | (go_at_call 101; (with_reducible refine (dns_isDigit.calls (rd l0 1) false _ A7.out).mono ?_); rintro e w' ⟨rfl, ⟨nd, rfl⟩⟩))
            go_ret
            exact ⟨by first | rfl | (simp; done) | (simp [*]; done) | (simp [wrap64]; done), by repeat (first | exact Drawn0.refl _ | apply Drawn0.step)⟩
        · rw [if_neg c6] at H
          exact absurd H (by simp)
      · replace c5 := Bool.eq_false_iff.mpr c5
        subst c5
        have H1 : (some false) = some r := by rw [if_neg (show ¬ (false = true) by decide)] at H; exact H
        clear H
        have H := H1
        clear H1
        obtain rfl := Option.some.inj H
        have p346 : 0 ≤ (0 : Int) := (by omega)
        have q346 : 0 < (l0.length : Int) := of_decide_eq_true (by first | (with_reducible assumption) | assumption)
        obtain ⟨ad346, e346, hx346_0⟩ := Kd.at_int HR0.out 0 p346 q346
        cases e346
        have qi346 : (0 < l0.length) = True := eq_true (by omega)
        (try rw [show ((0 : Int)).toNat = 0 from rfl] at hx346_0)
        (try rw [Addr.add_zero'] at hx346_0)
        replace p346 := eq_true p346
        replace q346 := eq_true q346
        go_enter Tryd.func110, Tryd.ntmps110
        go_wp2_with (first | (go_at_call 101; (with_reducible refine (dns_isDigit.calls (rd l0 0) false _ A4.out).mono ?_); rintro e w' ⟨rfl, ⟨nd, rfl⟩⟩))
        go_ret
        exact ⟨by first | rfl | (simp; done) | (simp [*]; done) | (simp [wrap64]; done), by repeat (first | exact Drawn0.refl _ | apply Drawn0.step)⟩
    · rw [if_neg c3] at H
      exact absurd H (by simp)
  · rw [if_neg c2] at H
    have c2b0 : decide (3 ≤ (l0.length : Int)) = false := decide_eq_false c2
    have c2b1 : decide (3 ≤ l0.length) = false := decide_eq_false (by omega)
    clear c2
    obtain rfl := Option.some.inj H
    go_enter Tryd.func110, Tryd.ntmps110
    go_wp2
    go_ret
    exact ⟨by first | rfl | (simp; done) | (simp [*]; done) | (simp [wrap64]; done), by repeat (first | exact Drawn0.refl _ | apply Drawn0.step)⟩

end Go.Proofs.YtiilihafcdmccaaDoor.P
-- Written by a program of this session (wip/tools/pprint.py) out of the translation: it goes by the kit's print and by the contracts of YtiilihafcdmccaaDoorHand. Not trusted: Lean checks it.
namespace Go.Proofs.YtiilihafcdmccaaDoor.P
open Go.RowKit Go.Proofs.YtiilihafcdmccaaDoorW.PrintWords Go.Proofs.YtiilihafcdmccaaDoorW.PrintLast Go.Proofs.YtiilihafcdmccaaDoorW.PrintMore
attribute [local go_sem] max2_int min2_int max_two min_two max_three min_three max_four min_four   -- for this text's walks alone
set_option linter.unusedVariables false
set_option linter.unusedSimpArgs false

/-! ### dns_dddToByte_byte: function 111 -/
def dns_dddToByte_byte.f (l0 : List Int) : Option (Int) := if 2 < (l0.length : Int) then (if 0 < (l0.length : Int) then (if 1 < (l0.length : Int) then (some (((((((((rd l0 0) - 48) % 256) * 100) % 256) + (((((rd l0 1) - 48) % 256) * 10) % 256)) % 256) + (((rd l0 2) - 48) % 256)) % 256)) else (none)) else (none)) else (none)
set_option maxHeartbeats 8000000 in
set_option maxRecDepth 100000 in
theorem dns_dddToByte_byte.calls (A0 : Option Addr) (c0 : Nat) (l0 : List Int) (r : Int) (w : World) (hr0 : Kd.C (Kd.int .u8) w A0 l0.length l0) (hc0 : l0.length ≤ c0) (h : dns_dddToByte_byte.f l0 = some r) :
    Calls Tryd.prog 111 #[.slice A0 l0.length c0] w fun e w' => e = .returned (.int .u8 r) ∧ Drawn0 w w' := by
  have HR0 := Aside0.mk hr0
  have HC0 := Aside0.mk hc0
  clear hr0 hc0
  have H : (if 2 < (l0.length : Int) then (if 0 < (l0.length : Int) then (if 1 < (l0.length : Int) then (some (((((((((rd l0 0) - 48) % 256) * 100) % 256) + (((((rd l0 1) - 48) % 256) * 10) % 256)) % 256) + (((rd l0 2) - 48) % 256)) % 256)) else (none)) else (none)) else (none)) = some r := h
  clear h
  by_cases c2 : 2 < (l0.length : Int)
  · rw [if_pos c2] at H
    have c2b0 : decide (2 < (l0.length : Int)) = true := decide_eq_true c2
    have c2b1 : decide (2 < l0.length) = true := decide_eq_true (by omega)
    clear c2
    by_cases c3 : 0 < (l0.length : Int)
    · rw [if_pos c3] at H
      have c3b0 : decide (0 < (l0.length : Int)) = true := decide_eq_true c3
      have c3b1 : decide (0 < l0.length) = true := decide_eq_true (by omega)
      clear c3
      by_cases c4 : 1 < (l0.length : Int)
      · rw [if_pos c4] at H
        have c4b0 : decide (1 < (l0.length : Int)) = true := decide_eq_true c4
        have c4b1 : decide (1 < l0.length) = true := decide_eq_true (by omega)
        clear c4
        obtain rfl := Option.some.inj H
        have p352 : 0 ≤ (2 : Int) := (by omega)
        have q352 : 2 < (l0.length : Int) := of_decide_eq_true (by first | (with_reducible assumption) | assumption)
        obtain ⟨ad352, e352, hx352_0⟩ := Kd.at_int HR0.out 2 p352 q352
        cases e352
        (try simp only [show (2 : Int).toNat = 2 from rfl, Nat.reduceMul, Nat.reduceEqDiff, Go.Addr.add, ↓reduceIte] at hx352_0)
        have qi352 : (2 < l0.length) = True := eq_true (by omega)
        (try rw [show ((2 : Int)).toNat = 2 from rfl] at hx352_0)
        replace p352 := eq_true p352
        replace q352 := eq_true q352
        have p353 : 0 ≤ (0 : Int) := (by omega)
        have q353 : 0 < (l0.length : Int) := of_decide_eq_true (by first | (with_reducible assumption) | assumption)
        obtain ⟨ad353, e353, hx353_0⟩ := Kd.at_int HR0.out 0 p353 q353
        obtain rfl : ad352 = ad353 := (by injection e353)
        have qi353 : (0 < l0.length) = True := eq_true (by omega)
        (try rw [show ((0 : Int)).toNat = 0 from rfl] at hx353_0)
        (try rw [Addr.add_zero'] at hx353_0)
        replace p353 := eq_true p353
        replace q353 := eq_true q353
        have p354 : 0 ≤ (1 : Int) := (by omega)
        have q354 : 1 < (l0.length : Int) := of_decide_eq_true (by first | (with_reducible assumption) | assumption)
        obtain ⟨ad354, e354, hx354_0⟩ := Kd.at_int HR0.out 1 p354 q354
        obtain rfl : ad352 = ad354 := (by injection e354)
        (try simp only [show (1 : Int).toNat = 1 from rfl, Nat.reduceMul, Nat.reduceEqDiff, Go.Addr.add, ↓reduceIte] at hx354_0)
        have qi354 : (1 < l0.length) = True := eq_true (by omega)
        (try rw [show ((1 : Int)).toNat = 1 from rfl] at hx354_0)
        replace p354 := eq_true p354
        replace q354 := eq_true q354
        have p355 : 0 ≤ (2 : Int) := (by omega)
        have q355 : 2 < (l0.length : Int) := of_decide_eq_true (by first | (with_reducible assumption) | assumption)
        obtain ⟨ad355, e355, hx355_0⟩ := Kd.at_int HR0.out 2 p355 q355
        obtain rfl : ad352 = ad355 := (by injection e355)
        (try simp only [show (2 : Int).toNat = 2 from rfl, Nat.reduceMul, Nat.reduceEqDiff, Go.Addr.add, ↓reduceIte] at hx355_0)
        have qi355 : (2 < l0.length) = True := eq_true (by omega)
        (try rw [show ((2 : Int)).toNat = 2 from rfl] at hx355_0)
        replace p355 := eq_true p355
        replace q355 := eq_true q355
        go_enter Tryd.func111, Tryd.ntmps111
        go_wp2
        repeat (go_quiet (fail); try go_wp2)
        go_ret
        exact ⟨by first | rfl | (simp; done) | (simp [*]; done) | (simp [wrap64]; done), by repeat (first | exact Drawn0.refl _ | apply Drawn0.step)⟩
      · rw [if_neg c4] at H
        exact absurd H (by simp)
    · rw [if_neg c3] at H
      exact absurd H (by simp)
  · rw [if_neg c2] at H
    exact absurd H (by simp)

end Go.Proofs.YtiilihafcdmccaaDoor.P
/- The row that packDomainName writes, and the laws of 'copy' for it: into the message out of the text, out of a row of its own; within that row. -/
namespace Go.Proofs.YtiilihafcdmccaaDoor.P
open Go.RowKit Go.Proofs.YtiilihafcdmccaaDoorW.PrintWords Go.Proofs.YtiilihafcdmccaaDoorW.PrintLast Go.Proofs.YtiilihafcdmccaaDoorW.PrintMore
set_option linter.unusedVariables false
set_option linter.unusedSimpArgs false

/-- Labels, each behind its length. -/
def wpL : List (List Int) → List Int
  | [] => []
  | l :: ls => (l.length : Int) :: (l ++ wpL ls)
theorem wpL_append (a b : List (List Int)) : wpL (a ++ b) = wpL a ++ wpL b := by
  induction a with
  | nil => rfl
  | cons l ls ih => simp [wpL, ih]
theorem wpL_snoc (a : List (List Int)) (l : List Int) : wpL (a ++ [l]) = wpL a ++ ((l.length : Int) :: l) := by
  rw [wpL_append]
  simp [wpL]
/-- What stands ahead in the text of a name: the rest of a label, a point, further labels; or nothing. -/
inductive Rest (n : List (List Int)) : List (List Int) → List Int → List Int → Prop
  | fin : Rest n n [] []
  | lab (D : List (List Int)) (cur r l : List Int) (rs2 ls2 : List (List Int)) : Lab r l → Labs rs2 ls2 → n = D ++ (cur ++ l) :: ls2 → cur ++ l ≠ [] → Rest n D cur (r ++ 46 :: joinD rs2)
/-- The buffer: the text itself, or a row of its own. -/
def BufIs (s : ByteArray) (wr : World) (m q base : Nat) (bs : Value) (X T : List Int) : Prop :=
  (bs = .slice none 0 0 ∧ bytesOf s = X ++ T) ∨
  ∃ b cap J, bs = .slice (some ⟨b, 0, none⟩) s.size cap ∧ s.size ≤ cap ∧ RowB wr b (X ++ (T ++ J)) ∧ (X ++ (T ++ J)).length = s.size ∧ b ≠ m ∧ b ≠ q ∧ base ≤ b
def rowV (xs : List Int) : Array Value := (xs.map fun x => Value.int .u8 x).toArray
theorem row_cell {wr : World} {m e : Nat} {xs : List Int} (h : wr.heap[m]? = some (.cells (rowV xs) e (0, 0))) {i : Nat} (hi : i < xs.length) : wr.cell? ⟨m, i, none⟩ = some (.int .u8 (xs[i])) ∧ wr.frozen? ⟨m, i, none⟩ = false := by
  constructor
  · simp [World.cell?, h, rowV, hi]
  · simp [World.frozen?, h]
theorem row_set {wr : World} {m e : Nat} {xs : List Int} (h : wr.heap[m]? = some (.cells (rowV xs) e (0, 0))) {i : Nat} (hi : i < xs.length) (v : Int) : (wr.setCell ⟨m, i, none⟩ (.int .u8 v)).heap[m]? = some (.cells (rowV (xs.set i v)) e (0, 0)) := by
  have h1 := setCell_eq_setRow wr m i (rowV xs) e (0, 0) (.int .u8 v) h
  rw [h1, setRow_heap wr m _ _ e _ h]
  simp [rowV, List.map_set]
theorem heap_lt {wr : World} {k : Nat} {o : Obj} (h : wr.heap[k]? = some o) : k < wr.heap.size := by
  rcases Nat.lt_or_ge k wr.heap.size with h1 | h1
  · exact h1
  · rw [Array.getElem?_eq_none h1] at h; cases h
theorem heap_kept {wr w2 : World} {k : Nat} {o : Obj} (hb : Below wr.heap.size wr w2) (h : wr.heap[k]? = some o) : w2.heap[k]? = some o := by rw [hb.block k (heap_lt h)]; exact h
theorem RowB.lt {wr : World} {b : Nat} {xs : List Int} (h : RowB wr b xs) (h0 : 0 < xs.length) : b < wr.heap.size := World.block_lt_of_cell? wr _ (h.cell (j := 0) h0)
theorem RowB.kept {wr w2 : World} {b : Nat} {xs : List Int} (hb : w2.heap[b]? = wr.heap[b]?) (h : RowB wr b xs) : RowB w2 b xs := by
  intro j hj
  obtain ⟨h1, h2⟩ := h j hj
  simp only [World.cell?, World.frozen?] at h1 h2 ⊢
  rw [hb]
  exact ⟨h1, h2⟩
structure PkW (s : ByteArray) (n : List (List Int)) (room m q : Nat) (w00 wr : World) (D : List (List Int)) (cur T : List Int) (bs : Value) (wd : Bool) : Prop where
  rest : Rest n D cur T
  dot : wd = true → cur = []
  fit : (wpL D).length ≤ room
  buf : BufIs s wr m q w00.heap.size bs (joinD D ++ cur) T
  msg : wr.heap[m]? = some (.cells (rowV (wpL D ++ List.replicate (room - (wpL D).length) 0)) 5 (0, 0))
  comp : wr.heap[q]? = some (.cells #[.map none, .map none] 107 (0, 0))
  bel : Below w00.heap.size w00 wr

section
variable {P : Program} {w : World} {ops : Array Oper} {rest : List Oper} {o : Oper} {a : Act} {Q : Exit → Act → World → Prop}
theorem wpList_copy_run (hgd : o.guard = none) (d s : Operand) (dT sT : TypeId) (ho : o.op = .call { callee := .builtin .copy, args := #[d, s], argTypes := #[dT, sT] }) (dv sv : Value) (hd : a.eval d = dv) (hs : a.eval s = sv) (n : Nat) (w2 : World)
    (hrun : (Builtin.copy_ #[dT, sT] o.type #[dv, sv]).run P w = .ok (goInt n) w2) (h : wpList P ops Q rest (a.put o.dst (goInt n)) w2) : wpList P ops Q (o :: rest) a w := by
  refine wpList_plain hgd fun K hK => ?_
  unfold Oper.wp
  simp [execOp, ho, resolve, invoke, builtin, hd, hs, hrun, Result.andThen]
  exact hK _ _ h
theorem rowV_length (xs : List Int) : (rowV xs).size = xs.length := by simp [rowV]
theorem rowV_splice (xs ys : List Int) (o n : Nat) : ((rowV xs).toList.take o ++ (ys.map fun x => Value.int .u8 x) ++ (rowV xs).toList.drop (o + n)).toArray = rowV (xs.take o ++ ys ++ xs.drop (o + n)) := by
  simp [rowV, List.map_take, List.map_drop]
theorem byteCells_bytesOf (s : ByteArray) : Lib.byteCells s.data.toList = (bytesOf s).map fun x => Value.int .u8 x := by
  unfold Lib.byteCells bytesOf
  rw [List.map_map]
  rfl
theorem below_setRow' (w : World) (g : Nat) (cs : Array Value) : Below g w (w.setRow g cs) := ⟨rfl, rfl, rfl, by simp [World.setRow], fun k hk => setRow_other w g k cs (by omega)⟩
/-- Into the message, out of a text. -/
theorem wpList_copy_str (hgd : o.guard = none) (d s : Operand) (dT sT elem : TypeId) (ho : o.op = .call { callee := .builtin .copy, args := #[d, s], argTypes := #[dT, sT] }) (hu : P.underlying dT = some (.slice elem)) (hsz : (P.info? elem).map (·.size) = some 1)
    (g off dLen dCap : Nat) (str : ByteArray) (hd : a.eval d = .slice (some ⟨g, off, none⟩) dLen dCap) (hs : a.eval s = .string str) (xs : List Int) (t : TypeId) (hg : w.heap[g]? = some (.cells (rowV xs) t (0, 0))) (hle : str.size ≤ dLen) (hfit : off + str.size ≤ xs.length)
    (h : ∀ w2, Hid (w2.heap[g]? = some (.cells (rowV (xs.take off ++ bytesOf str ++ xs.drop (off + str.size))) t (0, 0))) → Hid (∀ k, k ≠ g → w2.heap[k]? = w.heap[k]?) → Hid (Below g w w2) → wpList P ops Q rest (a.put o.dst (goInt str.size)) w2) : wpList P ops Q (o :: rest) a w := by
  have hr := Lib.run_copy_row_string (P := P) w dT sT o.type elem g off dLen dCap str (rowV xs) t hu hsz hg hle (by rw [rowV_length]; exact hfit)
  rw [byteCells_bytesOf, rowV_splice] at hr
  exact wpList_copy_run hgd d s dT sT ho _ _ hd hs _ _ hr (h _ (setRow_heap w g _ _ t _ hg) (fun k hk => setRow_other w g k _ hk) (below_setRow' _ _ _))
/-- Into the message, out of a row. -/
theorem wpList_copy_rowB (hgd : o.guard = none) (d s : Operand) (dT sT elem : TypeId) (ho : o.op = .call { callee := .builtin .copy, args := #[d, s], argTypes := #[dT, sT] }) (hu : P.underlying dT = some (.slice elem)) (hsz : (P.info? elem).map (·.size) = some 1)
    (g off dLen dCap b so sLen sCap : Nat) (hd : a.eval d = .slice (some ⟨g, off, none⟩) dLen dCap) (hs : a.eval s = .slice (some ⟨b, so, none⟩) sLen sCap) (xs : List Int) (t : TypeId) (hg : w.heap[g]? = some (.cells (rowV xs) t (0, 0))) (ys zs : List Int) (hz : RowB w b zs)
    (hys : ys = (zs.drop so).take sLen) (hsl : so + sLen ≤ zs.length) (hle : sLen ≤ dLen) (hfit : off + sLen ≤ xs.length)
    (h : ∀ w2, Hid (w2.heap[g]? = some (.cells (rowV (xs.take off ++ ys ++ xs.drop (off + sLen))) t (0, 0))) → Hid (∀ k, k ≠ g → w2.heap[k]? = w.heap[k]?) → Hid (Below g w w2) → wpList P ops Q rest (a.put o.dst (goInt sLen)) w2) : wpList P ops Q (o :: rest) a w := by
  have hyl : ys.length = sLen := by rw [hys, List.length_take, List.length_drop]; omega
  have hr := run_copy_row (P := P) w dT sT o.type elem g off dLen dCap ⟨b, so, none⟩ sLen sCap (rowV xs) t (ys.map fun x => Value.int .u8 x) hu hsz hg (by rw [List.length_map, hyl]; exact (Nat.min_eq_left hle).symm)
    (fun j v hj => by
      obtain ⟨hjl, rfl⟩ := List.getElem?_eq_some_iff.1 hj
      rw [List.length_map] at hjl
      have hc := hz.cell (j := so + j) (by omega)
      rw [List.getElem_map, show (⟨b, so, none⟩ : Addr).add j = ⟨b, so + j, none⟩ by unfold Addr.add; simp, hc]
      congr 2
      subst hys
      rw [List.getElem_take, List.getElem_drop, List.getD_eq_getElem?_getD, List.getElem?_eq_getElem (by omega), Option.getD_some])
    (by rw [rowV_length, List.length_map, hyl]; exact hfit) (fun v hv => by obtain ⟨x, _, rfl⟩ := List.mem_map.1 hv; rfl)
  rw [List.length_map, hyl, rowV_splice] at hr
  exact wpList_copy_run hgd d s dT sT ho _ _ hd hs _ _ hr (h _ (setRow_heap w g _ _ t _ hg) (fun k hk => setRow_other w g k _ hk) (below_setRow' _ _ _))
theorem setCells_other (b k : Nat) (hk : k ≠ b) : ∀ (vs : List Value) (o : Nat) (w : World), (w.setCells b o vs).heap[k]? = w.heap[k]?
  | [], _, _ => rfl
  | v :: vs, o, w => by rw [World.setCells, setCells_other b k hk vs, Below.heap_setCell _ _ _ _ hk]
theorem setCells_below (b : Nat) : ∀ (vs : List Value) (o : Nat) (w : World), Below b w (w.setCells b o vs)
  | [], _, w => Below.refl _ _
  | v :: vs, o, w => by rw [World.setCells]; exact ((Below.refl b w).setCell (p := ⟨b, o, none⟩) (Nat.le_refl _) v).trans (setCells_below b vs (o + 1) _)
/-- Within a row. -/
theorem wpList_copy_self (hgd : o.guard = none) (d s : Operand) (dT sT elem : TypeId) (ho : o.op = .call { callee := .builtin .copy, args := #[d, s], argTypes := #[dT, sT] }) (hu : P.underlying dT = some (.slice elem)) (hsz : (P.info? elem).map (·.size) = some 1)
    (b off dLen dCap so sLen sCap : Nat) (hd : a.eval d = .slice (some ⟨b, off, none⟩) dLen dCap) (hs : a.eval s = .slice (some ⟨b, so, none⟩) sLen sCap) (zs : List Int) (hz : RowB w b zs)
    (n : Nat) (hn : n = Nat.min sLen dLen) (hsl : so + n ≤ zs.length) (hfit : off + n ≤ zs.length)
    (h : ∀ w2, Hid (RowB w2 b (zs.take off ++ (zs.drop so).take n ++ zs.drop (off + n))) → Hid (∀ k, k ≠ b → w2.heap[k]? = w.heap[k]?) → Hid (Below b w w2) → wpList P ops Q rest (a.put o.dst (goInt n)) w2) : wpList P ops Q (o :: rest) a w := by
  have hyl : ((zs.drop so).take n).length = n := by rw [List.length_take, List.length_drop]; omega
  have hr := run_copy_cells (P := P) w dT sT o.type elem b off dLen dCap ⟨b, so, none⟩ sLen sCap (((zs.drop so).take n).map fun x => Value.int .u8 x) hu hsz (by rw [List.length_map, hyl, hn])
    (fun j v hj => by
      obtain ⟨hjl, rfl⟩ := List.getElem?_eq_some_iff.1 hj
      rw [List.length_map, hyl] at hjl
      have hc := hz.cell (j := so + j) (by omega)
      rw [List.getElem_map, show (⟨b, so, none⟩ : Addr).add j = ⟨b, so + j, none⟩ by unfold Addr.add; simp, hc]
      congr 2
      rw [List.getElem_take, List.getElem_drop, List.getD_eq_getElem?_getD, List.getElem?_eq_getElem (by omega), Option.getD_some])
    (fun j hj => by rw [List.length_map, hyl] at hj; rw [hz.cell (j := off + j) (by omega)]; rfl)
    (fun j hj => by rw [List.length_map, hyl] at hj; exact hz.free (j := off + j) (by omega)) (fun v hv => by obtain ⟨x, _, rfl⟩ := List.mem_map.1 hv; rfl)
  rw [List.length_map, hyl] at hr
  have hset := RowB.setCells ((zs.drop so).take n) off hz (by rw [hyl]; exact hfit)
  rw [hyl] at hset
  exact wpList_copy_run hgd d s dT sT ho _ _ hd hs _ _ hr (h _ hset (fun k hk => setCells_other b k hk _ _ _) (setCells_below _ _ _ _))
end

theorem row_point (D : List (List Int)) (cur : List Int) (room : Nat) (h : (wpL D).length + 1 + cur.length ≤ room) :
    ((wpL D ++ 0 :: List.replicate (room - ((wpL D).length + 1)) 0).set (wpL D).length (cur.length : Int)).take ((wpL D).length + 1) ++ cur ++ ((wpL D ++ 0 :: List.replicate (room - ((wpL D).length + 1)) 0).set (wpL D).length (cur.length : Int)).drop ((wpL D).length + 1 + cur.length) =
      wpL (D ++ [cur]) ++ List.replicate (room - (wpL (D ++ [cur])).length) 0 := by
  rw [wpL_snoc, List.set_append_right _ _ (Nat.le_refl _), Nat.sub_self, List.set_cons_zero]
  rw [List.take_append, List.drop_append, List.take_of_length_le (by omega), List.drop_of_length_le (by omega), show (wpL D).length + 1 - (wpL D).length = 1 by omega, show (wpL D).length + 1 + cur.length - (wpL D).length = cur.length + 1 by omega]
  simp only [List.take_succ_cons, List.take_zero, List.drop_succ_cons, List.drop_replicate, List.nil_append, List.length_append, List.length_cons, List.append_assoc, List.cons_append]
  congr 4
  omega
theorem below_mono {B m : Nat} {a b : World} (h : Below m a b) (hB : B ≤ m) : Below B a b := ⟨h.os, h.tape, h.output, h.size, fun k hk => h.block k (by omega)⟩

theorem rowB_C {w : World} {b o n : Nat} {zs : List Int} (hz : RowB w b zs) (ho : o + n ≤ zs.length) (hs : zs.length ≤ 1000000) : Kd.C (Kd.int .u8) w (some ⟨b, o, none⟩) n ((zs.drop o).take n) := by
  refine Kd.C_of_reads (d := 0) ⟨by rw [List.length_take, List.length_drop]; omega, by omega, fun _ => ⟨_, rfl, fun j hj => ?_⟩⟩
  rw [show (⟨b, o, none⟩ : Addr).add j = ⟨b, o + j, none⟩ by unfold Addr.add; simp, hz.cell (j := o + j) (by omega)]
  congr 2
  rw [List.getD_eq_getElem?_getD, List.getD_eq_getElem?_getD, List.getElem?_take_of_lt hj, List.getElem?_drop]
theorem isddd_row (w : World) (b o n c : Nat) (zs : List Int) (r : Bool) (hz : RowB w b zs) (ho : o + n ≤ zs.length) (hs : zs.length ≤ 1000000) (hc : n ≤ c) (h : dns_isDDD_byte.f ((zs.drop o).take n) = some r) :
    Calls Tryd.prog 110 #[.slice (some ⟨b, o, none⟩) n c] w fun e w' => e = .returned (.bool r) ∧ Drawn0 w w' := by
  have hl : ((zs.drop o).take n).length = n := by rw [List.length_take, List.length_drop]; omega
  have h1 := dns_isDDD_byte.calls (some ⟨b, o, none⟩) c ((zs.drop o).take n) r w (by rw [hl]; exact rowB_C hz ho hs) (by rw [hl]; exact hc) h
  rwa [hl] at h1
theorem dddb_row (w : World) (b o n c : Nat) (zs : List Int) (r : Int) (hz : RowB w b zs) (ho : o + n ≤ zs.length) (hs : zs.length ≤ 1000000) (hc : n ≤ c) (h : dns_dddToByte_byte.f ((zs.drop o).take n) = some r) :
    Calls Tryd.prog 111 #[.slice (some ⟨b, o, none⟩) n c] w fun e w' => e = .returned (.int .u8 r) ∧ Drawn0 w w' := by
  have hl : ((zs.drop o).take n).length = n := by rw [List.length_take, List.length_drop]; omega
  have h1 := dns_dddToByte_byte.calls (some ⟨b, o, none⟩) c ((zs.drop o).take n) r w (by rw [hl]; exact rowB_C hz ho hs) (by rw [hl]; exact hc) h
  rwa [hl] at h1
theorem isddd_no (d : Int) (l : List Int) (h : ¬ dig d) : dns_isDDD_byte.f (d :: l) = some false := by
  unfold dns_isDDD_byte.f
  split
  · rw [if_pos (by simp)]
    have e : dns_isDigit.f (rd (d :: l) 0) = some false := by
      unfold dns_isDigit.f dig at *
      show (if d ≥ 48 then some (decide (d ≤ 57)) else some false) = some false
      split
      · rw [decide_eq_false (by omega)]
      · rfl
    rw [e]
    rfl
  · rfl
theorem isddd_yes (a b c : Int) (l : List Int) (ha : dig a) (hb : dig b) (hc : dig c) : dns_isDDD_byte.f (a :: b :: c :: l) = some true := by
  have e : ∀ x : Int, dig x → dns_isDigit.f x = some true := fun x hx => by
    unfold dns_isDigit.f
    unfold dig at hx
    rw [if_pos (by omega), decide_eq_true (by omega)]
  unfold dns_isDDD_byte.f
  rw [if_pos (by simp; omega), if_pos (by simp; omega)]
  have e0 : rd (a :: b :: c :: l) 0 = a := rfl
  have e1 : rd (a :: b :: c :: l) 1 = b := rfl
  have e2 : rd (a :: b :: c :: l) 2 = c := rfl
  rw [e0, e a ha, Option.bind_some, if_pos rfl, if_pos (by simp; omega), e1, e b hb, Option.bind_some, if_pos rfl, if_pos (by simp; omega), e2, e c hc, Option.bind_some]
theorem dddb_val (a b c : Int) (l : List Int) (ha : dig a) (hb : dig b) (hc : dig c) (hv : val3 a b c < 256) : dns_dddToByte_byte.f (a :: b :: c :: l) = some (val3 a b c) := by
  unfold dns_dddToByte_byte.f
  rw [if_pos (by simp; omega), if_pos (by simp; omega), if_pos (by simp; omega)]
  have e0 : rd (a :: b :: c :: l) 0 = a := rfl
  have e1 : rd (a :: b :: c :: l) 1 = b := rfl
  have e2 : rd (a :: b :: c :: l) 2 = c := rfl
  rw [e0, e1, e2]
  unfold val3 dig at *
  congr 1
  omega

theorem row_shift (X Y T J : List Int) (a b c : Nat) (ha : a = X.length) (hb : b = X.length + Y.length) (hc : c = T.length) :
    (X ++ (Y ++ (T ++ J))).take a ++ ((X ++ (Y ++ (T ++ J))).drop b).take c ++ (X ++ (Y ++ (T ++ J))).drop (a + c) = X ++ (T ++ (X ++ (Y ++ (T ++ J))).drop (a + c)) := by
  subst ha hb hc
  rw [List.take_left, show (X ++ (Y ++ (T ++ J))).drop (X.length + Y.length) = T ++ J by rw [← List.append_assoc, ← List.length_append, List.drop_left], List.take_left, List.append_assoc]
theorem row_shift_len (X Y T J : List Int) : (X ++ (T ++ (X ++ (Y ++ (T ++ J))).drop (X.length + T.length))).length = (X ++ (Y ++ (T ++ J))).length := by
  simp
  omega

theorem RowB.drewN {w : World} {b : Nat} {zs : List Int} (h : RowB w b zs) (n : Nat) : RowB (w.drewN n) b zs := h

end Go.Proofs.YtiilihafcdmccaaDoor.P
