/- What the printed 'spec.escaped', 'spec.Name.Size', 'spec.Name.Valid', 'spec.ParseName' come to, in the words of Core. -/
import Derived.Test.YtiilihafcdmccaaDoorCore
import Derived.Test.YtiilihafcdmccaaDoorPF49
import Derived.Test.YtiilihafcdmccaaDoorPF24
import Derived.Test.YtiilihafcdmccaaDoorPF47
import Derived.Test.YtiilihafcdmccaaDoorPF17
namespace Go.Proofs.YtiilihafcdmccaaDoor.P
open Go.RowKit Go.Proofs.YtiilihafcdmccaaDoorW.PrintWords
set_option linter.unusedVariables false
set_option linter.unusedSimpArgs false

theorem w64 {x : Int} (h0 : -9223372036854775808 ≤ x) (h : x ≤ 9223372036854775807) : wrap64 x = x := by unfold wrap64; omega

theorem isDigit_eq (c : Int) : spec_isDigit.f c = some (decide (dig c)) := by
  have e : decide (dig c) = decide (48 ≤ c ∧ c ≤ 57) := decide_eq_decide.2 Iff.rfl
  rw [e]
  unfold spec_isDigit.f
  by_cases h : c ≥ 48
  · rw [if_pos h]; congr 1; apply decide_eq_decide.2; omega
  · rw [if_neg h]; congr 1; exact (decide_eq_false (by omega)).symm

theorem bt_at' {s : ByteArray} {pre rest : List Int} (m : List Int) {c : Int} (h : bytesOf s = pre ++ (m ++ c :: rest)) (n : Int) (hn : n = m.length) : bt s (pre.length + n) = c := by
  subst hn
  have := bt_split (s := s) (pre := pre ++ m) (rest := rest) (c := c) (by rw [h, List.append_assoc])
  rwa [List.length_append, Int.natCast_add] at this

theorem esc_tok {s : ByteArray} {pre t rest : List Int} {c : Int} {p : Bool} (hs : s.size ≤ 140737488351232) (h : bytesOf s = pre ++ (t ++ rest)) (ht : Tok t c p) :
    spec_escaped.f s (pre.length : Int) = some (c, ((pre.length + t.length : Nat) : Int), p, true) := by
  have hl := bytesOf_length s
  rw [h] at hl
  simp only [List.length_append] at hl
  have hp := ht.pos
  have hB : IsB t := (h ▸ bytesOf_isB s).right.left
  unfold spec_escaped.f
  rw [if_pos (by omega), if_pos (by omega)]
  cases ht with
  | plain _ h92 =>
    have h0 := bt_at' (s := s) (pre := pre) (rest := rest) [] (c := c) (by simpa using h) 0 rfl
    rw [Int.add_zero] at h0
    rw [h0, if_neg h92, w64 (by omega) (by omega)]
    simp
  | sign _ hd =>
    have h0 := bt_at' (s := s) (pre := pre) (rest := c :: rest) [] (c := 92) (by simpa using h) 0 rfl
    rw [Int.add_zero] at h0
    have h1 := bt_at' (s := s) (pre := pre) (rest := rest) [92] (c := c) (by simpa using h) 1 rfl
    simp at hl
    rw [h0, if_pos rfl, w64 (x := (pre.length : Int) + 1) (by omega) (by omega), w64 (x := (pre.length : Int) + 2) (by omega) (by omega), if_neg (by omega), if_pos (by omega), if_pos (by omega), h1, isDigit_eq, decide_eq_false hd]
    simp
  | ddd a b d ha hb hd hv =>
    have h0 := bt_at' (s := s) (pre := pre) (rest := a :: b :: d :: rest) [] (c := 92) (by simpa using h) 0 rfl
    rw [Int.add_zero] at h0
    have h1 := bt_at' (s := s) (pre := pre) (rest := b :: d :: rest) [92] (c := a) (by simpa using h) 1 rfl
    have h2 := bt_at' (s := s) (pre := pre) (rest := d :: rest) [92, a] (c := b) (by simpa using h) 2 rfl
    have h3 := bt_at' (s := s) (pre := pre) (rest := rest) [92, a, b] (c := d) (by simpa using h) 3 rfl
    simp at hl
    rw [h0, if_pos rfl, w64 (x := (pre.length : Int) + 1) (by omega) (by omega), w64 (x := (pre.length : Int) + 2) (by omega) (by omega), w64 (x := (pre.length : Int) + 3) (by omega) (by omega), w64 (x := (pre.length : Int) + 4) (by omega) (by omega), if_neg (by omega), if_pos (by omega), if_pos (by omega), h1, isDigit_eq, decide_eq_true ha, h2, h3]
    simp only [Option.bind_some, if_true]
    rw [if_neg (by omega), if_pos (by omega), if_pos (by omega), isDigit_eq, decide_eq_true hb]
    simp only [Option.bind_some, if_true]
    rw [if_pos (by omega), if_pos (by omega), isDigit_eq, decide_eq_true hd]
    simp only [Option.bind_some, if_true]
    have e : (((a - 48) % 256 * 100 + (b - 48) % 256 * 10 + (d - 48) % 256)) = val3 a b d := by
      unfold dig at *; unfold val3; omega
    have e0 : 0 ≤ val3 a b d := by unfold dig at *; unfold val3; omega
    rw [e, decide_eq_true hv, show val3 a b d % 256 = val3 a b d by omega]
    simp

theorem esc_bad {s : ByteArray} {pre rest : List Int} (hs : s.size ≤ 140737488351232) (h : bytesOf s = pre ++ 92 :: rest) (hno : ∀ t c p rest', 92 :: rest = t ++ rest' → ¬ Tok t c p) :
    ∃ x y z, spec_escaped.f s (pre.length : Int) = some (x, y, z, false) := by
  have hl := bytesOf_length s
  rw [h] at hl
  simp only [List.length_append, List.length_cons] at hl
  have h0 := bt_at' (s := s) (pre := pre) (rest := rest) [] (c := 92) (by simpa using h) 0 rfl
  rw [Int.add_zero] at h0
  unfold spec_escaped.f
  rw [if_pos (by omega), if_pos (by omega), h0, if_pos rfl, w64 (x := (pre.length : Int) + 1) (by omega) (by omega), w64 (x := (pre.length : Int) + 2) (by omega) (by omega), w64 (x := (pre.length : Int) + 3) (by omega) (by omega)]
  match rest, hno, h, hl with
  | [], hno, h, hl => rw [if_pos (by simp at hl; omega)]; exact ⟨_, _, _, rfl⟩
  | a :: r1, hno, h, hl =>
    have ha : dig a := by
      by_cases ha : dig a
      · exact ha
      · exact absurd (Tok.sign a ha) (hno [92, a] a false r1 rfl)
    have h1 := bt_at' (s := s) (pre := pre) (rest := r1) [92] (c := a) (by simpa using h) 1 rfl
    simp at hl
    rw [if_neg (by omega), if_pos (by omega), if_pos (by omega), h1, isDigit_eq, decide_eq_true ha]
    simp only [Option.bind_some, if_true]
    match r1, hno, h, hl with
    | [], hno, h, hl => rw [if_pos (by simp at hl; omega)]; exact ⟨_, _, _, rfl⟩
    | [b], hno, h, hl => rw [if_pos (by simp at hl; omega)]; exact ⟨_, _, _, rfl⟩
    | b :: d :: r2, hno, h, hl =>
      have h2 := bt_at' (s := s) (pre := pre) (rest := d :: r2) [92, a] (c := b) (by simpa using h) 2 rfl
      have h3 := bt_at' (s := s) (pre := pre) (rest := r2) [92, a, b] (c := d) (by simpa using h) 3 rfl
      simp at hl
      rw [if_neg (by omega), if_pos (by omega), if_pos (by omega), h2, isDigit_eq]
      by_cases hb : dig b
      · rw [decide_eq_true hb]
        simp only [Option.bind_some, if_true]
        rw [if_pos (by omega), if_pos (by omega), h3, isDigit_eq]
        by_cases hd : dig d
        · rw [decide_eq_true hd]
          simp only [Option.bind_some, if_true]
          have e : (((a - 48) % 256 * 100 + (b - 48) % 256 * 10 + (d - 48) % 256)) = val3 a b d := by
            unfold dig at *; unfold val3; omega
          rw [e, decide_eq_false (fun hv => hno [92, a, b, d] _ false r2 rfl (.ddd a b d ha hb hd hv))]
          exact ⟨_, _, _, rfl⟩
        · rw [decide_eq_false hd]
          exact ⟨_, _, _, rfl⟩
      · rw [decide_eq_false hb]
        exact ⟨_, _, _, rfl⟩

/-! ### sizes -/
def sizeL : List (List Int) → Nat
  | [] => 1
  | l :: ls => 1 + l.length + sizeL ls
theorem sizeL_pos (n : List (List Int)) : 1 ≤ sizeL n := by cases n <;> simp [sizeL]; omega
theorem sizeL_append (a b : List (List Int)) : sizeL (a ++ b) + 1 = sizeL a + sizeL b := by
  induction a with
  | nil => simp [sizeL]; omega
  | cons l ls ih => simp [sizeL]; omega
def okB (n : List (List Int)) : Bool := n.all (fun l => decide (l.length ≠ 0 ∧ l.length ≤ 63))
theorem okB_cons (l : List Int) (n : List (List Int)) : okB (l :: n) = (decide (l.length ≠ 0 ∧ l.length ≤ 63) && okB n) := rfl
def validB (n : List (List Int)) : Bool := okB n && decide (sizeL n ≤ 255)
theorem rdOf_map (n : List (List Int)) (i : Nat) (h : i < n.length) : rdOf ByteArray.empty (n.map strOfNums) (i : Int) = strOfNums (n[i]) := by
  unfold rdOf
  rw [Int.toNat_natCast, List.getD_eq_getElem?_getD, List.getElem?_map, List.getElem?_eq_getElem h]
  rfl
theorem size_from (n : List (List Int)) (hb : sizeL n ≤ 4611686018427387904) (d : Nat) : ∀ (i : Nat), i + d = n.length →
    Ev (fun k => spec_Name_Size.l0 k (sizeL (n.take i) : Nat) (n.map strOfNums) (n.length : Nat) (i : Nat)) (sizeL n : Nat) := by
  induction d with
  | zero =>
    intro i hi
    obtain rfl : i = n.length := by omega
    refine ⟨1, fun k hk => ?_⟩
    obtain ⟨m, rfl⟩ : ∃ m, k = m + 1 := ⟨k - 1, by omega⟩
    simp only [spec_Name_Size.l0]
    rw [if_neg (by omega), List.take_length]
  | succ d ih =>
    intro i hi
    have hlt : i < n.length := by omega
    refine Ev.step (f := fun k => spec_Name_Size.l0 k (sizeL (n.take (i + 1)) : Nat) (n.map strOfNums) (n.length : Nat) ((i + 1 : Nat) : Int)) (fun k => ?_) (ih (i + 1) (by omega))
    have e : sizeL (n.take (i + 1)) = sizeL (n.take i) + (1 + n[i].length) := by
      rw [List.take_succ_eq_append_getElem hlt]
      have h5 := sizeL_append (n.take i) [n[i]]
      rw [show sizeL [n[i]] = 1 + n[i].length + 1 from rfl] at h5
      omega
    have e2 : sizeL (n.take (i + 1)) ≤ sizeL n := by
      have h1 := sizeL_append (n.take (i + 1)) (n.drop (i + 1))
      rw [List.take_append_drop] at h1
      have := sizeL_pos (n.drop (i + 1))
      omega
    have e3 : n.length ≤ sizeL n := by
      clear ih e e2 hlt hi hb
      induction n with
      | nil => simp
      | cons l ls ih => simp [sizeL]; omega
    simp only [spec_Name_Size.l0]
    rw [if_pos (by omega), if_pos (by omega), if_pos (by rw [List.length_map]; omega), rdOf_map n i hlt, strOfNums_size]
    rw [w64 (x := 1 + (n[i].length : Int)) (by omega) (by omega), w64 (x := (sizeL (n.take i) : Int) + (1 + (n[i].length : Int))) (by omega) (by omega), w64 (x := (i : Int) + 1) (by omega) (by omega), e]
    rfl
theorem size_ev (n : List (List Int)) (hb : sizeL n ≤ 4611686018427387904) : Ev (fun k => spec_Name_Size.f k (n.map strOfNums)) (sizeL n : Nat) := by
  have h := size_from n hb n.length 0 (by omega)
  refine Ev.congr (fun k => ?_) h
  unfold spec_Name_Size.f
  rw [List.length_map]
  rfl
theorem len_le_size (n : List (List Int)) : n.length + 1 ≤ sizeL n := by
  induction n with
  | nil => simp [sizeL]
  | cons l ls ih => simp [sizeL]; omega
theorem valid_from (n : List (List Int)) (hb : sizeL n ≤ 4611686018427387904) (d : Nat) : ∀ (i : Nat), i + d = n.length →
    Ev (fun k => spec_Name_Valid.l0 k (n.map strOfNums) (n.map strOfNums) (n.length : Nat) (i : Nat)) (okB (n.drop i) && decide (sizeL n ≤ 255)) := by
  have e3 := len_le_size n
  induction d with
  | zero =>
    intro i hi
    obtain rfl : i = n.length := by omega
    refine Ev.step (f := fun k => (spec_Name_Size.f k (n.map strOfNums)).bind fun t => some (decide (t ≤ 255))) (fun k => ?_) (Ev.bind (f := fun _ t => some (decide (t ≤ 255))) (size_ev n hb) ?_)
    · simp only [spec_Name_Valid.l0]
      rw [if_neg (by omega)]
    · rw [List.drop_length]
      refine ⟨0, fun k _ => ?_⟩
      have e : decide ((sizeL n : Int) ≤ 255) = decide (sizeL n ≤ 255) := decide_eq_decide.2 (by omega)
      simp only [e]
      rfl
  | succ d ih =>
    intro i hi
    have hlt : i < n.length := by omega
    have hd := List.drop_eq_getElem_cons hlt
    rw [hd, okB_cons]
    by_cases h0 : n[i].length ≠ 0 ∧ n[i].length ≤ 63
    · rw [decide_eq_true h0, Bool.true_and]
      refine Ev.step (f := fun k => spec_Name_Valid.l0 k (n.map strOfNums) (n.map strOfNums) (n.length : Nat) ((i + 1 : Nat) : Int)) (fun k => ?_) (ih (i + 1) (by omega))
      simp only [spec_Name_Valid.l0]
      rw [if_pos (by omega), if_pos (by omega), if_pos (by rw [List.length_map]; omega), rdOf_map n i hlt, strOfNums_size, if_neg (by omega), if_neg (by omega), w64 (x := (i : Int) + 1) (by omega) (by omega)]
      rfl
    · rw [decide_eq_false h0, Bool.false_and, Bool.false_and]
      refine ⟨1, fun k hk => ?_⟩
      obtain ⟨m, rfl⟩ : ∃ m, k = m + 1 := ⟨k - 1, by omega⟩
      simp only [spec_Name_Valid.l0]
      rw [if_pos (by omega), if_pos (by omega), if_pos (by rw [List.length_map]; omega), rdOf_map n i hlt, strOfNums_size]
      by_cases h1 : n[i].length = 0
      · rw [if_pos (by omega)]
      · rw [if_neg (by omega), if_pos (by omega)]
theorem valid_ev (n : List (List Int)) (hb : sizeL n ≤ 4611686018427387904) : Ev (fun k => spec_Name_Valid.f k (n.map strOfNums)) (validB n) := by
  have h := valid_from n hb n.length 0 (by omega)
  rw [List.drop_zero] at h
  refine Ev.congr (fun k => ?_) h
  unfold spec_Name_Valid.f
  rw [List.length_map]
  rfl

/-! ### ParseName -/
abbrev PnR := List ByteArray × Bool × Bool
theorem pn_tok {s : ByteArray} {pre t rest cur : List Int} {c : Int} {p : Bool} {acc : List ByteArray} {R : PnR} (hs : s.size ≤ 140737488351232) (h : bytesOf s = pre ++ (t ++ rest)) (ht : Tok t c p) (hc : ¬ (p = true ∧ c = 46))
    (hcur : cur.length ≤ pre.length) (k : Ev (fun k => spec_ParseName.l0 k s acc (strOfNums (cur ++ [c])) ((pre ++ t).length : Nat)) R) : Ev (fun k => spec_ParseName.l0 k s acc (strOfNums cur) (pre.length : Nat)) R := by
  have he := esc_tok hs h ht
  have hl := bytesOf_length s
  rw [h] at hl
  simp only [List.length_append] at hl
  have hp := ht.pos
  rw [List.length_append] at k
  refine Ev.step (f := fun k => spec_ParseName.j1 k s acc (strOfNums cur) ((pre.length + t.length : Nat) : Int) c false) (fun k => ?_) ?_
  · simp only [spec_ParseName.l0]
    rw [if_pos (by omega), he]
    simp only [Option.bind_some, if_true]
    cases p with
    | false => simp
    | true =>
      have h46 : (c == 46) = false := beq_eq_false_iff_ne.2 fun e => hc ⟨rfl, e⟩
      simp [h46]
  · refine Ev.step (fun k => ?_) k
    simp only [spec_ParseName.j1, Option.bind_some]
    rw [if_neg (by decide), strOfNums_size, strOfNums_size, if_pos (by simp; omega), strOfNums_append]
theorem pn_lab {s : ByteArray} {rest : List Int} {acc : List ByteArray} {R : PnR} (hs : s.size ≤ 140737488351232) {r l : List Int} (hL : Lab r l) : ∀ (pre cur : List Int), bytesOf s = pre ++ (r ++ rest) → cur.length ≤ pre.length →
    Ev (fun k => spec_ParseName.l0 k s acc (strOfNums (cur ++ l)) ((pre ++ r).length : Nat)) R → Ev (fun k => spec_ParseName.l0 k s acc (strOfNums cur) (pre.length : Nat)) R := by
  induction hL with
  | nil => intro pre cur h hcur k; simpa using k
  | @cons t r l c p ht hc _ ih =>
    intro pre cur h hcur k
    refine pn_tok hs (rest := r ++ rest) (by rw [h, List.append_assoc]) ht hc hcur ?_
    refine ih (pre ++ t) (cur ++ [c]) (by rw [h]; simp) (by have := ht.pos; simp; omega) ?_
    rw [List.append_assoc, List.append_assoc]
    exact k
theorem pn_dot {s : ByteArray} {pre rest cur : List Int} {acc : List ByteArray} {R : PnR} (hs : s.size ≤ 140737488351232) (h : bytesOf s = pre ++ 46 :: rest) (hcB : IsB cur) (hne : cur ≠ []) (hacc : acc.length < 8796093022208)
    (k : Ev (fun k => spec_ParseName.l0 k s (acc ++ [strOfNums cur]) (strOfNums []) ((pre ++ [46]).length : Nat)) R) : Ev (fun k => spec_ParseName.l0 k s acc (strOfNums cur) (pre.length : Nat)) R := by
  have he := esc_tok (s := s) (pre := pre) (t := [46]) (rest := rest) hs (by rw [h]; rfl) (.plain 46 (by decide))
  have hl := bytesOf_length s
  rw [h] at hl
  simp only [List.length_append, List.length_cons] at hl
  rw [List.length_append] at k
  refine Ev.step (f := fun k => spec_ParseName.j1 k s acc (strOfNums cur) ((pre.length + [(46 : Int)].length : Nat) : Int) 46 true) (fun k => ?_) ?_
  · simp only [spec_ParseName.l0]
    rw [if_pos (by omega), he]
    simp
  · refine Ev.step (fun k => ?_) k
    simp only [spec_ParseName.j1]
    rw [if_pos trivial, if_neg (by rw [toList_nil, bytesOf_strOfNums hcB]; exact hne), if_pos hacc]
    rfl
theorem pn_empty {s : ByteArray} {pre rest : List Int} {acc : List ByteArray} (hs : s.size ≤ 140737488351232) (h : bytesOf s = pre ++ 46 :: rest) :
    Ev (fun k => spec_ParseName.l0 k s acc (strOfNums []) (pre.length : Nat)) ([], false, false) := by
  have he := esc_tok (s := s) (pre := pre) (t := [46]) (rest := rest) hs (by rw [h]; rfl) (.plain 46 (by decide))
  have hl := bytesOf_length s
  rw [h] at hl
  simp only [List.length_append, List.length_cons] at hl
  refine Ev.step (f := fun k => spec_ParseName.j1 k s acc (strOfNums []) ((pre.length + [(46 : Int)].length : Nat) : Int) 46 true) (fun k => ?_) ?_
  · simp only [spec_ParseName.l0]
    rw [if_pos (by omega), he]
    simp
  · refine ⟨1, fun k hk => ?_⟩
    obtain ⟨m, rfl⟩ : ∃ m, k = m + 1 := ⟨k - 1, by omega⟩
    simp only [spec_ParseName.j1]
    rw [if_pos trivial, if_pos (by rw [toList_nil, bytesOf_strOfNums IsB.nil])]
theorem pn_bad {s : ByteArray} {pre rest cur : List Int} {acc : List ByteArray} (hs : s.size ≤ 140737488351232) (h : bytesOf s = pre ++ 92 :: rest) (hno : ∀ t c p rest', 92 :: rest = t ++ rest' → ¬ Tok t c p) :
    Ev (fun k => spec_ParseName.l0 k s acc (strOfNums cur) (pre.length : Nat)) ([], false, false) := by
  obtain ⟨x, y, z, he⟩ := esc_bad hs h hno
  have hl := bytesOf_length s
  rw [h] at hl
  simp only [List.length_append, List.length_cons] at hl
  refine ⟨1, fun k hk => ?_⟩
  obtain ⟨m, rfl⟩ : ∃ m, k = m + 1 := ⟨k - 1, by omega⟩
  simp only [spec_ParseName.l0]
  rw [if_pos (by omega), he]
  simp
theorem pn_labs {s : ByteArray} {rest : List Int} {R : PnR} (hs : s.size ≤ 140737488351232) {rs ls : List (List Int)} (hL : Labs rs ls) : ∀ (pre : List Int) (acc : List ByteArray), bytesOf s = pre ++ (joinD rs ++ rest) → acc.length ≤ pre.length → s.size < 8796093022208 →
    Ev (fun k => spec_ParseName.l0 k s (acc ++ ls.map strOfNums) (strOfNums []) ((pre ++ joinD rs).length : Nat)) R → Ev (fun k => spec_ParseName.l0 k s acc (strOfNums []) (pre.length : Nat)) R := by
  induction hL with
  | nil => intro pre acc h hacc hsz k; simpa [joinD] using k
  | @cons r l rs ls h1 h2 _ ih =>
    intro pre acc h hacc hsz k
    have hl := bytesOf_length s
    have hB : IsB (pre ++ (joinD (r :: rs) ++ rest)) := h ▸ bytesOf_isB s
    have hBr : IsB l := h1.isB (by have := hB.right.left; simp only [joinD] at this; exact this.left)
    rw [h] at hl
    simp only [List.length_append, joinD, List.length_cons] at hl
    refine pn_lab hs (r := r) (l := l) (rest := 46 :: joinD rs ++ rest) h1 pre [] (by rw [h]; simp [joinD]) (by simp) ?_
    refine pn_dot hs (rest := joinD rs ++ rest) (by rw [h]; simp [joinD]) hBr h2 (by omega) ?_
    refine ih (pre ++ r ++ [46]) (acc ++ [strOfNums l]) (by rw [h]; simp [joinD]) (by simp; omega) hsz ?_
    have e1 : acc ++ [strOfNums l] ++ ls.map strOfNums = acc ++ (l :: ls).map strOfNums := by simp
    have e2 : pre ++ r ++ [46] ++ joinD rs = pre ++ joinD (r :: rs) := by simp [joinD]
    rw [e1, e2]
    exact k

def namesOf (ls : List (List Int)) (l : List Int) : List (List Int) := if l = [] then ls else ls ++ [l]
theorem pn_end {s : ByteArray} {ls : List (List Int)} {l : List Int} (hs : s.size < 8796093022208) (hlB : IsB l) (hls : ls.length ≤ s.size) (hsz : sizeL (namesOf ls l) ≤ 4611686018427387904) :
    Ev (fun k => spec_ParseName.l0 k s (ls.map strOfNums) (strOfNums l) (s.size : Nat))
      ((namesOf ls l).map strOfNums, decide (l = [] ∧ ls ≠ []), (decide (namesOf ls l ≠ []) && validB (namesOf ls l))) := by
  have hv := valid_ev (namesOf ls l) hsz
  by_cases hl : l = []
  · subst hl
    have en : namesOf ls [] = ls := if_pos rfl
    rw [en] at hv ⊢
    by_cases hn : ls = []
    · subst hn
      refine ⟨1, fun k hk => ?_⟩
      obtain ⟨m, rfl⟩ : ∃ m, k = m + 1 := ⟨k - 1, by omega⟩
      simp only [spec_ParseName.l0]
      rw [if_neg (by omega), if_pos (by rw [toList_nil, bytesOf_strOfNums hlB])]
      simp
    · have hp : 0 < ls.length := List.length_pos_iff.2 hn
      refine Ev.step (f := fun k => (spec_Name_Valid.f k (ls.map strOfNums)).bind fun t => some (ls.map strOfNums, true, t)) (fun k => ?_) (Ev.bind (f := fun _ t => some (ls.map strOfNums, true, t)) hv ?_)
      · simp only [spec_ParseName.l0]
        rw [if_neg (by omega), if_pos (by rw [toList_nil, bytesOf_strOfNums hlB]), if_pos (by rw [List.length_map]; omega)]
        simp [hp]
      · exact ⟨0, fun k _ => by simp [hn]⟩
  · have en : namesOf ls l = ls ++ [l] := if_neg hl
    rw [en] at hv ⊢
    refine Ev.step (f := fun k => (spec_Name_Valid.f k ((ls ++ [l]).map strOfNums)).bind fun t => some ((ls ++ [l]).map strOfNums, false, t)) (fun k => ?_) (Ev.bind (f := fun _ t => some ((ls ++ [l]).map strOfNums, false, t)) hv ?_)
    · simp only [spec_ParseName.l0]
      rw [if_neg (by omega), if_neg (by rw [toList_nil, bytesOf_strOfNums hlB]; exact hl), if_pos (by rw [List.length_map]; omega)]
      simp
    · exact ⟨0, fun k _ => by simp [hl]⟩

theorem Labs.len {rs ls : List (List Int)} (h : Labs rs ls) : sizeL ls ≤ (joinD rs).length + 1 := by
  induction h with
  | nil => simp [sizeL, joinD]
  | cons h1 h2 _ ih => have := h1.len; simp [sizeL, joinD]; omega
theorem namesOf_size {rs ls : List (List Int)} {r l : List Int} (h : Labs rs ls) (k : Lab r l) : sizeL (namesOf ls l) ≤ (joinD rs).length + r.length + 2 := by
  have h1 := h.len
  have h2 := k.len
  unfold namesOf
  split
  · omega
  · have := sizeL_append ls [l]
    rw [show sizeL [l] = 1 + l.length + 1 from rfl] at this
    omega
theorem not_dot {s : ByteArray} {rs ls : List (List Int)} {r l : List Int} (h : Labs rs ls) (k : Lab r l) (e : bytesOf s = joinD rs ++ r) : bytesOf s ≠ [46] := by
  intro h46
  rw [h46] at e
  cases h with
  | nil =>
    simp [joinD] at e
    subst e
    generalize hx : [(46 : Int)] = x at k
    cases k with
    | nil => cases hx
    | cons ht hc hr =>
      cases ht with
      | plain c _ => simp at hx; exact hc ⟨rfl, hx.1.symm⟩
      | sign d _ => simp at hx
      | ddd a b c _ _ _ _ => simp at hx
  | cons h1 h2 _ =>
    have := h1.len
    have h3 : 1 ≤ _ := List.length_pos_iff.2 h2
    have := congrArg List.length e
    simp [joinD] at this
    omega
/-- A text that is a list of labels (and a rest of one). -/
theorem parse_ok {s : ByteArray} {rs ls : List (List Int)} {r l : List Int} (hs : s.size < 8796093022208) (h : Labs rs ls) (k : Lab r l) (e : bytesOf s = joinD rs ++ r) :
    Ev (fun k => spec_ParseName.f k s) ((namesOf ls l).map strOfNums, decide (l = [] ∧ ls ≠ []), (decide (namesOf ls l ≠ []) && validB (namesOf ls l))) := by
  have hn := not_dot h k e
  have hB : IsB (joinD rs ++ r) := e ▸ bytesOf_isB s
  have hl := bytesOf_length s
  rw [e, List.length_append] at hl
  have hz := namesOf_size h k
  have hle := len_le_size ls
  have h1 := h.len
  have h5 := pn_end (s := s) hs (k.isB hB.right) (ls := ls) (by
    by_cases h0 : rs = []
    · subst h0
      cases h
      simp
    · omega) (by omega)
  have h3 := pn_lab (s := s) (acc := ls.map strOfNums) (rest := []) (by omega) k (joinD rs) [] (by rw [e, List.append_nil]) (by simp) (by rw [List.nil_append, List.length_append, hl]; exact h5)
  have h2 := pn_labs (s := s) (rest := r) (by omega) h [] [] (by rw [e]; rfl) (by simp) hs (by rw [List.nil_append, List.nil_append]; exact h3)
  refine Ev.congr (fun k => ?_) h2
  unfold spec_ParseName.f
  rw [if_neg (by rw [toList_dot]; exact hn)]
  rfl
theorem parse_dot {s : ByteArray} (h : bytesOf s = [46]) : Ev (fun k => spec_ParseName.f k s) ([], true, true) := by
  refine ⟨0, fun k _ => ?_⟩
  show spec_ParseName.f k s = _
  unfold spec_ParseName.f
  rw [if_pos (by rw [toList_dot]; exact h)]
theorem parse_empty {s : ByteArray} {rs ls : List (List Int)} {rest : List Int} (hs : s.size < 8796093022208) (h : Labs rs ls) (e : bytesOf s = joinD rs ++ 46 :: rest) (hn : bytesOf s ≠ [46]) :
    Ev (fun k => spec_ParseName.f k s) ([], false, false) := by
  have h3 := pn_empty (s := s) (pre := joinD rs) (acc := ls.map strOfNums) (by omega) e
  have h2 := pn_labs (s := s) (rest := 46 :: rest) (by omega) h [] [] (by rw [e]; rfl) (by simp) hs (by rw [List.nil_append, List.nil_append]; exact h3)
  refine Ev.congr (fun k => ?_) h2
  unfold spec_ParseName.f
  rw [if_neg (by rw [toList_dot]; exact hn)]
  rfl
theorem parse_bad {s : ByteArray} {rs ls : List (List Int)} {r l rest : List Int} (hs : s.size < 8796093022208) (h : Labs rs ls) (k : Lab r l) (e : bytesOf s = joinD rs ++ (r ++ 92 :: rest)) (hno : ∀ t c p rest', 92 :: rest = t ++ rest' → ¬ Tok t c p) :
    Ev (fun k => spec_ParseName.f k s) ([], false, false) := by
  have hn : bytesOf s ≠ [46] := by
    intro h46
    have : (92 : Int) ∈ bytesOf s := by rw [e]; simp
    rw [h46] at this
    simp at this
  have h4 := pn_bad (s := s) (pre := joinD rs ++ r) (cur := l) (acc := ls.map strOfNums) (by omega) (by rw [e, List.append_assoc]) hno
  have h3 := pn_lab (s := s) (acc := ls.map strOfNums) (rest := 92 :: rest) (by omega) k (joinD rs) [] e (by simp) h4
  have h2 := pn_labs (s := s) (rest := r ++ 92 :: rest) (by omega) h [] [] (by rw [e]; rfl) (by simp) hs (by rw [List.nil_append, List.nil_append]; exact h3)
  refine Ev.congr (fun k => ?_) h2
  unfold spec_ParseName.f
  rw [if_neg (by rw [toList_dot]; exact hn)]
  rfl

end Go.Proofs.YtiilihafcdmccaaDoor.P
