/- Texts of this session merged by program (wip/tools/merge.py): TextL, B32, PF67, BitsE, QTail, PF122, PF94, Sha, PF93, ShaW, PF121, PF95, PF92, PadE, ZzSha, ShHash, Psh, Enc, Enc2, Upper, Enc3. -/
import Derived.Test.YtiilihafcdmccaaDoorXHa2
import Derived.Lib.Case
import Derived.Test.YtiilihafcdmccaaDoorXHa1
import Derived.Laws.BitsLemmas
import Derived.StillTail
import Derived.StillTailTactics
import Derived.Deep.QuietTactic
import Derived.BigQuiet
import Derived.Laws.Rows
import Derived.Shelf.Strings.OnBuilder
import Derived.Shelf.Hex.Lens
import Derived.Shelf.Hex.DecodeOwns
import Derived.Test.YtiilihafcdmccaaDoorProg
import Derived.Lib.ShelfFacts
/- The text that the reference writes where no choices are given: it is one text, and that text with small letters is the text of the name with small letters. -/
namespace Go.Proofs.YtiilihafcdmccaaDoor.P
open Go.RowKit Go.Proofs.YtiilihafcdmccaaDoorW.PrintWords
set_option linter.unusedVariables false
set_option linter.unusedSimpArgs false

theorem of_nil (at_ m : Int) : Ev (fun k => spec_chooser_of.f k [] at_ [] false m) (0, at_, false) := by
  refine ⟨1, fun k hk => ?_⟩
  obtain ⟨k, rfl⟩ : ∃ j, k = j + 1 := ⟨k - 1, by omega⟩
  show spec_chooser_of.f (k + 1) [] at_ [] false m = _
  unfold spec_chooser_of.f
  rw [if_pos (by simp)]
  simp [spec_chooser_of.j0]
def spB (b : Int) : Bool := decide (b = 46 ∨ b = 40 ∨ b = 41 ∨ b = 59 ∨ b = 64 ∨ b = 34 ∨ b = 92 ∨ b = 36)
theorem special_sp (b : Int) : spec_special.f b = some (spB b) := by
  unfold spec_special.f spB
  repeat' split
  all_goals (first | (rw [decide_eq_true (by omega)]) | (rw [decide_eq_false (by omega)]))
def chrN (b : Int) : List Int := if 32 < b ∧ b < 127 then (if spB b = true then [92, b] else [b]) else dddL b
theorem sp_low (b : Int) : spB (lowI b) = spB b := by
  unfold spB lowI
  split
  · rw [decide_eq_false (by omega), decide_eq_false (by omega)]
  · rfl
theorem sp_not_low {b : Int} (h : spB b = true) : lowI b = b := by
  unfold spB at h
  have := of_decide_eq_true h
  unfold lowI
  rw [if_neg (by omega)]
theorem chrN_low (b : Int) (h0 : 0 ≤ b) (h : b < 256) : (chrN b).map lowI = chrN (lowI b) := by
  unfold chrN
  rw [sp_low]
  by_cases h1 : 32 < b ∧ b < 127
  · have h2 : 32 < lowI b ∧ lowI b < 127 := by unfold lowI; split <;> omega
    rw [if_pos h1, if_pos h2]
    by_cases hs : spB b = true
    · rw [if_pos hs, if_pos hs]
      rfl
    · rw [if_neg hs, if_neg hs]
      rfl
  · have e : lowI b = b := by unfold lowI; rw [if_neg (by omega)]
    rw [if_neg h1, e, if_neg h1]
    have d : ∀ x : Int, x < 65 → lowI x = x := fun x hx => by unfold lowI; rw [if_neg (by omega)]
    have d2 : lowI 92 = 92 := rfl
    unfold dddL
    simp only [List.map_cons, List.map_nil]
    rw [d2, d _ (by omega), d _ (by omega), d _ (by omega)]
theorem chrN_isB (b : Int) (h0 : 0 ≤ b) (h : b < 256) : IsB (chrN b) := by
  unfold chrN
  split
  · split <;> (intro x hx; simp at hx; omega)
  · exact asc_isB (ddd_asc b h0 h)
theorem chrN_len (b : Int) : (chrN b).length ≤ 4 := by
  unfold chrN
  split
  · split <;> simp
  · simp [dddL]
theorem char_nil (b : Int) (h0 : 0 ≤ b) (h : b < 256) (at_ : Int) : Ev (fun k => spec_chooser_char.f k [] at_ [] false b (spB b)) (strOfNums (chrN b), at_, false) := by
  by_cases hp : 32 < b ∧ b < 127
  · have hj1 : Ev (fun k => spec_chooser_char.j1 k b (spB b) false [] at_ [] false) (strOfNums (chrN b), at_, false) := by
      unfold chrN
      rw [if_pos hp]
      cases hs : spB b with
      | true =>
        have hnd : ¬ dig b := by
          have := of_decide_eq_true (show decide _ = true from hs)
          unfold dig
          omega
        have hn35 : (b != 35) = true := by
          have := of_decide_eq_true (show decide _ = true from hs)
          rw [bne_iff_ne]
          omega
        refine ⟨2, fun k hk => ?_⟩
        obtain ⟨k, rfl⟩ : ∃ j, k = j + 2 := ⟨k - 2, by omega⟩
        simp only [spec_chooser_char.j1]
        rw [if_neg Bool.false_ne_true, if_pos trivial, isDigit_eq, decide_eq_false hnd, Option.bind_some, if_neg Bool.false_ne_true, hn35]
        simp only [spec_chooser_char.j2]
        rw [if_pos trivial, Option.bind_some, if_pos (by rw [strOfNums_size]; simp)]
        have e : (⟨#[92]⟩ : ByteArray) ++ strOfNums [b] = strOfNums [92, b] := by rw [show (⟨#[92]⟩ : ByteArray) = strOfNums [92] from rfl, strOfNums_append]; rfl
        rw [e]
        simp
      | false =>
        have h3 := of_nil at_ 12
        refine Ev.step (f := fun k => (spec_chooser_of.f k [] at_ [] false 12).bind fun bt365 => (if bt365.1 = 11 then ((spec_isDigit.f b).bind fun t368 => (if t368 = true then (spec_chooser_char.j2 k b false false [] bt365.2.1 [] bt365.2.2) else (spec_chooser_char.j2 k b false (b != 35) [] bt365.2.1 [] bt365.2.2))) else (spec_chooser_char.j2 k b false false [] bt365.2.1 [] bt365.2.2))) (fun k => ?_) (Ev.bind (f := fun k (bt365 : Int × Int × Bool) => (if bt365.1 = 11 then ((spec_isDigit.f b).bind fun t368 => (if t368 = true then (spec_chooser_char.j2 k b false false [] bt365.2.1 [] bt365.2.2) else (spec_chooser_char.j2 k b false (b != 35) [] bt365.2.1 [] bt365.2.2))) else (spec_chooser_char.j2 k b false false [] bt365.2.1 [] bt365.2.2))) h3 ?_)
        · simp only [spec_chooser_char.j1]
          rw [if_neg Bool.false_ne_true, if_neg Bool.false_ne_true]
        · refine ⟨1, fun k hk => ?_⟩
          obtain ⟨k, rfl⟩ : ∃ j, k = j + 1 := ⟨k - 1, by omega⟩
          simp only [spec_chooser_char.j2]
          rw [if_neg (by omega), if_neg Bool.false_ne_true, if_neg Bool.false_ne_true, if_neg Bool.false_ne_true]
    refine Ev.congr (g := fun k => spec_chooser_char.f k [] at_ [] false b (spB b)) (f := fun k => spec_chooser_char.j0 k b (spB b) true [] at_ [] false) (fun k => ?_) (Ev.step (f := fun k => (spec_chooser_of.f k [] at_ [] false 9).bind fun bt360 => (spec_chooser_char.j1 k b (spB b) (bt360.1 == 8) [] bt360.2.1 [] bt360.2.2)) (fun k => ?_) (Ev.bind (f := fun k (bt360 : Int × Int × Bool) => (spec_chooser_char.j1 k b (spB b) (bt360.1 == 8) [] bt360.2.1 [] bt360.2.2)) (of_nil at_ 9) hj1))
    · unfold spec_chooser_char.f
      rw [if_pos hp.1, decide_eq_true hp.2]
    · simp only [spec_chooser_char.j0]
      rw [if_pos trivial]
  · have e : chrN b = dddL b := by unfold chrN; rw [if_neg hp]
    rw [e]
    refine Ev.congr (g := fun k => spec_chooser_char.f k [] at_ [] false b (spB b)) (f := fun k => spec_chooser_char.j0 k b (spB b) false [] at_ [] false) (fun k => ?_) (Ev.step (fun k => ?_) (j1_ddd b h0 h [] at_ (spB b)))
    · unfold spec_chooser_char.f
      by_cases h32 : b > 32
      · rw [if_pos h32, decide_eq_false (by omega)]
      · rw [if_neg h32]
    · simp only [spec_chooser_char.j0]
      rw [if_neg Bool.false_ne_true]
def labN (l : List Int) : List Int := l.flatMap chrN
theorem lab_nil (names : List ByteArray) (N i : Int) (l : List Int) (hB : IsB l) (hlen : l.length ≤ 63) (d : Nat) : ∀ (j : Nat) (at_ : Int), j + d = l.length →
    ∀ (R : ByteArray × Int × Bool) (A : List Int), A.length + 4 * d + 1 ≤ 1000000 → Ev (fun k => spec_chooser_name.l0 k false (strOfNums (A ++ labN (l.drop j) ++ [46])) names N (wrap64 (i + 1)) [] at_ [] false) R →
      Ev (fun k => spec_chooser_name.l1 k false (strOfNums A) (strOfNums l) names N i (l.length : Nat) (j : Nat) [] at_ [] false) R := by
  induction d with
  | zero =>
    intro j at_ hj R A hA h
    rw [List.drop_of_length_le (by omega)] at h
    refine Ev.step (fun k => ?_) h
    simp only [spec_chooser_name.l1]
    rw [if_neg (by omega), strOfNums_size, if_pos (by omega), show labN [] = [] from rfl, List.append_nil, show (⟨#[46]⟩ : ByteArray) = strOfNums [46] from rfl, strOfNums_append]
  | succ d ih =>
    intro j at_ hj R A hA h
    have hlt : j < l.length := by omega
    have hd := List.drop_eq_getElem_cons hlt
    have hb := hB l[j] (List.getElem_mem hlt)
    have hc := chrN_len l[j]
    have h7 := ih (j + 1) at_ (by omega) R (A ++ chrN l[j]) (by rw [List.length_append]; omega) (by
      rw [List.append_assoc A, show chrN l[j] ++ labN (l.drop (j + 1)) = labN (l.drop j) by rw [hd]; rfl]
      exact h)
    have hbt : bt (strOfNums l) (j : Int) = l[j] := by
      rw [bt_nat, bytesOf_strOfNums hB, List.getD_eq_getElem?_getD, List.getElem?_eq_getElem hlt, Option.getD_some]
    refine Ev.step (f := fun k => (spec_chooser_char.f k [] at_ [] false l[j] (spB l[j])).bind fun bt378 => (if (strOfNums A).size + bt378.1.size ≤ 9223372036854775807 then (spec_chooser_name.l1 k false ((strOfNums A) ++ bt378.1) (strOfNums l) names N i (l.length : Nat) ((j + 1 : Nat) : Int) [] bt378.2.1 [] bt378.2.2) else none)) (fun k => ?_) (Ev.bind (f := fun k (bt378 : ByteArray × Int × Bool) => (if (strOfNums A).size + bt378.1.size ≤ 9223372036854775807 then (spec_chooser_name.l1 k false ((strOfNums A) ++ bt378.1) (strOfNums l) names N i (l.length : Nat) ((j + 1 : Nat) : Int) [] bt378.2.1 [] bt378.2.2) else none)) (char_nil l[j] hb.1 hb.2 at_) ?_)
    · simp only [spec_chooser_name.l1]
      rw [if_pos (by omega), if_pos (by omega), if_pos (by rw [strOfNums_size]; omega), hbt, special_sp, Option.bind_some, w64 (x := (j : Int) + 1) (by omega) (by omega)]
      rfl
    · refine Ev.congr (fun k => ?_) h7
      simp only []
      rw [if_pos (by rw [strOfNums_size, strOfNums_size]; omega), strOfNums_append]
theorem labN_len (l : List Int) : (labN l).length ≤ 4 * l.length := by
  induction l with
  | nil => simp [labN]
  | cons a l ih =>
    have := chrN_len a
    rw [show labN (a :: l) = chrN a ++ labN l from rfl, List.length_append, List.length_cons]
    omega
theorem join_cons (A x : List Int) (t : List (List Int)) : A ++ x ++ [46] ++ joinD t = A ++ joinD (x :: t) := by simp [joinD]
theorem name_nil (n : List (List Int)) (hB : ∀ l ∈ n, IsB l) (h63 : ∀ l ∈ n, l.length ≤ 63) (hz : sizeL n ≤ 255) (d : Nat) : ∀ (i : Nat) (at_ : Int), i + d = n.length →
    ∀ A : List Int, A.length + 5 * sizeL (n.drop i) ≤ 100000 → Ev (fun k => spec_chooser_name.l0 k false (strOfNums A) (n.map strOfNums) (n.length : Nat) (i : Nat) [] at_ [] false) (strOfNums (A ++ joinD ((n.drop i).map labN)), at_, false) := by
  induction d with
  | zero =>
    intro i at_ hi A hA
    rw [List.drop_of_length_le (by omega)]
    refine ⟨1, fun k hk => ?_⟩
    obtain ⟨k, rfl⟩ : ∃ j, k = j + 1 := ⟨k - 1, by omega⟩
    simp only [spec_chooser_name.l0]
    rw [if_neg (by omega), if_neg Bool.false_ne_true]
    simp [joinD]
  | succ d ih =>
    intro i at_ hi A hA
    have hlt : i < n.length := by omega
    have hd := List.drop_eq_getElem_cons hlt
    have hm := List.getElem_mem hlt
    rw [hd] at hA ⊢
    rw [sizeL] at hA
    have hn1 := len_le_size n
    have hc := labN_len n[i]
    have h7 := ih (i + 1) at_ (by omega) (A ++ labN n[i] ++ [46]) (by simp; omega)
    rw [show A ++ labN n[i] ++ [46] ++ joinD ((n.drop (i + 1)).map labN) = A ++ joinD ((n[i] :: n.drop (i + 1)).map labN) from join_cons _ _ _] at h7
    have h6 := lab_nil (n.map strOfNums) (n.length : Nat) (i : Nat) n[i] (hB _ hm) (h63 _ hm) n[i].length 0 at_ (by omega)
    rw [List.drop_zero] at h6
    refine Ev.step (fun k => ?_) (h6 _ A (by omega) (Ev.congr (fun k => ?_) h7))
    · simp only [spec_chooser_name.l0]
      rw [if_pos (by omega), if_pos (by omega), if_pos (by rw [List.length_map]; omega), rdOf_map n i hlt, strOfNums_size]
      rfl
    · rw [w64 (x := ((i : Nat) : Int) + 1) (by omega) (by omega)]
      rfl
def txt (n : List (List Int)) : ByteArray := if n = [] then ⟨#[46]⟩ else strOfNums (joinD (n.map labN))
theorem txt_ev (n : List (List Int)) (hB : ∀ l ∈ n, IsB l) (hv : validB n = true) : Ev (fun k => spec_Name_Text.f k (n.map strOfNums) []) (txt n) := by
  obtain ⟨hne, h63, hz⟩ := validB_inv hv
  by_cases hn : n = []
  · subst hn
    refine ⟨0, fun k _ => ?_⟩
    show spec_Name_Text.f k _ _ = _
    unfold spec_Name_Text.f spec_chooser_name.f
    rw [if_pos (by simp)]
    rfl
  · have h5 := name_nil n hB h63 hz n.length 0 0 (by omega) [] (by simp; omega)
    rw [List.drop_zero, List.nil_append] at h5
    unfold txt
    rw [if_neg hn]
    refine Ev.congr (f := fun k => (spec_chooser_name.l0 k false (strOfNums []) (n.map strOfNums) (n.length : Nat) ((0 : Nat) : Int) [] 0 [] false).bind fun t => some t.1) (fun k => ?_) (Ev.bind (f := fun _ (t : ByteArray × Int × Bool) => some t.1) h5 (Ev.now _))
    unfold spec_Name_Text.f spec_chooser_name.f
    have hp : 0 < n.length := List.length_pos_iff.2 hn
    rw [if_neg (by rw [List.length_map]; omega), List.length_map]
    rfl
theorem txt_text (n : List (List Int)) (hB : ∀ l ∈ n, IsB l) (hv : validB n = true) : TextOf (txt n) n ∧ isAscii (bytesOf (txt n)) = true ∧ (txt n).size ≤ 2000 := by
  obtain ⟨s, h1, h2⟩ := text_ev [] (by simp) n hB hv
  have := ev_inj (txt_ev n hB hv) h1
  rw [this]
  exact h2
/-- A name with small letters. -/
def lowN (n : List (List Int)) : List (List Int) := n.map (·.map lowI)
theorem lowI_B {x : Int} (h : 0 ≤ x ∧ x < 256) : 0 ≤ lowI x ∧ lowI x < 256 := by unfold lowI; split <;> omega
theorem lowN_isB {n : List (List Int)} (hB : ∀ l ∈ n, IsB l) : ∀ l ∈ lowN n, IsB l := by
  intro l hl
  obtain ⟨m, hm, rfl⟩ := List.mem_map.1 hl
  intro x hx
  obtain ⟨y, hy, rfl⟩ := List.mem_map.1 hx
  exact lowI_B (hB m hm y hy)
theorem lowN_size (n : List (List Int)) : sizeL (lowN n) = sizeL n := by
  induction n with
  | nil => rfl
  | cons l ls ih =>
    show sizeL (l.map lowI :: lowN ls) = _
    rw [sizeL, sizeL, ih, List.length_map]
theorem lowN_valid (n : List (List Int)) : validB (lowN n) = validB n := by
  unfold validB
  rw [lowN_size]
  congr 1
  unfold okB lowN
  rw [List.all_map]
  congr 1
  funext l
  simp
theorem labN_low {l : List Int} (h : IsB l) : (labN l).map lowI = labN (l.map lowI) := by
  induction l with
  | nil => rfl
  | cons a l ih =>
    rw [show labN (a :: l) = chrN a ++ labN l from rfl, List.map_append, chrN_low a (h a List.mem_cons_self).1 (h a List.mem_cons_self).2, ih (fun x hx => h x (List.mem_cons_of_mem _ hx))]
    rfl
theorem join_low (n : List (List Int)) (hB : ∀ l ∈ n, IsB l) : (joinD (n.map labN)).map lowI = joinD ((lowN n).map labN) := by
  induction n with
  | nil => rfl
  | cons l ls ih =>
    show (labN l ++ 46 :: joinD (ls.map labN)).map lowI = labN (l.map lowI) ++ 46 :: joinD ((lowN ls).map labN)
    rw [List.map_append, labN_low (hB l List.mem_cons_self), List.map_cons, ih (fun x hx => hB x (List.mem_cons_of_mem _ hx))]
    rfl
theorem join_isB (n : List (List Int)) (hB : ∀ l ∈ n, IsB l) : IsB (joinD (n.map labN)) := by
  induction n with
  | nil => exact IsB.nil
  | cons l ls ih =>
    refine IsB.append ?_ (IsB.cons (by omega) (ih (fun x hx => hB x (List.mem_cons_of_mem _ hx))))
    intro x hx
    obtain ⟨b, hb, hx⟩ := List.mem_flatMap.1 hx
    have := hB l List.mem_cons_self b hb
    exact chrN_isB b this.1 this.2 x hx
/-- The text with small letters is the text of the name with small letters. -/
theorem txt_low (n : List (List Int)) (hB : ∀ l ∈ n, IsB l) : lowerB (txt n) = txt (lowN n) := by
  unfold lowerB txt
  by_cases hn : n = []
  · subst hn
    rfl
  · rw [if_neg hn, if_neg (by simpa [lowN] using hn), bytesOf_strOfNums (join_isB n hB), join_low n hB]
theorem lowerB_nat (b : UInt8) : ((Lib.lowerB b).toNat : Int) = lowI (b.toNat : Int) := by
  cases h : Lib.isUpperB b with
  | true =>
    rw [Lib.lowerB_int b h]
    simp only [Lib.isUpperB, Bool.and_eq_true, decide_eq_true_eq, UInt8.le_iff_toNat_le] at h
    unfold lowI
    have h1 : (65 : UInt8).toNat = 65 := rfl
    have h2 : (90 : UInt8).toNat = 90 := rfl
    rw [if_pos (by omega)]
  | false =>
    rw [Lib.lowerB_of_not b h]
    simp only [Lib.isUpperB, Bool.and_eq_false_iff, decide_eq_false_iff_not, UInt8.le_iff_toNat_le] at h
    unfold lowI
    have h1 : (65 : UInt8).toNat = 65 := rfl
    have h2 : (90 : UInt8).toNat = 90 := rfl
    rw [if_neg (by omega)]
theorem toLowerA_low (s : ByteArray) : (⟨(Lib.toLowerA s.data.toList).toArray⟩ : ByteArray) = lowerB s := by
  apply bytesOf_inj
  unfold lowerB
  rw [bytesOf_strOfNums]
  · show ((s.data.toList.map Lib.lowerB).toArray.toList.map fun b => (b.toNat : Int)) = (s.data.toList.map fun b => (b.toNat : Int)).map lowI
    rw [List.map_map, List.map_map]
    exact List.map_congr_left fun b _ => lowerB_nat b
  · intro x hx
    obtain ⟨y, hy, rfl⟩ := List.mem_map.1 hx
    exact lowI_B (bytesOf_isB s y hy)

end Go.Proofs.YtiilihafcdmccaaDoor.P
/- Base 32 and base 16 of octets: in plain Lean, as both sides reckon them. -/
namespace Go.Proofs.YtiilihafcdmccaaDoor.P
open Go.RowKit Go.Proofs.YtiilihafcdmccaaDoorW.PrintWords
set_option linter.unusedVariables false
set_option linter.unusedSimpArgs false

/-- The small and the large digit of a number below 32. -/
def dgL (v : Int) : Int := if v < 10 then 48 + v else 87 + v
def dgU (v : Int) : Int := if v < 10 then 48 + v else 55 + v
/-- Five octets as eight numbers of five bits. -/
def g5 (a b c d e : Int) : List Int := [a / 8, a % 8 * 4 + b / 64, b / 2 % 32, b % 2 * 16 + c / 16, c % 16 * 2 + d / 128, d / 4 % 32, d % 4 * 8 + e / 32, e % 32]
def enc5 : List Int → List Int
  | a :: b :: c :: d :: e :: t => g5 a b c d e ++ enc5 t
  | _ => []
def enc4 (l : List Int) : List Int := l.flatMap fun b => [b / 16, b % 16]
theorem g5_lt {a b c d e : Int} (ha : 0 ≤ a ∧ a < 256) (hb : 0 ≤ b ∧ b < 256) (hc : 0 ≤ c ∧ c < 256) (hd : 0 ≤ d ∧ d < 256) (he : 0 ≤ e ∧ e < 256) : ∀ v ∈ g5 a b c d e, 0 ≤ v ∧ v < 32 := by
  intro v hv
  simp only [g5, List.mem_cons, List.not_mem_nil, or_false] at hv
  omega
theorem enc5_lt : ∀ (l : List Int), IsB l → ∀ v ∈ enc5 l, 0 ≤ v ∧ v < 32
  | a :: b :: c :: d :: e :: t, h => fun v hv => by
    rw [enc5, List.mem_append] at hv
    rcases hv with hv | hv
    · exact g5_lt (h a (by simp)) (h b (by simp)) (h c (by simp)) (h d (by simp)) (h e (by simp)) v hv
    · exact enc5_lt t (fun x hx => h x (by simp [hx])) v hv
  | [], _ => fun v hv => by cases hv
  | [_], _ => fun v hv => by cases hv
  | [_, _], _ => fun v hv => by cases hv
  | [_, _, _], _ => fun v hv => by cases hv
  | [_, _, _, _], _ => fun v hv => by cases hv
theorem up_dgL {v : Int} (h0 : 0 ≤ v) (h : v < 32) : (if 97 ≤ dgL v ∧ dgL v ≤ 122 then dgL v - 32 else dgL v) = dgU v := by
  unfold dgL dgU
  split <;> split <;> omega

end Go.Proofs.YtiilihafcdmccaaDoor.P
-- Written by a program of this session (wip/tools/pprint.py) out of the translation: it goes by the kit's print and by the contracts of YtiilihafcdmccaaDoorHand. Not trusted: Lean checks it.
namespace Go.Proofs.YtiilihafcdmccaaDoor.P
open Go.RowKit Go.Proofs.YtiilihafcdmccaaDoorW.PrintWords Go.Proofs.YtiilihafcdmccaaDoorW.PrintLast Go.Proofs.YtiilihafcdmccaaDoorW.PrintMore
attribute [local go_sem] max2_int min2_int max_two min_two max_three min_three max_four min_four   -- for this text's walks alone
set_option linter.unusedVariables false
set_option linter.unusedSimpArgs false

/-! ### spec_bits: function 67 -/
mutual
def spec_bits.l0 : Nat → ByteArray → Int → ByteArray → Int → Int → List Int → Int → Int → Option (ByteArray)
  | 0, _, _, _, _, _, _, _, _ => none
  | k + 1, x1, x2, x7, x8, x9, x13, x14, x15 => if x15 < x14 then (if 0 ≤ x15 then (if x15 < (x13.length : Int) then (spec_bits.l1 k x1 x2 x7 (wrap64 (x8 + 8)) (Go.bits .or .i64 (wrap64 (x9 * 256)) (wrap64 (rd x13 x15))) x13 x14 x15) else (none)) else (none)) else (if x8 > 0 then (if 0 ≤ (wrap64 (x2 - x8)) then (if 0 ≤ (shl .i64 x9 (wrap64 (x2 - x8))) then (if (shl .i64 x9 (wrap64 (x2 - x8))) ≤ (wrap64 ((shl .i64 x9 (wrap64 (x2 - x8))) + 1)) then (if (wrap64 ((shl .i64 x9 (wrap64 (x2 - x8))) + 1)) ≤ (x1.size : Int) then (if x7.size + (x1.extract ((shl .i64 x9 (wrap64 (x2 - x8))) : Int).toNat ((wrap64 ((shl .i64 x9 (wrap64 (x2 - x8))) + 1)) : Int).toNat).size ≤ 9223372036854775807 then (some (x7 ++ (x1.extract ((shl .i64 x9 (wrap64 (x2 - x8))) : Int).toNat ((wrap64 ((shl .i64 x9 (wrap64 (x2 - x8))) + 1)) : Int).toNat))) else (none)) else (none)) else (none)) else (none)) else (none)) else (some x7))
def spec_bits.l1 : Nat → ByteArray → Int → ByteArray → Int → Int → List Int → Int → Int → Option (ByteArray)
  | 0, _, _, _, _, _, _, _, _ => none
  | k + 1, x1, x2, x7, x8, x9, x13, x14, x15 => if x8 ≥ x2 then (if 0 ≤ (wrap64 (x8 - x2)) then (if 0 ≤ (shr .i64 x9 (wrap64 (x8 - x2))) then (if (shr .i64 x9 (wrap64 (x8 - x2))) ≤ (wrap64 ((shr .i64 x9 (wrap64 (x8 - x2))) + 1)) then (if (wrap64 ((shr .i64 x9 (wrap64 (x8 - x2))) + 1)) ≤ (x1.size : Int) then (if x7.size + (x1.extract ((shr .i64 x9 (wrap64 (x8 - x2))) : Int).toNat ((wrap64 ((shr .i64 x9 (wrap64 (x8 - x2))) + 1)) : Int).toNat).size ≤ 9223372036854775807 then (spec_bits.l1 k x1 x2 (x7 ++ (x1.extract ((shr .i64 x9 (wrap64 (x8 - x2))) : Int).toNat ((wrap64 ((shr .i64 x9 (wrap64 (x8 - x2))) + 1)) : Int).toNat)) (wrap64 (x8 - x2)) (Go.bits .and .i64 x9 (wrap64 ((shl .i64 1 (wrap64 (x8 - x2))) - 1))) x13 x14 x15) else (none)) else (none)) else (none)) else (none)) else (none)) else (spec_bits.l0 k x1 x2 x7 x8 x9 x13 x14 (wrap64 (x15 + 1)))
end
def spec_bits.f (k : Nat) (l0 : List Int) (a1 : ByteArray) (a2 : Int) : Option (ByteArray) := spec_bits.l0 k a1 a2 (⟨#[]⟩ : ByteArray) 0 0 l0 (l0.length : Int) 0
theorem spec_bits.mono_l : ∀ k, (∀ y0 y1 y2 y3 y4 y5 y6 y7, LeO (spec_bits.l0 k y0 y1 y2 y3 y4 y5 y6 y7) (spec_bits.l0 (k + 1) y0 y1 y2 y3 y4 y5 y6 y7)) ∧ (∀ y0 y1 y2 y3 y4 y5 y6 y7, LeO (spec_bits.l1 k y0 y1 y2 y3 y4 y5 y6 y7) (spec_bits.l1 (k + 1) y0 y1 y2 y3 y4 y5 y6 y7))
  | 0 => ⟨fun _ _ _ _ _ _ _ _ r h => by simp [spec_bits.l0] at h, fun _ _ _ _ _ _ _ _ r h => by simp [spec_bits.l1] at h⟩
  | k + 1 => by
    obtain ⟨ih0, ih1⟩ := spec_bits.mono_l k
    refine ⟨?_, ?_⟩
    · intro y0 y1 y2 y3 y4 y5 y6 y7
      unfold spec_bits.l0
      repeat' first
      | (with_reducible exact ih0 _ _ _ _ _ _ _ _)
      | (with_reducible exact ih1 _ _ _ _ _ _ _ _)
      | (with_reducible exact LeO.refl _)
      | (with_reducible exact LeO.none _)
      | (with_reducible refine LeO.ite ?_ ?_)
      | (with_reducible refine LeO.bind ?_ (fun _ => ?_))
      | exact ih0 _ _ _ _ _ _ _ _
      | exact ih1 _ _ _ _ _ _ _ _
      | exact LeO.none _
      | refine LeO.ite ?_ ?_
      | refine LeO.bind ?_ (fun _ => ?_)
    · intro y0 y1 y2 y3 y4 y5 y6 y7
      unfold spec_bits.l1
      repeat' first
      | (with_reducible exact ih0 _ _ _ _ _ _ _ _)
      | (with_reducible exact ih1 _ _ _ _ _ _ _ _)
      | (with_reducible exact LeO.refl _)
      | (with_reducible exact LeO.none _)
      | (with_reducible refine LeO.ite ?_ ?_)
      | (with_reducible refine LeO.bind ?_ (fun _ => ?_))
      | exact ih0 _ _ _ _ _ _ _ _
      | exact ih1 _ _ _ _ _ _ _ _
      | exact LeO.none _
      | refine LeO.ite ?_ ?_
      | refine LeO.bind ?_ (fun _ => ?_)
theorem spec_bits.mono : ∀ a0 a1 a2 k, LeO (spec_bits.f k a0 a1 a2) (spec_bits.f (k + 1) a0 a1 a2) := by
  intro a0 a1 a2 k
  obtain ⟨ih0, ih1⟩ := spec_bits.mono_l k
  unfold spec_bits.f
  repeat' first
      | (with_reducible exact ih0 _ _ _ _ _ _ _ _)
      | (with_reducible exact ih1 _ _ _ _ _ _ _ _)
      | (with_reducible exact LeO.refl _)
      | (with_reducible exact LeO.none _)
      | (with_reducible refine LeO.ite ?_ ?_)
      | (with_reducible refine LeO.bind ?_ (fun _ => ?_))
      | exact ih0 _ _ _ _ _ _ _ _
      | exact ih1 _ _ _ _ _ _ _ _
      | exact LeO.none _
      | refine LeO.ite ?_ ?_
      | refine LeO.bind ?_ (fun _ => ?_)
set_option maxHeartbeats 8000000 in
set_option maxRecDepth 100000 in
theorem spec_bits.calls (k : Nat) (A0 : Option Addr) (c0 : Nat) (l0 : List Int) (a1 : ByteArray) (a2 : Int) (r : ByteArray) (w : World) (hr0 : Kd.C (Kd.int .u8) w A0 l0.length l0) (hc0 : l0.length ≤ c0) (h : spec_bits.f k l0 a1 a2 = some r) :
    Calls Tryd.prog 67 #[.slice A0 l0.length c0, .string a1, .int .i64 a2] w fun e w' => e = .returned (.string r) ∧ Drawn0 w w' := by
  have HR0 := Aside0.mk hr0
  have HC0 := Aside0.mk hc0
  clear hr0 hc0
  have H : (spec_bits.l0 k a1 a2 (⟨#[]⟩ : ByteArray) 0 0 l0 (l0.length : Int) 0) = some r := h
  clear h
  have H' := Aside0.mk H
  clear H
  go_enter Tryd.func67, Tryd.ntmps67
  go_wp2
  repeat (go_quiet (fail); try go_wp2)
  go_loopg [7, 8, 9, 15] k (fun kq v7 v8 v9 v15 w' => ∃ (x7_1 : ByteArray) (x8_1 : Int) (x9_1 : Int) (x15_1 : Int), v7 = .string x7_1 ∧ v8 = .int .i64 x8_1 ∧ v9 = .int .i64 x9_1 ∧ v15 = .int .i64 x15_1 ∧ Aside0 (spec_bits.l0 kq a1 a2 x7_1 x8_1 x9_1 l0 (l0.length : Int) x15_1 = some r) ∧ Aside0 (kq ≤ k) ∧ Drawn0 w w')
  case atStart => exact ⟨((⟨#[]⟩ : ByteArray)), (0), (0), (0), (by first | rfl | (simp; done) | (simp [*]; done) | (simp [wrap64]; done)), (by first | rfl | (simp; done) | (simp [*]; done) | (simp [wrap64]; done)), (by first | rfl | (simp; done) | (simp [*]; done) | (simp [wrap64]; done)), (by first | rfl | (simp; done) | (simp [*]; done) | (simp [wrap64]; done)), H', ⟨Nat.le_refl _⟩, by repeat (first | exact Drawn0.refl _ | apply Drawn0.step)⟩
  case round =>
    clear H'
    try clear p2
    obtain ⟨x7_1, x8_1, x9_1, x15_1, rfl, rfl, rfl, rfl, HA, HK1, ⟨m1, rfl⟩⟩ := hrel
    cases gk with
    | zero => exact absurd HA.out (by simp [spec_bits.l0])
    | succ k1 =>
      have H := HA.out
      clear HA
      simp only [spec_bits.l0] at H
      by_cases c4 : x15_1 < (l0.length : Int)
      · rw [if_pos c4] at H
        have c4b0 : decide (x15_1 < (l0.length : Int)) = true := decide_eq_true c4
        clear c4
        by_cases c5 : 0 ≤ x15_1
        · rw [if_pos c5] at H
          have c5b0 : decide (0 ≤ x15_1) = true := decide_eq_true c5
          clear c5
          by_cases c6 : x15_1 < (l0.length : Int)
          · rw [if_pos c6] at H
            have c6b0 : decide (x15_1 < (l0.length : Int)) = true := decide_eq_true c6
            clear c6
            have H' := Aside0.mk H
            clear H
            have p490 : 0 ≤ (x15_1 : Int) := of_decide_eq_true (by first | (with_reducible assumption) | assumption)
            have q490 : x15_1 < (l0.length : Int) := of_decide_eq_true (by first | (with_reducible assumption) | assumption)
            obtain ⟨ad490, e490, hx490_0⟩ := Kd.at_int HR0.out x15_1 p490 q490
            cases e490
            replace p490 := eq_true p490
            replace q490 := eq_true q490
            go_wp2
            repeat (go_quiet (fail); try go_wp2)
            go_loopg [7, 8, 9] k1 (fun kq v7 v8 v9 w' => ∃ (x7_2 : ByteArray) (x8_2 : Int) (x9_2 : Int), v7 = .string x7_2 ∧ v8 = .int .i64 x8_2 ∧ v9 = .int .i64 x9_2 ∧ Aside0 (spec_bits.l1 kq a1 a2 x7_2 x8_2 x9_2 l0 (l0.length : Int) x15_1 = some r) ∧ Aside0 (kq ≤ k1) ∧ Drawn0 w w')
            case atStart => exact ⟨(x7_1), (wrap64 (x8_1 + 8)), (Go.bits .or .i64 (wrap64 (x9_1 * 256)) (wrap64 (rd l0 x15_1))), (by first | rfl | (simp; done) | (simp [*]; done) | (simp [wrap64]; done)), (by first | rfl | (simp; done) | (simp [*]; done) | (simp [wrap64]; done)), (by first | rfl | (simp; done) | (simp [*]; done) | (simp [wrap64]; done)), H', ⟨Nat.le_refl _⟩, by repeat (first | exact Drawn0.refl _ | apply Drawn0.step)⟩
            case round =>
              clear H'
              try clear p2
              try clear c4
              try clear c4b0
              try clear p4
              try clear q4
              try clear hx4
              try clear c5
              try clear c5b0
              try clear c6
              try clear c6b0
              try clear p6
              try clear hx490_0
              try clear p2
              try clear p490
              try clear q490
              obtain ⟨x7_2, x8_2, x9_2, rfl, rfl, rfl, HA, HK2, ⟨m2, rfl⟩⟩ := hrel
              cases gk with
              | zero => exact absurd HA.out (by simp [spec_bits.l1])
              | succ k2 =>
                have H := HA.out
                clear HA
                simp only [spec_bits.l1] at H
                by_cases c7 : x8_2 ≥ a2
                · rw [if_pos c7] at H
                  have c7b0 : decide (a2 ≤ x8_2) = true := decide_eq_true c7
                  clear c7
                  obtain ⟨ji8, hji8⟩ : ∃ j_ : Int, (wrap64 (x8_2 - a2)) = j_ := ⟨_, rfl⟩
                  replace H : (if 0 ≤ (ji8) then (if 0 ≤ (shr .i64 x9_2 (ji8)) then (if (shr .i64 x9_2 (ji8)) ≤ (wrap64 ((shr .i64 x9_2 (ji8)) + 1)) then (if (wrap64 ((shr .i64 x9_2 (ji8)) + 1)) ≤ (a1.size : Int) then (if x7_2.size + (a1.extract ((shr .i64 x9_2 (ji8)) : Int).toNat ((wrap64 ((shr .i64 x9_2 (ji8)) + 1)) : Int).toNat).size ≤ 9223372036854775807 then (spec_bits.l1 k2 a1 a2 (x7_2 ++ (a1.extract ((shr .i64 x9_2 (ji8)) : Int).toNat ((wrap64 ((shr .i64 x9_2 (ji8)) + 1)) : Int).toNat)) ji8 (Go.bits .and .i64 x9_2 (wrap64 ((shl .i64 1 (ji8)) - 1))) l0 (l0.length : Int) x15_1) else (none)) else (none)) else (none)) else (none)) else (none)) = some r := by first | (rw [hji8] at H; exact H) | (simp only [hji8] at H ⊢; exact H)
                  have hji8w : (IntKind.i64.wrap (x8_2 - a2)) = ji8 := (i64_w _).trans hji8
                  by_cases c9 : 0 ≤ (ji8)
                  · rw [if_pos c9] at H
                    have c9b0 := eq_true c9
                    have c9b1 : decide (0 ≤ (ji8)) = true := decide_eq_true c9
                    clear c9
                    obtain ⟨ji10, hji10⟩ : ∃ j_ : Int, (shr .i64 x9_2 (ji8)) = j_ := ⟨_, rfl⟩
                    replace H : (if 0 ≤ (ji10) then (if (ji10) ≤ (wrap64 ((ji10) + 1)) then (if (wrap64 ((ji10) + 1)) ≤ (a1.size : Int) then (if x7_2.size + (a1.extract ((ji10) : Int).toNat ((wrap64 ((ji10) + 1)) : Int).toNat).size ≤ 9223372036854775807 then (spec_bits.l1 k2 a1 a2 (x7_2 ++ (a1.extract ((ji10) : Int).toNat ((wrap64 ((ji10) + 1)) : Int).toNat)) ji8 (Go.bits .and .i64 x9_2 (wrap64 ((shl .i64 1 (ji8)) - 1))) l0 (l0.length : Int) x15_1) else (none)) else (none)) else (none)) else (none)) = some r := by first | (rw [hji10] at H; exact H) | (simp only [hji10] at H ⊢; exact H)
                    have hji10_ : (x9_2 / 2 ^ min (ji8).toNat 64) = ji10 := hji10
                    have hji10z : (ji8) ≤ 64 → (x9_2 / 2 ^ (ji8).toNat) = ji10 := shr_small hji10
                    have c11b0 := eq_true (of_decide_eq_true (by first | (with_reducible assumption) | assumption) : 0 ≤ (ji8))
                    by_cases c13 : 0 ≤ (ji10)
                    · rw [if_pos c13] at H
                      have c13b0 := eq_true c13
                      have c13b1 : decide (0 ≤ (ji10)) = true := decide_eq_true c13
                      clear c13
                      by_cases c14 : (ji10) ≤ (wrap64 ((ji10) + 1))
                      · rw [if_pos c14] at H
                        have c14b0 := eq_true c14
                        have c14b1 : decide ((ji10) ≤ (wrap64 ((ji10) + 1))) = true := decide_eq_true c14
                        by_cases c15 : (wrap64 ((ji10) + 1)) ≤ (a1.size : Int)
                        · rw [if_pos c15] at H
                          have c15b0 := eq_true c15
                          have c15b1 : decide ((wrap64 ((ji10) + 1)) ≤ (a1.size : Int)) = true := decide_eq_true c15
                          by_cases c16 : x7_2.size + (a1.extract ((ji10) : Int).toNat ((wrap64 ((ji10) + 1)) : Int).toNat).size ≤ 9223372036854775807
                          · rw [if_pos c16] at H
                            have c16b0 := eq_true c16
                            have c16b1 : decide (x7_2.size + (a1.extract ((ji10) : Int).toNat ((wrap64 ((ji10) + 1)) : Int).toNat).size ≤ 9223372036854775807) = true := decide_eq_true c16
                            try have c16b2 : (9223372036854775807 < x7_2.size + (a1.extract ((ji10) : Int).toNat ((wrap64 ((ji10) + 1)) : Int).toNat).size) = False := eq_false (Nat.not_lt.2 c16)
                            have c17b0 := eq_true (of_decide_eq_true (by first | (with_reducible assumption) | assumption) : 0 ≤ (ji8))
                            obtain ⟨ji18, hji18⟩ : ∃ j_ : Int, (shl .i64 1 (ji8)) = j_ := ⟨_, rfl⟩
                            replace H : (spec_bits.l1 k2 a1 a2 (x7_2 ++ (a1.extract ((ji10) : Int).toNat ((wrap64 ((ji10) + 1)) : Int).toNat)) ji8 (Go.bits .and .i64 x9_2 (wrap64 ((ji18) - 1))) l0 (l0.length : Int) x15_1) = some r := by first | (rw [hji18] at H; exact H) | (simp only [hji18] at H ⊢; exact H)
                            have hji18_ : (IntKind.i64.wrap (1 * 2 ^ min (ji8).toNat 64)) = ji18 := hji18
                            have hji18z : (ji8) ≤ 64 → (IntKind.i64.wrap (1 * 2 ^ (ji8).toNat)) = ji18 := shl_small hji18
                            have hji18u : (IntKind.i64.wrap (2 ^ min (ji8).toNat 64)) = ji18 := by have h_ := hji18_; rw [Int.one_mul] at h_; exact h_
                            have hji18v : (ji8) ≤ 64 → (IntKind.i64.wrap (2 ^ (ji8).toNat)) = ji18 := fun hle_ => by have h_ := hji18z hle_; rw [Int.one_mul] at h_; exact h_
                            have hji18y : (wrap64 (1 * 2 ^ min (ji8).toNat 64)) = ji18 := (i64_w _).symm.trans hji18_
                            have hji18x : (ji8) ≤ 64 → (wrap64 (1 * 2 ^ (ji8).toNat)) = ji18 := fun h_ => (i64_w _).symm.trans (hji18z h_)
                            have H' := Aside0.mk H
                            clear H
                            go_wp2
                            repeat (go_quiet (fail); try go_wp2)
                            go_roundg k2
                            case measure => have := HK1.out; have := HK2.out; omega
                            case rel => exact ⟨(x7_2 ++ (a1.extract ((ji10) : Int).toNat ((wrap64 ((ji10) + 1)) : Int).toNat)), (ji8), (Go.bits .and .i64 x9_2 (wrap64 ((ji18) - 1))), (by first | rfl | (simp; done) | (simp only [← hji10] <;> (first | rfl | simp)) | (simp [*]; done)), (by first | rfl | (simp; done) | (simp only [← hji8] <;> (first | rfl | simp)) | (simp [*]; done)), (by first | rfl | (simp; done) | (simp only [← hji18] <;> (first | rfl | simp)) | (simp [*]; done)), H', ⟨by have := HK1.out; have := HK2.out; omega⟩, by repeat (first | exact Drawn0.refl _ | apply Drawn0.step)⟩
                          · rw [if_neg c16] at H
                            exact absurd H (by simp)
                        · rw [if_neg c15] at H
                          exact absurd H (by simp)
                      · rw [if_neg c14] at H
                        exact absurd H (by simp)
                    · rw [if_neg c13] at H
                      exact absurd H (by simp)
                  · rw [if_neg c9] at H
                    exact absurd H (by simp)
                · rw [if_neg c7] at H
                  have c7b0 : decide (a2 ≤ x8_2) = false := decide_eq_false c7
                  clear c7
                  have H' := Aside0.mk H
                  clear H
                  go_wp2
                  repeat (go_quiet (fail); try go_wp2)
                  go_roundg k2
                  case measure => have := HK1.out; have := HK2.out; omega
                  case rel => exact ⟨(x7_2), (x8_2), (x9_2), (wrap64 (x15_1 + 1)), (by first | rfl | (simp; done) | (simp [*]; done) | (simp [wrap64]; done)), (by first | rfl | (simp; done) | (simp [*]; done) | (simp [wrap64]; done)), (by first | rfl | (simp; done) | (simp [*]; done) | (simp [wrap64]; done)), (by first | rfl | (simp; done) | (simp [*]; done) | (simp [wrap64]; done)), H', ⟨by have := HK1.out; have := HK2.out; omega⟩, by repeat (first | exact Drawn0.refl _ | apply Drawn0.step)⟩
          · rw [if_neg c6] at H
            exact absurd H (by simp)
        · rw [if_neg c5] at H
          exact absurd H (by simp)
      · rw [if_neg c4] at H
        have c4b0 : decide (x15_1 < (l0.length : Int)) = false := decide_eq_false c4
        clear c4
        by_cases c19 : x8_1 > 0
        · rw [if_pos c19] at H
          have c19b0 : decide (0 < x8_1) = true := decide_eq_true c19
          clear c19
          obtain ⟨ji20, hji20⟩ : ∃ j_ : Int, (wrap64 (a2 - x8_1)) = j_ := ⟨_, rfl⟩
          replace H : (if 0 ≤ (ji20) then (if 0 ≤ (shl .i64 x9_1 (ji20)) then (if (shl .i64 x9_1 (ji20)) ≤ (wrap64 ((shl .i64 x9_1 (ji20)) + 1)) then (if (wrap64 ((shl .i64 x9_1 (ji20)) + 1)) ≤ (a1.size : Int) then (if x7_1.size + (a1.extract ((shl .i64 x9_1 (ji20)) : Int).toNat ((wrap64 ((shl .i64 x9_1 (ji20)) + 1)) : Int).toNat).size ≤ 9223372036854775807 then (some (x7_1 ++ (a1.extract ((shl .i64 x9_1 (ji20)) : Int).toNat ((wrap64 ((shl .i64 x9_1 (ji20)) + 1)) : Int).toNat))) else (none)) else (none)) else (none)) else (none)) else (none)) = some r := by first | (rw [hji20] at H; exact H) | (simp only [hji20] at H ⊢; exact H)
          have hji20w : (IntKind.i64.wrap (a2 - x8_1)) = ji20 := (i64_w _).trans hji20
          by_cases c21 : 0 ≤ (ji20)
          · rw [if_pos c21] at H
            have c21b0 := eq_true c21
            have c21b1 : decide (0 ≤ (ji20)) = true := decide_eq_true c21
            clear c21
            obtain ⟨ji22, hji22⟩ : ∃ j_ : Int, (shl .i64 x9_1 (ji20)) = j_ := ⟨_, rfl⟩
            replace H : (if 0 ≤ (ji22) then (if (ji22) ≤ (wrap64 ((ji22) + 1)) then (if (wrap64 ((ji22) + 1)) ≤ (a1.size : Int) then (if x7_1.size + (a1.extract ((ji22) : Int).toNat ((wrap64 ((ji22) + 1)) : Int).toNat).size ≤ 9223372036854775807 then (some (x7_1 ++ (a1.extract ((ji22) : Int).toNat ((wrap64 ((ji22) + 1)) : Int).toNat))) else (none)) else (none)) else (none)) else (none)) = some r := by first | (rw [hji22] at H; exact H) | (simp only [hji22] at H ⊢; exact H)
            have hji22_ : (IntKind.i64.wrap (x9_1 * 2 ^ min (ji20).toNat 64)) = ji22 := hji22
            have hji22z : (ji20) ≤ 64 → (IntKind.i64.wrap (x9_1 * 2 ^ (ji20).toNat)) = ji22 := shl_small hji22
            have hji22y : (wrap64 (x9_1 * 2 ^ min (ji20).toNat 64)) = ji22 := (i64_w _).symm.trans hji22_
            have hji22x : (ji20) ≤ 64 → (wrap64 (x9_1 * 2 ^ (ji20).toNat)) = ji22 := fun h_ => (i64_w _).symm.trans (hji22z h_)
            by_cases c23 : 0 ≤ (ji22)
            · rw [if_pos c23] at H
              have c23b0 := eq_true c23
              have c23b1 : decide (0 ≤ (ji22)) = true := decide_eq_true c23
              clear c23
              by_cases c24 : (ji22) ≤ (wrap64 ((ji22) + 1))
              · rw [if_pos c24] at H
                have c24b0 := eq_true c24
                have c24b1 : decide ((ji22) ≤ (wrap64 ((ji22) + 1))) = true := decide_eq_true c24
                by_cases c25 : (wrap64 ((ji22) + 1)) ≤ (a1.size : Int)
                · rw [if_pos c25] at H
                  have c25b0 := eq_true c25
                  have c25b1 : decide ((wrap64 ((ji22) + 1)) ≤ (a1.size : Int)) = true := decide_eq_true c25
                  by_cases c26 : x7_1.size + (a1.extract ((ji22) : Int).toNat ((wrap64 ((ji22) + 1)) : Int).toNat).size ≤ 9223372036854775807
                  · rw [if_pos c26] at H
                    have c26b0 := eq_true c26
                    have c26b1 : decide (x7_1.size + (a1.extract ((ji22) : Int).toNat ((wrap64 ((ji22) + 1)) : Int).toNat).size ≤ 9223372036854775807) = true := decide_eq_true c26
                    try have c26b2 : (9223372036854775807 < x7_1.size + (a1.extract ((ji22) : Int).toNat ((wrap64 ((ji22) + 1)) : Int).toNat).size) = False := eq_false (Nat.not_lt.2 c26)
                    obtain rfl := Option.some.inj H
                    go_wp2
                    repeat (go_quiet (fail); try go_wp2)
                    go_ret
                    exact ⟨by first | rfl | (simp; done) | (simp only [← hji20, ← hji22] <;> (first | rfl | simp)) | (simp [*]; done), by repeat (first | exact Drawn0.refl _ | apply Drawn0.step)⟩
                  · rw [if_neg c26] at H
                    exact absurd H (by simp)
                · rw [if_neg c25] at H
                  exact absurd H (by simp)
              · rw [if_neg c24] at H
                exact absurd H (by simp)
            · rw [if_neg c23] at H
              exact absurd H (by simp)
          · rw [if_neg c21] at H
            exact absurd H (by simp)
        · rw [if_neg c19] at H
          have c19b0 : decide (0 < x8_1) = false := decide_eq_false c19
          clear c19
          obtain rfl := Option.some.inj H
          go_wp2
          repeat (go_quiet (fail); try go_wp2)
          go_ret
          exact ⟨by first | rfl | (simp; done) | (simp [*]; done) | (simp [wrap64]; done), by repeat (first | exact Drawn0.refl _ | apply Drawn0.step)⟩

end Go.Proofs.YtiilihafcdmccaaDoor.P
/- 'spec.bits' at digits of five and of four bits: what it writes, in plain Lean. -/
namespace Go.Proofs.YtiilihafcdmccaaDoor.P
open Go.RowKit Go.Proofs.YtiilihafcdmccaaDoorW.PrintWords Go.Proofs.YtiilihafcdmccaaDoorW.PrintLast Go.Proofs.YtiilihafcdmccaaDoorW.PrintMore
set_option linter.unusedVariables false
set_option linter.unusedSimpArgs false

theorem num_st {n x : Int} (hn : 0 ≤ n) (hn2 : n < 1099511627776) (hx : 0 ≤ x ∧ x < 256) : Go.bits .or .i64 (wrap64 (n * 256)) (wrap64 x) = n * 256 + x := by
  have e1 : wrap64 (n * 256) = n * 256 := by unfold wrap64; omega
  have e2 : wrap64 x = x := by unfold wrap64; omega
  rw [e1, e2]
  refine bits_join .i64 62 (by decide) (fun n h0 h1 => ?_) 8 _ _ (by omega) (by omega) (by omega) hx.1 (by omega) (by omega)
  rw [IntKind.wrap_i64]
  omega
/-- Signs that are the first small digits. -/
structure Digs (D : ByteArray) (n : Int) : Prop where
  cut : ∀ v : Int, 0 ≤ v → v < n → D.extract v.toNat (v + 1).toNat = strOfNums [dgL v]
  size : (D.size : Int) = n
  small : n ≤ 64
theorem pow_le (h : Nat) (hh : h ≤ 12) : (1 : Int) ≤ 2 ^ h ∧ (2 : Int) ^ h ≤ 4096 := by
  have h1 := Nat.pow_le_pow_right (n := 2) (by omega) hh
  have h2 := Nat.pow_pos (n := h) (show 0 < 2 by omega)
  have e : (2 : Int) ^ h = ((2 ^ h : Nat) : Int) := by simp
  omega
theorem emit {D : ByteArray} {n : Int} (hD : Digs D n) (k : Nat) (size : Int) (s : List Int) (h : Nat) (hh : h ≤ 12) (v : Int) (h0 : 0 ≤ v) (h1 : v < 1048576) (hv : v / 2 ^ h < n) (hs : 0 ≤ size ∧ size ≤ 8) (hl : s.length ≤ 1000000) (xs : List Int) (N i : Int) (hv2 : Int) (hhv : hv2 = size + h) :
    spec_bits.l1 (k + 1) D size (strOfNums s) hv2 v xs N i = spec_bits.l1 k D size (strOfNums (s ++ [dgL (v / 2 ^ h)])) h (v % 2 ^ h) xs N i := by
  obtain ⟨p0, p1⟩ := pow_le h hh
  subst hhv
  have e1 : wrap64 (size + h - size) = (h : Int) := by unfold wrap64; omega
  have e2 : shr .i64 v (h : Int) = v / 2 ^ h := by
    unfold shr
    rw [Int.toNat_natCast, Nat.min_eq_left (by show h ≤ 64; omega)]
  have e3 : shl .i64 1 (h : Int) = 2 ^ h := by
    unfold shl
    rw [Int.toNat_natCast, Nat.min_eq_left (by show h ≤ 64; omega), Int.one_mul, IntWalk.i64_in _ (by omega)]
  have e4 : wrap64 ((2 : Int) ^ h - 1) = 2 ^ h - 1 := w64 (by omega) (by omega)
  have e5 : Go.bits .and .i64 v (2 ^ h - 1) = v % 2 ^ h := bits_mask .i64 62 (by decide) (fun n h0 h1 => by rw [IntKind.wrap_i64]; omega) h (by omega) v h0 (by omega)
  have q0 : 0 ≤ v / 2 ^ h := Int.ediv_nonneg h0 (by omega)
  have hz := hD.small
  have e6 : wrap64 (v / 2 ^ h + 1) = v / 2 ^ h + 1 := w64 (by omega) (by omega)
  rw [spec_bits.l1, if_pos (by omega), e1, if_pos (by omega), e2, if_pos q0, e6, if_pos (by omega), if_pos (by rw [hD.size]; omega), hD.cut _ q0 hv, if_pos (by rw [strOfNums_size, strOfNums_size]; simp; omega), strOfNums_append, e3, e4, e5]
theorem leave {D : ByteArray} (k : Nat) (size : Int) (s : ByteArray) (h v : Int) (hh : h < size) (xs : List Int) (N i : Int) (h0 : 0 ≤ i) (h1 : i < 1000000) :
    spec_bits.l1 (k + 1) D size s h v xs N i = spec_bits.l0 k D size s h v xs N (i + 1) := by
  rw [spec_bits.l1, if_neg (by omega), w64 (x := i + 1) (by omega) (by omega)]
theorem take1 {D : ByteArray} (k : Nat) (size : Int) (s : ByteArray) (h v c : Int) (hh : 0 ≤ h ∧ h ≤ 8) (hv : 0 ≤ v ∧ v < 4096) (hc : 0 ≤ c ∧ c < 256) (xs : List Int) (N i : Int) (h0 : 0 ≤ i) (h1 : i < N) (h2 : N = xs.length) (hi : rd xs i = c) :
    spec_bits.l0 (k + 1) D size s h v xs N i = spec_bits.l1 k D size s (h + 8) (v * 256 + c) xs N i := by
  rw [spec_bits.l0, if_pos h1, if_pos h0, if_pos (by omega), hi, num_st hv.1 (by omega) hc, w64 (x := h + 8) (by omega) (by omega)]
theorem group5 {D : ByteArray} (hD : Digs D 32) (k : Nat) (s : List Int) (a b c d e : Int) (ha : 0 ≤ a ∧ a < 256) (hb : 0 ≤ b ∧ b < 256) (hc : 0 ≤ c ∧ c < 256) (hd : 0 ≤ d ∧ d < 256) (he : 0 ≤ e ∧ e < 256) (hl : s.length ≤ 900000) (xs : List Int) (N i : Int) (h0 : 0 ≤ i) (h1 : i + 5 ≤ N) (h3 : N ≤ 900000) (h2 : N = xs.length)
    (r0 : rd xs i = a) (r1 : rd xs (i + 1) = b) (r2 : rd xs (i + 2) = c) (r3 : rd xs (i + 3) = d) (r4 : rd xs (i + 4) = e) :
    spec_bits.l0 (k + 18) D 5 (strOfNums s) 0 0 xs N i = spec_bits.l0 k D 5 (strOfNums (s ++ (g5 a b c d e).map dgL)) 0 0 xs N (i + 5) := by
  have L : ∀ (t : List Int) (n : Nat), t.length ≤ 20 → (s ++ t).length ≤ 1000000 := fun t _ h => by rw [List.length_append]; omega
  rw [show k + 18 = (k + 17) + 1 from rfl, take1 (k + 17) 5 _ 0 0 a (by omega) (by omega) ha xs N i h0 (by omega) h2 r0]
  rw [show k + 17 = (k + 16) + 1 from rfl, emit hD (k + 16) 5 s 3 (by omega) _ (by omega) (by omega) (by omega) (by omega) (by omega) xs N i _ (by omega)]
  rw [show k + 16 = (k + 15) + 1 from rfl, leave (k + 15) 5 _ _ _ (by omega) xs N i h0 (by omega)]
  have v1 : (0 * 256 + a) % 2 ^ 3 = a % 8 := by omega
  have w1 : (0 * 256 + a) / 2 ^ 3 = a / 8 := by omega
  rw [v1, w1, show k + 15 = (k + 14) + 1 from rfl, take1 (k + 14) 5 _ _ _ b (by omega) (by omega) hb xs N (i + 1) (by omega) (by omega) h2 r1]
  rw [show k + 14 = (k + 13) + 1 from rfl, emit hD (k + 13) 5 _ 6 (by omega) _ (by omega) (by omega) (by omega) (by omega) (L _ 0 (by simp)) xs N (i + 1) _ (by omega)]
  have v2 : (a % 8 * 256 + b) % 2 ^ 6 = b % 64 := by omega
  have w2 : (a % 8 * 256 + b) / 2 ^ 6 = a % 8 * 4 + b / 64 := by omega
  rw [v2, w2, List.append_assoc, show k + 13 = (k + 12) + 1 from rfl, emit hD (k + 12) 5 _ 1 (by omega) _ (by omega) (by omega) (by omega) (by omega) (L _ 0 (by simp)) xs N (i + 1) _ (by omega)]
  have v3 : b % 64 % 2 ^ 1 = b % 2 := by omega
  have w3 : b % 64 / 2 ^ 1 = b / 2 % 32 := by omega
  rw [v3, w3, List.append_assoc, show k + 12 = (k + 11) + 1 from rfl, leave (k + 11) 5 _ _ _ (by omega) xs N (i + 1) (by omega) (by omega)]
  rw [show i + 1 + 1 = i + 2 by omega, show k + 11 = (k + 10) + 1 from rfl, take1 (k + 10) 5 _ _ _ c (by omega) (by omega) hc xs N (i + 2) (by omega) (by omega) h2 r2]
  rw [show k + 10 = (k + 9) + 1 from rfl, emit hD (k + 9) 5 _ 4 (by omega) _ (by omega) (by omega) (by omega) (by omega) (L _ 0 (by simp)) xs N (i + 2) _ (by omega)]
  have v4 : (b % 2 * 256 + c) % 2 ^ 4 = c % 16 := by omega
  have w4 : (b % 2 * 256 + c) / 2 ^ 4 = b % 2 * 16 + c / 16 := by omega
  rw [v4, w4, List.append_assoc, show k + 9 = (k + 8) + 1 from rfl, leave (k + 8) 5 _ _ _ (by omega) xs N (i + 2) (by omega) (by omega)]
  rw [show i + 2 + 1 = i + 3 by omega, show k + 8 = (k + 7) + 1 from rfl, take1 (k + 7) 5 _ _ _ d (by omega) (by omega) hd xs N (i + 3) (by omega) (by omega) h2 r3]
  rw [show k + 7 = (k + 6) + 1 from rfl, emit hD (k + 6) 5 _ 7 (by omega) _ (by omega) (by omega) (by omega) (by omega) (L _ 0 (by simp)) xs N (i + 3) _ (by omega)]
  have v5 : (c % 16 * 256 + d) % 2 ^ 7 = d % 128 := by omega
  have w5 : (c % 16 * 256 + d) / 2 ^ 7 = c % 16 * 2 + d / 128 := by omega
  rw [v5, w5, List.append_assoc, show k + 6 = (k + 5) + 1 from rfl, emit hD (k + 5) 5 _ 2 (by omega) _ (by omega) (by omega) (by omega) (by omega) (L _ 0 (by simp)) xs N (i + 3) _ (by omega)]
  have v6 : d % 128 % 2 ^ 2 = d % 4 := by omega
  have w6 : d % 128 / 2 ^ 2 = d / 4 % 32 := by omega
  rw [v6, w6, List.append_assoc, show k + 5 = (k + 4) + 1 from rfl, leave (k + 4) 5 _ _ _ (by omega) xs N (i + 3) (by omega) (by omega)]
  rw [show i + 3 + 1 = i + 4 by omega, show k + 4 = (k + 3) + 1 from rfl, take1 (k + 3) 5 _ _ _ e (by omega) (by omega) he xs N (i + 4) (by omega) (by omega) h2 r4]
  rw [show k + 3 = (k + 2) + 1 from rfl, emit hD (k + 2) 5 _ 5 (by omega) _ (by omega) (by omega) (by omega) (by omega) (L _ 0 (by simp)) xs N (i + 4) _ (by omega)]
  have v7 : (d % 4 * 256 + e) % 2 ^ 5 = e % 32 := by omega
  have w7 : (d % 4 * 256 + e) / 2 ^ 5 = d % 4 * 8 + e / 32 := by omega
  rw [v7, w7, List.append_assoc, show k + 2 = (k + 1) + 1 from rfl, emit hD (k + 1) 5 _ 0 (by omega) _ (by omega) (by omega) (by omega) (by omega) (L _ 0 (by simp)) xs N (i + 4) _ (by omega)]
  have v8 : e % 32 % 2 ^ 0 = 0 := by omega
  have w8 : e % 32 / 2 ^ 0 = e % 32 := by omega
  rw [v8, w8, List.append_assoc, leave k 5 _ _ _ (by omega) xs N (i + 4) (by omega) (by omega)]
  rw [show i + 4 + 1 = i + 5 by omega]
  rfl
theorem group4 {D : ByteArray} (hD : Digs D 16) (k : Nat) (s : List Int) (a : Int) (ha : 0 ≤ a ∧ a < 256) (hl : s.length ≤ 900000) (xs : List Int) (N i : Int) (h0 : 0 ≤ i) (h1 : i < N) (h3 : N ≤ 900000) (h2 : N = xs.length) (r0 : rd xs i = a) :
    spec_bits.l0 (k + 4) D 4 (strOfNums s) 0 0 xs N i = spec_bits.l0 k D 4 (strOfNums (s ++ [dgL (a / 16), dgL (a % 16)])) 0 0 xs N (i + 1) := by
  rw [show k + 4 = (k + 3) + 1 from rfl, take1 (k + 3) 4 _ 0 0 a (by omega) (by omega) ha xs N i h0 (by omega) h2 r0]
  rw [show k + 3 = (k + 2) + 1 from rfl, emit hD (k + 2) 4 s 4 (by omega) _ (by omega) (by omega) (by omega) (by omega) (by omega) xs N i _ (by omega)]
  have v1 : (0 * 256 + a) % 2 ^ 4 = a % 16 := by omega
  have w1 : (0 * 256 + a) / 2 ^ 4 = a / 16 := by omega
  rw [v1, w1, show k + 2 = (k + 1) + 1 from rfl, emit hD (k + 1) 4 _ 0 (by omega) _ (by omega) (by omega) (by omega) (by omega) (by simp; omega) xs N i _ (by omega)]
  have v2 : a % 16 % 2 ^ 0 = 0 := by omega
  have w2 : a % 16 / 2 ^ 0 = a % 16 := by omega
  rw [v2, w2, List.append_assoc, leave k 4 _ _ _ (by omega) xs N i (by omega) (by omega)]
  rfl
theorem rd_app (pre : List Int) (c : Int) (t : List Int) : rd (pre ++ c :: t) (pre.length : Int) = c := by
  unfold rd
  rw [Int.toNat_natCast, List.getD_eq_getElem?_getD, List.getElem?_append_right (Nat.le_refl _), Nat.sub_self]
  rfl
theorem rd_app' (pre : List Int) (m : List Int) (c : Int) (t : List Int) (n : Int) (hn : n = m.length) : rd (pre ++ (m ++ c :: t)) ((pre.length : Int) + n) = c := by
  have := rd_app (pre ++ m) c t
  rw [List.append_assoc, List.length_append] at this
  rw [hn, ← Int.natCast_add]
  exact this
theorem bits5_from {D : ByteArray} (hD : Digs D 32) (k : Nat) : ∀ (m : Nat) (t pre s : List Int), t.length = 5 * m → IsB t → (pre ++ t).length ≤ 900000 → s.length + 8 * m ≤ 900000 →
    spec_bits.l0 (k + 1 + 18 * m) D 5 (strOfNums s) 0 0 (pre ++ t) ((pre ++ t).length : Nat) (pre.length : Nat) = some (strOfNums (s ++ (enc5 t).map dgL)) := by
  intro m
  induction m with
  | zero =>
    intro t pre s ht _ _ _
    obtain rfl := List.eq_nil_of_length_eq_zero (by simpa using ht)
    rw [List.append_nil, show k + 1 + 18 * 0 = k + 1 from rfl, spec_bits.l0, if_neg (by omega), if_neg (by omega)]
    simp [enc5]
  | succ m ih =>
    intro t pre s ht hB hl hs
    match t, ht, hB, hl with
    | a :: b :: c :: d :: e :: t, ht, hB, hl =>
      have h1 := ih t (pre ++ [a, b, c, d, e]) (s ++ (g5 a b c d e).map dgL) (by simp at ht; omega) (fun x hx => hB x (by simp [hx])) (by simpa using hl) (by simp [g5]; omega)
      rw [show pre ++ [a, b, c, d, e] ++ t = pre ++ a :: b :: c :: d :: e :: t by simp] at h1
      have hp : (((pre ++ [a, b, c, d, e]).length : Nat) : Int) = (pre.length : Int) + 5 := by simp
      rw [hp] at h1
      have r0 : rd (pre ++ a :: b :: c :: d :: e :: t) (pre.length : Nat) = a := rd_app _ _ _
      have r1 : rd (pre ++ a :: b :: c :: d :: e :: t) ((pre.length : Nat) + 1) = b := rd_app' pre [a] b _ 1 rfl
      have r2 : rd (pre ++ a :: b :: c :: d :: e :: t) ((pre.length : Nat) + 2) = c := rd_app' pre [a, b] c _ 2 rfl
      have r3 : rd (pre ++ a :: b :: c :: d :: e :: t) ((pre.length : Nat) + 3) = d := rd_app' pre [a, b, c] d _ 3 rfl
      have r4 : rd (pre ++ a :: b :: c :: d :: e :: t) ((pre.length : Nat) + 4) = e := rd_app' pre [a, b, c, d] e _ 4 rfl
      have hlen : (pre ++ a :: b :: c :: d :: e :: t).length = pre.length + t.length + 5 := by simp; omega
      have g := group5 hD (k + 1 + 18 * m) s a b c d e (hB a (by simp)) (hB b (by simp)) (hB c (by simp)) (hB d (by simp)) (hB e (by simp)) (by omega) (pre ++ a :: b :: c :: d :: e :: t) ((pre ++ a :: b :: c :: d :: e :: t).length : Nat) (pre.length : Nat) (by omega) (by omega) (by omega) rfl r0 r1 r2 r3 r4
      rw [show k + 1 + 18 * (m + 1) = (k + 1 + 18 * m) + 18 by omega, g, h1]
      simp [enc5]
theorem bits4_from {D : ByteArray} (hD : Digs D 16) (k : Nat) : ∀ (t pre s : List Int), IsB t → (pre ++ t).length ≤ 400000 → s.length + 2 * t.length ≤ 900000 →
    spec_bits.l0 (k + 1 + 4 * t.length) D 4 (strOfNums s) 0 0 (pre ++ t) ((pre ++ t).length : Nat) (pre.length : Nat) = some (strOfNums (s ++ (enc4 t).map dgL)) := by
  intro t
  induction t with
  | nil =>
    intro pre s _ _ _
    rw [List.append_nil, show k + 1 + 4 * ([] : List Int).length = k + 1 from rfl, spec_bits.l0, if_neg (by omega), if_neg (by omega)]
    simp [enc4]
  | cons a t ih =>
    intro pre s hB hl hs
    have h1 := ih (pre ++ [a]) (s ++ [dgL (a / 16), dgL (a % 16)]) (fun x hx => hB x (by simp [hx])) (by simpa using hl) (by simp at hs ⊢; omega)
    rw [show pre ++ [a] ++ t = pre ++ a :: t by simp] at h1
    have hp : (((pre ++ [a]).length : Nat) : Int) = (pre.length : Int) + 1 := by simp
    rw [hp] at h1
    rw [show k + 1 + 4 * (a :: t).length = (k + 1 + 4 * t.length) + 4 by simp; omega, group4 hD _ s a (hB a (by simp)) (by omega) _ _ _ (by omega) (by simp; omega) (by omega) rfl (rd_app _ _ _), h1]
    simp [enc4]
def d16 : ByteArray := ⟨#[48, 49, 50, 51, 52, 53, 54, 55, 56, 57, 97, 98, 99, 100, 101, 102]⟩
def d32 : ByteArray := ⟨#[48, 49, 50, 51, 52, 53, 54, 55, 56, 57, 97, 98, 99, 100, 101, 102, 103, 104, 105, 106, 107, 108, 109, 110, 111, 112, 113, 114, 115, 116, 117, 118]⟩
theorem digs_of (D : ByteArray) (n : Nat) (hn : n ≤ 64) (hs : D.size = n) (h : ∀ i : Fin n, (bytesOf D)[i.val]? = some (dgL i.val)) (hb : ∀ i : Fin n, 0 ≤ dgL i.val ∧ dgL i.val < 256) : Digs D n := by
  refine ⟨fun v h0 h1 => ?_, by omega, by omega⟩
  obtain ⟨m, rfl⟩ := Int.eq_ofNat_of_zero_le h0
  have hm : m < n := by omega
  have h2 := h ⟨m, hm⟩
  obtain ⟨h3, h4⟩ := List.getElem?_eq_some_iff.1 h2
  apply bytesOf_inj
  rw [bytesOf_extract, bytesOf_strOfNums (by intro x hx; simp at hx; subst hx; exact hb ⟨m, hm⟩), Int.toNat_natCast, show ((m : Int) + 1).toNat = m + 1 by omega, List.drop_take, List.drop_eq_getElem_cons h3, show m + 1 - m = 1 by omega, List.take_succ_cons, List.take_zero, h4]
theorem digs16 : Digs d16 16 := digs_of d16 16 (by omega) rfl (by decide) (by decide)
theorem digs32 : Digs d32 32 := digs_of d32 32 (by omega) rfl (by decide) (by decide)
theorem bits5_ev (l : List Int) (m : Nat) (hl : l.length = 5 * m) (hm : m ≤ 10000) (hB : IsB l) : Ev (fun k => spec_bits.f k l d32 5) (strOfNums ((enc5 l).map dgL)) := by
  refine ⟨1 + 18 * m, fun k hk => ?_⟩
  obtain ⟨j, rfl⟩ : ∃ j, k = j + 1 + 18 * m := ⟨k - 1 - 18 * m, by omega⟩
  have h := bits5_from digs32 j m l [] [] hl hB (by simp; omega) (by simp; omega)
  exact h
theorem bits4_ev (l : List Int) (hl : l.length ≤ 100000) (hB : IsB l) : Ev (fun k => spec_bits.f k l d16 4) (strOfNums ((enc4 l).map dgL)) := by
  refine ⟨1 + 4 * l.length, fun k hk => ?_⟩
  obtain ⟨j, rfl⟩ : ∃ j, k = j + 1 + 4 * l.length := ⟨k - 1 - 4 * l.length, by omega⟩
  have h := bits4_from digs16 j l [] [] hB (by simp; omega) (by simp; omega)
  exact h

end Go.Proofs.YtiilihafcdmccaaDoor.P
/- A region that draws its order: first operations that are quiet (they read, or call what reads and may draw), then, in one forced order, what may write: one walk in the order of the text serves every order. Beside the library's 'wp_region_still_tail' (no draws in the calls) and 'wp_region_quiet' (no writing end). -/
namespace Go.Proofs.YtiilihafcdmccaaDoor.P
open Go
section
variable {P : Program} {ops : Array Oper} {md : Region.Mode} {C : World → Prop}
/-- The head's operations, in whatever order they come up; 'L': what is asked when f of them have come up. -/
def headQ (P : Program) (md : Region.Mode) (ops : Array Oper) (C : World → Prop) (n : Nat) (L : Array Bool → Act → Prop) : Nat → Array Bool → Act → Prop
  | 0, listed, a => L listed a
  | f + 1, listed, a => Region.ready md ops listed ≠ [] ∧ ∀ i, i ∈ Region.ready md ops listed → i < n ∧ qOp P ops C i (headQ P md ops C n L f (listed.setIfInBounds i true)) a
theorem any_of_headQ {n g : Nat} {L : Array Bool → Act → Prop} {Q : Exit → Act → World → Prop} (hL : ∀ listed a w, C w → L listed a → wpAny P md ops Q g listed a w) (f : Nat) :
    ∀ (listed : Array Bool) (a : Act) (w : World), C w → headQ P md ops C n L f listed a → wpAny P md ops Q (f + g) listed a w := by
  induction f with
  | zero => intro listed a w hw h; rw [Nat.zero_add]; exact hL _ _ _ hw h
  | succ f ih =>
    intro listed a w hw h
    rw [Nat.add_right_comm f 1 g]
    exact ⟨fun h0 => absurd h0 h.1, fun i hi => wpOp_of_qOp hw (fun a' w' hw' h' => ih _ a' w' hw' h') (h.2 i hi).2⟩
/-- Whichever of the head's operations comes up, the one that is quiet now may be taken first. -/
theorem headQ_first {n i : Nat} {oi : Oper} {v : Value} {L : Array Bool → Act → Prop} (hi : ops[i]? = some oi) (hsel : ∀ (j : Nat) (o : Oper) cs b, ops[j]? = some o → o.op ≠ .select cs b)
    (hs : Region.sinkB md ops n = true) (hc : Region.chainB md ops n = true) (hn : n < ops.size) (hin : i < n) (hdone : ∀ listed a, L listed a → ∀ j ∈ Region.ready md ops listed, n ≤ j) (f : Nat) :
    ∀ (listed : Array Bool) (a : Act), HeadInv md ops n listed →
      (∀ j oj, ops[j]? = some oj → j ≠ i → listed.getD j true = false → (∀ e ∈ oj.after, Region.binds md e = true → e.on ≠ i) → oi.apart ops oj = true) →
      i ∈ Region.ready md ops listed → YieldsIn P ops C oi v a → headQ P md ops C n L f (listed.setIfInBounds i true) (a.put oi.dst v) → headQ P md ops C n L (f + 1) listed a := by
  induction f with
  | zero =>
    intro listed a inv _ hr hy H
    have hun := (mem_ready.1 hr).1
    refine ⟨fun h => by simp [h] at hr, fun j hj => ⟨Nat.lt_of_not_le fun h => tail_waits hs hc hn inv _ i rfl hin hun j h hj, ?_⟩⟩
    rcases Nat.decEq j i with hji | hji
    · exact absurd (hdone _ _ H j (ready_mono hj hji)) (Nat.not_le.2 (Nat.lt_of_not_le fun h => tail_waits hs hc hn inv _ i rfl hin hun j h hj))
    · subst hji
      exact hy.qOp hi H
  | succ f ih =>
    intro listed a inv hfree hr hy H
    have hun := (mem_ready.1 hr).1
    refine ⟨fun h => by simp [h] at hr, fun j hj => ?_⟩
    have hjn : j < n := Nat.lt_of_not_le fun h => tail_waits hs hc hn inv _ i rfl hin hun j h hj
    refine ⟨hjn, ?_⟩
    rcases Nat.decEq j i with hji | hji
    · obtain ⟨hjun, oj, hoj, hall⟩ := mem_ready.1 hj
      have hnot : ∀ e ∈ oj.after, Region.binds md e = true → e.on ≠ i := by
        intro e he hb heq
        have h1 := hall e he hb
        rw [heq, getD_both hun] at h1
        cases h1
      have hput := qOp_put hoj (hfree j oj hoj hji hjun hnot) (fun cs b => hsel i oi cs b hi) (fun cs b => hsel j oj cs b hoj) hy (H.2 j (ready_mono hj hji)).2
      refine qOp_mono (fun a' h3 => ih (listed.setIfInBounds j true) a' (inv.set hj hjn) (fun k ok hk hki hkun hno => hfree k ok hk hki ?_ hno) (ready_mono hr (Ne.symm hji)) h3.1 (by rw [Array.setIfInBounds_comm _ _ hji]; exact h3.2)) hput
      rcases Nat.decEq j k with hjk | hjk
      · rwa [getD_set_ne true hjk] at hkun
      · subst hjk
        exact hjun
    · subst hji
      exact hy.qOp hi H
theorem headQ_lex {n g : Nat} {R : Act → Prop} (hsel : Region.noSelect ops = true) (hs : Region.sinkB md ops n = true) (hc : Region.chainB md ops n = true) (hn : n < ops.size) (l : List Oper) :
    ∀ (k : Nat) (listed : Array Bool) (a : Act), (∀ j, j < l.length → l[j]? = ops[k + j]?) → k + l.length = n → HeadInv md ops n listed → Region.lexHead md ops g l.length k listed = true → wpQuiet P ops C R l a →
      headQ P md ops C n (fun listed' a' => Region.seqB md ops g n listed' = true ∧ R a') l.length listed a := by
  induction l with
  | nil =>
    intro k listed a _ hk _ hB h
    obtain rfl : k = n := by simpa using hk
    exact ⟨by simpa [Region.lexHead] using hB, h⟩
  | cons o l ih =>
    intro k listed a hl hk inv hB h
    have h0 : ops[k]? = some o := by simpa using (hl 0 (by simp)).symm
    rw [List.length_cons] at hk
    simp only [List.length_cons, Region.lexHead, Bool.and_eq_true] at hB
    have hr : k ∈ Region.ready md ops listed := by simpa using hB.1.1
    have hq : qOp P ops C k (wpQuiet P ops C R l) a := by unfold qOp; simp only [h0]; exact h
    obtain ⟨v, hy, hK⟩ := yieldsIn_of_qOp h0 hq
    refine headQ_first h0 (Region.noSelect_spec hsel) hs hc hn (by omega) (fun listed' a' hL => seqB_ready hL.1) l.length listed a inv (Region.free_spec h0 hB.1.2) hr hy (ih (k + 1) _ _ (fun j hj => ?_) (by omega) (inv.set hr (by omega)) hB.2 hK)
    have := hl (j + 1) (by simp; omega)
    simpa [Nat.add_assoc, Nat.add_comm 1 j] using this
theorem wp_region_quiet_tail {id : Nat} {Q : Exit → Act → World → Prop} {a : Act} {w : World} {l : List Oper} (n : Nat) (hm : P.follows .mixedOrders = true) (hB : Region.lexTailB .any l.toArray n = true)
    (h : wpQuiet P l.toArray (fun w' => ∃ m, w' = w.drewN m) (fun a' => ∀ w', (∃ m, w' = w.drewN m) → wpList P l.toArray Q (l.drop n) a' w') (l.take n) a) : (Code.region id l.toArray true).wp P Q a w := by
  simp only [Region.lexTailB, Bool.and_eq_true, decide_eq_true_eq] at hB
  obtain ⟨⟨⟨⟨hsel, hn⟩, hs⟩, hc⟩, hlex⟩ := hB
  have hn' : n < l.length := by simpa using hn
  have htl : (l.take n).length = n := by rw [List.length_take]; omega
  have hdl : (l.drop n).length = l.toArray.size - n := by simp
  have H := headQ_lex (C := fun w' => ∃ m, w' = w.drewN m) (md := .any) (g := l.toArray.size - n) hsel hs hc hn (l.take n) 0 (Array.replicate l.toArray.size false) a
    (fun j hj => by rw [htl] at hj; simp [hj]) (by simpa using htl) ⟨by simp, fun j oj _ hl => (by rw [getD_replicate_false] at hl; cases hl), fun t _ ht => getD_in (by simpa using ht) (getD_replicate_false _ _)⟩ (by rw [htl]; exact hlex) h
  refine wp_region_any hm ?_
  have hall := any_of_headQ (Q := Q) (g := l.toArray.size - n) (fun listed a' w' hw' hL => by
    have h1 := wpAny_of_seq (md := .any) (Q' := Q) (l.drop n) n listed a' w' (fun j => by simp [List.getElem?_drop]) (by rw [hdl]; exact hL.1) (hL.2 w' hw')
    rwa [hdl] at h1) _ _ _ { w with drawn := w.drawn + 1 } ⟨1, rfl⟩ H
  rw [htl, show n + (l.toArray.size - n) = l.toArray.size by omega] at hall
  exact hall
end
end Go.Proofs.YtiilihafcdmccaaDoor.P
-- Written by a program of this session (wip/tools/pprint.py) out of the translation: it goes by the kit's print and by the contracts of YtiilihafcdmccaaDoorHand. Not trusted: Lean checks it.
namespace Go.Proofs.YtiilihafcdmccaaDoor.P
open Go.RowKit Go.Proofs.YtiilihafcdmccaaDoorW.PrintWords Go.Proofs.YtiilihafcdmccaaDoorW.PrintLast Go.Proofs.YtiilihafcdmccaaDoorW.PrintMore
attribute [local go_sem] max2_int min2_int max_two min_two max_three min_three max_four min_four   -- for this text's walks alone
set_option linter.unusedVariables false
set_option linter.unusedSimpArgs false

/-! ### dns_zzLeft: function 122 -/
def dns_zzLeft.f (a0 : Int) (a1 : Int) : Option (Int) := if 0 ≤ a1 then (if 0 ≤ (wrap64 (32 - a1)) then (some (Go.bits .or .u32 (shl .u32 a0 a1) (shr .u32 a0 (wrap64 (32 - a1))))) else (none)) else (none)
set_option maxHeartbeats 8000000 in
set_option maxRecDepth 100000 in
theorem dns_zzLeft.calls (a0 : Int) (a1 : Int) (r : Int) (w : World) (h : dns_zzLeft.f a0 a1 = some r) :
    Calls Tryd.prog 122 #[.int .u32 a0, .int .i64 a1] w fun e w' => e = .returned (.int .u32 r) ∧ Drawn0 w w' := by
  have H : (if 0 ≤ a1 then (if 0 ≤ (wrap64 (32 - a1)) then (some (Go.bits .or .u32 (shl .u32 a0 a1) (shr .u32 a0 (wrap64 (32 - a1))))) else (none)) else (none)) = some r := h
  clear h
  by_cases c3 : 0 ≤ a1
  · rw [if_pos c3] at H
    have c3b0 := eq_true c3
    have c3b1 : decide (0 ≤ a1) = true := decide_eq_true c3
    clear c3
    obtain ⟨ji4, hji4⟩ : ∃ j_ : Int, (shl .u32 a0 a1) = j_ := ⟨_, rfl⟩
    replace H : (if 0 ≤ (wrap64 (32 - a1)) then (some (Go.bits .or .u32 (ji4) (shr .u32 a0 (wrap64 (32 - a1))))) else (none)) = some r := by first | (rw [hji4] at H; exact H) | (simp only [hji4] at H ⊢; exact H)
    have hji4_ : (IntKind.u32.wrap (a0 * 2 ^ min a1.toNat 32)) = ji4 := hji4
    have hji4z : a1 ≤ 32 → (IntKind.u32.wrap (a0 * 2 ^ a1.toNat)) = ji4 := shl_small hji4
    obtain ⟨ji5, hji5⟩ : ∃ j_ : Int, (wrap64 (32 - a1)) = j_ := ⟨_, rfl⟩
    replace H : (if 0 ≤ (ji5) then (some (Go.bits .or .u32 (ji4) (shr .u32 a0 (ji5)))) else (none)) = some r := by first | (rw [hji5] at H; exact H) | (simp only [hji5] at H ⊢; exact H)
    have hji5w : (IntKind.i64.wrap (32 - a1)) = ji5 := (i64_w _).trans hji5
    by_cases c6 : 0 ≤ (ji5)
    · rw [if_pos c6] at H
      have c6b0 := eq_true c6
      have c6b1 : decide (0 ≤ (ji5)) = true := decide_eq_true c6
      clear c6
      obtain ⟨ji7, hji7⟩ : ∃ j_ : Int, (shr .u32 a0 (ji5)) = j_ := ⟨_, rfl⟩
      replace H : (some (Go.bits .or .u32 (ji4) (ji7))) = some r := by first | (rw [hji7] at H; exact H) | (simp only [hji7] at H ⊢; exact H)
      have hji7_ : (a0 / 2 ^ min (ji5).toNat 32) = ji7 := hji7
      have hji7z : (ji5) ≤ 32 → (a0 / 2 ^ (ji5).toNat) = ji7 := shr_small hji7
      obtain rfl := Option.some.inj H
      go_enter Tryd.func122, Tryd.ntmps122
      go_wp2
      repeat (go_quiet (fail); try go_wp2)
      go_ret
      exact ⟨by first | rfl | (simp; done) | (simp only [← hji4, ← hji5, ← hji7] <;> (first | rfl | simp)) | (simp [*]; done), by repeat (first | exact Drawn0.refl _ | apply Drawn0.step)⟩
    · rw [if_neg c6] at H
      exact absurd H (by simp)
  · rw [if_neg c3] at H
    exact absurd H (by simp)

end Go.Proofs.YtiilihafcdmccaaDoor.P
-- Written by a program of this session (wip/tools/pprint.py) out of the translation: it goes by the kit's print and by the contracts of YtiilihafcdmccaaDoorHand. Not trusted: Lean checks it.
namespace Go.Proofs.YtiilihafcdmccaaDoor.P
open Go.RowKit Go.Proofs.YtiilihafcdmccaaDoorW.PrintWords Go.Proofs.YtiilihafcdmccaaDoorW.PrintLast Go.Proofs.YtiilihafcdmccaaDoorW.PrintMore
attribute [local go_sem] max2_int min2_int max_two min_two max_three min_three max_four min_four   -- for this text's walks alone
set_option linter.unusedVariables false
set_option linter.unusedSimpArgs false

/-! ### spec_rolled: function 94 -/
def spec_rolled.f (a0 : Int) (a1 : Int) : Option (Int) := if 0 ≤ a1 then (if 0 ≤ (wrap64 (32 - a1)) then (some (Go.bits .or .u32 (shl .u32 a0 a1) (shr .u32 a0 (wrap64 (32 - a1))))) else (none)) else (none)
set_option maxHeartbeats 8000000 in
set_option maxRecDepth 100000 in
theorem spec_rolled.calls (a0 : Int) (a1 : Int) (r : Int) (w : World) (h : spec_rolled.f a0 a1 = some r) :
    Calls Tryd.prog 94 #[.int .u32 a0, .int .i64 a1] w fun e w' => e = .returned (.int .u32 r) ∧ Drawn0 w w' := by
  have H : (if 0 ≤ a1 then (if 0 ≤ (wrap64 (32 - a1)) then (some (Go.bits .or .u32 (shl .u32 a0 a1) (shr .u32 a0 (wrap64 (32 - a1))))) else (none)) else (none)) = some r := h
  clear h
  by_cases c3 : 0 ≤ a1
  · rw [if_pos c3] at H
    have c3b0 := eq_true c3
    have c3b1 : decide (0 ≤ a1) = true := decide_eq_true c3
    clear c3
    obtain ⟨ji4, hji4⟩ : ∃ j_ : Int, (shl .u32 a0 a1) = j_ := ⟨_, rfl⟩
    replace H : (if 0 ≤ (wrap64 (32 - a1)) then (some (Go.bits .or .u32 (ji4) (shr .u32 a0 (wrap64 (32 - a1))))) else (none)) = some r := by first | (rw [hji4] at H; exact H) | (simp only [hji4] at H ⊢; exact H)
    have hji4_ : (IntKind.u32.wrap (a0 * 2 ^ min a1.toNat 32)) = ji4 := hji4
    have hji4z : a1 ≤ 32 → (IntKind.u32.wrap (a0 * 2 ^ a1.toNat)) = ji4 := shl_small hji4
    obtain ⟨ji5, hji5⟩ : ∃ j_ : Int, (wrap64 (32 - a1)) = j_ := ⟨_, rfl⟩
    replace H : (if 0 ≤ (ji5) then (some (Go.bits .or .u32 (ji4) (shr .u32 a0 (ji5)))) else (none)) = some r := by first | (rw [hji5] at H; exact H) | (simp only [hji5] at H ⊢; exact H)
    have hji5w : (IntKind.i64.wrap (32 - a1)) = ji5 := (i64_w _).trans hji5
    by_cases c6 : 0 ≤ (ji5)
    · rw [if_pos c6] at H
      have c6b0 := eq_true c6
      have c6b1 : decide (0 ≤ (ji5)) = true := decide_eq_true c6
      clear c6
      obtain ⟨ji7, hji7⟩ : ∃ j_ : Int, (shr .u32 a0 (ji5)) = j_ := ⟨_, rfl⟩
      replace H : (some (Go.bits .or .u32 (ji4) (ji7))) = some r := by first | (rw [hji7] at H; exact H) | (simp only [hji7] at H ⊢; exact H)
      have hji7_ : (a0 / 2 ^ min (ji5).toNat 32) = ji7 := hji7
      have hji7z : (ji5) ≤ 32 → (a0 / 2 ^ (ji5).toNat) = ji7 := shr_small hji7
      obtain rfl := Option.some.inj H
      go_enter Tryd.func94, Tryd.ntmps94
      go_wp2
      repeat (go_quiet (fail); try go_wp2)
      go_ret
      exact ⟨by first | rfl | (simp; done) | (simp only [← hji4, ← hji5, ← hji7] <;> (first | rfl | simp)) | (simp [*]; done), by repeat (first | exact Drawn0.refl _ | apply Drawn0.step)⟩
    · rw [if_neg c6] at H
      exact absurd H (by simp)
  · rw [if_neg c3] at H
    exact absurd H (by simp)

end Go.Proofs.YtiilihafcdmccaaDoor.P
/- SHA-1: the two functions 'dns.zzSHA1' and 'spec.SHA1' come to one. -/
namespace Go.Proofs.YtiilihafcdmccaaDoor.P
open Go.RowKit Go.Proofs.YtiilihafcdmccaaDoorW.PrintWords Go.Proofs.YtiilihafcdmccaaDoorW.PrintLast Go.Proofs.YtiilihafcdmccaaDoorW.PrintMore
set_option linter.unusedVariables false
set_option linter.unusedSimpArgs false

def rol (x n : Int) : Int := Go.bits .or .u32 (shl .u32 x n) (shr .u32 x (32 - n))
def u32V (xs : List Int) : Array Value := (xs.map fun x => Value.int .u32 x).toArray
theorem u32_cell {wr : World} {m e : Nat} {xs : List Int} (h : wr.heap[m]? = some (.cells (u32V xs) e (0, 0))) {i : Nat} (hi : i < xs.length) : wr.cell? ⟨m, i, none⟩ = some (.int .u32 (xs.getD i 0)) ∧ wr.frozen? ⟨m, i, none⟩ = false := by
  constructor
  · simp [World.cell?, h, u32V, hi, List.getD_eq_getElem?_getD]
  · simp [World.frozen?, h]
theorem u32_set {wr : World} {m e : Nat} {xs : List Int} (h : wr.heap[m]? = some (.cells (u32V xs) e (0, 0))) (i : Nat) (v : Int) : (wr.setCell ⟨m, i, none⟩ (.int .u32 v)).heap[m]? = some (.cells (u32V (xs.set i v)) e (0, 0)) := by
  have h1 := setCell_eq_setRow wr m i (u32V xs) e (0, 0) (.int .u32 v) h
  rw [h1, setRow_heap wr m _ _ e _ h]
  simp [u32V, List.map_set]
/-- Block b holds these bytes. -/
def RowR (wr : World) (b : Nat) (xs : List Int) : Prop := ∀ j, j < xs.length → wr.cell? ⟨b, j, none⟩ = some (.int .u8 (xs.getD j 0))
set_option maxRecDepth 100000
set_option maxHeartbeats 4000000
theorem rol_f (x n : Int) (h0 : 0 ≤ n) (h1 : n ≤ 32) : dns_zzLeft.f x n = some (rol x n) := by
  unfold dns_zzLeft.f rol
  have e : wrap64 (32 - n) = 32 - n := by unfold wrap64; omega
  rw [if_pos h0, e, if_pos (by omega)]
theorem left_any (x n : Int) (w : World) (h0 : 0 ≤ n) (h1 : n ≤ 32) : Calls Tryd.prog 122 #[.int .u32 x, .int .i64 n] w fun e w' => e = .returned (.int .u32 (rol x n)) ∧ Drawn0 w w' := dns_zzLeft.calls x n _ w (rol_f x n h0 h1)
theorem rolled_any (x n : Int) (w : World) (h0 : 0 ≤ n) (h1 : n ≤ 32) : Calls Tryd.prog 94 #[.int .u32 x, .int .i64 n] w fun e w' => e = .returned (.int .u32 (rol x n)) ∧ Drawn0 w w' := spec_rolled.calls x n _ w (rol_f x n h0 h1)
/-- What a row of u8 of the call's own looks like. -/
def IsP (w : World) (v : Value) (P : List Int) : Prop := ∃ b cap, v = .slice (some ⟨b, 0, none⟩) P.length cap ∧ P.length ≤ cap ∧ RowR w b P
def wdv (x0 x1 x2 x3 : Int) : Int := Go.bits .or .u32 (Go.bits .or .u32 (Go.bits .or .u32 (x0 % 4294967296 * 16777216 % 4294967296) (x1 % 4294967296 * 65536 % 4294967296)) (x2 % 4294967296 * 256 % 4294967296)) (x3 % 4294967296)
def wd (P : List Int) (j : Nat) : Int := wdv (P.getD j 0) (P.getD (j + 1) 0) (P.getD (j + 2) 0) (P.getD (j + 3) 0)
def nxt (l : List Int) (i : Nat) : Int := rol (Go.bits .xor .u32 (Go.bits .xor .u32 (Go.bits .xor .u32 (l.getD (i - 3) 0) (l.getD (i - 8) 0)) (l.getD (i - 14) 0)) (l.getD (i - 16) 0)) 1
/-- The first words of a block's schedule. -/
def schL (P : List Int) (at_ : Nat) : Nat → List Int
  | 0 => []
  | i + 1 => schL P at_ i ++ [if i < 16 then wd P (at_ + 4 * i) else nxt (schL P at_ i) i]
theorem schL_len (P : List Int) (at_ : Nat) : ∀ i, (schL P at_ i).length = i
  | 0 => rfl
  | i + 1 => by rw [schL, List.length_append, schL_len P at_ i]; rfl
def fillZ (l : List Int) (n : Nat) : List Int := l ++ List.replicate (n - l.length) 0
theorem fillZ_len (l : List Int) (n : Nat) (h : l.length ≤ n) : (fillZ l n).length = n := by simp [fillZ]; omega
theorem fillZ_set (l : List Int) (n : Nat) (v : Int) (h : l.length < n) : (fillZ l n).set l.length v = fillZ (l ++ [v]) n := by
  unfold fillZ
  rw [List.set_append_right _ _ (Nat.le_refl _), Nat.sub_self, show n - l.length = (n - (l ++ [v]).length) + 1 by simp; omega, List.replicate_succ, List.set_cons_zero, List.append_assoc]
  rfl
theorem fillZ_getD (l : List Int) (n i : Nat) (h : i < l.length) : (fillZ l n).getD i 0 = l.getD i 0 := by
  unfold fillZ
  rw [List.getD_eq_getElem?_getD, List.getElem?_append_left h, List.getD_eq_getElem?_getD]
theorem block_apart {wr : World} {g h b : Nat} {xs ys P : List Int} {e1 e2 : TypeId} (h1 : wr.heap[g]? = some (.cells (u32V xs) e1 (0, 0))) (hx : 0 < xs.length) (h2 : RowR wr b P) (hP : 0 < P.length) : g ≠ b := by
  intro e
  subst e
  have a1 := (u32_cell h1 (i := 0) hx).1
  rw [h2 0 hP] at a1
  cases a1
theorem RowR.kept {wr w2 : World} {b : Nat} {P : List Int} (h : RowR wr b P) (hb : w2.heap[b]? = wr.heap[b]?) : RowR w2 b P := fun j hj => by
  have := h j hj
  simp only [World.cell?] at this ⊢
  rw [hb]
  exact this
def notI (b : Int) : Int := Go.bits .xor .u32 (if IntKind.u32.signed = true then -1 else IntKind.u32.max) b
def fI (i : Nat) (b c d : Int) : Int :=
  if 60 ≤ i then Go.bits .xor .u32 (Go.bits .xor .u32 b c) d
  else if 40 ≤ i then Go.bits .or .u32 (Go.bits .or .u32 (Go.bits .and .u32 b c) (Go.bits .and .u32 b d)) (Go.bits .and .u32 c d)
  else if 20 ≤ i then Go.bits .xor .u32 (Go.bits .xor .u32 b c) d
  else Go.bits .or .u32 (Go.bits .and .u32 b c) (Go.bits .and .u32 (notI b) d)
def kI (i : Nat) : Int := if 60 ≤ i then 3395469782 else if 40 ≤ i then 2400959708 else if 20 ≤ i then 1859775393 else 1518500249
abbrev S5 := Int × Int × Int × Int × Int
def rnd (i : Nat) (x : Int) (s : S5) : S5 := ((rol s.1 5 + fI i s.2.1 s.2.2.1 s.2.2.2.1 + s.2.2.2.2 + kI i + x) % 4294967296, s.1, rol s.2.1 30, s.2.2.1, s.2.2.2.1)
def rnds (ws : List Int) (s : S5) : Nat → S5
  | 0 => s
  | i + 1 => rnd i (ws.getD i 0) (rnds ws s i)
/-- A block's part in the sum. -/
def blk (P : List Int) (at_ : Nat) (s : S5) : S5 :=
  let r := rnds (schL P at_ 80) s 80
  ((s.1 + r.1) % 4294967296, (s.2.1 + r.2.1) % 4294967296, (s.2.2.1 + r.2.2.1) % 4294967296, (s.2.2.2.1 + r.2.2.2.1) % 4294967296, (s.2.2.2.2 + r.2.2.2.2) % 4294967296)
def s5L (s : S5) : List Int := [s.1, s.2.1, s.2.2.1, s.2.2.2.1, s.2.2.2.2]
def by4 (x : Int) : List Int := [x / 16777216 % 256, x / 65536 % 256, x / 256 % 256, x % 256]
def blks (P : List Int) : Nat → S5
  | 0 => (1732584193, 4023233417, 2562383102, 271733878, 3285377520)
  | k + 1 => blk P (64 * k) (blks P k)
/-- SHA-1 of what is padded to P. -/
def shaOf (P : List Int) : List Int := (s5L (blks P (P.length / 64))).flatMap by4
theorem five (l : List Int) (h : l.length = 5) : ∃ a b c d e, l = [a, b, c, d, e] := by
  match l, h with
  | [a, b, c, d, e], _ => exact ⟨a, b, c, d, e, rfl⟩
theorem sha_zz (P : List Int) (l0 : List Int) (A0 : Option Addr) (c0 : Nat) (w : World) (hPl : P.length ≤ 1000000) (hP64 : P.length % 64 = 0) (hPB : ∀ x ∈ P, 0 ≤ x ∧ x < 256)
    (hpad : ∀ W, Below w.heap.size w W → Calls Tryd.prog 121 #[.slice A0 l0.length c0] W fun e w' => ∃ v, e = .returned v ∧ IsP w' v P ∧ Below W.heap.size W w') : Calls Tryd.prog 90 #[.slice A0 l0.length c0] w fun e w' => ∃ v, e = .returned v ∧ Kd.R (Kd.int .u8) 5 w' w.heap.size (fun _ => True) v (shaOf P) ∧ Below w.heap.size w w' := by
  have hpad1 := Aside0.mk hpad
  clear hpad
  go_enter Tryd.func90, Tryd.ntmps90
  go_wp2_with (first | (go_at_call 121; (with_reducible refine (hpad1.out _ ?hb).mono ?_); (case hb => exact below_alloc (Below.refl _ _) _); rintro e w' ⟨v, rfl, ⟨b, cap, rfl, hcap, hrow⟩, hb⟩; (have hrow0 := Aside0.mk hrow); (have hh0 := Aside0.mk (show w'.heap[w.heap.size]? = some (.cells (u32V [1732584193, 4023233417, 2562383102, 271733878, 3285377520]) 113 (0, 0)) by rw [hb.block _ (by simp)]; exact heap_alloc_new w _)); (have hbel0 := Aside0.mk ((below_alloc (Below.refl _ _) _).trans (hb.mono (by simp)) : Below w.heap.size w w')); clear hb hrow))
  go_loopw [5] (fun v5 wr => ∃ (k aN : Nat) (hs : List Int), v5 = .int .i64 (aN : Nat) ∧ aN = 64 * k ∧ aN ≤ P.length ∧ hs.length = 5 ∧ Aside0 (hs = s5L (blks P k)) ∧ Aside0 (wr.heap[w.heap.size]? = some (.cells (u32V hs) 113 (0, 0))) ∧ Aside0 (RowR wr b P) ∧ Aside0 (Below w.heap.size w wr)) (fun v5 _ => (P.length - intOf v5).toNat)
  case atStart => exact ⟨0, 0, _, rfl, rfl, by omega, rfl, ⟨rfl⟩, hh0, hrow0, hbel0⟩
  case round =>
    clear hh0 hrow0 hbel0 hpad1
    obtain ⟨k, aN, hs, rfl, haN, hk, hsl, hst0, hh, hrow, hbel⟩ := hrel
    have hlw : w.heap.size < wr.heap.size := World.block_lt_of_cell? wr _ (u32_cell hh.out (i := 0) (by omega)).1
    obtain ⟨w1, hw1⟩ : ∃ w1, w1 = wr := ⟨_, rfl⟩
    subst hw1
    obtain ⟨g0, g1, g2, g3, g4, rfl⟩ := five hs hsl
    have haN1 := Aside0.mk haN
    clear haN
    by_cases hlt : aN < P.length
    · have c0 : decide ((aN : Int) < (P.length : Int)) = true := decide_eq_true (by omega)
      have c1 : decide (aN < P.length) = true := decide_eq_true hlt
      have hat : aN + 64 ≤ P.length := by have := haN1.out; omega
      have hbw : b < w1.heap.size := World.block_lt_of_cell? w1 _ (hrow.out 0 (by omega))
      go_wp2
      go_loopw [30] (fun v30 W => ∃ j : Nat, v30 = .int .i64 j ∧ j ≤ 16 ∧ Aside0 (W.heap[w1.heap.size]? = some (.cells (u32V (fillZ (schL P aN j) 80)) 114 (0, 0))) ∧ Aside0 (W.heap[w.heap.size]? = some (.cells (u32V [g0, g1, g2, g3, g4]) 113 (0, 0))) ∧ Aside0 (RowR W b P) ∧ Aside0 (Below w.heap.size w W)) (fun v30 _ => (16 - intOf v30).toNat)
      case atStart =>
        refine ⟨0, rfl, by omega, ⟨?_⟩, ⟨?_⟩, ⟨?_⟩, ⟨?_⟩⟩
        · show (w1.heap.push _)[w1.heap.size]? = _
          simp
          rfl
        · show (w1.heap.push _)[w.heap.size]? = _
          rw [Array.getElem?_push_lt hlw, ← Array.getElem?_eq_getElem hlw, hh.out]
        · exact hrow.out.kept (by show (w1.heap.push _)[b]? = _; rw [Array.getElem?_push_lt hbw, ← Array.getElem?_eq_getElem hbw])
        · exact below_alloc hbel.out _
      case round =>
        obtain ⟨j, rfl, hj, hwj, hhj, hrj, hbj⟩ := hrel
        by_cases hj16 : j < 16
        · have d0 : decide ((j : Int) < 16) = true := decide_eq_true (by omega)
          obtain ⟨pN, hpN⟩ : ∃ pN, pN = aN + 4 * j := ⟨_, rfl⟩
          have e0 : IntKind.i64.wrap (4 * (j : Int)) = 4 * (j : Int) := IntWalk.i64_in _ (by omega)
          have e1 : IntKind.i64.wrap ((aN : Int) + 4 * (j : Int)) = (pN : Int) := by rw [IntWalk.i64_in _ (by omega)]; omega
          have e1' : (aN : Int) + 4 * (j : Int) = (pN : Int) := by omega
          obtain ⟨p1, hp1⟩ : ∃ p1, p1 = pN + 1 := ⟨_, rfl⟩
          obtain ⟨p2, hp2⟩ : ∃ p2, p2 = pN + 2 := ⟨_, rfl⟩
          obtain ⟨p3, hp3⟩ : ∃ p3, p3 = pN + 3 := ⟨_, rfl⟩
          have e2 : IntKind.i64.wrap ((pN : Int) + 1) = (p1 : Int) := by rw [IntWalk.i64_in _ (by omega)]; omega
          have e3 : IntKind.i64.wrap ((pN : Int) + 2) = (p2 : Int) := by rw [IntWalk.i64_in _ (by omega)]; omega
          have e4 : IntKind.i64.wrap ((pN : Int) + 3) = (p3 : Int) := by rw [IntWalk.i64_in _ (by omega)]; omega
          have b0 := hrj.out pN (by omega)
          generalize hx0 : P.getD pN 0 = x0 at b0
          have hx0a := Aside0.mk hx0
          clear hx0
          have b1 := hrj.out p1 (by omega)
          generalize hx1 : P.getD p1 0 = x1 at b1
          have hx1a := Aside0.mk hx1
          clear hx1
          have b2 := hrj.out p2 (by omega)
          generalize hx2 : P.getD p2 0 = x2 at b2
          have hx2a := Aside0.mk hx2
          clear hx2
          have b3 := hrj.out p3 (by omega)
          generalize hx3 : P.getD p3 0 = x3 at b3
          have hx3a := Aside0.mk hx3
          clear hx3
          have q0 : pN < P.length := by omega
          have q1 : p1 < P.length := by omega
          have q2 : p2 < P.length := by omega
          have q3 : p3 < P.length := by omega
          have hL : (fillZ (schL P aN j) 80).length = 80 := fillZ_len _ _ (by rw [schL_len]; omega)
          have hcw := u32_cell hwj.out (i := j) (by rw [hL]; omega)
          obtain ⟨hcw1, hcw2⟩ := hcw
          have j80 : j < 80 := by omega
          have j80' : (j : Int) < 80 := by omega
          have hp1a := Aside0.mk (show p1 = pN + 1 from hp1)
          have hp2a := Aside0.mk (show p2 = pN + 2 from hp2)
          have hp3a := Aside0.mk (show p3 = pN + 3 from hp3)
          have hpNa := Aside0.mk hpN
          have hLa := Aside0.mk hL
          clear hp1 hp2 hp3 hpN hL
          go_wp2
          go_still_tail 31, (by kernel_rfl)
          go_wp2
          go_roundw
          case rel =>
            have hset := u32_set hwj.out j (wdv x0 x1 x2 x3)
            have hs1 := fillZ_set (schL P aN j) 80 (wdv x0 x1 x2 x3) (by rw [schL_len]; omega)
            rw [schL_len] at hs1
            rw [hs1] at hset
            have hwde : wdv x0 x1 x2 x3 = wd P (aN + 4 * j) := by
              unfold wd
              rw [← hpNa.out, ← hp1a.out, ← hp2a.out, ← hp3a.out, hx0a.out, hx1a.out, hx2a.out, hx3a.out]
            have hsc : schL P aN (j + 1) = schL P aN j ++ [wdv x0 x1 x2 x3] := by rw [schL, if_pos hj16, hwde]
            have n1 : w.heap.size ≠ w1.heap.size := by omega
            have n2 : b ≠ w1.heap.size := by omega
            refine ⟨j + 1, by simp, by omega, ⟨?_⟩, ⟨?_⟩, ⟨?_⟩, ⟨?_⟩⟩
            · rw [hsc]
              exact hset
            · exact (Below.heap_setCell _ _ _ _ n1).trans hhj.out
            · exact hrj.out.kept (Below.heap_setCell _ _ _ _ n2)
            · exact (hbj.out.setCell (p := ⟨w1.heap.size, j, none⟩) (by show w.heap.size ≤ w1.heap.size; omega) _).trans ⟨rfl, rfl, rfl, Nat.le_refl _, fun _ _ => rfl⟩
          case measure => simp [intOf]; omega
        · obtain rfl : j = 16 := by omega
          go_wp2
          go_loopw [9] (fun v9 W => ∃ j : Nat, v9 = .int .i64 j ∧ 16 ≤ j ∧ j ≤ 80 ∧ Aside0 (W.heap[w1.heap.size]? = some (.cells (u32V (fillZ (schL P aN j) 80)) 114 (0, 0))) ∧ Aside0 (W.heap[w.heap.size]? = some (.cells (u32V [g0, g1, g2, g3, g4]) 113 (0, 0))) ∧ Aside0 (RowR W b P) ∧ Aside0 (Below w.heap.size w W)) (fun v9 _ => (80 - intOf v9).toNat)
          case atStart => exact ⟨16, rfl, by omega, by omega, hwj, hhj, hrj, hbj⟩
          case round =>
            clear hwj hhj hrj hbj
            obtain ⟨j, rfl, hj0, hj, hwj, hhj, hrj, hbj⟩ := hrel
            by_cases hj80 : j < 80
            · have d0 : decide ((j : Int) < 80) = true := decide_eq_true (by omega)
              have hL : (fillZ (schL P aN j) 80).length = 80 := fillZ_len _ _ (by rw [schL_len]; omega)
              obtain ⟨hcw1, hcw2⟩ := u32_cell hwj.out (i := j) (by rw [hL]; omega)
              have j80' : (j : Int) < 80 := by omega
              obtain ⟨m3, hm3⟩ : ∃ m, m = j - 3 := ⟨_, rfl⟩
              have e3 : IntKind.i64.wrap ((j : Int) - 3) = (m3 : Int) := by rw [IntWalk.i64_in _ (by omega)]; omega
              have e3' : (j : Int) - 3 = (m3 : Int) := by omega
              have e3'' : IntKind.i64.wrap (m3 : Int) = (m3 : Int) := IntWalk.i64_in _ (by omega)
              have l3 : m3 < 80 := by omega
              have l3' : (m3 : Int) < 80 := by omega
              have b3 := (u32_cell hwj.out (i := m3) (by rw [hL]; omega)).1
              generalize hy3 : (fillZ (schL P aN j) 80).getD m3 0 = y3 at b3
              have hy3a := Aside0.mk (show (schL P aN j).getD (j - 3) 0 = y3 by rw [← hy3, hm3, fillZ_getD _ _ _ (by rw [schL_len]; omega)])
              clear hm3 hy3
              obtain ⟨m8, hm8⟩ : ∃ m, m = j - 8 := ⟨_, rfl⟩
              have e8 : IntKind.i64.wrap ((j : Int) - 8) = (m8 : Int) := by rw [IntWalk.i64_in _ (by omega)]; omega
              have e8' : (j : Int) - 8 = (m8 : Int) := by omega
              have e8'' : IntKind.i64.wrap (m8 : Int) = (m8 : Int) := IntWalk.i64_in _ (by omega)
              have l8 : m8 < 80 := by omega
              have l8' : (m8 : Int) < 80 := by omega
              have b8 := (u32_cell hwj.out (i := m8) (by rw [hL]; omega)).1
              generalize hy8 : (fillZ (schL P aN j) 80).getD m8 0 = y8 at b8
              have hy8a := Aside0.mk (show (schL P aN j).getD (j - 8) 0 = y8 by rw [← hy8, hm8, fillZ_getD _ _ _ (by rw [schL_len]; omega)])
              clear hm8 hy8
              obtain ⟨m14, hm14⟩ : ∃ m, m = j - 14 := ⟨_, rfl⟩
              have e14 : IntKind.i64.wrap ((j : Int) - 14) = (m14 : Int) := by rw [IntWalk.i64_in _ (by omega)]; omega
              have e14' : (j : Int) - 14 = (m14 : Int) := by omega
              have e14'' : IntKind.i64.wrap (m14 : Int) = (m14 : Int) := IntWalk.i64_in _ (by omega)
              have l14 : m14 < 80 := by omega
              have l14' : (m14 : Int) < 80 := by omega
              have b14 := (u32_cell hwj.out (i := m14) (by rw [hL]; omega)).1
              generalize hy14 : (fillZ (schL P aN j) 80).getD m14 0 = y14 at b14
              have hy14a := Aside0.mk (show (schL P aN j).getD (j - 14) 0 = y14 by rw [← hy14, hm14, fillZ_getD _ _ _ (by rw [schL_len]; omega)])
              clear hm14 hy14
              obtain ⟨m16, hm16⟩ : ∃ m, m = j - 16 := ⟨_, rfl⟩
              have e16 : IntKind.i64.wrap ((j : Int) - 16) = (m16 : Int) := by rw [IntWalk.i64_in _ (by omega)]; omega
              have e16' : (j : Int) - 16 = (m16 : Int) := by omega
              have e16'' : IntKind.i64.wrap (m16 : Int) = (m16 : Int) := IntWalk.i64_in _ (by omega)
              have l16 : m16 < 80 := by omega
              have l16' : (m16 : Int) < 80 := by omega
              have b16 := (u32_cell hwj.out (i := m16) (by rw [hL]; omega)).1
              generalize hy16 : (fillZ (schL P aN j) 80).getD m16 0 = y16 at b16
              have hy16a := Aside0.mk (show (schL P aN j).getD (j - 16) 0 = y16 by rw [← hy16, hm16, fillZ_getD _ _ _ (by rw [schL_len]; omega)])
              clear hm16 hy16
              generalize (fillZ (schL P aN j) 80).getD j 0 = y0 at hcw1
              clear hL
              go_wp2
              refine wp_region_quiet_tail 22 (by kernel_rfl) (by kernel_rfl) ?_
              simp only [List.take_succ_cons, List.take_zero, List.drop_succ_cons, List.drop_zero]
              repeat (go_big_quiet_step (fail))
              go_big_quiet_want
              go_big_quiet_op
              apply Exists.intro
              refine ⟨fun _ => ?hcall, ?hgo⟩
              case hcall =>
                go_at_call 122
                refine (left_any _ 1 _ (by omega) (by omega)).mono ?_
                rintro e w' ⟨rfl, ⟨nd, rfl⟩⟩
                exact ⟨rfl, _, World.drewN_drewN _ _ _⟩
              case hgo =>
              go_big_quiet_on
              repeat (go_big_quiet_step (fail))
              refine wpQuiet_nil ?_
              intro w2 hw2
              obtain ⟨nq, rfl⟩ := hw2
              go_wp2
              go_roundw
              case rel =>
                have hset := u32_set hwj.out j (rol (Go.bits .xor .u32 (Go.bits .xor .u32 (Go.bits .xor .u32 y3 y8) y14) y16) 1)
                have hs1 := fillZ_set (schL P aN j) 80 (rol (Go.bits .xor .u32 (Go.bits .xor .u32 (Go.bits .xor .u32 y3 y8) y14) y16) 1) (by rw [schL_len]; omega)
                rw [schL_len] at hs1
                rw [hs1] at hset
                have hsc : schL P aN (j + 1) = schL P aN j ++ [rol (Go.bits .xor .u32 (Go.bits .xor .u32 (Go.bits .xor .u32 y3 y8) y14) y16) 1] := by
                  rw [schL, if_neg (by omega)]
                  unfold nxt
                  rw [hy3a.out, hy8a.out, hy14a.out, hy16a.out]
                have n1 : w.heap.size ≠ w1.heap.size := by omega
                have n2 : b ≠ w1.heap.size := by omega
                refine ⟨j + 1, by simp, by omega, by omega, ⟨?_⟩, ⟨?_⟩, ⟨?_⟩, ⟨?_⟩⟩
                · rw [hsc]
                  exact hset
                · exact (Below.heap_setCell _ _ _ _ n1).trans hhj.out
                · exact hrj.out.kept (Below.heap_setCell _ _ _ _ n2)
                · exact (pw_below_drewN hbj.out nq).setCell (p := ⟨w1.heap.size, j, none⟩) (by show w.heap.size ≤ w1.heap.size; omega) _
              case measure => simp [intOf]; omega
            · obtain rfl : j = 80 := by omega
              have k0 : wr.cell? ⟨w.heap.size, 0, none⟩ = some (.int .u32 g0) := (u32_cell hhj.out (i := 0) (by simp)).1
              have k1 : wr.cell? ⟨w.heap.size, 1, none⟩ = some (.int .u32 g1) := (u32_cell hhj.out (i := 1) (by simp)).1
              have k2 : wr.cell? ⟨w.heap.size, 2, none⟩ = some (.int .u32 g2) := (u32_cell hhj.out (i := 2) (by simp)).1
              have k3 : wr.cell? ⟨w.heap.size, 3, none⟩ = some (.int .u32 g3) := (u32_cell hhj.out (i := 3) (by simp)).1
              have k4 : wr.cell? ⟨w.heap.size, 4, none⟩ = some (.int .u32 g4) := (u32_cell hhj.out (i := 4) (by simp)).1
              go_wp2
              go_quiet (fail)
              go_wp2
              have hwj2 : Aside0 ((wr.drewN nq).heap[w1.heap.size]? = some (.cells (u32V (fillZ (schL P aN 80) 80)) 114 (0, 0))) := hwj
              have hhj2 : Aside0 ((wr.drewN nq).heap[w.heap.size]? = some (.cells (u32V [g0, g1, g2, g3, g4]) 113 (0, 0))) := hhj
              have hrj2 : Aside0 (RowR (wr.drewN nq) b P) := hrj
              have hbj2 := Aside0.mk (pw_below_drewN hbj.out nq)
              clear hwj hhj hrj hbj
              go_loopw [10, 11, 12, 13, 14, 105] (fun v10 v11 v12 v13 v14 v105 W => ∃ (i : Nat) (s0 s1 s2 s3 s4 : Int), v105 = .int .i64 i ∧ i ≤ 80 ∧ v10 = .int .u32 s0 ∧ v11 = .int .u32 s1 ∧ v12 = .int .u32 s2 ∧ v13 = .int .u32 s3 ∧ v14 = .int .u32 s4 ∧ Aside0 (rnds (schL P aN 80) (g0, g1, g2, g3, g4) i = (s0, s1, s2, s3, s4)) ∧ Aside0 (W.heap[w1.heap.size]? = some (.cells (u32V (fillZ (schL P aN 80) 80)) 114 (0, 0))) ∧ Aside0 (W.heap[w.heap.size]? = some (.cells (u32V [g0, g1, g2, g3, g4]) 113 (0, 0))) ∧ Aside0 (RowR W b P) ∧ Aside0 (Below w.heap.size w W)) (fun v10 v11 v12 v13 v14 v105 _ => (80 - intOf v105).toNat)
              case atStart => exact ⟨0, _, _, _, _, _, rfl, by omega, rfl, rfl, rfl, rfl, rfl, ⟨rfl⟩, hwj2, hhj2, hrj2, hbj2⟩
              case round =>
                clear hwj2 hhj2 hrj2 hbj2 k0 k1 k2 k3 k4
                obtain ⟨i, s0, s1, s2, s3, s4, rfl, hi, rfl, rfl, rfl, rfl, rfl, hst, hwj, hhj, hrj, hbj⟩ := hrel
                by_cases hi80 : i < 80
                · have d0 : decide ((i : Int) < 80) = true := decide_eq_true (by omega)
                  have d1 : (i : Int) < 80 := by omega
                  have bx := (u32_cell hwj.out (i := i) (by rw [fillZ_len _ _ (by rw [schL_len]; omega)]; omega)).1
                  generalize hx : (fillZ (schL P aN 80) 80).getD i 0 = x at bx
                  have hst1 := Aside0.mk (show rnds (schL P aN 80) (g0, g1, g2, g3, g4) (i + 1) = rnd i x (s0, s1, s2, s3, s4) by rw [rnds, hst.out, ← hx, fillZ_getD _ _ _ (by rw [schL_len]; omega)])
                  clear hx hst
                  by_cases c60 : 60 ≤ i
                  · have f60 : decide ((60 : Int) ≤ (i : Int)) = true := decide_eq_true (by omega)
                    have f60' : decide (60 ≤ i) = true := decide_eq_true (by omega)
                    repeat go_step
                    refine wp_region_quiet_lit (by kernel_rfl) (by kernel_rfl) ?_
                    repeat (go_big_quiet_step (fail))
                    go_big_quiet_want
                    go_big_quiet_op
                    apply Exists.intro
                    refine ⟨fun _ => ?hcall, ?hgo⟩
                    case hcall =>
                      go_at_call 122
                      refine (left_any _ 5 _ (by omega) (by omega)).mono ?_
                      rintro e w' ⟨rfl, ⟨nd, rfl⟩⟩
                      exact ⟨rfl, _, World.drewN_drewN _ _ _⟩
                    case hgo =>
                    go_big_quiet_on
                    repeat (go_big_quiet_step (fail))
                    go_big_quiet_want
                    go_big_quiet_op
                    apply Exists.intro
                    refine ⟨fun _ => ?hcall, ?hgo⟩
                    case hcall =>
                      go_at_call 122
                      refine (left_any _ 30 _ (by omega) (by omega)).mono ?_
                      rintro e w' ⟨rfl, ⟨nd, rfl⟩⟩
                      exact ⟨rfl, _, World.drewN_drewN _ _ _⟩
                    case hgo =>
                    go_big_quiet_on
                    repeat (go_big_quiet_step (fail))
                    refine wpQuiet_nil ?_
                    intro w2 hw2
                    obtain ⟨nq2, rfl⟩ := hw2
                    repeat go_step
                    go_roundw
                    case rel => exact ⟨i + 1, _, _, _, _, _, by simp, by omega, rfl, rfl, rfl, rfl, rfl, ⟨by rw [hst1.out]; unfold rnd fI kI notI; simp only [c60, if_true, if_false]; refine Prod.ext ?_ rfl; simp only []; omega⟩, hwj, hhj, hrj, ⟨pw_below_drewN hbj.out _⟩⟩
                    case measure => simp [intOf]; omega
                  · have f60 : decide ((60 : Int) ≤ (i : Int)) = false := decide_eq_false (by omega)
                    have f60' : decide (60 ≤ i) = false := decide_eq_false (by omega)
                    by_cases c40 : 40 ≤ i
                    · have f40 : decide ((40 : Int) ≤ (i : Int)) = true := decide_eq_true (by omega)
                      have f40' : decide (40 ≤ i) = true := decide_eq_true (by omega)
                      repeat go_step
                      refine wp_region_quiet_lit (by kernel_rfl) (by kernel_rfl) ?_
                      repeat (go_big_quiet_step (fail))
                      go_big_quiet_want
                      go_big_quiet_op
                      apply Exists.intro
                      refine ⟨fun _ => ?hcall, ?hgo⟩
                      case hcall =>
                        go_at_call 122
                        refine (left_any _ 5 _ (by omega) (by omega)).mono ?_
                        rintro e w' ⟨rfl, ⟨nd, rfl⟩⟩
                        exact ⟨rfl, _, World.drewN_drewN _ _ _⟩
                      case hgo =>
                      go_big_quiet_on
                      repeat (go_big_quiet_step (fail))
                      go_big_quiet_want
                      go_big_quiet_op
                      apply Exists.intro
                      refine ⟨fun _ => ?hcall, ?hgo⟩
                      case hcall =>
                        go_at_call 122
                        refine (left_any _ 30 _ (by omega) (by omega)).mono ?_
                        rintro e w' ⟨rfl, ⟨nd, rfl⟩⟩
                        exact ⟨rfl, _, World.drewN_drewN _ _ _⟩
                      case hgo =>
                      go_big_quiet_on
                      repeat (go_big_quiet_step (fail))
                      refine wpQuiet_nil ?_
                      intro w2 hw2
                      obtain ⟨nq2, rfl⟩ := hw2
                      repeat go_step
                      go_roundw
                      case rel => exact ⟨i + 1, _, _, _, _, _, by simp, by omega, rfl, rfl, rfl, rfl, rfl, ⟨by rw [hst1.out]; unfold rnd fI kI notI; simp only [c60, c40, if_true, if_false]; refine Prod.ext ?_ rfl; simp only []; omega⟩, hwj, hhj, hrj, ⟨pw_below_drewN hbj.out _⟩⟩
                      case measure => simp [intOf]; omega
                    · have f40 : decide ((40 : Int) ≤ (i : Int)) = false := decide_eq_false (by omega)
                      have f40' : decide (40 ≤ i) = false := decide_eq_false (by omega)
                      by_cases c20 : 20 ≤ i
                      · have f20 : decide ((20 : Int) ≤ (i : Int)) = true := decide_eq_true (by omega)
                        have f20' : decide (20 ≤ i) = true := decide_eq_true (by omega)
                        repeat go_step
                        refine wp_region_quiet_lit (by kernel_rfl) (by kernel_rfl) ?_
                        repeat (go_big_quiet_step (fail))
                        go_big_quiet_want
                        go_big_quiet_op
                        apply Exists.intro
                        refine ⟨fun _ => ?hcall, ?hgo⟩
                        case hcall =>
                          go_at_call 122
                          refine (left_any _ 5 _ (by omega) (by omega)).mono ?_
                          rintro e w' ⟨rfl, ⟨nd, rfl⟩⟩
                          exact ⟨rfl, _, World.drewN_drewN _ _ _⟩
                        case hgo =>
                        go_big_quiet_on
                        repeat (go_big_quiet_step (fail))
                        go_big_quiet_want
                        go_big_quiet_op
                        apply Exists.intro
                        refine ⟨fun _ => ?hcall, ?hgo⟩
                        case hcall =>
                          go_at_call 122
                          refine (left_any _ 30 _ (by omega) (by omega)).mono ?_
                          rintro e w' ⟨rfl, ⟨nd, rfl⟩⟩
                          exact ⟨rfl, _, World.drewN_drewN _ _ _⟩
                        case hgo =>
                        go_big_quiet_on
                        repeat (go_big_quiet_step (fail))
                        refine wpQuiet_nil ?_
                        intro w2 hw2
                        obtain ⟨nq2, rfl⟩ := hw2
                        repeat go_step
                        go_roundw
                        case rel => exact ⟨i + 1, _, _, _, _, _, by simp, by omega, rfl, rfl, rfl, rfl, rfl, ⟨by rw [hst1.out]; unfold rnd fI kI notI; simp only [c60, c40, c20, if_true, if_false]; refine Prod.ext ?_ rfl; simp only []; omega⟩, hwj, hhj, hrj, ⟨pw_below_drewN hbj.out _⟩⟩
                        case measure => simp [intOf]; omega
                      · have f20 : decide ((20 : Int) ≤ (i : Int)) = false := decide_eq_false (by omega)
                        have f20' : decide (20 ≤ i) = false := decide_eq_false (by omega)
                        repeat go_step
                        refine wp_region_quiet_lit (by kernel_rfl) (by kernel_rfl) ?_
                        repeat (go_big_quiet_step (fail))
                        go_big_quiet_want
                        go_big_quiet_op
                        apply Exists.intro
                        refine ⟨fun _ => ?hcall, ?hgo⟩
                        case hcall =>
                          go_at_call 122
                          refine (left_any _ 5 _ (by omega) (by omega)).mono ?_
                          rintro e w' ⟨rfl, ⟨nd, rfl⟩⟩
                          exact ⟨rfl, _, World.drewN_drewN _ _ _⟩
                        case hgo =>
                        go_big_quiet_on
                        repeat (go_big_quiet_step (fail))
                        go_big_quiet_want
                        go_big_quiet_op
                        apply Exists.intro
                        refine ⟨fun _ => ?hcall, ?hgo⟩
                        case hcall =>
                          go_at_call 122
                          refine (left_any _ 30 _ (by omega) (by omega)).mono ?_
                          rintro e w' ⟨rfl, ⟨nd, rfl⟩⟩
                          exact ⟨rfl, _, World.drewN_drewN _ _ _⟩
                        case hgo =>
                        go_big_quiet_on
                        repeat (go_big_quiet_step (fail))
                        refine wpQuiet_nil ?_
                        intro w2 hw2
                        obtain ⟨nq2, rfl⟩ := hw2
                        repeat go_step
                        go_roundw
                        case rel => exact ⟨i + 1, _, _, _, _, _, by simp, by omega, rfl, rfl, rfl, rfl, rfl, ⟨by rw [hst1.out]; unfold rnd fI kI notI; simp only [c60, c40, c20, if_true, if_false]; refine Prod.ext ?_ rfl; simp only []; omega⟩, hwj, hhj, hrj, ⟨pw_below_drewN hbj.out _⟩⟩
                        case measure => simp [intOf]; omega
                · --END80
                  obtain rfl : i = 80 := by omega
                  have k0 : wr.cell? ⟨w.heap.size, 0, none⟩ = some (.int .u32 g0) := (u32_cell hhj.out (i := 0) (by simp)).1
                  have k1 : wr.cell? ⟨w.heap.size, 1, none⟩ = some (.int .u32 g1) := (u32_cell hhj.out (i := 1) (by simp)).1
                  have k2 : wr.cell? ⟨w.heap.size, 2, none⟩ = some (.int .u32 g2) := (u32_cell hhj.out (i := 2) (by simp)).1
                  have k3 : wr.cell? ⟨w.heap.size, 3, none⟩ = some (.int .u32 g3) := (u32_cell hhj.out (i := 3) (by simp)).1
                  have k4 : wr.cell? ⟨w.heap.size, 4, none⟩ = some (.int .u32 g4) := (u32_cell hhj.out (i := 4) (by simp)).1
                  have z0 := (u32_cell hhj.out (i := 0) (by simp)).2
                  have z1 := (u32_cell hhj.out (i := 1) (by simp)).2
                  have z2 := (u32_cell hhj.out (i := 2) (by simp)).2
                  have z3 := (u32_cell hhj.out (i := 3) (by simp)).2
                  have z4 := (u32_cell hhj.out (i := 4) (by simp)).2
                  have o0 : IntKind.i64.wrap ((aN : Int) + 64) = (aN : Int) + 64 := IntWalk.i64_in _ (by omega)
                  repeat go_step
                  go_roundw
                  case rel =>
                    have q0 := u32_set hhj.out 0 ((g0 + s0) % 4294967296)
                    have q1 := u32_set q0 1 ((g1 + s1) % 4294967296)
                    have q2 := u32_set q1 2 ((g2 + s2) % 4294967296)
                    have q3 := u32_set q2 3 ((g3 + s3) % 4294967296)
                    have q4 := u32_set q3 4 ((g4 + s4) % 4294967296)
                    have n2 : b ≠ w.heap.size := fun e => by
                      have h5 := hrj.out 0 (by omega)
                      rw [e, k0] at h5
                      cases h5
                    have hbk : blks P k = (g0, g1, g2, g3, g4) := by
                      have h5 := hst0.out
                      unfold s5L at h5
                      generalize blks P k = B at h5
                      obtain ⟨B0, B1, B2, B3, B4⟩ := B
                      simp only [List.cons.injEq, and_true] at h5
                      obtain ⟨rfl, rfl, rfl, rfl, rfl⟩ := h5
                      rfl
                    have hnx : s5L (blks P (k + 1)) = [(g0 + s0) % 4294967296, (g1 + s1) % 4294967296, (g2 + s2) % 4294967296, (g3 + s3) % 4294967296, (g4 + s4) % 4294967296] := by
                      rw [blks, ← haN1.out, hbk]
                      unfold blk s5L
                      rw [hst.out]
                    refine ⟨k + 1, aN + 64, _, by simp, by have := haN1.out; omega, by omega, rfl, ⟨hnx.symm⟩, ⟨q4⟩, ⟨?_⟩, ⟨?_⟩⟩
                    · refine hrj.out.kept ?_
                      exact (Below.heap_setCell _ _ _ _ n2).trans ((Below.heap_setCell _ _ _ _ n2).trans ((Below.heap_setCell _ _ _ _ n2).trans ((Below.heap_setCell _ _ _ _ n2).trans (Below.heap_setCell _ _ _ _ n2))))
                    · exact ((((hbj.out.setCell (p := ⟨w.heap.size, 0, none⟩) (Nat.le_refl _) _).setCell (p := ⟨w.heap.size, 1, none⟩) (Nat.le_refl _) _).setCell (p := ⟨w.heap.size, 2, none⟩) (Nat.le_refl _) _).setCell (p := ⟨w.heap.size, 3, none⟩) (Nat.le_refl _) _).setCell (p := ⟨w.heap.size, 4, none⟩) (Nat.le_refl _) _
                  case measure => simp [intOf]; omega
    · have c0 : decide ((aN : Int) < (P.length : Int)) = false := decide_eq_false (by omega)
      have c1 : decide (aN < P.length) = false := decide_eq_false (by omega)
      have k0 : w1.cell? ⟨w.heap.size, 0, none⟩ = some (.int .u32 g0) := (u32_cell hh.out (i := 0) (by simp)).1
      have k1 : w1.cell? ⟨w.heap.size, 1, none⟩ = some (.int .u32 g1) := (u32_cell hh.out (i := 1) (by simp)).1
      have k2 : w1.cell? ⟨w.heap.size, 2, none⟩ = some (.int .u32 g2) := (u32_cell hh.out (i := 2) (by simp)).1
      have k3 : w1.cell? ⟨w.heap.size, 3, none⟩ = some (.int .u32 g3) := (u32_cell hh.out (i := 3) (by simp)).1
      have k4 : w1.cell? ⟨w.heap.size, 4, none⟩ = some (.int .u32 g4) := (u32_cell hh.out (i := 4) (by simp)).1
      have hs4 := Aside0.mk (show [g0, g1, g2, g3, g4] = s5L (blks P (P.length / 64)) by have h5 := hst0.out; rwa [show k = P.length / 64 by have := haN1.out; omega] at h5)
      go_wp2
      go_loopw [18, 190] (fun v18 v190 W => ∃ i : Nat, v190 = .int .i64 i ∧ i ≤ 5 ∧ Aside0 (Kd.R (Kd.int .u8) 5 W w.heap.size (fun _ => True) v18 (([g0, g1, g2, g3, g4].take i).flatMap by4)) ∧ Aside0 (Below w.heap.size w W)) (fun v18 v190 _ => (5 - intOf v190).toNat)
      case atStart => exact ⟨0, rfl, by omega, ⟨Kd.R_nil _ _ _ _ _⟩, hbel⟩
      case round =>
        obtain ⟨i, rfl, hi, hO, hB⟩ := hrel
        clear k0 k1 k2 k3 k4 hh hrow hbel hst0
        rcases (show i = 0 ∨ i = 1 ∨ i = 2 ∨ i = 3 ∨ i = 4 ∨ i = 5 by omega) with rfl | rfl | rfl | rfl | rfl | rfl
        · have ix : ∀ W : World, (Instr.index 113 (.agg #[.int .u32 g0, .int .u32 g1, .int .u32 g2, .int .u32 g3, .int .u32 g4]) (.int .i64 0)).run Tryd.prog W = .ok (.int .u32 g0) W := fun _ => by kernel_rfl
          generalize hprev : ([g0, g1, g2, g3, g4].take 0).flatMap by4 = xs0 at hO
          have hpl : xs0.length = 0 := by rw [← hprev]; rfl
          have hprev1 := Aside0.mk hprev
          clear hprev
          go_wp2_with (first
            | ((with_reducible refine gate_dst (N := 205) rfl ?_); refine Kd.R_lit (Kd.int .u8) _ 5 ?hg (N := 205) ?hd (xs := (by4 g0 : List Int)) (inner := [.int .u8 (g0 / 16777216 % 256), .int .u8 (g0 / 65536 % 256), .int .u8 (g0 / 256 % 256), .int .u8 (g0 % 256)]) (ok := fun _ => True) (okp := fun _ => True) ?hr ?hp (fun _ hk => hk) trivial (Below.refl _ _) (Nat.le_refl _) (by simp [by4]) ?_; (case hd => rfl); (case hg => rfl); (case hr => first | (go_simp; done) | (go_simp; rfl)); (case hp => exact (Reps.one (show Kd.M (Kd.int .u8) _ _ _ (g0 / 16777216 % 256) [.int .u8 (g0 / 16777216 % 256)] from rfl) (Reps.one (show Kd.M (Kd.int .u8) _ _ _ (g0 / 65536 % 256) [.int .u8 (g0 / 65536 % 256)] from rfl) (Reps.one (show Kd.M (Kd.int .u8) _ _ _ (g0 / 256 % 256) [.int .u8 (g0 / 256 % 256)] from rfl) (Reps.one (show Kd.M (Kd.int .u8) _ _ _ (g0 % 256) [.int .u8 (g0 % 256)] from rfl) (Reps.none _ _)))))); intro vl wl hol hbl hgl hnl; clear hgl hnl; have hO2 := Aside0.mk (Kd.R_below hO.out hbl); have hL2 := Aside0.mk hol; have hB2 := Aside0.mk (below_step hB.out hbl); clear hol hbl; obtain ⟨Al, cl, rfl⟩ := Kd.R_slice hL2.out)
            | ((with_reducible refine gate_builtin (b := .append) (xs := #[.tmp 193, .tmp 205]) rfl ?_); at_builtin; refine Kd.R_append_rows (Kd.int .u8) (w0 := w) w.heap.size rfl (.tmp 193) (.tmp 205) 22 5 (.int .u8 0) 1 rfl Tryd.underlying22 info5 rfl (by decide) (by omega) u18 xs0 (by4 g0) _ _ _ (fun _ => True) (fun _ => False) rfl rfl ?aO ?aR (fun _ _ h => h) (fun _ h => h.elim) ?aF ?aB ?aS ?aL ?_; (case aR => exact (Kd.R_reads' hL2.out).2.2); (case aB => exact hB2.out); (case aF => exact (fun _ _ => trivial)); (case aO => exact hO2.out); (case aS => exact hB2.out.size); (case aL => simp [hpl, by4]); intro va wa hoa hba hga hna; have hO3 := Aside0.mk hoa; have hB3 := Aside0.mk hba; clear hoa hba hga hna))
          go_roundw
          case rel => exact ⟨1, by simp, by omega, ⟨by have h5 := hO3.out; rw [← hprev1.out] at h5; simpa using h5⟩, hB3⟩
          case measure => simp [intOf]
        · have ix : ∀ W : World, (Instr.index 113 (.agg #[.int .u32 g0, .int .u32 g1, .int .u32 g2, .int .u32 g3, .int .u32 g4]) (.int .i64 1)).run Tryd.prog W = .ok (.int .u32 g1) W := fun _ => by kernel_rfl
          generalize hprev : ([g0, g1, g2, g3, g4].take 1).flatMap by4 = xs0 at hO
          have hpl : xs0.length = 4 := by rw [← hprev]; rfl
          have hprev1 := Aside0.mk hprev
          clear hprev
          go_wp2_with (first
            | ((with_reducible refine gate_dst (N := 205) rfl ?_); refine Kd.R_lit (Kd.int .u8) _ 5 ?hg (N := 205) ?hd (xs := (by4 g1 : List Int)) (inner := [.int .u8 (g1 / 16777216 % 256), .int .u8 (g1 / 65536 % 256), .int .u8 (g1 / 256 % 256), .int .u8 (g1 % 256)]) (ok := fun _ => True) (okp := fun _ => True) ?hr ?hp (fun _ hk => hk) trivial (Below.refl _ _) (Nat.le_refl _) (by simp [by4]) ?_; (case hd => rfl); (case hg => rfl); (case hr => first | (go_simp; done) | (go_simp; rfl)); (case hp => exact (Reps.one (show Kd.M (Kd.int .u8) _ _ _ (g1 / 16777216 % 256) [.int .u8 (g1 / 16777216 % 256)] from rfl) (Reps.one (show Kd.M (Kd.int .u8) _ _ _ (g1 / 65536 % 256) [.int .u8 (g1 / 65536 % 256)] from rfl) (Reps.one (show Kd.M (Kd.int .u8) _ _ _ (g1 / 256 % 256) [.int .u8 (g1 / 256 % 256)] from rfl) (Reps.one (show Kd.M (Kd.int .u8) _ _ _ (g1 % 256) [.int .u8 (g1 % 256)] from rfl) (Reps.none _ _)))))); intro vl wl hol hbl hgl hnl; clear hgl hnl; have hO2 := Aside0.mk (Kd.R_below hO.out hbl); have hL2 := Aside0.mk hol; have hB2 := Aside0.mk (below_step hB.out hbl); clear hol hbl; obtain ⟨Al, cl, rfl⟩ := Kd.R_slice hL2.out)
            | ((with_reducible refine gate_builtin (b := .append) (xs := #[.tmp 193, .tmp 205]) rfl ?_); at_builtin; refine Kd.R_append_rows (Kd.int .u8) (w0 := w) w.heap.size rfl (.tmp 193) (.tmp 205) 22 5 (.int .u8 0) 1 rfl Tryd.underlying22 info5 rfl (by decide) (by omega) u18 xs0 (by4 g1) _ _ _ (fun _ => True) (fun _ => False) rfl rfl ?aO ?aR (fun _ _ h => h) (fun _ h => h.elim) ?aF ?aB ?aS ?aL ?_; (case aR => exact (Kd.R_reads' hL2.out).2.2); (case aB => exact hB2.out); (case aF => exact (fun _ _ => trivial)); (case aO => exact hO2.out); (case aS => exact hB2.out.size); (case aL => simp [hpl, by4]); intro va wa hoa hba hga hna; have hO3 := Aside0.mk hoa; have hB3 := Aside0.mk hba; clear hoa hba hga hna))
          go_roundw
          case rel => exact ⟨2, by simp, by omega, ⟨by have h5 := hO3.out; rw [← hprev1.out] at h5; simpa using h5⟩, hB3⟩
          case measure => simp [intOf]
        · have ix : ∀ W : World, (Instr.index 113 (.agg #[.int .u32 g0, .int .u32 g1, .int .u32 g2, .int .u32 g3, .int .u32 g4]) (.int .i64 2)).run Tryd.prog W = .ok (.int .u32 g2) W := fun _ => by kernel_rfl
          generalize hprev : ([g0, g1, g2, g3, g4].take 2).flatMap by4 = xs0 at hO
          have hpl : xs0.length = 8 := by rw [← hprev]; rfl
          have hprev1 := Aside0.mk hprev
          clear hprev
          go_wp2_with (first
            | ((with_reducible refine gate_dst (N := 205) rfl ?_); refine Kd.R_lit (Kd.int .u8) _ 5 ?hg (N := 205) ?hd (xs := (by4 g2 : List Int)) (inner := [.int .u8 (g2 / 16777216 % 256), .int .u8 (g2 / 65536 % 256), .int .u8 (g2 / 256 % 256), .int .u8 (g2 % 256)]) (ok := fun _ => True) (okp := fun _ => True) ?hr ?hp (fun _ hk => hk) trivial (Below.refl _ _) (Nat.le_refl _) (by simp [by4]) ?_; (case hd => rfl); (case hg => rfl); (case hr => first | (go_simp; done) | (go_simp; rfl)); (case hp => exact (Reps.one (show Kd.M (Kd.int .u8) _ _ _ (g2 / 16777216 % 256) [.int .u8 (g2 / 16777216 % 256)] from rfl) (Reps.one (show Kd.M (Kd.int .u8) _ _ _ (g2 / 65536 % 256) [.int .u8 (g2 / 65536 % 256)] from rfl) (Reps.one (show Kd.M (Kd.int .u8) _ _ _ (g2 / 256 % 256) [.int .u8 (g2 / 256 % 256)] from rfl) (Reps.one (show Kd.M (Kd.int .u8) _ _ _ (g2 % 256) [.int .u8 (g2 % 256)] from rfl) (Reps.none _ _)))))); intro vl wl hol hbl hgl hnl; clear hgl hnl; have hO2 := Aside0.mk (Kd.R_below hO.out hbl); have hL2 := Aside0.mk hol; have hB2 := Aside0.mk (below_step hB.out hbl); clear hol hbl; obtain ⟨Al, cl, rfl⟩ := Kd.R_slice hL2.out)
            | ((with_reducible refine gate_builtin (b := .append) (xs := #[.tmp 193, .tmp 205]) rfl ?_); at_builtin; refine Kd.R_append_rows (Kd.int .u8) (w0 := w) w.heap.size rfl (.tmp 193) (.tmp 205) 22 5 (.int .u8 0) 1 rfl Tryd.underlying22 info5 rfl (by decide) (by omega) u18 xs0 (by4 g2) _ _ _ (fun _ => True) (fun _ => False) rfl rfl ?aO ?aR (fun _ _ h => h) (fun _ h => h.elim) ?aF ?aB ?aS ?aL ?_; (case aR => exact (Kd.R_reads' hL2.out).2.2); (case aB => exact hB2.out); (case aF => exact (fun _ _ => trivial)); (case aO => exact hO2.out); (case aS => exact hB2.out.size); (case aL => simp [hpl, by4]); intro va wa hoa hba hga hna; have hO3 := Aside0.mk hoa; have hB3 := Aside0.mk hba; clear hoa hba hga hna))
          go_roundw
          case rel => exact ⟨3, by simp, by omega, ⟨by have h5 := hO3.out; rw [← hprev1.out] at h5; simpa using h5⟩, hB3⟩
          case measure => simp [intOf]
        · have ix : ∀ W : World, (Instr.index 113 (.agg #[.int .u32 g0, .int .u32 g1, .int .u32 g2, .int .u32 g3, .int .u32 g4]) (.int .i64 3)).run Tryd.prog W = .ok (.int .u32 g3) W := fun _ => by kernel_rfl
          generalize hprev : ([g0, g1, g2, g3, g4].take 3).flatMap by4 = xs0 at hO
          have hpl : xs0.length = 12 := by rw [← hprev]; rfl
          have hprev1 := Aside0.mk hprev
          clear hprev
          go_wp2_with (first
            | ((with_reducible refine gate_dst (N := 205) rfl ?_); refine Kd.R_lit (Kd.int .u8) _ 5 ?hg (N := 205) ?hd (xs := (by4 g3 : List Int)) (inner := [.int .u8 (g3 / 16777216 % 256), .int .u8 (g3 / 65536 % 256), .int .u8 (g3 / 256 % 256), .int .u8 (g3 % 256)]) (ok := fun _ => True) (okp := fun _ => True) ?hr ?hp (fun _ hk => hk) trivial (Below.refl _ _) (Nat.le_refl _) (by simp [by4]) ?_; (case hd => rfl); (case hg => rfl); (case hr => first | (go_simp; done) | (go_simp; rfl)); (case hp => exact (Reps.one (show Kd.M (Kd.int .u8) _ _ _ (g3 / 16777216 % 256) [.int .u8 (g3 / 16777216 % 256)] from rfl) (Reps.one (show Kd.M (Kd.int .u8) _ _ _ (g3 / 65536 % 256) [.int .u8 (g3 / 65536 % 256)] from rfl) (Reps.one (show Kd.M (Kd.int .u8) _ _ _ (g3 / 256 % 256) [.int .u8 (g3 / 256 % 256)] from rfl) (Reps.one (show Kd.M (Kd.int .u8) _ _ _ (g3 % 256) [.int .u8 (g3 % 256)] from rfl) (Reps.none _ _)))))); intro vl wl hol hbl hgl hnl; clear hgl hnl; have hO2 := Aside0.mk (Kd.R_below hO.out hbl); have hL2 := Aside0.mk hol; have hB2 := Aside0.mk (below_step hB.out hbl); clear hol hbl; obtain ⟨Al, cl, rfl⟩ := Kd.R_slice hL2.out)
            | ((with_reducible refine gate_builtin (b := .append) (xs := #[.tmp 193, .tmp 205]) rfl ?_); at_builtin; refine Kd.R_append_rows (Kd.int .u8) (w0 := w) w.heap.size rfl (.tmp 193) (.tmp 205) 22 5 (.int .u8 0) 1 rfl Tryd.underlying22 info5 rfl (by decide) (by omega) u18 xs0 (by4 g3) _ _ _ (fun _ => True) (fun _ => False) rfl rfl ?aO ?aR (fun _ _ h => h) (fun _ h => h.elim) ?aF ?aB ?aS ?aL ?_; (case aR => exact (Kd.R_reads' hL2.out).2.2); (case aB => exact hB2.out); (case aF => exact (fun _ _ => trivial)); (case aO => exact hO2.out); (case aS => exact hB2.out.size); (case aL => simp [hpl, by4]); intro va wa hoa hba hga hna; have hO3 := Aside0.mk hoa; have hB3 := Aside0.mk hba; clear hoa hba hga hna))
          go_roundw
          case rel => exact ⟨4, by simp, by omega, ⟨by have h5 := hO3.out; rw [← hprev1.out] at h5; simpa using h5⟩, hB3⟩
          case measure => simp [intOf]
        · have ix : ∀ W : World, (Instr.index 113 (.agg #[.int .u32 g0, .int .u32 g1, .int .u32 g2, .int .u32 g3, .int .u32 g4]) (.int .i64 4)).run Tryd.prog W = .ok (.int .u32 g4) W := fun _ => by kernel_rfl
          generalize hprev : ([g0, g1, g2, g3, g4].take 4).flatMap by4 = xs0 at hO
          have hpl : xs0.length = 16 := by rw [← hprev]; rfl
          have hprev1 := Aside0.mk hprev
          clear hprev
          go_wp2_with (first
            | ((with_reducible refine gate_dst (N := 205) rfl ?_); refine Kd.R_lit (Kd.int .u8) _ 5 ?hg (N := 205) ?hd (xs := (by4 g4 : List Int)) (inner := [.int .u8 (g4 / 16777216 % 256), .int .u8 (g4 / 65536 % 256), .int .u8 (g4 / 256 % 256), .int .u8 (g4 % 256)]) (ok := fun _ => True) (okp := fun _ => True) ?hr ?hp (fun _ hk => hk) trivial (Below.refl _ _) (Nat.le_refl _) (by simp [by4]) ?_; (case hd => rfl); (case hg => rfl); (case hr => first | (go_simp; done) | (go_simp; rfl)); (case hp => exact (Reps.one (show Kd.M (Kd.int .u8) _ _ _ (g4 / 16777216 % 256) [.int .u8 (g4 / 16777216 % 256)] from rfl) (Reps.one (show Kd.M (Kd.int .u8) _ _ _ (g4 / 65536 % 256) [.int .u8 (g4 / 65536 % 256)] from rfl) (Reps.one (show Kd.M (Kd.int .u8) _ _ _ (g4 / 256 % 256) [.int .u8 (g4 / 256 % 256)] from rfl) (Reps.one (show Kd.M (Kd.int .u8) _ _ _ (g4 % 256) [.int .u8 (g4 % 256)] from rfl) (Reps.none _ _)))))); intro vl wl hol hbl hgl hnl; clear hgl hnl; have hO2 := Aside0.mk (Kd.R_below hO.out hbl); have hL2 := Aside0.mk hol; have hB2 := Aside0.mk (below_step hB.out hbl); clear hol hbl; obtain ⟨Al, cl, rfl⟩ := Kd.R_slice hL2.out)
            | ((with_reducible refine gate_builtin (b := .append) (xs := #[.tmp 193, .tmp 205]) rfl ?_); at_builtin; refine Kd.R_append_rows (Kd.int .u8) (w0 := w) w.heap.size rfl (.tmp 193) (.tmp 205) 22 5 (.int .u8 0) 1 rfl Tryd.underlying22 info5 rfl (by decide) (by omega) u18 xs0 (by4 g4) _ _ _ (fun _ => True) (fun _ => False) rfl rfl ?aO ?aR (fun _ _ h => h) (fun _ h => h.elim) ?aF ?aB ?aS ?aL ?_; (case aR => exact (Kd.R_reads' hL2.out).2.2); (case aB => exact hB2.out); (case aF => exact (fun _ _ => trivial)); (case aO => exact hO2.out); (case aS => exact hB2.out.size); (case aL => simp [hpl, by4]); intro va wa hoa hba hga hna; have hO3 := Aside0.mk hoa; have hB3 := Aside0.mk hba; clear hoa hba hga hna))
          go_roundw
          case rel => exact ⟨5, by simp, by omega, ⟨by have h5 := hO3.out; rw [← hprev1.out] at h5; simpa using h5⟩, hB3⟩
          case measure => simp [intOf]
        · go_wp2
          go_ret
          exact ⟨_, rfl, by have h5 := hO.out; rw [List.take_of_length_le (by simp), hs4.out] at h5; exact h5, hB.out⟩

end Go.Proofs.YtiilihafcdmccaaDoor.P
-- Written by a program of this session (wip/tools/pprint.py) out of the translation: it goes by the kit's print and by the contracts of YtiilihafcdmccaaDoorHand. Not trusted: Lean checks it.
namespace Go.Proofs.YtiilihafcdmccaaDoor.P
open Go.RowKit Go.Proofs.YtiilihafcdmccaaDoorW.PrintWords Go.Proofs.YtiilihafcdmccaaDoorW.PrintLast Go.Proofs.YtiilihafcdmccaaDoorW.PrintMore
attribute [local go_sem] max2_int min2_int max_two min_two max_three min_three max_four min_four   -- for this text's walks alone
set_option linter.unusedVariables false
set_option linter.unusedSimpArgs false

/-! ### spec_number: function 93 -/
def spec_number.l0 : Nat → Int → List Int → Int → Int → Option (Int)
  | 0, _, _, _, _ => none
  | k + 1, x3, x6, x7, x8 => if x8 < x7 then (if 0 ≤ x8 then (if x8 < (x6.length : Int) then (spec_number.l0 k (Go.bits .or .i64 (wrap64 (x3 * 256)) (wrap64 (rd x6 x8))) x6 x7 (wrap64 (x8 + 1))) else (none)) else (none)) else (some x3)
def spec_number.f (k : Nat) (l0 : List Int) : Option (Int) := spec_number.l0 k 0 l0 (l0.length : Int) 0
theorem spec_number.mono_l : ∀ k, (∀ y0 y1 y2 y3, LeO (spec_number.l0 k y0 y1 y2 y3) (spec_number.l0 (k + 1) y0 y1 y2 y3))
  | 0 => fun _ _ _ _ r h => by simp [spec_number.l0] at h
  | k + 1 => by
    have ih0 := spec_number.mono_l k
    · intro y0 y1 y2 y3
      unfold spec_number.l0
      repeat' first
      | (with_reducible exact ih0 _ _ _ _)
      | (with_reducible exact LeO.refl _)
      | (with_reducible exact LeO.none _)
      | (with_reducible refine LeO.ite ?_ ?_)
      | (with_reducible refine LeO.bind ?_ (fun _ => ?_))
      | exact ih0 _ _ _ _
      | exact LeO.none _
      | refine LeO.ite ?_ ?_
      | refine LeO.bind ?_ (fun _ => ?_)
theorem spec_number.mono : ∀ a0 k, LeO (spec_number.f k a0) (spec_number.f (k + 1) a0) := by
  intro a0 k
  have ih0 := spec_number.mono_l k
  unfold spec_number.f
  repeat' first
      | (with_reducible exact ih0 _ _ _ _)
      | (with_reducible exact LeO.refl _)
      | (with_reducible exact LeO.none _)
      | (with_reducible refine LeO.ite ?_ ?_)
      | (with_reducible refine LeO.bind ?_ (fun _ => ?_))
      | exact ih0 _ _ _ _
      | exact LeO.none _
      | refine LeO.ite ?_ ?_
      | refine LeO.bind ?_ (fun _ => ?_)
set_option maxHeartbeats 8000000 in
set_option maxRecDepth 100000 in
theorem spec_number.calls (k : Nat) (A0 : Option Addr) (c0 : Nat) (l0 : List Int) (r : Int) (w : World) (hr0 : Kd.C (Kd.int .u8) w A0 l0.length l0) (hc0 : l0.length ≤ c0) (h : spec_number.f k l0 = some r) :
    Calls Tryd.prog 93 #[.slice A0 l0.length c0] w fun e w' => e = .returned (.int .i64 r) ∧ Drawn0 w w' := by
  have HR0 := Aside0.mk hr0
  have HC0 := Aside0.mk hc0
  clear hr0 hc0
  have H : (spec_number.l0 k 0 l0 (l0.length : Int) 0) = some r := h
  clear h
  have H' := Aside0.mk H
  clear H
  go_enter Tryd.func93, Tryd.ntmps93
  go_wp2
  go_loopg [3, 8] k (fun kq v3 v8 w' => ∃ (x3_1 : Int) (x8_1 : Int), v3 = .int .i64 x3_1 ∧ v8 = .int .i64 x8_1 ∧ Aside0 (spec_number.l0 kq x3_1 l0 (l0.length : Int) x8_1 = some r) ∧ Aside0 (kq ≤ k) ∧ Drawn0 w w')
  case atStart => exact ⟨(0), (0), (by first | rfl | (simp; done) | (simp [*]; done) | (simp [wrap64]; done)), (by first | rfl | (simp; done) | (simp [*]; done) | (simp [wrap64]; done)), H', ⟨Nat.le_refl _⟩, by repeat (first | exact Drawn0.refl _ | apply Drawn0.step)⟩
  case round =>
    clear H'
    obtain ⟨x3_1, x8_1, rfl, rfl, HA, HK1, ⟨m1, rfl⟩⟩ := hrel
    cases gk with
    | zero => exact absurd HA.out (by simp [spec_number.l0])
    | succ k1 =>
      have H := HA.out
      clear HA
      simp only [spec_number.l0] at H
      by_cases c2 : x8_1 < (l0.length : Int)
      · rw [if_pos c2] at H
        have c2b0 : decide (x8_1 < (l0.length : Int)) = true := decide_eq_true c2
        clear c2
        by_cases c3 : 0 ≤ x8_1
        · rw [if_pos c3] at H
          have c3b0 : decide (0 ≤ x8_1) = true := decide_eq_true c3
          clear c3
          by_cases c4 : x8_1 < (l0.length : Int)
          · rw [if_pos c4] at H
            have c4b0 : decide (x8_1 < (l0.length : Int)) = true := decide_eq_true c4
            clear c4
            have H' := Aside0.mk H
            clear H
            have p507 : 0 ≤ (x8_1 : Int) := of_decide_eq_true (by first | (with_reducible assumption) | assumption)
            have q507 : x8_1 < (l0.length : Int) := of_decide_eq_true (by first | (with_reducible assumption) | assumption)
            obtain ⟨ad507, e507, hx507_0⟩ := Kd.at_int HR0.out x8_1 p507 q507
            cases e507
            replace p507 := eq_true p507
            replace q507 := eq_true q507
            go_wp2
            go_roundg k1
            case measure => have := HK1.out; omega
            case rel => exact ⟨(Go.bits .or .i64 (wrap64 (x3_1 * 256)) (wrap64 (rd l0 x8_1))), (wrap64 (x8_1 + 1)), (by first | rfl | (simp; done) | (simp [*]; done) | (simp [wrap64]; done)), (by first | rfl | (simp; done) | (simp [*]; done) | (simp [wrap64]; done)), H', ⟨by have := HK1.out; omega⟩, by repeat (first | exact Drawn0.refl _ | apply Drawn0.step)⟩
          · rw [if_neg c4] at H
            exact absurd H (by simp)
        · rw [if_neg c3] at H
          exact absurd H (by simp)
      · rw [if_neg c2] at H
        have c2b0 : decide (x8_1 < (l0.length : Int)) = false := decide_eq_false c2
        clear c2
        obtain rfl := Option.some.inj H
        go_wp2
        go_ret
        exact ⟨by first | rfl | (simp; done) | (simp [*]; done) | (simp [wrap64]; done), by repeat (first | exact Drawn0.refl _ | apply Drawn0.step)⟩

end Go.Proofs.YtiilihafcdmccaaDoor.P
/- A word of a block out of its bytes: in the words of both functions. -/
namespace Go.Proofs.YtiilihafcdmccaaDoor.P
open Go.RowKit Go.Proofs.YtiilihafcdmccaaDoorW.PrintWords
set_option linter.unusedVariables false
set_option linter.unusedSimpArgs false

theorem wdv_eq {x0 x1 x2 x3 : Int} (h0 : 0 ≤ x0 ∧ x0 < 256) (h1 : 0 ≤ x1 ∧ x1 < 256) (h2 : 0 ≤ x2 ∧ x2 < 256) (h3 : 0 ≤ x3 ∧ x3 < 256) : wdv x0 x1 x2 x3 = x0 * 16777216 + x1 * 65536 + x2 * 256 + x3 := by
  have hw : ∀ n : Int, 0 ≤ n → n < 2 ^ 32 → IntKind.u32.wrap n = n := fun n a b => by rw [IntWalk.u32_in _ (by omega)]
  unfold wdv
  have e0 : x0 % 4294967296 * 16777216 % 4294967296 = x0 * 16777216 := by omega
  have e1 : x1 % 4294967296 * 65536 % 4294967296 = x1 * 65536 := by omega
  have e2 : x2 % 4294967296 * 256 % 4294967296 = x2 * 256 := by omega
  have e3 : x3 % 4294967296 = x3 := by omega
  rw [e0, e1, e2, e3]
  have j1 : Go.bits .or .u32 (x0 * 16777216) (x1 * 65536) = x0 * 16777216 + x1 * 65536 := bits_join .u32 32 (by decide) hw 24 _ _ (by omega) (by omega) (by omega) (by omega) (by omega) (by omega)
  rw [j1]
  have j2 : Go.bits .or .u32 (x0 * 16777216 + x1 * 65536) (x2 * 256) = x0 * 16777216 + x1 * 65536 + x2 * 256 := bits_join .u32 32 (by decide) hw 16 _ _ (by omega) (by omega) (by omega) (by omega) (by omega) (by omega)
  rw [j2]
  exact bits_join .u32 32 (by decide) hw 8 _ _ (by omega) (by omega) (by omega) (by omega) (by omega) (by omega)
theorem num_step {n x : Int} (hn : 0 ≤ n) (hn2 : n < 1099511627776) (hx : 0 ≤ x ∧ x < 256) : Go.bits .or .i64 (wrap64 (n * 256)) (wrap64 x) = n * 256 + x := by
  have e1 : wrap64 (n * 256) = n * 256 := by unfold wrap64; omega
  have e2 : wrap64 x = x := by unfold wrap64; omega
  rw [e1, e2]
  refine bits_join .i64 62 (by decide) (fun n h0 h1 => ?_) 8 _ _ (by omega) (by omega) (by omega) hx.1 (by omega) (by omega)
  rw [IntKind.wrap_i64]
  omega
theorem num4 {x0 x1 x2 x3 : Int} (h0 : 0 ≤ x0 ∧ x0 < 256) (h1 : 0 ≤ x1 ∧ x1 < 256) (h2 : 0 ≤ x2 ∧ x2 < 256) (h3 : 0 ≤ x3 ∧ x3 < 256) : spec_number.f 5 [x0, x1, x2, x3] = some (x0 * 16777216 + x1 * 65536 + x2 * 256 + x3) := by
  have s0 : Go.bits .or .i64 (wrap64 (0 * 256)) (wrap64 x0) = x0 := by rw [num_step (by omega) (by omega) h0]; omega
  have s1 := num_step (n := x0) (x := x1) (by omega) (by omega) h1
  have s2 := num_step (n := x0 * 256 + x1) (x := x2) (by omega) (by omega) h2
  have s3 := num_step (n := (x0 * 256 + x1) * 256 + x2) (x := x3) (by omega) (by omega) h3
  have r0 : rd [x0, x1, x2, x3] 0 = x0 := rfl
  have r1 : rd [x0, x1, x2, x3] 1 = x1 := rfl
  have r2 : rd [x0, x1, x2, x3] 2 = x2 := rfl
  have r3 : rd [x0, x1, x2, x3] 3 = x3 := rfl
  have w1 : wrap64 (0 + 1) = 1 := by unfold wrap64; omega
  have w2 : wrap64 (1 + 1) = 2 := by unfold wrap64; omega
  have w3 : wrap64 (2 + 1) = 3 := by unfold wrap64; omega
  have w4 : wrap64 (3 + 1) = 4 := by unfold wrap64; omega
  unfold spec_number.f
  simp only [List.length_cons, List.length_nil]
  simp only [spec_number.l0, List.length_cons, List.length_nil]
  simp only [r0, r1, r2, r3, w1, w2, w3, w4, s0, s1, s2, s3]
  simp
  omega
theorem num_wd {x0 x1 x2 x3 : Int} (h0 : 0 ≤ x0 ∧ x0 < 256) (h1 : 0 ≤ x1 ∧ x1 < 256) (h2 : 0 ≤ x2 ∧ x2 < 256) (h3 : 0 ≤ x3 ∧ x3 < 256) : (x0 * 16777216 + x1 * 65536 + x2 * 256 + x3) % 4294967296 = wdv x0 x1 x2 x3 := by
  rw [wdv_eq h0 h1 h2 h3]
  omega

end Go.Proofs.YtiilihafcdmccaaDoor.P
-- Written by a program of this session (wip/tools/pprint.py) out of the translation: it goes by the kit's print and by the contracts of YtiilihafcdmccaaDoorHand. Not trusted: Lean checks it.
namespace Go.Proofs.YtiilihafcdmccaaDoor.P
open Go.RowKit Go.Proofs.YtiilihafcdmccaaDoorW.PrintWords Go.Proofs.YtiilihafcdmccaaDoorW.PrintLast Go.Proofs.YtiilihafcdmccaaDoorW.PrintMore
attribute [local go_sem] max2_int min2_int max_two min_two max_three min_three max_four min_four   -- for this text's walks alone
set_option linter.unusedVariables false
set_option linter.unusedSimpArgs false

/-! ### dns_zzPadded: function 121 -/
mutual
def dns_zzPadded.l0 : Nat → Int → List Int → Option (List Int)
  | 0, _, _ => none
  | k + 1, x3, x4 => if ((x4.length : Int) % 64) = 56 then (dns_zzPadded.l1 k x3 x4 7) else (if x4.length < 140737488355328 then (dns_zzPadded.l0 k x3 (x4 ++ [0])) else (none))
def dns_zzPadded.l1 : Nat → Int → List Int → Int → Option (List Int)
  | 0, _, _, _ => none
  | k + 1, x3, x4, x5 => if x5 ≥ 0 then (if 0 ≤ (wrap64 (8 * x5)) then (if x4.length < 140737488355328 then (dns_zzPadded.l1 k x3 (x4 ++ [(shr .u64 x3 (wrap64 (8 * x5))) % 256]) (wrap64 (x5 - 1))) else (none)) else (none)) else (some x4)
end
def dns_zzPadded.f (k : Nat) (l0 : List Int) : Option (List Int) := if ([] : List Int).length + l0.length < 140737488355328 then ((some (([] : List Int) ++ l0 : List Int)).bind fun y474 => (if y474.length < 140737488355328 then (dns_zzPadded.l0 k (IntKind.u64.wrap (wrap64 (8 * (l0.length : Int)))) (y474 ++ [128])) else (none))) else (none)
theorem dns_zzPadded.mono_l : ∀ k, (∀ y0 y1, LeO (dns_zzPadded.l0 k y0 y1) (dns_zzPadded.l0 (k + 1) y0 y1)) ∧ (∀ y0 y1 y2, LeO (dns_zzPadded.l1 k y0 y1 y2) (dns_zzPadded.l1 (k + 1) y0 y1 y2))
  | 0 => ⟨fun _ _ r h => by simp [dns_zzPadded.l0] at h, fun _ _ _ r h => by simp [dns_zzPadded.l1] at h⟩
  | k + 1 => by
    obtain ⟨ih0, ih1⟩ := dns_zzPadded.mono_l k
    refine ⟨?_, ?_⟩
    · intro y0 y1
      unfold dns_zzPadded.l0
      repeat' first
      | (with_reducible exact ih0 _ _)
      | (with_reducible exact ih1 _ _ _)
      | (with_reducible exact LeO.refl _)
      | (with_reducible exact LeO.none _)
      | (with_reducible refine LeO.ite ?_ ?_)
      | (with_reducible refine LeO.bind ?_ (fun _ => ?_))
      | exact ih0 _ _
      | exact ih1 _ _ _
      | exact LeO.none _
      | refine LeO.ite ?_ ?_
      | refine LeO.bind ?_ (fun _ => ?_)
    · intro y0 y1 y2
      unfold dns_zzPadded.l1
      repeat' first
      | (with_reducible exact ih0 _ _)
      | (with_reducible exact ih1 _ _ _)
      | (with_reducible exact LeO.refl _)
      | (with_reducible exact LeO.none _)
      | (with_reducible refine LeO.ite ?_ ?_)
      | (with_reducible refine LeO.bind ?_ (fun _ => ?_))
      | exact ih0 _ _
      | exact ih1 _ _ _
      | exact LeO.none _
      | refine LeO.ite ?_ ?_
      | refine LeO.bind ?_ (fun _ => ?_)
theorem dns_zzPadded.mono : ∀ a0 k, LeO (dns_zzPadded.f k a0) (dns_zzPadded.f (k + 1) a0) := by
  intro a0 k
  obtain ⟨ih0, ih1⟩ := dns_zzPadded.mono_l k
  unfold dns_zzPadded.f
  repeat' first
      | (with_reducible exact ih0 _ _)
      | (with_reducible exact ih1 _ _ _)
      | (with_reducible exact LeO.refl _)
      | (with_reducible exact LeO.none _)
      | (with_reducible refine LeO.ite ?_ ?_)
      | (with_reducible refine LeO.bind ?_ (fun _ => ?_))
      | exact ih0 _ _
      | exact ih1 _ _ _
      | exact LeO.none _
      | refine LeO.ite ?_ ?_
      | refine LeO.bind ?_ (fun _ => ?_)
set_option maxHeartbeats 8000000 in
set_option maxRecDepth 100000 in
theorem dns_zzPadded.calls (k : Nat) (A0 : Option Addr) (c0 : Nat) (l0 : List Int) (r : List Int) (w : World) (hr0 : Kd.C (Kd.int .u8) w A0 l0.length l0) (hc0 : l0.length ≤ c0) (h : dns_zzPadded.f k l0 = some r) :
    Calls Tryd.prog 121 #[.slice A0 l0.length c0] w fun e w' => ∃ v0_ : Value, e = .returned (v0_) ∧ Kd.R (Kd.int .u8) 5 w' w.heap.size (fun _ => True) v0_ r ∧ Below w.heap.size w w' := by
  have HR0 := Aside0.mk hr0
  have HC0 := Aside0.mk hc0
  clear hr0 hc0
  have HB := Aside0.mk (Below.refl w.heap.size w)
  have H : (if ([] : List Int).length + l0.length < 140737488355328 then ((some (([] : List Int) ++ l0 : List Int)).bind fun y474 => (if y474.length < 140737488355328 then (dns_zzPadded.l0 k (IntKind.u64.wrap (wrap64 (8 * (l0.length : Int)))) (y474 ++ [128])) else (none))) else (none)) = some r := h
  clear h
  by_cases c2 : ([] : List Int).length + l0.length < 140737488355328
  · rw [if_pos c2] at H
    have LMc2 := Aside0.mk c2
    clear c2
    obtain ⟨y474, hy474⟩ : ∃ y_ : List Int, y_ = (([] : List Int) ++ l0) := ⟨_, rfl⟩
    replace H : (if y474.length < 140737488355328 then (dns_zzPadded.l0 k (IntKind.u64.wrap (wrap64 (8 * (l0.length : Int)))) (y474 ++ [128])) else (none)) = some r := by first | (rw [hy474]; with_reducible exact H) | (have H2_ := (Option.bind_some _ _).symm.trans H; rw [hy474]; with_reducible exact H2_) | (have H2_ := (Option.bind_some _ _).symm.trans H; with_reducible exact H2_) | with_reducible exact H | (rw [hy474]; exact H) | exact H
    have Ny474 := Aside0.mk hy474
    clear hy474
    by_cases c3 : y474.length < 140737488355328
    · rw [if_pos c3] at H
      have LMc3 := Aside0.mk c3
      clear c3
      obtain ⟨y477, hy477⟩ : ∃ y_ : List Int, y_ = (y474 ++ [128]) := ⟨_, rfl⟩
      replace H : (dns_zzPadded.l0 k (IntKind.u64.wrap (wrap64 (8 * (l0.length : Int)))) y477) = some r := by first | (rw [hy477]; with_reducible exact H) | (have H2_ := (Option.bind_some _ _).symm.trans H; rw [hy477]; with_reducible exact H2_) | (have H2_ := (Option.bind_some _ _).symm.trans H; with_reducible exact H2_) | with_reducible exact H | (rw [hy477]; exact H) | exact H
      have Ny477 := Aside0.mk hy477
      clear hy477
      have H' := Aside0.mk H
      clear H
      go_enter Tryd.func121, Tryd.ntmps121
      go_wp2_with (first | ((with_reducible refine gate_builtin (b := .append) (xs := #[.const (.slice none 0 0), .tmp 10]) rfl ?_); at_builtin; refine Kd.R_append_rows (Kd.int .u8) (w0 := w) w.heap.size rfl (.const (.slice none 0 0)) (.tmp 10) 22 5 (.int .u8 0) 1 rfl Tryd.underlying22 info5 rfl (by decide) (by omega) (.slice none 0 0) ([] : List Int) l0 _ _ _ (fun _ => True) (fun _ => False) rfl rfl ?aO ?aR (fun _ _ h => h) (fun _ h => h.elim) ?aF ?aB ?aS ?aL ?_; (case aR => repeat (first | exact HR0.out | (with_reducible refine Kd.C_alloc ?_ _) | (with_reducible refine Kd.C_drewN ?_ _) | (with_reducible refine Kd.C_drew ?_))); (case aB => exact (by repeat (first | (with_reducible first | exact HB.out | apply below_alloc | apply pw_below_drewN | apply below_drew1) | exact HB.out))); (case aF => exact (fun _ _ => trivial)); (case aO => exact ((Kd.R_nil _ _ _ _ (fun _ => True)))); (case aS => exact (below_size (by repeat (first | (with_reducible first | exact HB.out | apply below_alloc | apply pw_below_drewN | apply below_drew1) | exact HB.out)))); (case aL => have := LMc2.out; omega); intro v475 w4 ho hb hg hat; rw [← Ny474.out] at ho; have n0_ := Aside0.mk (hb); have n1_ := Aside0.mk (ho); clear HB; have HB := n0_; have HO476 := n1_; clear n0_ n1_; clear ho hb hg hat) | ((with_reducible refine gate_builtin (b := .append) (xs := #[.tmp 11, .tmp 12]) rfl ?_); at_builtin; refine Kd.R_append (Kd.int .u8) (w0 := w) w.heap.size rfl (.tmp 11) (.tmp 12) 22 5 (.int .u8 0) 1 rfl Tryd.underlying22 info5 rfl (by decide) (by omega) v475 y474 128 [.int .u8 128] (fun _ => True) (fun _ => False) rfl rfl ?aP (fun _ hk => hk.elim) ?aF ?aO ?aB ?aS ?aL ?_; (case aP => exact rfl); (case aB => exact (by repeat (first | (with_reducible first | exact HB.out | apply below_alloc | apply pw_below_drewN | apply below_drew1) | exact HB.out))); (case aF => exact (fun _ _ => trivial)); (case aO => exact (by (with_reducible repeat (first | apply Kd.R_alloc | apply Kd.R_drewN | apply Kd.R_drew)); exact HO476.out)); (case aS => exact (below_size (by repeat (first | (with_reducible first | exact HB.out | apply below_alloc | apply pw_below_drewN | apply below_drew1) | exact HB.out)))); (case aL => have := LMc3.out; omega); intro v478 w5 ho hb hg hat; rw [← Ny477.out] at ho; have n0_ := Aside0.mk (hb); have n1_ := Aside0.mk (ho); clear HB; clear HO476; have HB := n0_; have HO479 := n1_; clear n0_ n1_; clear ho hb hg hat))
      go_loopg [4] k (fun kq v4 w' => ∃ (x4_1 : List Int), Aside0 (dns_zzPadded.l0 kq (IntKind.u64.wrap (wrap64 (8 * (l0.length : Int)))) x4_1 = some r) ∧ Aside0 (kq ≤ k) ∧ Aside0 (Kd.R (Kd.int .u8) 5 w' w.heap.size (fun _ => True) v4 x4_1) ∧ Aside0 (Below w.heap.size w w'))
      case atStart => exact ⟨(y477), H', ⟨Nat.le_refl _⟩, ⟨by (with_reducible repeat (first | apply Kd.R_alloc | apply Kd.R_drewN | apply Kd.R_drew)); exact HO479.out⟩, ⟨by repeat (first | (with_reducible first | exact HB.out | apply below_alloc | apply pw_below_drewN | apply below_drew1) | exact HB.out)⟩⟩
      case round =>
        clear H'
        try clear c1
        try clear c2
        try clear p2
        try clear c3
        obtain ⟨x4_1, HA, HK1, HO_4, HB⟩ := hrel
        cases gk with
        | zero => exact absurd HA.out (by simp [dns_zzPadded.l0])
        | succ k1 =>
          have H := HA.out
          clear HA
          simp only [dns_zzPadded.l0] at H
          by_cases c6 : ((x4_1.length : Int) % 64) = 56
          · rw [if_pos c6] at H
            have c6b0 : (((x4_1.length : Int) % 64) == 56) = true := beq_iff_eq.mpr c6
            have c6b1 : (((x4_1.length : Int) % 64) != 56) = false := bne_eq_false_iff_eq.mpr c6
            clear c6
            have H' := Aside0.mk H
            clear H
            obtain ⟨Ao7, co7, eo7⟩ := Kd.R_slice HO_4.out
            subst eo7
            go_wp2
            go_loopg [4, 5] k1 (fun kq v4 v5 w' => ∃ (x4_2 : List Int) (x5_2 : Int), v5 = .int .i64 x5_2 ∧ Aside0 (dns_zzPadded.l1 kq (IntKind.u64.wrap (wrap64 (8 * (l0.length : Int)))) x4_2 x5_2 = some r) ∧ Aside0 (kq ≤ k1) ∧ Aside0 (Kd.R (Kd.int .u8) 5 w' w.heap.size (fun _ => True) v4 x4_2) ∧ Aside0 (Below w.heap.size w w'))
            case atStart => exact ⟨(x4_1), (7), (by first | rfl | (simp; done) | (simp [*]; done) | (simp [wrap64]; done)), H', ⟨Nat.le_refl _⟩, ⟨by (with_reducible repeat (first | apply Kd.R_alloc | apply Kd.R_drewN | apply Kd.R_drew)); exact HO_4.out⟩, ⟨by repeat (first | (with_reducible first | exact HB.out | apply below_alloc | apply pw_below_drewN | apply below_drew1) | exact HB.out)⟩⟩
            case round =>
              clear H'
              try clear c1
              try clear c2
              try clear p2
              try clear c3
              try clear c6
              try clear c6b0
              try clear c6b1
              try clear p6
              try clear p2
              obtain ⟨x4_2, x5_2, rfl, HA, HK2, HO_4, HB⟩ := hrel
              cases gk with
              | zero => exact absurd HA.out (by simp [dns_zzPadded.l1])
              | succ k2 =>
                have H := HA.out
                clear HA
                simp only [dns_zzPadded.l1] at H
                by_cases c8 : x5_2 ≥ 0
                · rw [if_pos c8] at H
                  have c8b0 : decide (0 ≤ x5_2) = true := decide_eq_true c8
                  clear c8
                  obtain ⟨ji9, hji9⟩ : ∃ j_ : Int, (wrap64 (8 * x5_2)) = j_ := ⟨_, rfl⟩
                  replace H : (if 0 ≤ (ji9) then (if x4_2.length < 140737488355328 then (dns_zzPadded.l1 k2 (IntKind.u64.wrap (wrap64 (8 * (l0.length : Int)))) (x4_2 ++ [(shr .u64 (IntKind.u64.wrap (wrap64 (8 * (l0.length : Int)))) (ji9)) % 256]) (wrap64 (x5_2 - 1))) else (none)) else (none)) = some r := by first | (rw [hji9] at H; exact H) | (simp only [hji9] at H ⊢; exact H)
                  have hji9w : (IntKind.i64.wrap (8 * x5_2)) = ji9 := (i64_w _).trans hji9
                  by_cases c10 : 0 ≤ (ji9)
                  · rw [if_pos c10] at H
                    have c10b0 := eq_true c10
                    have c10b1 : decide (0 ≤ (ji9)) = true := decide_eq_true c10
                    clear c10
                    obtain ⟨ji11, hji11⟩ : ∃ j_ : Int, (shr .u64 (IntKind.u64.wrap (wrap64 (8 * (l0.length : Int)))) (ji9)) = j_ := ⟨_, rfl⟩
                    replace H : (if x4_2.length < 140737488355328 then (dns_zzPadded.l1 k2 (IntKind.u64.wrap (wrap64 (8 * (l0.length : Int)))) (x4_2 ++ [(ji11) % 256]) (wrap64 (x5_2 - 1))) else (none)) = some r := by first | (rw [hji11] at H; exact H) | (simp only [hji11] at H ⊢; exact H)
                    have hji11_ : ((IntKind.u64.wrap (wrap64 (8 * (l0.length : Int)))) / 2 ^ min (ji9).toNat 64) = ji11 := hji11
                    have hji11z : (ji9) ≤ 64 → ((IntKind.u64.wrap (wrap64 (8 * (l0.length : Int)))) / 2 ^ (ji9).toNat) = ji11 := shr_small hji11
                    by_cases c12 : x4_2.length < 140737488355328
                    · rw [if_pos c12] at H
                      have LMc12 := Aside0.mk c12
                      clear c12
                      obtain ⟨y483, hy483⟩ : ∃ y_ : List Int, y_ = (x4_2 ++ [(ji11) % 256]) := ⟨_, rfl⟩
                      replace H : (dns_zzPadded.l1 k2 (IntKind.u64.wrap (wrap64 (8 * (l0.length : Int)))) y483 (wrap64 (x5_2 - 1))) = some r := by first | (rw [hy483]; with_reducible exact H) | (have H2_ := (Option.bind_some _ _).symm.trans H; rw [hy483]; with_reducible exact H2_) | (have H2_ := (Option.bind_some _ _).symm.trans H; with_reducible exact H2_) | with_reducible exact H | (rw [hy483]; exact H) | exact H
                      have Ny483 := Aside0.mk hy483
                      clear hy483
                      have H' := Aside0.mk H
                      clear H
                      go_wp2_with (first | ((with_reducible refine gate_builtin (b := .append) (xs := #[.tmp 25, .tmp 31]) rfl ?_); at_builtin; refine Kd.R_append (Kd.int .u8) (w0 := w) w.heap.size rfl (.tmp 25) (.tmp 31) 22 5 (.int .u8 0) 1 rfl Tryd.underlying22 info5 rfl (by decide) (by omega) u4 x4_2 ((ji11) % 256) [.int .u8 ((ji11) % 256)] (fun _ => True) (fun _ => False) rfl rfl ?aP (fun _ hk => hk.elim) ?aF ?aO ?aB ?aS ?aL ?_; (case aP => exact rfl); (case aB => exact (by repeat (first | (with_reducible first | exact HB.out | apply below_alloc | apply pw_below_drewN | apply below_drew1) | exact HB.out))); (case aF => exact (fun _ _ => trivial)); (case aO => exact (by (with_reducible repeat (first | apply Kd.R_alloc | apply Kd.R_drewN | apply Kd.R_drew)); exact HO_4.out)); (case aS => exact (below_size (by repeat (first | (with_reducible first | exact HB.out | apply below_alloc | apply pw_below_drewN | apply below_drew1) | exact HB.out)))); (case aL => have := LMc12.out; omega); intro v484 w13 ho hb hg hat; rw [← Ny483.out] at ho; have n0_ := Aside0.mk (hb); have n1_ := Aside0.mk (ho); clear HB; clear HO_4; have HB := n0_; have HO485 := n1_; clear n0_ n1_; clear ho hb hg hat))
                      go_roundg k2
                      case measure => have := HK1.out; have := HK2.out; omega
                      case rel => exact ⟨(y483), (wrap64 (x5_2 - 1)), (by first | rfl | (simp; done) | (simp [*]; done) | (simp [wrap64]; done)), H', ⟨by have := HK1.out; have := HK2.out; omega⟩, ⟨by (with_reducible repeat (first | apply Kd.R_alloc | apply Kd.R_drewN | apply Kd.R_drew)); exact HO485.out⟩, ⟨by repeat (first | (with_reducible first | exact HB.out | apply below_alloc | apply pw_below_drewN | apply below_drew1) | exact HB.out)⟩⟩
                    · rw [if_neg c12] at H
                      exact absurd H (by simp)
                  · rw [if_neg c10] at H
                    exact absurd H (by simp)
                · rw [if_neg c8] at H
                  have c8b0 : decide (0 ≤ x5_2) = false := decide_eq_false c8
                  clear c8
                  obtain rfl := Option.some.inj H
                  go_wp2
                  go_ret
                  exact ⟨_, by first | rfl | (simp [errW_none, errW_some] <;> rfl) | (simp [*, errW_none, errW_some] <;> rfl), by (with_reducible repeat (first | apply Kd.R_alloc | apply Kd.R_drewN | apply Kd.R_drew)); exact HO_4.out, by repeat (first | (with_reducible first | exact HB.out | apply below_alloc | apply pw_below_drewN | apply below_drew1) | exact HB.out)⟩
          · rw [if_neg c6] at H
            have c6b0 : (((x4_1.length : Int) % 64) == 56) = false := beq_eq_false_iff_ne.mpr c6
            have c6b1 : (((x4_1.length : Int) % 64) != 56) = true := bne_iff_ne.mpr c6
            by_cases c14 : x4_1.length < 140737488355328
            · rw [if_pos c14] at H
              have LMc14 := Aside0.mk c14
              clear c14
              obtain ⟨y480, hy480⟩ : ∃ y_ : List Int, y_ = (x4_1 ++ [0]) := ⟨_, rfl⟩
              replace H : (dns_zzPadded.l0 k1 (IntKind.u64.wrap (wrap64 (8 * (l0.length : Int)))) y480) = some r := by first | (rw [hy480]; with_reducible exact H) | (have H2_ := (Option.bind_some _ _).symm.trans H; rw [hy480]; with_reducible exact H2_) | (have H2_ := (Option.bind_some _ _).symm.trans H; with_reducible exact H2_) | with_reducible exact H | (rw [hy480]; exact H) | exact H
              have Ny480 := Aside0.mk hy480
              clear hy480
              have H' := Aside0.mk H
              clear H
              obtain ⟨Ao15, co15, eo15⟩ := Kd.R_slice HO_4.out
              subst eo15
              go_wp2_with (first | ((with_reducible refine gate_builtin (b := .append) (xs := #[.tmp 18, .tmp 19]) rfl ?_); at_builtin; refine Kd.R_append (Kd.int .u8) (w0 := w) w.heap.size rfl (.tmp 18) (.tmp 19) 22 5 (.int .u8 0) 1 rfl Tryd.underlying22 info5 rfl (by decide) (by omega) (.slice Ao15 x4_1.length co15) x4_1 0 [.int .u8 0] (fun _ => True) (fun _ => False) rfl rfl ?aP (fun _ hk => hk.elim) ?aF ?aO ?aB ?aS ?aL ?_; (case aP => exact rfl); (case aB => exact (by repeat (first | (with_reducible first | exact HB.out | apply below_alloc | apply pw_below_drewN | apply below_drew1) | exact HB.out))); (case aF => exact (fun _ _ => trivial)); (case aO => exact (by (with_reducible repeat (first | apply Kd.R_alloc | apply Kd.R_drewN | apply Kd.R_drew)); exact HO_4.out)); (case aS => exact (below_size (by repeat (first | (with_reducible first | exact HB.out | apply below_alloc | apply pw_below_drewN | apply below_drew1) | exact HB.out)))); (case aL => have := LMc14.out; omega); intro v481 w16 ho hb hg hat; rw [← Ny480.out] at ho; have n0_ := Aside0.mk (hb); have n1_ := Aside0.mk (ho); clear HB; clear HO_4; have HB := n0_; have HO482 := n1_; clear n0_ n1_; clear ho hb hg hat))
              go_roundg k1
              case measure => have := HK1.out; omega
              case rel => exact ⟨(y480), H', ⟨by have := HK1.out; omega⟩, ⟨by (with_reducible repeat (first | apply Kd.R_alloc | apply Kd.R_drewN | apply Kd.R_drew)); exact HO482.out⟩, ⟨by repeat (first | (with_reducible first | exact HB.out | apply below_alloc | apply pw_below_drewN | apply below_drew1) | exact HB.out)⟩⟩
            · rw [if_neg c14] at H
              exact absurd H (by simp)
    · rw [if_neg c3] at H
      exact absurd H (by simp)
  · rw [if_neg c2] at H
    exact absurd H (by simp)

end Go.Proofs.YtiilihafcdmccaaDoor.P
-- Written by a program of this session (wip/tools/pprint.py) out of the translation: it goes by the kit's print and by the contracts of YtiilihafcdmccaaDoorHand. Not trusted: Lean checks it.
namespace Go.Proofs.YtiilihafcdmccaaDoor.P
open Go.RowKit Go.Proofs.YtiilihafcdmccaaDoorW.PrintWords Go.Proofs.YtiilihafcdmccaaDoorW.PrintLast Go.Proofs.YtiilihafcdmccaaDoorW.PrintMore
attribute [local go_sem] max2_int min2_int max_two min_two max_three min_three max_four min_four   -- for this text's walks alone
set_option linter.unusedVariables false
set_option linter.unusedSimpArgs false

/-! ### spec_appended: function 95 -/
def spec_appended.l0 : Nat → List Int → Int → Int → Option (List Int)
  | 0, _, _, _ => none
  | k + 1, x0, x1, x7 => if x7 ≥ 0 then (if 0 ≤ (wrap64 (8 * x7)) then (if x0.length < 140737488355328 then (spec_appended.l0 k (x0 ++ [(shr .i64 x1 (wrap64 (8 * x7))) % 256]) x1 (wrap64 (x7 - 1))) else (none)) else (none)) else (some x0)
def spec_appended.f (k : Nat) (l0 : List Int) (a1 : Int) (a2 : Int) : Option (List Int) := spec_appended.l0 k l0 a1 (wrap64 (a2 - 1))
theorem spec_appended.mono_l : ∀ k, (∀ y0 y1 y2, LeO (spec_appended.l0 k y0 y1 y2) (spec_appended.l0 (k + 1) y0 y1 y2))
  | 0 => fun _ _ _ r h => by simp [spec_appended.l0] at h
  | k + 1 => by
    have ih0 := spec_appended.mono_l k
    · intro y0 y1 y2
      unfold spec_appended.l0
      repeat' first
      | (with_reducible exact ih0 _ _ _)
      | (with_reducible exact LeO.refl _)
      | (with_reducible exact LeO.none _)
      | (with_reducible refine LeO.ite ?_ ?_)
      | (with_reducible refine LeO.bind ?_ (fun _ => ?_))
      | exact ih0 _ _ _
      | exact LeO.none _
      | refine LeO.ite ?_ ?_
      | refine LeO.bind ?_ (fun _ => ?_)
theorem spec_appended.mono : ∀ a0 a1 a2 k, LeO (spec_appended.f k a0 a1 a2) (spec_appended.f (k + 1) a0 a1 a2) := by
  intro a0 a1 a2 k
  have ih0 := spec_appended.mono_l k
  unfold spec_appended.f
  repeat' first
      | (with_reducible exact ih0 _ _ _)
      | (with_reducible exact LeO.refl _)
      | (with_reducible exact LeO.none _)
      | (with_reducible refine LeO.ite ?_ ?_)
      | (with_reducible refine LeO.bind ?_ (fun _ => ?_))
      | exact ih0 _ _ _
      | exact LeO.none _
      | refine LeO.ite ?_ ?_
      | refine LeO.bind ?_ (fun _ => ?_)
set_option maxHeartbeats 8000000 in
set_option maxRecDepth 100000 in
theorem spec_appended.calls (k : Nat) (P0_ : Nat → Prop) (u9000_ : Value) (l0 : List Int) (a1 : Int) (a2 : Int) (r : List Int) (w0 w : World) (hB : Below w0.heap.size w0 w) (ho0 : Kd.R (Kd.int .u8) 5 w w0.heap.size P0_ u9000_ l0) (h : spec_appended.f k l0 a1 a2 = some r) :
    Calls Tryd.prog 95 #[u9000_, .int .i64 a1, .int .i64 a2] w fun e w' => ∃ v0_ : Value, e = .returned (v0_) ∧ Kd.R (Kd.int .u8) 5 w' w0.heap.size (fun k_ => (P0_ k_ ∨ w.heap.size ≤ k_)) v0_ r ∧ Below w0.heap.size w0 w' ∧ Kept w w' (fun k_ => P0_ k_) := by
  have HO0 := Aside0.mk (show Kd.R (Kd.int .u8) 5 w w0.heap.size (fun k_ => (P0_ k_ ∨ w.heap.size ≤ k_)) u9000_ l0 from Kd.R_mono ho0 (fun k_ hk => (.inl hk)))
  have HK := Aside0.mk (Kept.refl w (fun k_ => P0_ k_))
  have HW0 := Aside0.mk hB.size
  have HB := Aside0.mk hB
  clear hB
  have H : (spec_appended.l0 k l0 a1 (wrap64 (a2 - 1))) = some r := h
  clear h
  have H' := Aside0.mk H
  clear H
  go_enter Tryd.func95, Tryd.ntmps95
  go_wp2
  go_loopg [0, 7] k (fun kq v0 v7 w' => ∃ (x0_1 : List Int) (x7_1 : Int), v7 = .int .i64 x7_1 ∧ Aside0 (spec_appended.l0 kq x0_1 a1 x7_1 = some r) ∧ Aside0 (kq ≤ k) ∧ Aside0 (Kd.R (Kd.int .u8) 5 w' w0.heap.size (fun k_ => (P0_ k_ ∨ w.heap.size ≤ k_)) v0 x0_1) ∧ Aside0 (Kept w w' (fun k_ => P0_ k_)) ∧ Aside0 (Below w0.heap.size w0 w'))
  case atStart => exact ⟨(l0), (wrap64 (a2 - 1)), (by first | rfl | (simp; done) | (simp [*]; done) | (simp [wrap64]; done)), H', ⟨Nat.le_refl _⟩, ⟨by (with_reducible repeat (first | apply Kd.R_alloc | apply Kd.R_drewN | apply Kd.R_drew)); exact HO0.out⟩, ⟨by repeat (first | (with_reducible first | exact HK.out | apply Kept.alloc | apply Kept.drewN | apply Kept.drew) | exact HK.out)⟩, ⟨by repeat (first | (with_reducible first | exact HB.out | apply below_alloc | apply pw_below_drewN | apply below_drew1) | exact HB.out)⟩⟩
  case round =>
    clear H'
    try clear p2
    obtain ⟨x0_1, x7_1, rfl, HA, HK1, HO_0, HK, HB⟩ := hrel
    cases gk with
    | zero => exact absurd HA.out (by simp [spec_appended.l0])
    | succ k1 =>
      have H := HA.out
      clear HA
      simp only [spec_appended.l0] at H
      by_cases c4 : x7_1 ≥ 0
      · rw [if_pos c4] at H
        have c4b0 : decide (0 ≤ x7_1) = true := decide_eq_true c4
        clear c4
        obtain ⟨ji5, hji5⟩ : ∃ j_ : Int, (wrap64 (8 * x7_1)) = j_ := ⟨_, rfl⟩
        replace H : (if 0 ≤ (ji5) then (if x0_1.length < 140737488355328 then (spec_appended.l0 k1 (x0_1 ++ [(shr .i64 a1 (ji5)) % 256]) a1 (wrap64 (x7_1 - 1))) else (none)) else (none)) = some r := by first | (rw [hji5] at H; exact H) | (simp only [hji5] at H ⊢; exact H)
        have hji5w : (IntKind.i64.wrap (8 * x7_1)) = ji5 := (i64_w _).trans hji5
        by_cases c6 : 0 ≤ (ji5)
        · rw [if_pos c6] at H
          have c6b0 := eq_true c6
          have c6b1 : decide (0 ≤ (ji5)) = true := decide_eq_true c6
          clear c6
          obtain ⟨ji7, hji7⟩ : ∃ j_ : Int, (shr .i64 a1 (ji5)) = j_ := ⟨_, rfl⟩
          replace H : (if x0_1.length < 140737488355328 then (spec_appended.l0 k1 (x0_1 ++ [(ji7) % 256]) a1 (wrap64 (x7_1 - 1))) else (none)) = some r := by first | (rw [hji7] at H; exact H) | (simp only [hji7] at H ⊢; exact H)
          have hji7_ : (a1 / 2 ^ min (ji5).toNat 64) = ji7 := hji7
          have hji7z : (ji5) ≤ 64 → (a1 / 2 ^ (ji5).toNat) = ji7 := shr_small hji7
          by_cases c8 : x0_1.length < 140737488355328
          · rw [if_pos c8] at H
            have LMc8 := Aside0.mk c8
            clear c8
            obtain ⟨y492, hy492⟩ : ∃ y_ : List Int, y_ = (x0_1 ++ [(ji7) % 256]) := ⟨_, rfl⟩
            replace H : (spec_appended.l0 k1 y492 a1 (wrap64 (x7_1 - 1))) = some r := by first | (rw [hy492]; with_reducible exact H) | (have H2_ := (Option.bind_some _ _).symm.trans H; rw [hy492]; with_reducible exact H2_) | (have H2_ := (Option.bind_some _ _).symm.trans H; with_reducible exact H2_) | with_reducible exact H | (rw [hy492]; exact H) | exact H
            have Ny492 := Aside0.mk hy492
            clear hy492
            have H' := Aside0.mk H
            clear H
            go_wp2_with (first | ((with_reducible refine gate_builtin (b := .append) (xs := #[.tmp 14, .tmp 20]) rfl ?_); at_builtin; refine Kd.R_append (Kd.int .u8) (w0 := w0) w0.heap.size rfl (.tmp 14) (.tmp 20) 22 5 (.int .u8 0) 1 rfl Tryd.underlying22 info5 rfl (by decide) (by omega) u0 x0_1 ((ji7) % 256) [.int .u8 ((ji7) % 256)] (fun k_ => (P0_ k_ ∨ w.heap.size ≤ k_)) (fun _ => False) rfl rfl ?aP (fun _ hk => hk.elim) ?aF ?aO ?aB ?aS ?aL ?_; (case aP => exact rfl); (case aB => exact (by repeat (first | (with_reducible first | exact HB.out | apply below_alloc | apply pw_below_drewN | apply below_drew1) | exact HB.out))); (case aF => exact (fun k_ hk => (.inr (Nat.le_trans (by first | exact HK.out.1 | exact (show Kept w _ (fun k_ => P0_ k_) from by repeat (first | (with_reducible first | exact HK.out | apply Kept.alloc | apply Kept.drewN | apply Kept.drew) | exact HK.out)).1) hk)))); (case aO => exact (by (with_reducible repeat (first | apply Kd.R_alloc | apply Kd.R_drewN | apply Kd.R_drew)); exact HO_0.out)); (case aS => exact (below_size (by repeat (first | (with_reducible first | exact HB.out | apply below_alloc | apply pw_below_drewN | apply below_drew1) | exact HB.out)))); (case aL => have := LMc8.out; omega); intro v493 w9 ho hb hg hat; rw [← Ny492.out] at ho; have n0_ := Aside0.mk (hb); have n1_ := Aside0.mk (Kept.of_grown (S := (fun k_ => P0_ k_)) hg (by repeat (first | (with_reducible first | exact HK.out | apply Kept.alloc | apply Kept.drewN | apply Kept.drew) | exact HK.out)) (fun k_ e_ => (HO_0.out.1 k_ e_))); have n2_ := Aside0.mk (ho); clear HB; clear HK; clear HO_0; have HB := n0_; have HK := n1_; have HO494 := n2_; clear n0_ n1_ n2_; clear ho hb hg hat))
            go_roundg k1
            case measure => have := HK1.out; omega
            case rel => exact ⟨(y492), (wrap64 (x7_1 - 1)), (by first | rfl | (simp; done) | (simp [*]; done) | (simp [wrap64]; done)), H', ⟨by have := HK1.out; omega⟩, ⟨by (with_reducible repeat (first | apply Kd.R_alloc | apply Kd.R_drewN | apply Kd.R_drew)); exact HO494.out⟩, ⟨by repeat (first | (with_reducible first | exact HK.out | apply Kept.alloc | apply Kept.drewN | apply Kept.drew) | exact HK.out)⟩, ⟨by repeat (first | (with_reducible first | exact HB.out | apply below_alloc | apply pw_below_drewN | apply below_drew1) | exact HB.out)⟩⟩
          · rw [if_neg c8] at H
            exact absurd H (by simp)
        · rw [if_neg c6] at H
          exact absurd H (by simp)
      · rw [if_neg c4] at H
        have c4b0 : decide (0 ≤ x7_1) = false := decide_eq_false c4
        clear c4
        obtain rfl := Option.some.inj H
        go_wp2
        go_ret
        exact ⟨_, by first | rfl | (simp [errW_none, errW_some] <;> rfl) | (simp [*, errW_none, errW_some] <;> rfl), by (with_reducible repeat (first | apply Kd.R_alloc | apply Kd.R_drewN | apply Kd.R_drew)); exact HO_0.out, by repeat (first | (with_reducible first | exact HB.out | apply below_alloc | apply pw_below_drewN | apply below_drew1) | exact HB.out), by repeat (first | (with_reducible first | exact HK.out | apply Kept.alloc | apply Kept.drewN | apply Kept.drew) | exact HK.out)⟩

end Go.Proofs.YtiilihafcdmccaaDoor.P
-- Written by a program of this session (wip/tools/pprint.py) out of the translation: it goes by the kit's print and by the contracts of YtiilihafcdmccaaDoorHand. Not trusted: Lean checks it.
namespace Go.Proofs.YtiilihafcdmccaaDoor.P
open Go.RowKit Go.Proofs.YtiilihafcdmccaaDoorW.PrintWords Go.Proofs.YtiilihafcdmccaaDoorW.PrintLast Go.Proofs.YtiilihafcdmccaaDoorW.PrintMore
attribute [local go_sem] max2_int min2_int max_two min_two max_three min_three max_four min_four   -- for this text's walks alone
set_option linter.unusedVariables false
set_option linter.unusedSimpArgs false

/-! ### spec_padded: function 92 -/
def spec_padded.l0 : Nat → List Int → List Int → Option (List Int)
  | 0, _, _ => none
  | k + 1, x0, x3 => if ((x3.length : Int) % 64) = 56 then ((spec_appended.f k x3 (wrap64 (8 * (x0.length : Int))) 8).bind fun t501 => (some t501)) else (if x3.length < 140737488355328 then (spec_padded.l0 k x0 (x3 ++ [0])) else (none))
def spec_padded.f (k : Nat) (l0 : List Int) : Option (List Int) := if ([] : List Int).length + l0.length < 140737488355328 then ((some (([] : List Int) ++ l0 : List Int)).bind fun y495 => (if y495.length < 140737488355328 then (spec_padded.l0 k l0 (y495 ++ [128])) else (none))) else (none)
theorem spec_padded.mono_l : ∀ k, (∀ y0 y1, LeO (spec_padded.l0 k y0 y1) (spec_padded.l0 (k + 1) y0 y1))
  | 0 => fun _ _ r h => by simp [spec_padded.l0] at h
  | k + 1 => by
    have ih0 := spec_padded.mono_l k
    · intro y0 y1
      unfold spec_padded.l0
      repeat' first
      | (with_reducible exact ih0 _ _)
      | (with_reducible exact spec_appended.mono _ _ _ _)
      | (with_reducible exact LeO.refl _)
      | (with_reducible exact LeO.none _)
      | (with_reducible refine LeO.ite ?_ ?_)
      | (with_reducible refine LeO.bind ?_ (fun _ => ?_))
      | exact ih0 _ _
      | exact spec_appended.mono _ _ _ _
      | exact LeO.none _
      | refine LeO.ite ?_ ?_
      | refine LeO.bind ?_ (fun _ => ?_)
theorem spec_padded.mono : ∀ a0 k, LeO (spec_padded.f k a0) (spec_padded.f (k + 1) a0) := by
  intro a0 k
  have ih0 := spec_padded.mono_l k
  unfold spec_padded.f
  repeat' first
      | (with_reducible exact ih0 _ _)
      | (with_reducible exact spec_appended.mono _ _ _ _)
      | (with_reducible exact LeO.refl _)
      | (with_reducible exact LeO.none _)
      | (with_reducible refine LeO.ite ?_ ?_)
      | (with_reducible refine LeO.bind ?_ (fun _ => ?_))
      | exact ih0 _ _
      | exact spec_appended.mono _ _ _ _
      | exact LeO.none _
      | refine LeO.ite ?_ ?_
      | refine LeO.bind ?_ (fun _ => ?_)
set_option maxHeartbeats 8000000 in
set_option maxRecDepth 100000 in
theorem spec_padded.calls (k : Nat) (A0 : Option Addr) (c0 : Nat) (l0 : List Int) (r : List Int) (w : World) (hr0 : Kd.C (Kd.int .u8) w A0 l0.length l0) (hc0 : l0.length ≤ c0) (h : spec_padded.f k l0 = some r) :
    Calls Tryd.prog 92 #[.slice A0 l0.length c0] w fun e w' => ∃ v0_ : Value, e = .returned (v0_) ∧ Kd.R (Kd.int .u8) 5 w' w.heap.size (fun _ => True) v0_ r ∧ Below w.heap.size w w' := by
  have HR0 := Aside0.mk hr0
  have HC0 := Aside0.mk hc0
  clear hr0 hc0
  have HB := Aside0.mk (Below.refl w.heap.size w)
  have H : (if ([] : List Int).length + l0.length < 140737488355328 then ((some (([] : List Int) ++ l0 : List Int)).bind fun y495 => (if y495.length < 140737488355328 then (spec_padded.l0 k l0 (y495 ++ [128])) else (none))) else (none)) = some r := h
  clear h
  by_cases c2 : ([] : List Int).length + l0.length < 140737488355328
  · rw [if_pos c2] at H
    have LMc2 := Aside0.mk c2
    clear c2
    obtain ⟨y495, hy495⟩ : ∃ y_ : List Int, y_ = (([] : List Int) ++ l0) := ⟨_, rfl⟩
    replace H : (if y495.length < 140737488355328 then (spec_padded.l0 k l0 (y495 ++ [128])) else (none)) = some r := by first | (rw [hy495]; with_reducible exact H) | (have H2_ := (Option.bind_some _ _).symm.trans H; rw [hy495]; with_reducible exact H2_) | (have H2_ := (Option.bind_some _ _).symm.trans H; with_reducible exact H2_) | with_reducible exact H | (rw [hy495]; exact H) | exact H
    have Ny495 := Aside0.mk hy495
    clear hy495
    by_cases c3 : y495.length < 140737488355328
    · rw [if_pos c3] at H
      have LMc3 := Aside0.mk c3
      clear c3
      obtain ⟨y498, hy498⟩ : ∃ y_ : List Int, y_ = (y495 ++ [128]) := ⟨_, rfl⟩
      replace H : (spec_padded.l0 k l0 y498) = some r := by first | (rw [hy498]; with_reducible exact H) | (have H2_ := (Option.bind_some _ _).symm.trans H; rw [hy498]; with_reducible exact H2_) | (have H2_ := (Option.bind_some _ _).symm.trans H; with_reducible exact H2_) | with_reducible exact H | (rw [hy498]; exact H) | exact H
      have Ny498 := Aside0.mk hy498
      clear hy498
      have H' := Aside0.mk H
      clear H
      go_enter Tryd.func92, Tryd.ntmps92
      go_wp2_with (first | ((with_reducible refine gate_builtin (b := .append) (xs := #[.const (.slice none 0 0), .tmp 4]) rfl ?_); at_builtin; refine Kd.R_append_rows (Kd.int .u8) (w0 := w) w.heap.size rfl (.const (.slice none 0 0)) (.tmp 4) 22 5 (.int .u8 0) 1 rfl Tryd.underlying22 info5 rfl (by decide) (by omega) (.slice none 0 0) ([] : List Int) l0 _ _ _ (fun _ => True) (fun _ => False) rfl rfl ?aO ?aR (fun _ _ h => h) (fun _ h => h.elim) ?aF ?aB ?aS ?aL ?_; (case aR => repeat (first | exact HR0.out | (with_reducible refine Kd.C_alloc ?_ _) | (with_reducible refine Kd.C_drewN ?_ _) | (with_reducible refine Kd.C_drew ?_))); (case aB => exact (by repeat (first | (with_reducible first | exact HB.out | apply below_alloc | apply pw_below_drewN | apply below_drew1) | exact HB.out))); (case aF => exact (fun _ _ => trivial)); (case aO => exact ((Kd.R_nil _ _ _ _ (fun _ => True)))); (case aS => exact (below_size (by repeat (first | (with_reducible first | exact HB.out | apply below_alloc | apply pw_below_drewN | apply below_drew1) | exact HB.out)))); (case aL => have := LMc2.out; omega); intro v496 w4 ho hb hg hat; rw [← Ny495.out] at ho; have n0_ := Aside0.mk (hb); have n1_ := Aside0.mk (ho); clear HB; have HB := n0_; have HO497 := n1_; clear n0_ n1_; clear ho hb hg hat) | ((with_reducible refine gate_builtin (b := .append) (xs := #[.tmp 5, .tmp 6]) rfl ?_); at_builtin; refine Kd.R_append (Kd.int .u8) (w0 := w) w.heap.size rfl (.tmp 5) (.tmp 6) 22 5 (.int .u8 0) 1 rfl Tryd.underlying22 info5 rfl (by decide) (by omega) v496 y495 128 [.int .u8 128] (fun _ => True) (fun _ => False) rfl rfl ?aP (fun _ hk => hk.elim) ?aF ?aO ?aB ?aS ?aL ?_; (case aP => exact rfl); (case aB => exact (by repeat (first | (with_reducible first | exact HB.out | apply below_alloc | apply pw_below_drewN | apply below_drew1) | exact HB.out))); (case aF => exact (fun _ _ => trivial)); (case aO => exact (by (with_reducible repeat (first | apply Kd.R_alloc | apply Kd.R_drewN | apply Kd.R_drew)); exact HO497.out)); (case aS => exact (below_size (by repeat (first | (with_reducible first | exact HB.out | apply below_alloc | apply pw_below_drewN | apply below_drew1) | exact HB.out)))); (case aL => have := LMc3.out; omega); intro v499 w5 ho hb hg hat; rw [← Ny498.out] at ho; have n0_ := Aside0.mk (hb); have n1_ := Aside0.mk (ho); clear HB; clear HO497; have HB := n0_; have HO500 := n1_; clear n0_ n1_; clear ho hb hg hat))
      go_loopg [3] k (fun kq v3 w' => ∃ (x3_1 : List Int), Aside0 (spec_padded.l0 kq l0 x3_1 = some r) ∧ Aside0 (kq ≤ k) ∧ Aside0 (Kd.R (Kd.int .u8) 5 w' w.heap.size (fun _ => True) v3 x3_1) ∧ Aside0 (Below w.heap.size w w'))
      case atStart => exact ⟨(y498), H', ⟨Nat.le_refl _⟩, ⟨by (with_reducible repeat (first | apply Kd.R_alloc | apply Kd.R_drewN | apply Kd.R_drew)); exact HO500.out⟩, ⟨by repeat (first | (with_reducible first | exact HB.out | apply below_alloc | apply pw_below_drewN | apply below_drew1) | exact HB.out)⟩⟩
      case round =>
        clear H'
        try clear c2
        try clear p2
        try clear c3
        obtain ⟨x3_1, HA, HK1, HO_3, HB⟩ := hrel
        cases gk with
        | zero => exact absurd HA.out (by simp [spec_padded.l0])
        | succ k1 =>
          have H := HA.out
          clear HA
          simp only [spec_padded.l0] at H
          by_cases c6 : ((x3_1.length : Int) % 64) = 56
          · rw [if_pos c6] at H
            have c6b0 : (((x3_1.length : Int) % 64) == 56) = true := beq_iff_eq.mpr c6
            have c6b1 : (((x3_1.length : Int) % 64) != 56) = false := bne_eq_false_iff_eq.mpr c6
            clear c6
            replace H := Option.bind_eq_some_iff.mp H
            obtain ⟨t501, A70, H⟩ := H
            replace H : (some t501) = some r := H
            have A7 := Aside0.mk A70
            clear A70
            obtain rfl := Option.some.inj H
            obtain ⟨Ao8, co8, eo8⟩ := Kd.R_slice HO_3.out
            subst eo8
            go_wp2_with (first | ((with_reducible refine gate_callee (f := 95) rfl ?_); refine goesL_ (some 19) rfl rfl Tryd.func95 (by kernel_rfl) rfl #[.slice Ao8 x3_1.length co8, .int .i64 (wrap64 (8 * (l0.length : Int))), .int .i64 8] rfl (by (try simp only [List.map_toArray, List.map_cons, List.map_nil]); first | done | rfl | (simp only [List.length_drop, List.length_take]; rfl)) ?_; (with_reducible refine (spec_appended.calls k1 (fun k_ => some k_ = (.slice Ao8 x3_1.length co8 : Value).ownBlock) (.slice Ao8 x3_1.length co8) x3_1 (wrap64 (8 * (l0.length : Int))) 8 t501 w _ ?side1 ?side2 A7.out).mono ?_); (case side1 => repeat (first | (with_reducible first | exact HB.out | apply below_alloc | apply pw_below_drewN | apply below_drew1) | exact HB.out)); (case side2 => exact Kd.R_tight rfl HO_3.out); rintro e w9 ⟨v502, rfl, ho0, hb, hkp⟩; refine ⟨_, rfl, ?_⟩; have n0_ := Aside0.mk (Kd.R_mono (ok' := fun k_ => True) ho0 (fun k_ hk_ => trivial)); have n1_ := Aside0.mk (hb); clear HB; clear HO_3; have HO503 := n0_; have HB := n1_; clear n0_ n1_; (try clear hb); (try clear hkp); (try clear ho0)))
            go_ret
            exact ⟨_, by first | rfl | (simp [errW_none, errW_some] <;> rfl) | (simp [*, errW_none, errW_some] <;> rfl), by (with_reducible repeat (first | apply Kd.R_alloc | apply Kd.R_drewN | apply Kd.R_drew)); exact HO503.out, by repeat (first | (with_reducible first | exact HB.out | apply below_alloc | apply pw_below_drewN | apply below_drew1) | exact HB.out)⟩
          · rw [if_neg c6] at H
            have c6b0 : (((x3_1.length : Int) % 64) == 56) = false := beq_eq_false_iff_ne.mpr c6
            have c6b1 : (((x3_1.length : Int) % 64) != 56) = true := bne_iff_ne.mpr c6
            by_cases c10 : x3_1.length < 140737488355328
            · rw [if_pos c10] at H
              have LMc10 := Aside0.mk c10
              clear c10
              obtain ⟨y504, hy504⟩ : ∃ y_ : List Int, y_ = (x3_1 ++ [0]) := ⟨_, rfl⟩
              replace H : (spec_padded.l0 k1 l0 y504) = some r := by first | (rw [hy504]; with_reducible exact H) | (have H2_ := (Option.bind_some _ _).symm.trans H; rw [hy504]; with_reducible exact H2_) | (have H2_ := (Option.bind_some _ _).symm.trans H; with_reducible exact H2_) | with_reducible exact H | (rw [hy504]; exact H) | exact H
              have Ny504 := Aside0.mk hy504
              clear hy504
              have H' := Aside0.mk H
              clear H
              obtain ⟨Ao11, co11, eo11⟩ := Kd.R_slice HO_3.out
              subst eo11
              go_wp2_with (first | ((with_reducible refine gate_builtin (b := .append) (xs := #[.tmp 12, .tmp 13]) rfl ?_); at_builtin; refine Kd.R_append (Kd.int .u8) (w0 := w) w.heap.size rfl (.tmp 12) (.tmp 13) 22 5 (.int .u8 0) 1 rfl Tryd.underlying22 info5 rfl (by decide) (by omega) (.slice Ao11 x3_1.length co11) x3_1 0 [.int .u8 0] (fun _ => True) (fun _ => False) rfl rfl ?aP (fun _ hk => hk.elim) ?aF ?aO ?aB ?aS ?aL ?_; (case aP => exact rfl); (case aB => exact (by repeat (first | (with_reducible first | exact HB.out | apply below_alloc | apply pw_below_drewN | apply below_drew1) | exact HB.out))); (case aF => exact (fun _ _ => trivial)); (case aO => exact (by (with_reducible repeat (first | apply Kd.R_alloc | apply Kd.R_drewN | apply Kd.R_drew)); exact HO_3.out)); (case aS => exact (below_size (by repeat (first | (with_reducible first | exact HB.out | apply below_alloc | apply pw_below_drewN | apply below_drew1) | exact HB.out)))); (case aL => have := LMc10.out; omega); intro v505 w12 ho hb hg hat; rw [← Ny504.out] at ho; have n0_ := Aside0.mk (hb); have n1_ := Aside0.mk (ho); clear HB; clear HO_3; have HB := n0_; have HO506 := n1_; clear n0_ n1_; clear ho hb hg hat))
              go_roundg k1
              case measure => have := HK1.out; omega
              case rel => exact ⟨(y504), H', ⟨by have := HK1.out; omega⟩, ⟨by (with_reducible repeat (first | apply Kd.R_alloc | apply Kd.R_drewN | apply Kd.R_drew)); exact HO506.out⟩, ⟨by repeat (first | (with_reducible first | exact HB.out | apply below_alloc | apply pw_below_drewN | apply below_drew1) | exact HB.out)⟩⟩
            · rw [if_neg c10] at H
              exact absurd H (by simp)
    · rw [if_neg c3] at H
      exact absurd H (by simp)
  · rw [if_neg c2] at H
    exact absurd H (by simp)

end Go.Proofs.YtiilihafcdmccaaDoor.P
/- The padding of SHA-1: what both functions give. -/
namespace Go.Proofs.YtiilihafcdmccaaDoor.P
open Go.RowKit Go.Proofs.YtiilihafcdmccaaDoorW.PrintWords
set_option linter.unusedVariables false
set_option linter.unusedSimpArgs false

def padB (n : Int) : List Int := [n / 72057594037927936 % 256, n / 281474976710656 % 256, n / 1099511627776 % 256, n / 4294967296 % 256, n / 16777216 % 256, n / 65536 % 256, n / 256 % 256, n % 256]
def padN (n : Nat) : Nat := (119 - n % 64) % 64
def padOf (l : List Int) : List Int := l ++ [128] ++ List.replicate (padN l.length) 0 ++ padB (8 * l.length)
theorem padOf_len (l : List Int) : (padOf l).length % 64 = 0 ∧ (padOf l).length ≤ l.length + 72 := by
  simp only [padOf, padB, List.length_append, List.length_cons, List.length_nil, List.length_replicate, padN]
  omega
theorem padOf_bytes (l : List Int) (h : ∀ x ∈ l, 0 ≤ x ∧ x < 256) : ∀ x ∈ padOf l, 0 ≤ x ∧ x < 256 := by
  intro x hx
  simp only [padOf, padB, List.mem_append, List.mem_cons, List.not_mem_nil, or_false, List.mem_replicate] at hx
  rcases hx with ((hx | hx) | hx) | hx
  · exact h x hx
  · omega
  · omega
  · omega
theorem zz_l0 (k : Nat) (x3 : Int) : ∀ (z : Nat) (x4 : List Int), z < 64 → (x4.length + z) % 64 = 56 → x4.length + z < 1000000 → dns_zzPadded.l0 (k + z + 1) x3 x4 = dns_zzPadded.l1 (k + 0) x3 (x4 ++ List.replicate z 0) 7 := by
  intro z
  induction z with
  | zero => intro x4 h0 h1 h2; rw [show k + 0 + 1 = k + 1 from rfl, dns_zzPadded.l0, if_pos (by omega)]; simp
  | succ z ih =>
    intro x4 h0 h1 h2
    rw [show k + (z + 1) + 1 = (k + z + 1) + 1 by omega, dns_zzPadded.l0, if_neg (by omega), if_pos (by omega), ih (x4 ++ [0]) (by omega) (by simp only [List.length_append, List.length_cons, List.length_nil]; omega) (by simp only [List.length_append, List.length_cons, List.length_nil]; omega)]
    congr 1
    simp [List.replicate_succ]
theorem sp_l0 (k : Nat) : ∀ (z : Nat) (x4 : List Int) (L : List Int), z < 64 → (x4.length + z) % 64 = 56 → x4.length + z < 1000000 → spec_padded.l0 (k + z + 1) L x4 = spec_padded.l0 (k + 1) L (x4 ++ List.replicate z 0) := by
  intro z
  induction z with
  | zero => intro x4 L h0 h1 h2; simp
  | succ z ih =>
    intro x4 L h0 h1 h2
    rw [show k + (z + 1) + 1 = (k + z + 1) + 1 by omega, spec_padded.l0, if_neg (by omega), if_pos (by omega), ih (x4 ++ [0]) L (by omega) (by simp only [List.length_append, List.length_cons, List.length_nil]; omega) (by simp only [List.length_append, List.length_cons, List.length_nil]; omega)]
    congr 1
    simp [List.replicate_succ]
theorem app_8 (k : Nat) (x4 : List Int) (x3 : Int) (hl : x4.length < 10000000) : spec_appended.l0 (k + 9) x4 x3 7 = some (x4 ++ padB x3) := by
  have w : ∀ a b : Int, 0 ≤ a → a < 100 → a = b → wrap64 a = b := fun a b h h1 e => by unfold wrap64; omega
  have e7 := w (8 * 7) 56 (by omega) (by omega) (by omega)
  have e6 := w (8 * 6) 48 (by omega) (by omega) (by omega)
  have e5 := w (8 * 5) 40 (by omega) (by omega) (by omega)
  have e4 := w (8 * 4) 32 (by omega) (by omega) (by omega)
  have e3 := w (8 * 3) 24 (by omega) (by omega) (by omega)
  have e2 := w (8 * 2) 16 (by omega) (by omega) (by omega)
  have e1 := w (8 * 1) 8 (by omega) (by omega) (by omega)
  have e0 := w (8 * 0) 0 (by omega) (by omega) (by omega)
  have d7 := w (7 - 1) 6 (by omega) (by omega) (by omega)
  have d6 := w (6 - 1) 5 (by omega) (by omega) (by omega)
  have d5 := w (5 - 1) 4 (by omega) (by omega) (by omega)
  have d4 := w (4 - 1) 3 (by omega) (by omega) (by omega)
  have d3 := w (3 - 1) 2 (by omega) (by omega) (by omega)
  have d2 := w (2 - 1) 1 (by omega) (by omega) (by omega)
  have d1 := w (1 - 1) 0 (by omega) (by omega) (by omega)
  have d0 : wrap64 (0 - 1) = -1 := by unfold wrap64; omega
  have s56 : shr .i64 x3 56 = x3 / 72057594037927936 := rfl
  have s48 : shr .i64 x3 48 = x3 / 281474976710656 := rfl
  have s40 : shr .i64 x3 40 = x3 / 1099511627776 := rfl
  have s32 : shr .i64 x3 32 = x3 / 4294967296 := rfl
  have s24 : shr .i64 x3 24 = x3 / 16777216 := rfl
  have s16 : shr .i64 x3 16 = x3 / 65536 := rfl
  have s8 : shr .i64 x3 8 = x3 / 256 := rfl
  have s0 : shr .i64 x3 0 = x3 := Int.ediv_one x3
  rw [spec_appended.l0, if_pos (by omega), e7, if_pos (by omega), if_pos (by omega), d7, s56]
  rw [spec_appended.l0, if_pos (by omega), e6, if_pos (by omega), if_pos (by simp only [List.length_append, List.length_cons, List.length_nil]; omega), d6, s48]
  rw [spec_appended.l0, if_pos (by omega), e5, if_pos (by omega), if_pos (by simp only [List.length_append, List.length_cons, List.length_nil]; omega), d5, s40]
  rw [spec_appended.l0, if_pos (by omega), e4, if_pos (by omega), if_pos (by simp only [List.length_append, List.length_cons, List.length_nil]; omega), d4, s32]
  rw [spec_appended.l0, if_pos (by omega), e3, if_pos (by omega), if_pos (by simp only [List.length_append, List.length_cons, List.length_nil]; omega), d3, s24]
  rw [spec_appended.l0, if_pos (by omega), e2, if_pos (by omega), if_pos (by simp only [List.length_append, List.length_cons, List.length_nil]; omega), d2, s16]
  rw [spec_appended.l0, if_pos (by omega), e1, if_pos (by omega), if_pos (by simp only [List.length_append, List.length_cons, List.length_nil]; omega), d1, s8]
  rw [spec_appended.l0, if_pos (by omega), e0, if_pos (by omega), if_pos (by simp only [List.length_append, List.length_cons, List.length_nil]; omega), d0, s0]
  rw [spec_appended.l0, if_neg (by omega)]
  simp [padB]

theorem zz_l1 (k : Nat) (x4 : List Int) (x3 : Int) (hl : x4.length < 10000000) : dns_zzPadded.l1 (k + 9) x3 x4 7 = some (x4 ++ padB x3) := by
  have w : ∀ a b : Int, 0 ≤ a → a < 100 → a = b → wrap64 a = b := fun a b h h1 e => by unfold wrap64; omega
  have e7 := w (8 * 7) 56 (by omega) (by omega) (by omega)
  have e6 := w (8 * 6) 48 (by omega) (by omega) (by omega)
  have e5 := w (8 * 5) 40 (by omega) (by omega) (by omega)
  have e4 := w (8 * 4) 32 (by omega) (by omega) (by omega)
  have e3 := w (8 * 3) 24 (by omega) (by omega) (by omega)
  have e2 := w (8 * 2) 16 (by omega) (by omega) (by omega)
  have e1 := w (8 * 1) 8 (by omega) (by omega) (by omega)
  have e0 := w (8 * 0) 0 (by omega) (by omega) (by omega)
  have d7 := w (7 - 1) 6 (by omega) (by omega) (by omega)
  have d6 := w (6 - 1) 5 (by omega) (by omega) (by omega)
  have d5 := w (5 - 1) 4 (by omega) (by omega) (by omega)
  have d4 := w (4 - 1) 3 (by omega) (by omega) (by omega)
  have d3 := w (3 - 1) 2 (by omega) (by omega) (by omega)
  have d2 := w (2 - 1) 1 (by omega) (by omega) (by omega)
  have d1 := w (1 - 1) 0 (by omega) (by omega) (by omega)
  have d0 : wrap64 (0 - 1) = -1 := by unfold wrap64; omega
  have s56 : shr .u64 x3 56 = x3 / 72057594037927936 := rfl
  have s48 : shr .u64 x3 48 = x3 / 281474976710656 := rfl
  have s40 : shr .u64 x3 40 = x3 / 1099511627776 := rfl
  have s32 : shr .u64 x3 32 = x3 / 4294967296 := rfl
  have s24 : shr .u64 x3 24 = x3 / 16777216 := rfl
  have s16 : shr .u64 x3 16 = x3 / 65536 := rfl
  have s8 : shr .u64 x3 8 = x3 / 256 := rfl
  have s0 : shr .u64 x3 0 = x3 := Int.ediv_one x3
  rw [dns_zzPadded.l1, if_pos (by omega), e7, if_pos (by omega), if_pos (by omega), d7, s56]
  rw [dns_zzPadded.l1, if_pos (by omega), e6, if_pos (by omega), if_pos (by simp only [List.length_append, List.length_cons, List.length_nil]; omega), d6, s48]
  rw [dns_zzPadded.l1, if_pos (by omega), e5, if_pos (by omega), if_pos (by simp only [List.length_append, List.length_cons, List.length_nil]; omega), d5, s40]
  rw [dns_zzPadded.l1, if_pos (by omega), e4, if_pos (by omega), if_pos (by simp only [List.length_append, List.length_cons, List.length_nil]; omega), d4, s32]
  rw [dns_zzPadded.l1, if_pos (by omega), e3, if_pos (by omega), if_pos (by simp only [List.length_append, List.length_cons, List.length_nil]; omega), d3, s24]
  rw [dns_zzPadded.l1, if_pos (by omega), e2, if_pos (by omega), if_pos (by simp only [List.length_append, List.length_cons, List.length_nil]; omega), d2, s16]
  rw [dns_zzPadded.l1, if_pos (by omega), e1, if_pos (by omega), if_pos (by simp only [List.length_append, List.length_cons, List.length_nil]; omega), d1, s8]
  rw [dns_zzPadded.l1, if_pos (by omega), e0, if_pos (by omega), if_pos (by simp only [List.length_append, List.length_cons, List.length_nil]; omega), d0, s0]
  rw [dns_zzPadded.l1, if_neg (by omega)]
  simp [padB]

theorem padN_lt (n : Nat) : padN n < 64 := by unfold padN; omega
theorem pad_zz (l : List Int) (hl : l.length ≤ 100000) : dns_zzPadded.f (9 + padN l.length + 1) l = some (padOf l) := by
  have hz := padN_lt l.length
  have hz2 : (l.length + 1 + padN l.length) % 64 = 56 := by unfold padN; omega
  have e1 : IntKind.u64.wrap (wrap64 (8 * (l.length : Int))) = 8 * (l.length : Int) := by
    rw [show wrap64 (8 * (l.length : Int)) = 8 * (l.length : Int) by unfold wrap64; omega]
    rw [IntWalk.u64_in _ (by omega)]
  unfold dns_zzPadded.f
  rw [if_pos (by simp only [List.length_nil]; omega)]
  simp only [Option.bind_some, List.nil_append]
  rw [if_pos (by omega), e1, zz_l0 9 _ (padN l.length) (l ++ [128]) hz (by simp only [List.length_append, List.length_cons, List.length_nil]; omega) (by simp only [List.length_append, List.length_cons, List.length_nil]; omega)]
  rw [show 9 + 0 = 0 + 9 from rfl, zz_l1 0 _ _ (by simp only [List.length_append, List.length_cons, List.length_nil, List.length_replicate]; omega)]
  rfl
theorem pad_sp (l : List Int) (hl : l.length ≤ 100000) : spec_padded.f (10 + padN l.length + 1) l = some (padOf l) := by
  have hz := padN_lt l.length
  have hz2 : (l.length + 1 + padN l.length) % 64 = 56 := by unfold padN; omega
  have e1 : wrap64 (8 * (l.length : Int)) = 8 * (l.length : Int) := by unfold wrap64; omega
  have e2 : wrap64 (8 - 1) = 7 := by unfold wrap64; omega
  unfold spec_padded.f
  rw [if_pos (by simp only [List.length_nil]; omega)]
  simp only [Option.bind_some, List.nil_append]
  rw [if_pos (by omega), sp_l0 10 (padN l.length) (l ++ [128]) l hz (by simp only [List.length_append, List.length_cons, List.length_nil]; omega) (by simp only [List.length_append, List.length_cons, List.length_nil]; omega)]
  rw [spec_padded.l0, if_pos (by simp only [List.length_append, List.length_cons, List.length_nil, List.length_replicate]; omega), e1]
  unfold spec_appended.f
  rw [e2, show (10 : Nat) = 1 + 9 from rfl, app_8 1 _ _ (by simp only [List.length_append, List.length_cons, List.length_nil, List.length_replicate]; omega)]
  rfl

end Go.Proofs.YtiilihafcdmccaaDoor.P
/- dns.zzSHA1, whole: its padding joined. -/
namespace Go.Proofs.YtiilihafcdmccaaDoor.P
open Go.RowKit Go.Proofs.YtiilihafcdmccaaDoorW.PrintWords
set_option linter.unusedVariables false
set_option linter.unusedSimpArgs false

theorem isP_of_R {w : World} {base : Nat} {ok : Nat → Prop} {v : Value} {P : List Int} (h : Kd.R (Kd.int .u8) 5 w base ok v P) (hp : 0 < P.length) : IsP w v P := by
  obtain ⟨g, cap, he, _, _, _⟩ := Kd.R_form h hp
  obtain ⟨A, c, he2, hl, hc⟩ := Kd.R_reads h
  rw [he] at he2
  injection he2 with h1 h2 h3
  subst h1 h3
  refine ⟨g, cap, he, hl, fun j hj => ?_⟩
  obtain ⟨ad, e, hr⟩ := hc.2.2 hp
  injection e with e
  subst e
  obtain ⟨c, _, hk, hu⟩ := hr j (P.getD j 0) (by rw [List.getD_eq_getElem?_getD, List.getElem?_eq_getElem hj]; rfl)
  have hk2 : c = [.int .u8 (P.getD j 0)] := hk
  have := hu 0 (.int .u8 (P.getD j 0)) (by rw [hk2]; rfl)
  have ea : (⟨g, 0, none⟩ : Addr).add (j * (Kd.int IntKind.u8).sz + 0) = ⟨g, j, none⟩ := by
    show (⟨g, 0, none⟩ : Addr).add (j * 1 + 0) = ⟨g, j, none⟩
    rw [Nat.mul_one, Nat.add_zero]
    simp only [Addr.add]
    split <;> simp_all
  rw [ea] at this
  exact this
theorem padOf_pos (l : List Int) : 0 < (padOf l).length := by
  simp only [padOf, List.length_append, List.length_cons, List.length_nil]
  omega
theorem zz_sha (l : List Int) (A0 : Option Addr) (c0 : Nat) (w : World) (hl : l.length ≤ 100000) (hr0 : Kd.C (Kd.int .u8) w A0 l.length l) (hc0 : l.length ≤ c0) (hb : ∀ x ∈ l, 0 ≤ x ∧ x < 256) : Calls Tryd.prog 90 #[.slice A0 l.length c0] w fun e w' => ∃ v, e = .returned v ∧ Kd.R (Kd.int .u8) 5 w' w.heap.size (fun _ => True) v (shaOf (padOf l)) ∧ Below w.heap.size w w' := by
  have hL := padOf_len l
  refine sha_zz (padOf l) l A0 c0 w (by omega) hL.1 (padOf_bytes l hb) (fun W hW => ?_)
  refine (dns_zzPadded.calls _ A0 c0 l (padOf l) W (Kd.C_below hr0 hW) hc0 (pad_zz l hl)).mono ?_
  rintro e w' ⟨v, rfl, hR, hB⟩
  exact ⟨v, rfl, isP_of_R hR (padOf_pos l), hB⟩

end Go.Proofs.YtiilihafcdmccaaDoor.P
/- Contracts of the library at this dump: written by the kit's lay-shelf.mjs and lay-plain.mjs, picked by wip/tools/shelfpick. -/
namespace Go.Proofs
open Go.Shelf
def Tryd.lays159_ren : Go.Shelf.Ren := ⟨fun | 159 => 89 | 165 => 104 | 166 => 105 | 167 => 108 | 169 => 109 | 230 => 80 | 204 => 120 | 240 => 131 | 241 => 132 | 197 => 102 | 118 => 103 | 168 => 106 | 270 => 107 | 262 => 136 | 276 => 147 | 277 => 148 | 260 => 130 | 242 => 133 | 313 => 154 | 278 => 149 | 274 => 166 | 275 => 167 | n => n, fun | 9 => 9 | 4 => 4 | 3 => 3 | 5 => 5 | 72 => 127 | 0 => 0 | 76 => 77 | 75 => 72 | 107 => 102 | 70 => 125 | 20 => 20 | 37 => 22 | 127 => 158 | 21 => 21 | 105 => 128 | 164 => 176 | 162 => 186 | 203 => 184 | 119 => 172 | 46 => 69 | 139 => 175 | 138 => 174 | 51 => 112 | 160 => 201 | 208 => 210 | 206 => 208 | 80 => 87 | n => n, fun | 13 => 10 | 3 => 7 | 4 => 8 | n => n⟩
theorem Tryd.lays159 : Go.Proofs.Lays.n159 Tryd.prog Tryd.lays159_ren := {
  mixed := by kernel_rfl
  f118 := Tryd.func103.trans (congrArg some (by kernel_rfl))
  f159 := Tryd.func89.trans (congrArg some (by kernel_rfl))
  f165 := Tryd.func104.trans (congrArg some (by kernel_rfl))
  f166 := Tryd.func105.trans (congrArg some (by kernel_rfl))
  f167 := Tryd.func108.trans (congrArg some (by kernel_rfl))
  f168 := Tryd.func106.trans (congrArg some (by kernel_rfl))
  f169 := Tryd.func109.trans (congrArg some (by kernel_rfl))
  f197 := Tryd.func102.trans (congrArg some (by kernel_rfl))
  f204 := Tryd.func120.trans (congrArg some (by kernel_rfl))
  f230 := Tryd.func80.trans (congrArg some (by kernel_rfl))
  f240 := Tryd.func131.trans (congrArg some (by kernel_rfl))
  f241 := Tryd.func132.trans (congrArg some (by kernel_rfl))
  f242 := Tryd.func133.trans (congrArg some (by kernel_rfl))
  f260 := Tryd.func130.trans (congrArg some (by kernel_rfl))
  f262 := Tryd.func136.trans (congrArg some (by kernel_rfl))
  f270 := Tryd.func107.trans (congrArg some (by kernel_rfl))
  f274 := Tryd.func166.trans (congrArg some (by kernel_rfl))
  f275 := Tryd.func167.trans (congrArg some (by kernel_rfl))
  f276 := Tryd.func147.trans (congrArg some (by kernel_rfl))
  f277 := Tryd.func148.trans (congrArg some (by kernel_rfl))
  f278 := Tryd.func149.trans (congrArg some (by kernel_rfl))
  f313 := Tryd.func154.trans (congrArg some (by kernel_rfl))
  t0 := Tryd.underlying0
  a0 := Tryd.isAgg0
  z0 := Tryd.sizeOf0
  v0 := Tryd.zeroValue0
  t3 := Tryd.underlying3
  a3 := Tryd.isAgg3
  z3 := Tryd.sizeOf3
  v3 := Tryd.zeroValue3
  t4 := Tryd.underlying4
  a4 := Tryd.isAgg4
  z4 := Tryd.sizeOf4
  v4 := Tryd.zeroValue4
  t5 := Tryd.underlying5
  a5 := Tryd.isAgg5
  z5 := Tryd.sizeOf5
  v5 := Tryd.zeroValue5
  t9 := Tryd.underlying9
  a9 := Tryd.isAgg9
  z9 := Tryd.sizeOf9
  v9 := Tryd.zeroValue9
  t20 := Tryd.underlying20
  a20 := Tryd.isAgg20
  z20 := Tryd.sizeOf20
  v20 := Tryd.zeroValue20
  t21 := Tryd.underlying21
  a21 := Tryd.isAgg21
  z21 := Tryd.sizeOf21
  v21 := Tryd.zeroValue21
  t37 := Tryd.underlying22
  a37 := Tryd.isAgg22
  z37 := Tryd.sizeOf22
  v37 := Tryd.zeroValue22
  t46 := Tryd.underlying69
  a46 := Tryd.isAgg69
  z46 := Tryd.sizeOf69
  v46 := Tryd.zeroValue69
  t51 := Tryd.underlying112
  a51 := Tryd.isAgg112
  z51 := Tryd.sizeOf112
  v51 := Tryd.zeroValue112
  t70 := Tryd.underlying125
  a70 := Tryd.isAgg125
  z70 := Tryd.sizeOf125
  v70 := Tryd.zeroValue125
  t72 := Tryd.underlying127
  a72 := Tryd.isAgg127
  z72 := Tryd.sizeOf127
  v72 := Tryd.zeroValue127
  t75 := Tryd.underlying72
  a75 := Tryd.isAgg72
  z75 := Tryd.sizeOf72
  v75 := Tryd.zeroValue72
  t76 := Tryd.underlying77
  a76 := Tryd.isAgg77
  z76 := Tryd.sizeOf77
  v76 := Tryd.zeroValue77
  t105 := Tryd.underlying128
  a105 := Tryd.isAgg128
  z105 := Tryd.sizeOf128
  v105 := Tryd.zeroValue128
  t107 := Tryd.underlying102
  a107 := Tryd.isAgg102
  z107 := Tryd.sizeOf102
  v107 := Tryd.zeroValue102
  t119 := Tryd.underlying172
  a119 := Tryd.isAgg172
  z119 := Tryd.sizeOf172
  t127 := Tryd.underlying158
  a127 := Tryd.isAgg158
  z127 := Tryd.sizeOf158
  v127 := Tryd.zeroValue158
  t138 := Tryd.underlying174
  a138 := Tryd.isAgg174
  z138 := Tryd.sizeOf174
  v138 := Tryd.zeroValue174
  t139 := Tryd.underlying175
  a139 := Tryd.isAgg175
  z139 := Tryd.sizeOf175
  v139 := Tryd.zeroValue175
  t160 := Tryd.underlying201
  a160 := Tryd.isAgg201
  z160 := Tryd.sizeOf201
  v160 := Tryd.zeroValue201
  t162 := Tryd.underlying186
  a162 := Tryd.isAgg186
  z162 := Tryd.sizeOf186
  v162 := Tryd.zeroValue186
  t164 := Tryd.underlying176
  a164 := Tryd.isAgg176
  z164 := Tryd.sizeOf176
  v164 := Tryd.zeroValue176
  t203 := Tryd.underlying184
  a203 := Tryd.isAgg184
  z203 := Tryd.sizeOf184
  v203 := Tryd.zeroValue184
  t206 := Tryd.underlying208
  a206 := Tryd.isAgg208
  z206 := Tryd.sizeOf208
  v206 := Tryd.zeroValue208
  t208 := Tryd.underlying210
  a208 := Tryd.isAgg210
  z208 := Tryd.sizeOf210
  v208 := Tryd.zeroValue210
  g3 := by kernel_rfl
  g4 := by kernel_rfl
  g13 := by kernel_rfl }
theorem Tryd.Builder_Extra_159 : Builder.Extra Tryd.prog Tryd.lays159_ren := {
  sizeBuilder := by kernel_rfl
  liesBuilder := by kernel_rfl
  t5 := Tryd.underlying5
  a5 := Tryd.isAgg5
  z5 := Tryd.sizeOf5
  v5 := Tryd.zeroValue5
  infoByte := by kernel_rfl
  cellsByte := by kernel_rfl
  sizeByte := by kernel_rfl
  neB5 := by decide }
open Go.RowKit in
/-- strings.ToLower: "ToLower returns s with all Unicode letters mapped to their lower case.": ON ASCII TEXT OF AT MOST 2^47 BYTES. Below the heap's end the world is as it was: where a letter turns, the call makes a builder and its buffer. (LAID: no walk: one application.) -/
theorem Tryd.strings_ToLower_ascii (s : ByteArray) (w : World) (hs : s.size ≤ 140737488355328) (hascii : ∀ (j : Nat) (b : UInt8), s.data.toList[j]? = some b → b.toNat < 128) :
    Calls Tryd.prog 89 #[.string s] w fun e w' => e = .returned (.string ⟨(Lib.toLowerA s.data.toList).toArray⟩) ∧ Below w.heap.size w w' := Any.strings_ToLower_ascii Tryd.lays159 Tryd.Builder_Extra_159 s w hs hascii
def Tryd.laysPa42_ren : Go.Shelf.Ren := ⟨fun | 42 => 87 | n => n, fun | 3 => 3 | n => n, fun | n => n⟩
theorem Tryd.laysPa42 : Go.Proofs.Lays.p42 Tryd.prog Tryd.laysPa42_ren := {
  mixed := by kernel_rfl
  f42 := Tryd.func87.trans (congrArg some (by kernel_rfl))
  t3 := Tryd.underlying3
  a3 := Tryd.isAgg3
  z3 := Tryd.sizeOf3
  v3 := Tryd.zeroValue3 }
open Go.RowKit Go.Lib in
/-- encoding/hex.DecodedLen: "DecodedLen returns the length of a decoding of x source bytes. Specifically, it returns x / 2.": for 0 ≤ x. (LAID: no walk: one application.) -/
theorem Tryd.hex_DecodedLen (x : Int) (h0 : 0 ≤ x) (h1 : x < 9223372036854775808) (w : World) :
    Calls Tryd.prog 87 #[.int .i64 x] w fun e w' => e = .returned (.int .i64 (x / 2)) ∧ w' = w := Any.hex_DecodedLen Tryd.laysPa42 x h0 h1 w
def Tryd.laysPah43_ren : Go.Shelf.Ren := ⟨fun | 43 => 119 | 42 => 87 | 44 => 135 | n => n, fun | 9 => 9 | 30 => 22 | 35 => 72 | 3 => 3 | 38 => 77 | 4 => 4 | 0 => 0 | 5 => 5 | 47 => 183 | 46 => 69 | 45 => 87 | n => n, fun | 0 => 9 | n => n⟩
theorem Tryd.laysPah43 : Go.Proofs.Lays.ph43 Tryd.prog Tryd.laysPah43_ren := {
  mixed := by kernel_rfl
  f42 := Tryd.func87.trans (congrArg some (by kernel_rfl))
  f43 := Tryd.func119.trans (congrArg some (by kernel_rfl))
  f44 := Tryd.func135.trans (congrArg some (by kernel_rfl))
  t0 := Tryd.underlying0
  a0 := Tryd.isAgg0
  z0 := Tryd.sizeOf0
  v0 := Tryd.zeroValue0
  t3 := Tryd.underlying3
  a3 := Tryd.isAgg3
  z3 := Tryd.sizeOf3
  v3 := Tryd.zeroValue3
  t4 := Tryd.underlying4
  a4 := Tryd.isAgg4
  z4 := Tryd.sizeOf4
  v4 := Tryd.zeroValue4
  t5 := Tryd.underlying5
  a5 := Tryd.isAgg5
  z5 := Tryd.sizeOf5
  v5 := Tryd.zeroValue5
  t9 := Tryd.underlying9
  a9 := Tryd.isAgg9
  z9 := Tryd.sizeOf9
  v9 := Tryd.zeroValue9
  t30 := Tryd.underlying22
  a30 := Tryd.isAgg22
  z30 := Tryd.sizeOf22
  v30 := Tryd.zeroValue22
  t35 := Tryd.underlying72
  a35 := Tryd.isAgg72
  z35 := Tryd.sizeOf72
  v35 := Tryd.zeroValue72
  t38 := Tryd.underlying77
  a38 := Tryd.isAgg77
  z38 := Tryd.sizeOf77
  v38 := Tryd.zeroValue77
  t45 := Tryd.underlying87
  a45 := Tryd.isAgg87
  z45 := Tryd.sizeOf87
  v45 := Tryd.zeroValue87
  t46 := Tryd.underlying69
  a46 := Tryd.isAgg69
  z46 := Tryd.sizeOf69
  v46 := Tryd.zeroValue69
  t47 := Tryd.underlying183
  a47 := Tryd.isAgg183
  z47 := Tryd.sizeOf183
  v47 := Tryd.zeroValue183
  g0 := by kernel_rfl
  info5 := by kernel_rfl }
open Go.RowKit Go.Lib in
/-- encoding/hex.DecodeString: the result slice OWNS the bytes decoded. (LAID: no walk: one application.) -/
theorem Tryd.hex_DecodeString_owns (s : ByteArray) (w : World) (ev : Value) (hE : w.cell? ⟨9, 0, none⟩ = some ev) (hbig : s.size ≤ 281474976710656) :
    Calls Tryd.prog 119 #[.string s] w fun e w' => ∃ v, e = .returned (.tuple #[v, Hx.errVal 183 ev (Hx.decode s.data.toList).2]) ∧
      w'.ownsRow w.heap.size 5 1 v (Hx.decode s.data.toList).1.length ((Hx.decode s.data.toList).1.map fun b => Value.int .u8 (b.toNat : Int)) ∧ Below w.heap.size w w' := Any.hex_DecodeString_owns Tryd.laysPah43 s w ev hE hbig
end Go.Proofs
/- 'dns.packStringHex': digits of base 16 are read into a row. -/
namespace Go.Proofs.YtiilihafcdmccaaDoor.P
open Go.RowKit Go.Proofs.YtiilihafcdmccaaDoorW.PrintWords Go.Proofs.YtiilihafcdmccaaDoorW.PrintLast Go.Proofs.YtiilihafcdmccaaDoorW.PrintMore
set_option linter.unusedVariables false
set_option linter.unusedSimpArgs false

theorem copy_zero (A B : Option Addr) (a b : Nat) (W : World) : (Builtin.copy_ #[22, 22] 3 #[.slice A 0 a, .slice B 0 b]).run Tryd.prog W = .ok (.int .i64 0) W := by
  obtain ⟨inf, h1, h2⟩ := Option.map_eq_some_iff.1 (show (Tryd.prog.info? 5).map (·.size) = some 1 by kernel_rfl)
  have hz : ∀ a, (loadCells a 0).run Tryd.prog W = .ok #[] W := fun a => run_loadCells_list (P := Tryd.prog) W a [] (by simp)
  cases A <;> cases B <;> simp [hz, Builtin.copy_, run_underlying Tryd.underlying22, Sem.run_bind, Builtin.lenOf, Builtin.firstCells, sizeOf, typeInfo, storeCells, h1, h2, goInt]
theorem copy_rows {w : World} {g b n dC cS t : Nat} (xs zs : List Int) (hg : w.heap[g]? = some (.cells (rowV xs) t (0, 0))) (hx : xs.length = n) (hz : RowR w b zs) (hzl : zs.length = n) :
    ∃ W2, (Builtin.copy_ #[22, 22] 3 #[.slice (some ⟨g, 0, none⟩) n dC, .slice (some ⟨b, 0, none⟩) n cS]).run Tryd.prog w = .ok (.int .i64 n) W2 ∧ W2.heap[g]? = some (.cells (rowV zs) t (0, 0)) ∧ Below g w W2 := by
  have hr := run_copy_row (P := Tryd.prog) w 22 22 3 5 g 0 n dC ⟨b, 0, none⟩ n cS (rowV xs) t (zs.map fun x => Value.int .u8 x) Tryd.underlying22 (by kernel_rfl) hg (by rw [List.length_map, hzl]; exact (Nat.min_self n).symm)
    (fun j v hj => by
      obtain ⟨hjl, rfl⟩ := List.getElem?_eq_some_iff.1 hj
      rw [List.length_map] at hjl
      rw [List.getElem_map, show (⟨b, 0, none⟩ : Addr).add j = ⟨b, j, none⟩ by unfold Addr.add; split <;> simp_all, hz j (by omega)]
      rw [List.getD_eq_getElem?_getD, List.getElem?_eq_getElem (by omega), Option.getD_some])
    (by rw [rowV_length, List.length_map]; omega) (fun v hv => by obtain ⟨x, _, rfl⟩ := List.mem_map.1 hv; rfl)
  rw [List.length_map, rowV_splice, hzl, List.take_zero, List.drop_of_length_le (by omega), List.append_nil, List.nil_append] at hr
  exact ⟨_, hr, setRow_heap w g _ _ t _ hg, below_setRow' _ _ _⟩
def toU8 (l : List Int) : List UInt8 := l.map fun x => UInt8.ofNat x.toNat
theorem toU8_nat {l : List Int} (h : IsB l) : ((toU8 l).map fun b => (b.toNat : Int)) = l := by
  unfold toU8
  rw [List.map_map]
  conv => rhs; rw [← List.map_id l]
  refine List.map_congr_left fun x hx => ?_
  have := h x hx
  simp only [Function.comp, UInt8.toNat_ofNat', id]
  omega
theorem digit_nat : ∀ d : Fin 16, ((Lib.Hx.digit d.val).toNat : Int) = dgL d.val := by decide
theorem encode_enc4 : ∀ l : List Int, IsB l → ((Lib.Hx.encode (toU8 l)).map fun b => (b.toNat : Int)) = (enc4 l).map dgL := by
  intro l
  induction l with
  | nil => intro _; rfl
  | cons a l ih =>
    intro h
    have ha := h a List.mem_cons_self
    have h1 := ih (fun x hx => h x (List.mem_cons_of_mem _ hx))
    have e0 : (UInt8.ofNat a.toNat).toNat = a.toNat := by rw [UInt8.toNat_ofNat']; omega
    have d1 := digit_nat ⟨a.toNat / 16, by omega⟩
    have d2 := digit_nat ⟨a.toNat % 16, by omega⟩
    show ((Lib.Hx.encode (UInt8.ofNat a.toNat :: toU8 l)).map fun b => (b.toNat : Int)) = _
    rw [Lib.Hx.encode_cons, e0, List.map_cons, List.map_cons, h1, d1, d2]
    have q1 : ((a.toNat / 16 : Nat) : Int) = a / 16 := by omega
    have q2 : ((a.toNat % 16 : Nat) : Int) = a % 16 := by omega
    show dgL ((a.toNat / 16 : Nat) : Int) :: dgL ((a.toNat % 16 : Nat) : Int) :: _ = _
    rw [q1, q2]
    rfl
theorem decode_hex {s : ByteArray} {l : List Int} (hB : IsB l) (hs : bytesOf s = (enc4 l).map dgL) : Lib.Hx.decode s.data.toList = (toU8 l, .ok) := by
  have e : s = ⟨(Lib.Hx.encode (toU8 l)).toArray⟩ := by
    apply bytesOf_inj
    rw [hs, ← encode_enc4 l hB]
    rfl
  rw [e]
  exact Lib.Hx.decode_encode (toU8 l)
theorem owns_R {w : World} {base : Nat} {v : Value} {l : List Int} (hB : IsB l) (h : w.ownsRow base 5 1 v (toU8 l).length ((toU8 l).map fun b => Value.int .u8 (b.toNat : Int))) : Kd.R (Kd.int .u8) 5 w base (fun _ => True) v l := by
  refine Kd.R_of_own ?_ (fun _ _ => trivial)
  have e : ((toU8 l).map fun b => Value.int .u8 (b.toNat : Int)) = encs (Value.int .u8) l := by
    unfold encs
    conv => rhs; rw [← toU8_nat hB, List.map_map]
    rfl
  rw [e, show (toU8 l).length = l.length by simp [toU8]] at h
  exact h

/-- The cell of encoding/hex.ErrLength is laid. -/
def GoodX (w : World) : Prop := ∃ ev, w.cell? ⟨9, 0, none⟩ = some ev
theorem GoodX.below {w w' : World} (h : GoodX w) (hb : Below w.heap.size w w') : GoodX w' := by
  obtain ⟨ev, h⟩ := h
  exact ⟨ev, (hb.cell (World.block_lt_of_cell? w _ h)).trans h⟩
theorem RowR_of_R {w : World} {base : Nat} {v : Value} {l : List Int} (h : Kd.R (Kd.int .u8) 5 w base (fun _ => True) v l) (n : Nat) (hn : l.length = n) (hp : 0 < n) : ∃ b cap, v = .slice (some ⟨b, 0, none⟩) n cap ∧ n ≤ cap ∧ RowR w b l := by subst hn; exact isP_of_R h hp
set_option maxHeartbeats 2000000 in
set_option maxRecDepth 100000 in
/-- packStringHex at digits of base 16, where there is just the room. -/
theorem psh (l : List Int) (hB : IsB l) (n : Nat) (hn : l.length = n) (hl : n ≤ 1000) (s : ByteArray) (hs : bytesOf s = (enc4 l).map dgL) (md : Nat) (w00 w : World) (hd : w.heap[md]? = some (.cells (rowV (List.replicate n 0)) 5 (0, 0))) (hmd : w00.heap.size ≤ md) (hBel : Below w00.heap.size w00 w) (hX : GoodX w) :
    Calls Tryd.prog 88 #[.string s, .slice (some ⟨md, 0, none⟩) n n, .int .i64 0] w fun e w' => e = .returned (.tuple #[.int .i64 n, .nilIface]) ∧ w'.heap[md]? = some (.cells (rowV l) 5 (0, 0)) ∧ Below w00.heap.size w00 w' := by
  obtain ⟨ev, hX⟩ := hX
  have hds := decode_hex hB hs
  have hsz : s.size ≤ 281474976710656 := by
    have h1 : (bytesOf s).length = 2 * l.length := by
      rw [hs, List.length_map]
      unfold enc4
      clear hs hds hn hB
      induction l with
      | nil => rfl
      | cons a l ih => simp only [List.flatMap_cons, List.length_append, ih, List.length_cons, List.length_nil]; omega
    rw [bytesOf_length] at h1
    omega
  have hC := Tryd.hex_DecodeString_owns s w ev hX hsz
  rw [hds] at hC
  simp only [Lib.Hx.errVal] at hC
  have HC := Aside0.mk hC
  have HD := Aside0.mk hd
  have HB := Aside0.mk hBel
  have HBB := Aside0.mk hB
  have hlt : md < w.heap.size := heap_lt hd
  clear hC hds hs hX hd hBel hsz
  by_cases hp : 0 < n
  · go_enter Tryd.func88, Tryd.ntmps88
    go_wp2_with (first
      | (go_at_call 119; (refine HC.out.mono ?_); rintro e w' ⟨v, rfl, ho, hb⟩; (have hR := owns_R HBB.out ho); obtain ⟨g, cg, rfl, hcg, hrow⟩ := RowR_of_R hR n hn hp; (have hd' : w'.heap[md]? = some (.cells (rowV (List.replicate n 0)) 5 (0, 0)) := by rw [hb.block md hlt]; exact HD.out); obtain ⟨W2, hcp, hh2, hb2⟩ := copy_rows (dC := n) (cS := cg) (n := n) _ l hd' List.length_replicate hrow hn; (have HH2 := Aside0.mk hh2); (have HB2 := Aside0.mk (((HB.out.trans (below_mono hb (by have := HB.out.size; omega))).trans (below_mono hb2 hmd)))); clear ho hb hR hd' hh2 hb2 hrow))
    go_ret2
    exact ⟨rfl, HH2.out, HB2.out⟩
  · obtain rfl : n = 0 := by omega
    obtain rfl := List.eq_nil_of_length_eq_zero hn
    have hcz := copy_zero
    go_enter Tryd.func88, Tryd.ntmps88
    go_wp2_with (first
      | (go_at_call 119; (refine HC.out.mono ?_); rintro e w' ⟨v, rfl, ho, hb⟩; (have hR := owns_R HBB.out ho); obtain ⟨Ag, cg, rfl⟩ := Kd.R_slice hR; simp only [List.length_nil]; (have HH2 : Aside0 (w'.heap[md]? = some (.cells (rowV ([] : List Int)) 5 (0, 0))) := ⟨by rw [hb.block md hlt]; exact HD.out⟩); (have HB2 := Aside0.mk (HB.out.trans (below_mono hb (by have := HB.out.size; omega)))); clear ho hb hR))
    go_ret2
    exact ⟨rfl, HH2.out, HB2.out⟩

end Go.Proofs.YtiilihafcdmccaaDoor.P
/- encoding/base32: the encoding that the program makes, and what it writes. -/
namespace Go.Proofs.YtiilihafcdmccaaDoor.P
open Go.RowKit Go.Proofs.YtiilihafcdmccaaDoorW.PrintWords Go.Proofs.YtiilihafcdmccaaDoorW.PrintLast Go.Proofs.YtiilihafcdmccaaDoorW.PrintMore
set_option linter.unusedVariables false
set_option linter.unusedSimpArgs false

/-- The cells of an encoding: its signs, what they mean, the sign that fills. -/
def encV (E M : List Int) (p : Int) : Array Value := ((E ++ M).map (fun x => Value.int .u8 x) ++ [Value.int .i32 p]).toArray
def aU : ByteArray := ⟨#[48, 49, 50, 51, 52, 53, 54, 55, 56, 57, 65, 66, 67, 68, 69, 70, 71, 72, 73, 74, 75, 76, 77, 78, 79, 80, 81, 82, 83, 84, 85, 86]⟩
theorem encV_size (E M : List Int) (p : Int) : (encV E M p).size = E.length + M.length + 1 := by simp [encV]; omega
theorem encV_cell {wr : World} {m e : Nat} {E M : List Int} {p : Int} (h : wr.heap[m]? = some (.cells (encV E M p) e (0, 0))) {i : Nat} (hi : i < E.length + M.length) : wr.cell? ⟨m, i, none⟩ = some (.int .u8 ((E ++ M).getD i 0)) ∧ wr.frozen? ⟨m, i, none⟩ = false := by
  have hi2 : i < (E ++ M).length := by rw [List.length_append]; exact hi
  constructor
  · simp only [World.cell?, h, encV]
    rw [List.getElem?_toArray, List.getElem?_append_left (by rw [List.length_map]; exact hi2), List.getElem?_map, List.getElem?_eq_getElem hi2, List.getD_eq_getElem?_getD, List.getElem?_eq_getElem hi2]
    rfl
  · simp [World.frozen?, h]
theorem encV_pad {wr : World} {m e : Nat} {E M : List Int} {p : Int} (h : wr.heap[m]? = some (.cells (encV E M p) e (0, 0))) {i : Nat} (hi : i = E.length + M.length) : wr.cell? ⟨m, i, none⟩ = some (.int .i32 p) ∧ wr.frozen? ⟨m, i, none⟩ = false := by
  subst hi
  constructor
  · simp only [World.cell?, h, encV]
    rw [List.getElem?_toArray, List.getElem?_append_right (by rw [List.length_map, List.length_append]; exact Nat.le_refl _), List.length_map, List.length_append, Nat.sub_self]
    rfl
  · simp [World.frozen?, h]
theorem encV_set {wr : World} {m e : Nat} {E M : List Int} {p : Int} (h : wr.heap[m]? = some (.cells (encV E M p) e (0, 0))) {i : Nat} (hi : i < M.length) (v : Int) : (wr.setCell ⟨m, E.length + i, none⟩ (.int .u8 v)).heap[m]? = some (.cells (encV E (M.set i v) p) e (0, 0)) := by
  have h1 := setCell_eq_setRow wr m (E.length + i) (encV E M p) e (0, 0) (.int .u8 v) h
  rw [h1, setRow_heap wr m _ _ e _ h]
  congr 2
  unfold encV
  rw [List.map_append, List.map_append, List.map_set]
  simp [List.set_append_left, List.set_append_right, hi]
theorem encV_copyE (E E' M : List Int) (p : Int) (h : E'.length = E.length) : ((encV E M p).toList.take 0 ++ (E'.map fun x => Value.int .u8 x) ++ (encV E M p).toList.drop (0 + E'.length)).toArray = encV E' M p := by
  unfold encV
  simp [h]
theorem splice_mid (A B C B' : List Value) (h : B'.length = B.length) : (A ++ (B ++ C)).take A.length ++ B' ++ (A ++ (B ++ C)).drop (A.length + B'.length) = A ++ (B' ++ C) := by
  rw [List.take_left, ← List.drop_drop, List.drop_left, h, List.drop_left, List.append_assoc]
theorem encV_copyM (E M M' : List Int) (p : Int) (h : M'.length = M.length) : ((encV E M p).toList.take E.length ++ (M'.map fun x => Value.int .u8 x) ++ (encV E M p).toList.drop (E.length + M'.length)).toArray = encV E M' p := by
  have h1 := splice_mid (E.map fun x => Value.int .u8 x) (M.map fun x => Value.int .u8 x) [Value.int .i32 p] (M'.map fun x => Value.int .u8 x) (by simp [h])
  rw [List.length_map, List.length_map] at h1
  unfold encV
  rw [List.map_append, List.map_append, List.toList_toArray]
  simp only [List.append_assoc] at h1 ⊢
  rw [h1]
theorem zero_enc : Tryd.zeroCells189.setIfInBounds 288 (Value.int IntKind.i32 61) = encV (List.replicate 32 0) (List.replicate 256 0) 61 := by kernel_rfl
theorem copy_enc {w : World} {g ty dT sT : Nat} {E M : List Int} {p : Int} {t : Nat} (s : ByteArray) (off n c : Nat) (E' M' : List Int) (hu : Tryd.prog.underlying dT = some (.slice 5)) (hg : w.heap[g]? = some (.cells (encV E M p) t (0, 0))) (hn : s.size = n)
    (hle : off + n ≤ E.length + M.length) (he : ((encV E M p).toList.take off ++ ((bytesOf s).map fun x => Value.int .u8 x) ++ (encV E M p).toList.drop (off + n)).toArray = encV E' M' p) :
    ∃ W2, (Builtin.copy_ #[dT, sT] ty #[.slice (some ⟨g, off, none⟩) n c, .string s]).run Tryd.prog w = .ok (.int .i64 n) W2 ∧ W2.heap[g]? = some (.cells (encV E' M' p) t (0, 0)) ∧ Below g w W2 := by
  have hr := Lib.run_copy_row_string (P := Tryd.prog) w dT sT ty 5 g off n c s (encV E M p) t hu (by kernel_rfl) hg (by omega) (by rw [encV_size]; omega)
  rw [byteCells_bytesOf, hn, he] at hr
  exact ⟨_, hr, setRow_heap w g _ _ t _ hg, below_setRow' _ _ _⟩
def dm : Nat → List Int
  | 0 => List.replicate 256 255
  | i + 1 => (dm i).set ((bytesOf aU).getD i 0).toNat (i : Int)
theorem dm_len : ∀ i, (dm i).length = 256
  | 0 => List.length_replicate
  | i + 1 => by rw [dm, List.length_set, dm_len i]
theorem aU_at : ∀ i : Fin 32, ∃ c : Fin 256, (bytesOf aU).getD i.val 0 = (c.val : Int) ∧ c.val ≠ 10 ∧ c.val ≠ 13 ∧ (dm i.val).getD c.val 0 = 255 := by decide +kernel
set_option maxHeartbeats 1000000 in
set_option maxRecDepth 100000 in
theorem new_enc (w : World) : Calls Tryd.prog 137 #[.string aU] w fun e w' => ∃ m M, e = .returned (.pointer (some ⟨m, 0, none⟩)) ∧ w.heap.size ≤ m ∧ M.length = 256 ∧ w'.heap[m]? = some (.cells (encV (bytesOf aU) M 61) 189 (0, 0)) ∧ Below w.heap.size w w' := by
  have hsz : aU.size = 32 := rfl
  obtain ⟨W2, hc2, hh2, hb2⟩ := copy_enc (w := w.alloc (Obj.cells (Tryd.zeroCells189.setIfInBounds 288 (Value.int IntKind.i32 61)) 189)) (ty := 3) (sT := 9) (E := List.replicate 32 0) (M := List.replicate 256 0) (p := 61) (t := 189) (g := w.heap.size) aU 0 32 32 (bytesOf aU) (List.replicate 256 0) Tryd.underlying22 (by rw [← zero_enc]; exact heap_alloc_new w _) rfl (by simp) (encV_copyE _ _ _ _ rfl)
  obtain ⟨W3, hc3, hh3, hb3⟩ := copy_enc (w := W2) (ty := 3) (sT := 9) (E := bytesOf aU) (M := List.replicate 256 0) (p := 61) (t := 189) (g := w.heap.size) (⟨#[255, 255, 255, 255, 255, 255, 255, 255, 255, 255, 255, 255, 255, 255, 255, 255, 255, 255, 255, 255, 255, 255, 255, 255, 255, 255, 255, 255, 255, 255, 255, 255, 255, 255, 255, 255, 255, 255, 255, 255, 255, 255, 255, 255, 255, 255, 255, 255, 255, 255, 255, 255, 255, 255, 255, 255, 255, 255, 255, 255, 255, 255, 255, 255, 255, 255, 255, 255, 255, 255, 255, 255, 255, 255, 255, 255, 255, 255, 255, 255, 255, 255, 255, 255, 255, 255, 255, 255, 255, 255, 255, 255, 255, 255, 255, 255, 255, 255, 255, 255, 255, 255, 255, 255, 255, 255, 255, 255, 255, 255, 255, 255, 255, 255, 255, 255, 255, 255, 255, 255, 255, 255, 255, 255, 255, 255, 255, 255, 255, 255, 255, 255, 255, 255, 255, 255, 255, 255, 255, 255, 255, 255, 255, 255, 255, 255, 255, 255, 255, 255, 255, 255, 255, 255, 255, 255, 255, 255, 255, 255, 255, 255, 255, 255, 255, 255, 255, 255, 255, 255, 255, 255, 255, 255, 255, 255, 255, 255, 255, 255, 255, 255, 255, 255, 255, 255, 255, 255, 255, 255, 255, 255, 255, 255, 255, 255, 255, 255, 255, 255, 255, 255, 255, 255, 255, 255, 255, 255, 255, 255, 255, 255, 255, 255, 255, 255, 255, 255, 255, 255, 255, 255, 255, 255, 255, 255, 255, 255, 255, 255, 255, 255, 255, 255, 255, 255, 255, 255, 255, 255, 255, 255, 255, 255, 255, 255, 255, 255, 255, 255, 255, 255, 255, 255, 255, 255]⟩ : ByteArray) 32 256 256 (bytesOf aU) (List.replicate 256 255) Tryd.underlying22 hh2 rfl (by rw [bytesOf_length, hsz, List.length_replicate]; omega) (by rw [show bytesOf (⟨#[255, 255, 255, 255, 255, 255, 255, 255, 255, 255, 255, 255, 255, 255, 255, 255, 255, 255, 255, 255, 255, 255, 255, 255, 255, 255, 255, 255, 255, 255, 255, 255, 255, 255, 255, 255, 255, 255, 255, 255, 255, 255, 255, 255, 255, 255, 255, 255, 255, 255, 255, 255, 255, 255, 255, 255, 255, 255, 255, 255, 255, 255, 255, 255, 255, 255, 255, 255, 255, 255, 255, 255, 255, 255, 255, 255, 255, 255, 255, 255, 255, 255, 255, 255, 255, 255, 255, 255, 255, 255, 255, 255, 255, 255, 255, 255, 255, 255, 255, 255, 255, 255, 255, 255, 255, 255, 255, 255, 255, 255, 255, 255, 255, 255, 255, 255, 255, 255, 255, 255, 255, 255, 255, 255, 255, 255, 255, 255, 255, 255, 255, 255, 255, 255, 255, 255, 255, 255, 255, 255, 255, 255, 255, 255, 255, 255, 255, 255, 255, 255, 255, 255, 255, 255, 255, 255, 255, 255, 255, 255, 255, 255, 255, 255, 255, 255, 255, 255, 255, 255, 255, 255, 255, 255, 255, 255, 255, 255, 255, 255, 255, 255, 255, 255, 255, 255, 255, 255, 255, 255, 255, 255, 255, 255, 255, 255, 255, 255, 255, 255, 255, 255, 255, 255, 255, 255, 255, 255, 255, 255, 255, 255, 255, 255, 255, 255, 255, 255, 255, 255, 255, 255, 255, 255, 255, 255, 255, 255, 255, 255, 255, 255, 255, 255, 255, 255, 255, 255, 255, 255, 255, 255, 255, 255, 255, 255, 255, 255, 255, 255, 255, 255, 255, 255, 255, 255]⟩ : ByteArray) = List.replicate 256 255 from by decide +kernel]; exact encV_copyM (bytesOf aU) (List.replicate 256 0) (List.replicate 256 255) 61 (by simp))
  have hB3 := Aside0.mk (((below_alloc (Below.refl w.heap.size w) _).trans hb2).trans hb3)
  have hH3 := Aside0.mk hh3
  clear hh2 hb2 hh3 hb3
  go_enter Tryd.func137, Tryd.ntmps137
  go_wp2
  go_loopw [4] (fun v4 W => ∃ i : Nat, v4 = .int .i64 i ∧ i ≤ 32 ∧ Aside0 (W.heap[w.heap.size]? = some (.cells (encV (bytesOf aU) (dm i) 61) 189 (0, 0))) ∧ Aside0 (Below w.heap.size w W)) (fun v4 _ => (32 - intOf v4).toNat)
  case atStart => exact ⟨0, rfl, by omega, hH3, hB3⟩
  case round =>
    clear hH3 hB3 hc2 hc3
    obtain ⟨i, rfl, hi, hH, hB⟩ := hrel
    by_cases hlt : i < 32
    · obtain ⟨⟨c, hc⟩, e1, e2, e3, e4⟩ := aU_at ⟨i, hlt⟩
      simp only [] at e1 e2 e3 e4
      have d0 : decide ((i : Int) < 32) = true := decide_eq_true (by omega)
      have hbt : bt aU (i : Int) = (c : Int) := by rw [bt_nat]; exact e1
      have hx : ∀ h : i < aU.size, ((aU[i]'h).toNat : Int) = (c : Int) := fun h => by rw [bt_at_nat _ _ h]; exact hbt
      clear hbt
      have hix : ∀ W : World, (Instr.index 9 (.string aU) (.int .i64 (i : Int))).run Tryd.prog W = .ok (.int .u8 (c : Int)) W := fun W => by
        have h2 : i < aU.size := by rw [hsz]; exact hlt
        rw [run_index_string W 9 aU .i64 (i : Int) Tryd.underlying9]
        simp [h2, hx h2]
      have hi2 : i < aU.size := by rw [hsz]; exact hlt
      have f1 : ((c : Int) == 10) = false := beq_eq_false_iff_ne.mpr (by omega)
      have f2 : ((c : Int) == 13) = false := beq_eq_false_iff_ne.mpr (by omega)
      have hl : (bytesOf aU).length = 32 := by rw [bytesOf_length]; rfl
      have hk := encV_cell hH.out (i := 32 + c) (by rw [hl, dm_len]; omega)
      have hv : (bytesOf aU ++ dm i).getD (32 + c) 0 = 255 := by
        rw [List.getD_eq_getElem?_getD, List.getElem?_append_right (by omega), hl, show 32 + c - 32 = c by omega, ← List.getD_eq_getElem?_getD]
        exact e4
      rw [hv] at hk
      obtain ⟨k1, k2⟩ := hk
      have q1 : (c : Int) < 256 := by omega
      have hE1 := Aside0.mk e1
      clear e1 e4 hv
      go_wp2
      go_quiet (fail)
      go_wp2
      have k1' : (wr.drewN nq).cell? ⟨w.heap.size, 32 + c, none⟩ = some (.int .u8 255) := k1
      have k2' : (wr.drewN nq).frozen? ⟨w.heap.size, 32 + c, none⟩ = false := k2
      have hH' : Aside0 ((wr.drewN nq).heap[w.heap.size]? = some (.cells (encV (bytesOf aU) (dm i) 61) 189 (0, 0))) := hH
      have hB' := Aside0.mk (pw_below_drewN hB.out nq)
      clear k1 k2 hH hB
      generalize wr.drewN nq = W9 at *
      go_still_tail 9, (by kernel_rfl)
      go_wp2
      go_roundw
      case rel =>
        have hs := encV_set hH'.out (i := c) (by rw [dm_len]; omega) (i : Int)
        rw [hl] at hs
        refine ⟨i + 1, by simp, by omega, ⟨?_⟩, ⟨?_⟩⟩
        · rw [dm, hE1.out, Int.toNat_natCast]
          exact hs
        · exact (hB'.out.setCell (p := ⟨w.heap.size, 32 + c, none⟩) (Nat.le_refl _) _).trans ⟨rfl, rfl, rfl, Nat.le_refl _, fun _ _ => rfl⟩
      case measure => simp [intOf]; omega
    · obtain rfl : i = 32 := by omega
      go_wp2
      go_ret
      exact ⟨_, _, rfl, Nat.le_refl _, dm_len _, hH.out, hB.out⟩

theorem encV_last (E M : List Int) (p : Int) (h : E.length + M.length = 288) : (encV E M p)[288]? = some (.int .i32 p) := by
  unfold encV
  rw [List.getElem?_toArray, List.getElem?_append_right (by rw [List.length_map, List.length_append]; omega), List.length_map, List.length_append, h]
  rfl
theorem encV_setLast (E M : List Int) (p q : Int) (h : E.length + M.length = 288) : (encV E M p).setIfInBounds 288 (.int .i32 q) = encV E M q := by
  unfold encV
  rw [List.setIfInBounds_toArray, List.set_append_right _ _ (by rw [List.length_map, List.length_append]; omega), List.length_map, List.length_append, h]
  rfl
/-- WithPadding: a new encoding with the same signs. -/
theorem with_pad (E M : List Int) (hE : E.length = 32) (hM : M.length = 256) (w : World) : Calls Tryd.prog 138 #[.agg (encV E M 61), .int .i32 (-1)] w fun e w' => ∃ m, e = .returned (.pointer (some ⟨m, 0, none⟩)) ∧ w.heap.size ≤ m ∧ w'.heap[m]? = some (.cells (encV E M (-1)) 189 (0, 0)) ∧ Below w.heap.size w w' := by
  have hp := encV_last E M 61 (by omega)
  have hq := encV_setLast E M 61 (-1) (by omega)
  go_enter Tryd.func138, Tryd.ntmps138
  go_wp2
  go_ret
  exact ⟨_, rfl, Nat.le_refl _, heap_alloc_new w _, below_alloc (Below.refl _ _) _⟩
set_option maxHeartbeats 2000000 in
set_option maxRecDepth 100000 in
/-- The program's own encoding. -/
theorem hex_enc (w : World) : Calls Tryd.prog 123 #[] w fun e w' => ∃ m M, e = .returned (.pointer (some ⟨m, 0, none⟩)) ∧ w.heap.size ≤ m ∧ M.length = 256 ∧ w'.heap[m]? = some (.cells (encV (bytesOf aU) M (-1)) 189 (0, 0)) ∧ Below w.heap.size w w' := by
  go_enter Tryd.func123, Tryd.ntmps123
  go_wp2_with (first | (go_at_call 137; (refine (new_enc _).mono ?_); rintro e w' ⟨m, M, rfl, hm, hM, hh, hb⟩; (have HH := Aside0.mk hh); (have HB := Aside0.mk hb); clear hh hb))
  refine wp_load_row 189 (.tmp 2) rfl m rfl 189 (encV (bytesOf aU) M 61) (0, 0) _ HH.out Tryd.underlying189 rfl (by rw [encV_size, hM, show (bytesOf aU).length = 32 from rfl]; kernel_rfl) ?_
  go_wp2_with (first | (go_at_call 138; (refine (with_pad (bytesOf aU) M rfl hM _).mono ?_); rintro e w2 ⟨m2, rfl, hm2, hh2, hb2⟩; (have HH2 := Aside0.mk hh2); (have HB2 := Aside0.mk (below_step HB.out hb2)); (have HS2 := Aside0.mk (Nat.le_trans HB.out.size hm2)); clear hh2 hb2))
  go_ret
  exact ⟨_, M, rfl, HS2.out, hM, HH2.out, HB2.out⟩

/-- How much is written: 32 signs of 20 octets. -/
theorem enc_len (E M : List Int) (m : Nat) (w : World) (hE : E.length = 32) (hM : M.length = 256) (hh : w.heap[m]? = some (.cells (encV E M (-1)) 189 (0, 0))) : Calls Tryd.prog 139 #[.pointer (some ⟨m, 0, none⟩), .int .i64 20] w fun e w' => e = .returned (.int .i64 32) ∧ Drawn0 w w' := by
  have hk := (encV_pad hh (i := 288) (by omega)).1
  have HH := Aside0.mk hh
  clear hh
  go_enter Tryd.func139, Tryd.ntmps139
  go_wp2
  go_ret
  exact ⟨rfl, ⟨_, (World.drewN_zero _).symm⟩⟩

end Go.Proofs.YtiilihafcdmccaaDoor.P
/- encoding/base32: what Encode writes of 20 octets. -/
namespace Go.Proofs.YtiilihafcdmccaaDoor.P
open Go.RowKit Go.Proofs.YtiilihafcdmccaaDoorW.PrintWords Go.Proofs.YtiilihafcdmccaaDoorW.PrintLast Go.Proofs.YtiilihafcdmccaaDoorW.PrintMore
set_option linter.unusedVariables false
set_option linter.unusedSimpArgs false

theorem wp_load_pre {P : Program} {o : Oper} {a : Act} {w : World} {K : Act → World → Prop} {Q : Exit → Act → World → Prop} (ty : TypeId) (x : Operand) (ho : o.op = .load ty x)
    (g : Nat) (hx : a.eval x = .pointer (some ⟨g, 0, none⟩)) (vs : List Value) (d : TypeDesc) (hc : ∀ j v, vs[j]? = some v → w.cell? ⟨g, j, none⟩ = some v)
    (hu : P.underlying ty = some d) (hd : (match d with | .struct _ | .array _ _ => true | _ => false) = true) (hi : (P.info? ty).map (·.size) = some vs.length)
    (h : K (a.put o.dst (.agg vs.toArray)) w) : o.wp P a w K Q := by
  have hl : (loadCells ⟨g, 0, none⟩ vs.length).run P w = .ok vs.toArray w :=
    run_loadCells_list (P := P) w ⟨g, 0, none⟩ vs (fun j v hv => by
      have hadd : (⟨g, 0, none⟩ : Addr).add j = ⟨g, j, none⟩ := by unfold Addr.add; split <;> simp_all
      rw [hadd]
      exact hc j v hv)
  have hv : (loadVar ty ⟨g, 0, none⟩).run P w = .ok (.agg vs.toArray) w := by
    cases hq : P.info? ty with
    | none => simp [hq] at hi
    | some i =>
      have hs : i.size = vs.length := by simpa [hq] using hi
      have hagg : (isAgg ty).run P w = .ok true w := by
        unfold isAgg
        rw [Sem.run_bind, run_underlying hu w]
        cases d <;> simp_all
      simp [loadVar, Sem.run_bind, hagg, sizeOf, typeInfo, hq, hs, hl]
  unfold Oper.wp execOp
  simp only [ho, hx, Instr.loadAt, Instr.sureAddr, Sem.run_bind, Sem.run_pure, Result.andThen_ok, hv]
  exact h
theorem twenty (l : List Int) (h : l.length = 20) : ∃ x0 x1 x2 x3 x4 x5 x6 x7 x8 x9 x10 x11 x12 x13 x14 x15 x16 x17 x18 x19, l = [x0, x1, x2, x3, x4, x5, x6, x7, x8, x9, x10, x11, x12, x13, x14, x15, x16, x17, x18, x19] := by
  match l, h with
  | [x0, x1, x2, x3, x4, x5, x6, x7, x8, x9, x10, x11, x12, x13, x14, x15, x16, x17, x18, x19], _ => exact ⟨x0, x1, x2, x3, x4, x5, x6, x7, x8, x9, x10, x11, x12, x13, x14, x15, x16, x17, x18, x19, rfl⟩
theorem and31 {x : Int} (h0 : 0 ≤ x) (h1 : x < 4294967296) : ∃ n : Nat, Go.bits .and .u32 x 31 = (n : Int) ∧ (n : Int) = x % 32 ∧ n < 32 := by
  have h := bits_mask .u32 32 (by decide) (fun n a b => by rw [IntWalk.u32_in _ (by omega)]) 5 (by omega) x h0 (by omega)
  refine ⟨(x % 32).toNat, ?_, by omega, by omega⟩
  rw [show ((2 : Int) ^ 5 - 1) = 31 from rfl, show ((2 : Int) ^ 5) = 32 from rfl] at h
  rw [h]
  omega
theorem lo_eq {hi x4 : Int} (h0 : 0 ≤ hi) (h1 : 0 ≤ x4 ∧ x4 < 256) : Go.bits .or .u32 (hi * 256 % 4294967296) (x4 % 4294967296) = hi % 16777216 * 256 + x4 := by
  have e1 : hi * 256 % 4294967296 = hi % 16777216 * 256 := by omega
  have e2 : x4 % 4294967296 = x4 := by omega
  rw [e1, e2]
  exact bits_join .u32 32 (by decide) (fun n a b => by rw [IntWalk.u32_in _ (by omega)]) 8 _ _ (by omega) (by omega) (by omega) (by omega) (by omega) (by omega)
theorem set8 (A : List Int) (m : Nat) (v0 v1 v2 v3 v4 v5 v6 v7 : Int) (a : Nat) (ha : A.length = a) : ((((((((A ++ List.replicate (8 + m) 0).set a v0).set (a + 1) v1).set (a + 2) v2).set (a + 3) v3).set (a + 4) v4).set (a + 5) v5).set (a + 6) v6).set (a + 7) v7 = (A ++ [v0, v1, v2, v3, v4, v5, v6, v7]) ++ List.replicate m 0 := by
  subst ha
  have e : List.replicate (8 + m) (0 : Int) = 0 :: 0 :: 0 :: 0 :: 0 :: 0 :: 0 :: 0 :: List.replicate m 0 := by
    rw [Nat.add_comm]
    rfl
  rw [e]
  simp [List.set_append_right]
theorem row_at {wr : World} {m e : Nat} {xs : List Int} (h : wr.heap[m]? = some (.cells (rowV xs) e (0, 0))) (i : Nat) (hi : i < xs.length) : ∃ z, wr.cell? ⟨m, i, none⟩ = some (.int .u8 z) ∧ wr.frozen? ⟨m, i, none⟩ = false := ⟨_, row_cell h hi⟩
theorem sign_at {wr : World} {m : Nat} {M : List Int} {p : Int} (h : wr.heap[m]? = some (.cells (encV (bytesOf aU) M p) 189 (0, 0))) (i : Nat) (hi : i < 32) : wr.cell? ⟨m, i, none⟩ = some (.int .u8 (dgU i)) := by
  have hl : (bytesOf aU).length = 32 := rfl
  rw [(encV_cell h (i := i) (by omega)).1, List.getD_eq_getElem?_getD, List.getElem?_append_left (by omega)]
  have h2 : ∀ i : Fin 32, (bytesOf aU)[i.val]? = some (dgU i.val) := by decide
  rw [h2 ⟨i, hi⟩]
  rfl
theorem stores8 {W9 w00 : World} {mE md bs : Nat} {l : List Int} {cs : Array Value} (A : List Int) (m a : Nat) (hA : A.length = a) (v0 v1 v2 v3 v4 v5 v6 v7 : Int) (hn1 : mE ≠ md) (hn2 : bs ≠ md) (hmd : w00.heap.size ≤ md)
    (hE : W9.heap[mE]? = some (.cells cs 189 (0, 0))) (hS : RowR W9 bs l) (hR : W9.heap[md]? = some (.cells (rowV (A ++ List.replicate (8 + m) 0)) 5 (0, 0))) (hb : Below w00.heap.size w00 W9) :
    ((((((((W9.setCell ⟨md, a, none⟩ (.int .u8 v0)).setCell ⟨md, a + 1, none⟩ (.int .u8 v1)).setCell ⟨md, a + 2, none⟩ (.int .u8 v2)).setCell ⟨md, a + 3, none⟩ (.int .u8 v3)).setCell ⟨md, a + 4, none⟩ (.int .u8 v4)).setCell ⟨md, a + 5, none⟩ (.int .u8 v5)).setCell ⟨md, a + 6, none⟩ (.int .u8 v6)).setCell ⟨md, a + 7, none⟩ (.int .u8 v7)).heap[mE]? = some (.cells cs 189 (0, 0)) ∧ RowR ((((((((W9.setCell ⟨md, a, none⟩ (.int .u8 v0)).setCell ⟨md, a + 1, none⟩ (.int .u8 v1)).setCell ⟨md, a + 2, none⟩ (.int .u8 v2)).setCell ⟨md, a + 3, none⟩ (.int .u8 v3)).setCell ⟨md, a + 4, none⟩ (.int .u8 v4)).setCell ⟨md, a + 5, none⟩ (.int .u8 v5)).setCell ⟨md, a + 6, none⟩ (.int .u8 v6)).setCell ⟨md, a + 7, none⟩ (.int .u8 v7)) bs l ∧ ((((((((W9.setCell ⟨md, a, none⟩ (.int .u8 v0)).setCell ⟨md, a + 1, none⟩ (.int .u8 v1)).setCell ⟨md, a + 2, none⟩ (.int .u8 v2)).setCell ⟨md, a + 3, none⟩ (.int .u8 v3)).setCell ⟨md, a + 4, none⟩ (.int .u8 v4)).setCell ⟨md, a + 5, none⟩ (.int .u8 v5)).setCell ⟨md, a + 6, none⟩ (.int .u8 v6)).setCell ⟨md, a + 7, none⟩ (.int .u8 v7)).heap[md]? = some (.cells (rowV ((A ++ [v0, v1, v2, v3, v4, v5, v6, v7]) ++ List.replicate m 0)) 5 (0, 0)) ∧ Below w00.heap.size w00 ((((((((W9.setCell ⟨md, a, none⟩ (.int .u8 v0)).setCell ⟨md, a + 1, none⟩ (.int .u8 v1)).setCell ⟨md, a + 2, none⟩ (.int .u8 v2)).setCell ⟨md, a + 3, none⟩ (.int .u8 v3)).setCell ⟨md, a + 4, none⟩ (.int .u8 v4)).setCell ⟨md, a + 5, none⟩ (.int .u8 v5)).setCell ⟨md, a + 6, none⟩ (.int .u8 v6)).setCell ⟨md, a + 7, none⟩ (.int .u8 v7)) := by
  have hl : (A ++ List.replicate (8 + m) (0 : Int)).length = a + (8 + m) := by rw [List.length_append, hA, List.length_replicate]
  have K : ∀ (W : World) (k i : Nat) (v : Value), k ≠ md → (W.setCell ⟨md, i, none⟩ v).heap[k]? = W.heap[k]? := fun W k i v h => Below.heap_setCell _ _ _ _ h
  refine ⟨?_, hS.kept ?_, ?_, ?_⟩
  · rw [K _ _ _ _ hn1, K _ _ _ _ hn1, K _ _ _ _ hn1, K _ _ _ _ hn1, K _ _ _ _ hn1, K _ _ _ _ hn1, K _ _ _ _ hn1, K _ _ _ _ hn1, hE]
  · rw [K _ _ _ _ hn2, K _ _ _ _ hn2, K _ _ _ _ hn2, K _ _ _ _ hn2, K _ _ _ _ hn2, K _ _ _ _ hn2, K _ _ _ _ hn2, K _ _ _ _ hn2]
  · have h0 := row_set hR (i := a) (by omega) v0
    have h1 := row_set h0 (i := a + 1) (by simp only [List.length_set]; omega) v1
    have h2 := row_set h1 (i := a + 2) (by simp only [List.length_set]; omega) v2
    have h3 := row_set h2 (i := a + 3) (by simp only [List.length_set]; omega) v3
    have h4 := row_set h3 (i := a + 4) (by simp only [List.length_set]; omega) v4
    have h5 := row_set h4 (i := a + 5) (by simp only [List.length_set]; omega) v5
    have h6 := row_set h5 (i := a + 6) (by simp only [List.length_set]; omega) v6
    have h7 := row_set h6 (i := a + 7) (by simp only [List.length_set]; omega) v7
    rw [set8 A m v0 v1 v2 v3 v4 v5 v6 v7 a hA] at h7
    exact h7
  · have B : ∀ (W : World) (i : Nat) (v : Value), Below w00.heap.size w00 W → Below w00.heap.size w00 (W.setCell ⟨md, i, none⟩ v) := fun W i v h => h.setCell (p := ⟨md, i, none⟩) hmd v
    exact B _ _ _ (B _ _ _ (B _ _ _ (B _ _ _ (B _ _ _ (B _ _ _ (B _ _ _ (B _ _ _ hb)))))))
def pre5 (l : List Int) (i : Nat) : List Int := ((enc5 l).map dgU).take (8 * i)
set_option maxHeartbeats 4000000 in
set_option maxRecDepth 100000 in
theorem enc_run (l M : List Int) (mE md bs c0 : Nat) (w00 w : World) (hl : l.length = 20) (hB : IsB l) (hM : M.length = 256) (hE : w.heap[mE]? = some (.cells (encV (bytesOf aU) M (-1)) 189 (0, 0))) (hs : RowR w bs l) (hc : 20 ≤ c0) (hd : w.heap[md]? = some (.cells (rowV (List.replicate 32 0)) 5 (0, 0)))
    (hn1 : mE ≠ md) (hn2 : bs ≠ md) (hmd : w00.heap.size ≤ md) (hBel : Below w00.heap.size w00 w) : Calls Tryd.prog 140 #[.pointer (some ⟨mE, 0, none⟩), .slice (some ⟨md, 0, none⟩) 32 32, .slice (some ⟨bs, 0, none⟩) 20 c0] w fun e w' => e = .returned (.tuple #[]) ∧ w'.heap[md]? = some (.cells (rowV ((enc5 l).map dgU)) 5 (0, 0)) ∧ Below w00.heap.size w00 w' := by
  have hE0 := Aside0.mk hE
  have hS0 := Aside0.mk hs
  have hD0 := Aside0.mk hd
  have hB0 := Aside0.mk hBel
  clear hE hs hd hBel
  have hbB := hB
  go_enter Tryd.func140, Tryd.ntmps140
  obtain ⟨vs, hvs⟩ : ∃ vs : List Value, vs = (bytesOf aU).map fun x => Value.int .u8 x := ⟨_, rfl⟩
  have hvl := Aside0.mk (show vs.length = 32 by rw [hvs, List.length_map]; rfl)
  have hpre0 := Aside0.mk (show ∀ j v, vs[j]? = some v → w.cell? ⟨mE, j, none⟩ = some v from fun j v hj => by
    rw [hvs, List.getElem?_map, Option.map_eq_some_iff] at hj
    obtain ⟨x, hx, rfl⟩ := hj
    obtain ⟨hj, hx⟩ := List.getElem?_eq_some_iff.1 hx
    have := (encV_cell hE0.out (i := j) (by omega)).1
    rw [List.getD_eq_getElem?_getD, List.getElem?_append_left hj, List.getElem?_eq_getElem hj, hx] at this
    exact this)
  clear hvs
  repeat (first | (refine wp_load_pre 187 (.tmp 16) rfl mE rfl vs _ hpre0.out Tryd.underlying187 rfl (by rw [hvl.out]; kernel_rfl) ?_; simp only [Act.put, List.setIfInBounds_toArray, Array.set!_eq_setIfInBounds, List.set_cons_succ, List.set_cons_zero]) | go_step)
  go_wp2
  clear hpre0 hvl
  go_loopw [1, 2] (fun v1 v2 W => ∃ (i : Nat) (A D : Option Addr), i ≤ 4 ∧ v2 = .slice A (20 - 5 * i) (c0 - 5 * i) ∧ (i < 4 → A = some ⟨bs, 5 * i, none⟩) ∧ v1 = .slice D (32 - 8 * i) (32 - 8 * i) ∧ (i < 4 → D = some ⟨md, 8 * i, none⟩) ∧ Aside0 (W.heap[mE]? = some (.cells (encV (bytesOf aU) M (-1)) 189 (0, 0))) ∧ Aside0 (RowR W bs l) ∧ Aside0 (W.heap[md]? = some (.cells (rowV (pre5 l i ++ List.replicate (32 - 8 * i) 0)) 5 (0, 0))) ∧ Aside0 (Below w00.heap.size w00 W)) (fun v1 v2 _ => match v2 with | .slice _ n _ => n | _ => 0)
  case atStart => exact ⟨0, _, _, by omega, rfl, fun _ => rfl, rfl, fun _ => rfl, hE0, hS0, by simpa [pre5] using hD0, hB0⟩
  case round =>
    clear hE0 hS0 hD0 hB0
    obtain ⟨i, A, D, hi, rfl, hA, rfl, hD, hE, hS, hR, hb⟩ := hrel
    have hout : ((enc5 l).map dgU).length = 32 := by
      obtain ⟨x0, x1, x2, x3, x4, x5, x6, x7, x8, x9, x10, x11, x12, x13, x14, x15, x16, x17, x18, x19, rfl⟩ := twenty l hl
      simp [enc5, g5]
    rcases (show i = 0 ∨ i = 1 ∨ i = 2 ∨ i = 3 ∨ i = 4 by omega) with rfl | rfl | rfl | rfl | rfl
    · obtain rfl := hA (by omega)
      obtain rfl := hD (by omega)
      clear hA hD hi
      simp only [Nat.mul_zero, Nat.sub_zero, Nat.mul_one, Nat.reduceMul, Nat.reduceSub]
      have hpl : (pre5 l 0).length = 0 := by unfold pre5; rw [List.length_take, hout]; rfl
      have hrl : (pre5 l 0 ++ List.replicate 32 (0 : Int)).length = 32 := by rw [List.length_append, hpl, List.length_replicate]
      have s0 := hS.out 0 (by omega)
      have b0 := hbB (l.getD 0 0) (by rw [List.getD_eq_getElem?_getD, List.getElem?_eq_getElem (by omega : 0 < l.length)]; exact List.getElem_mem _)
      have s1 := hS.out 1 (by omega)
      have b1 := hbB (l.getD 1 0) (by rw [List.getD_eq_getElem?_getD, List.getElem?_eq_getElem (by omega : 1 < l.length)]; exact List.getElem_mem _)
      have s2 := hS.out 2 (by omega)
      have b2 := hbB (l.getD 2 0) (by rw [List.getD_eq_getElem?_getD, List.getElem?_eq_getElem (by omega : 2 < l.length)]; exact List.getElem_mem _)
      have s3 := hS.out 3 (by omega)
      have b3 := hbB (l.getD 3 0) (by rw [List.getD_eq_getElem?_getD, List.getElem?_eq_getElem (by omega : 3 < l.length)]; exact List.getElem_mem _)
      have s4 := hS.out 4 (by omega)
      have b4 := hbB (l.getD 4 0) (by rw [List.getD_eq_getElem?_getD, List.getElem?_eq_getElem (by omega : 4 < l.length)]; exact List.getElem_mem _)
      have hnx : pre5 l 1 = pre5 l 0 ++ (g5 (l.getD 0 0) (l.getD 1 0) (l.getD 2 0) (l.getD 3 0) (l.getD 4 0)).map dgU := by
        obtain ⟨x0, x1, x2, x3, x4, x5, x6, x7, x8, x9, x10, x11, x12, x13, x14, x15, x16, x17, x18, x19, rfl⟩ := twenty l hl
        rfl
      generalize l.getD 0 0 = x0 at s0 b0 hnx
      generalize l.getD 1 0 = x1 at s1 b1 hnx
      generalize l.getD 2 0 = x2 at s2 b2 hnx
      generalize l.getD 3 0 = x3 at s3 b3 hnx
      generalize l.getD 4 0 = x4 at s4 b4 hnx
      have B0 := Aside0.mk b0
      have B1 := Aside0.mk b1
      have B2 := Aside0.mk b2
      have B3 := Aside0.mk b3
      have B4 := Aside0.mk b4
      clear b0 b1 b2 b3 b4
      repeat go_step
      go_quiet (fail)
      have b0 := B0.out
      have b1 := B1.out
      have b2 := B2.out
      have b3 := B3.out
      have b4 := B4.out
      have hhi := wdv_eq b0 b1 b2 b3
      unfold wdv at hhi
      generalize hh9 : Go.bits .or .u32 (Go.bits .or .u32 (Go.bits .or .u32 (x0 % 4294967296 * 16777216 % 4294967296) (x1 % 4294967296 * 65536 % 4294967296)) (x2 % 4294967296 * 256 % 4294967296)) (x3 % 4294967296) = hi at hhi ⊢
      clear hh9
      have hh0 : 0 ≤ hi ∧ hi < 4294967296 := by omega
      have hlo := lo_eq hh0.1 b4
      obtain ⟨lo, hlo2⟩ : ∃ lo, lo = hi % 16777216 * 256 + x4 := ⟨_, rfl⟩
      rw [← hlo2] at hlo
      obtain ⟨n0, e0, f0, l0⟩ := and31 (x := hi / 134217728) (by omega) (by omega)
      obtain ⟨n1, e1, f1, l1⟩ := and31 (x := hi / 4194304) (by omega) (by omega)
      obtain ⟨n2, e2, f2, l2⟩ := and31 (x := hi / 131072) (by omega) (by omega)
      obtain ⟨n3, e3, f3, l3⟩ := and31 (x := hi / 4096) (by omega) (by omega)
      obtain ⟨n4, e4, f4, l4⟩ := and31 (x := hi / 128) (by omega) (by omega)
      obtain ⟨n5, e5, f5, l5⟩ := and31 (x := hi / 4) (by omega) (by omega)
      obtain ⟨n6, e6, f6, l6⟩ := and31 (x := lo / 32) (by omega) (by omega)
      obtain ⟨n7, e7, f7, l7⟩ := and31 (x := lo) (by omega) (by omega)
      have g5e : g5 x0 x1 x2 x3 x4 = [(n0 : Int), n1, n2, n3, n4, n5, n6, n7] := by
        unfold g5
        have q0 : x0 / 8 = n0 := by omega
        have q1 : x0 % 8 * 4 + x1 / 64 = n1 := by omega
        have q2 : x1 / 2 % 32 = n2 := by omega
        have q3 : x1 % 2 * 16 + x2 / 16 = n3 := by omega
        have q4 : x2 % 16 * 2 + x3 / 128 = n4 := by omega
        have q5 : x3 / 4 % 32 = n5 := by omega
        have q6 : x3 % 4 * 8 + x4 / 32 = n6 := by omega
        have q7 : x4 % 32 = n7 := by omega
        rw [q0, q1, q2, q3, q4, q5, q6, q7]
      rw [g5e] at hnx
      have hnx1 := Aside0.mk hnx
      clear hnx g5e hhi hlo2 f0 f1 f2 f3 f4 f5 f6 f7 hh0 b0 b1 b2 b3 b4 B0 B1 B2 B3 B4 s0 s1 s2 s3
      have hE1 : Aside0 ((wr.drewN nq).heap[mE]? = some (.cells (encV (bytesOf aU) M (-1)) 189 (0, 0))) := hE
      have t4 : (wr.drewN nq).cell? ⟨bs, 4, none⟩ = some (.int .u8 x4) := s4
      clear s4
      have hS1 : Aside0 (RowR (wr.drewN nq) bs l) := hS
      have hR1 : Aside0 ((wr.drewN nq).heap[md]? = some (.cells (rowV (pre5 l 0 ++ List.replicate 32 0)) 5 (0, 0))) := hR
      have hb1 := Aside0.mk (pw_below_drewN hb.out nq)
      clear hE hS hR hb
      generalize wr.drewN nq = W9 at *
      have cc0 := sign_at hE1.out n0 l0
      obtain ⟨z0, d0, y0⟩ := row_at hR1.out 0 (by omega)
      have m0 : (n0 : Int) < 32 := by omega
      have cc1 := sign_at hE1.out n1 l1
      obtain ⟨z1, d1, y1⟩ := row_at hR1.out 1 (by omega)
      have m1 : (n1 : Int) < 32 := by omega
      have cc2 := sign_at hE1.out n2 l2
      obtain ⟨z2, d2, y2⟩ := row_at hR1.out 2 (by omega)
      have m2 : (n2 : Int) < 32 := by omega
      have cc3 := sign_at hE1.out n3 l3
      obtain ⟨z3, d3, y3⟩ := row_at hR1.out 3 (by omega)
      have m3 : (n3 : Int) < 32 := by omega
      have cc4 := sign_at hE1.out n4 l4
      obtain ⟨z4, d4, y4⟩ := row_at hR1.out 4 (by omega)
      have m4 : (n4 : Int) < 32 := by omega
      have cc5 := sign_at hE1.out n5 l5
      obtain ⟨z5, d5, y5⟩ := row_at hR1.out 5 (by omega)
      have m5 : (n5 : Int) < 32 := by omega
      have cc6 := sign_at hE1.out n6 l6
      obtain ⟨z6, d6, y6⟩ := row_at hR1.out 6 (by omega)
      have m6 : (n6 : Int) < 32 := by omega
      have cc7 := sign_at hE1.out n7 l7
      obtain ⟨z7, d7, y7⟩ := row_at hR1.out 7 (by omega)
      have m7 : (n7 : Int) < 32 := by omega
      have hst := Aside0.mk (stores8 (pre5 l 0) 24 0 hpl (dgU n0) (dgU n1) (dgU n2) (dgU n3) (dgU n4) (dgU n5) (dgU n6) (dgU n7) hn1 hn2 hmd hE1.out hS1.out hR1.out hb1.out)
      repeat go_step
      go_roundw
      case rel => exact ⟨1, _, _, by omega, rfl, fun _ => rfl, rfl, fun _ => rfl, ⟨hst.out.1⟩, ⟨hst.out.2.1⟩, ⟨by rw [hnx1.out]; exact hst.out.2.2.1⟩, ⟨hst.out.2.2.2⟩⟩
      case measure => simp
    · obtain rfl := hA (by omega)
      obtain rfl := hD (by omega)
      clear hA hD hi
      simp only [Nat.mul_zero, Nat.sub_zero, Nat.mul_one, Nat.reduceMul, Nat.reduceSub]
      have hpl : (pre5 l 1).length = 8 := by unfold pre5; rw [List.length_take, hout]; rfl
      have hrl : (pre5 l 1 ++ List.replicate 24 (0 : Int)).length = 32 := by rw [List.length_append, hpl, List.length_replicate]
      have s0 := hS.out 5 (by omega)
      have b0 := hbB (l.getD 5 0) (by rw [List.getD_eq_getElem?_getD, List.getElem?_eq_getElem (by omega : 5 < l.length)]; exact List.getElem_mem _)
      have s1 := hS.out 6 (by omega)
      have b1 := hbB (l.getD 6 0) (by rw [List.getD_eq_getElem?_getD, List.getElem?_eq_getElem (by omega : 6 < l.length)]; exact List.getElem_mem _)
      have s2 := hS.out 7 (by omega)
      have b2 := hbB (l.getD 7 0) (by rw [List.getD_eq_getElem?_getD, List.getElem?_eq_getElem (by omega : 7 < l.length)]; exact List.getElem_mem _)
      have s3 := hS.out 8 (by omega)
      have b3 := hbB (l.getD 8 0) (by rw [List.getD_eq_getElem?_getD, List.getElem?_eq_getElem (by omega : 8 < l.length)]; exact List.getElem_mem _)
      have s4 := hS.out 9 (by omega)
      have b4 := hbB (l.getD 9 0) (by rw [List.getD_eq_getElem?_getD, List.getElem?_eq_getElem (by omega : 9 < l.length)]; exact List.getElem_mem _)
      have hnx : pre5 l 2 = pre5 l 1 ++ (g5 (l.getD 5 0) (l.getD 6 0) (l.getD 7 0) (l.getD 8 0) (l.getD 9 0)).map dgU := by
        obtain ⟨x0, x1, x2, x3, x4, x5, x6, x7, x8, x9, x10, x11, x12, x13, x14, x15, x16, x17, x18, x19, rfl⟩ := twenty l hl
        rfl
      generalize l.getD 5 0 = x0 at s0 b0 hnx
      generalize l.getD 6 0 = x1 at s1 b1 hnx
      generalize l.getD 7 0 = x2 at s2 b2 hnx
      generalize l.getD 8 0 = x3 at s3 b3 hnx
      generalize l.getD 9 0 = x4 at s4 b4 hnx
      have B0 := Aside0.mk b0
      have B1 := Aside0.mk b1
      have B2 := Aside0.mk b2
      have B3 := Aside0.mk b3
      have B4 := Aside0.mk b4
      clear b0 b1 b2 b3 b4
      repeat go_step
      go_quiet (fail)
      have b0 := B0.out
      have b1 := B1.out
      have b2 := B2.out
      have b3 := B3.out
      have b4 := B4.out
      have hhi := wdv_eq b0 b1 b2 b3
      unfold wdv at hhi
      generalize hh9 : Go.bits .or .u32 (Go.bits .or .u32 (Go.bits .or .u32 (x0 % 4294967296 * 16777216 % 4294967296) (x1 % 4294967296 * 65536 % 4294967296)) (x2 % 4294967296 * 256 % 4294967296)) (x3 % 4294967296) = hi at hhi ⊢
      clear hh9
      have hh0 : 0 ≤ hi ∧ hi < 4294967296 := by omega
      have hlo := lo_eq hh0.1 b4
      obtain ⟨lo, hlo2⟩ : ∃ lo, lo = hi % 16777216 * 256 + x4 := ⟨_, rfl⟩
      rw [← hlo2] at hlo
      obtain ⟨n0, e0, f0, l0⟩ := and31 (x := hi / 134217728) (by omega) (by omega)
      obtain ⟨n1, e1, f1, l1⟩ := and31 (x := hi / 4194304) (by omega) (by omega)
      obtain ⟨n2, e2, f2, l2⟩ := and31 (x := hi / 131072) (by omega) (by omega)
      obtain ⟨n3, e3, f3, l3⟩ := and31 (x := hi / 4096) (by omega) (by omega)
      obtain ⟨n4, e4, f4, l4⟩ := and31 (x := hi / 128) (by omega) (by omega)
      obtain ⟨n5, e5, f5, l5⟩ := and31 (x := hi / 4) (by omega) (by omega)
      obtain ⟨n6, e6, f6, l6⟩ := and31 (x := lo / 32) (by omega) (by omega)
      obtain ⟨n7, e7, f7, l7⟩ := and31 (x := lo) (by omega) (by omega)
      have g5e : g5 x0 x1 x2 x3 x4 = [(n0 : Int), n1, n2, n3, n4, n5, n6, n7] := by
        unfold g5
        have q0 : x0 / 8 = n0 := by omega
        have q1 : x0 % 8 * 4 + x1 / 64 = n1 := by omega
        have q2 : x1 / 2 % 32 = n2 := by omega
        have q3 : x1 % 2 * 16 + x2 / 16 = n3 := by omega
        have q4 : x2 % 16 * 2 + x3 / 128 = n4 := by omega
        have q5 : x3 / 4 % 32 = n5 := by omega
        have q6 : x3 % 4 * 8 + x4 / 32 = n6 := by omega
        have q7 : x4 % 32 = n7 := by omega
        rw [q0, q1, q2, q3, q4, q5, q6, q7]
      rw [g5e] at hnx
      have hnx1 := Aside0.mk hnx
      clear hnx g5e hhi hlo2 f0 f1 f2 f3 f4 f5 f6 f7 hh0 b0 b1 b2 b3 b4 B0 B1 B2 B3 B4 s0 s1 s2 s3
      have hE1 : Aside0 ((wr.drewN nq).heap[mE]? = some (.cells (encV (bytesOf aU) M (-1)) 189 (0, 0))) := hE
      have t4 : (wr.drewN nq).cell? ⟨bs, 9, none⟩ = some (.int .u8 x4) := s4
      clear s4
      have hS1 : Aside0 (RowR (wr.drewN nq) bs l) := hS
      have hR1 : Aside0 ((wr.drewN nq).heap[md]? = some (.cells (rowV (pre5 l 1 ++ List.replicate 24 0)) 5 (0, 0))) := hR
      have hb1 := Aside0.mk (pw_below_drewN hb.out nq)
      clear hE hS hR hb
      generalize wr.drewN nq = W9 at *
      have cc0 := sign_at hE1.out n0 l0
      obtain ⟨z0, d0, y0⟩ := row_at hR1.out 8 (by omega)
      have m0 : (n0 : Int) < 32 := by omega
      have cc1 := sign_at hE1.out n1 l1
      obtain ⟨z1, d1, y1⟩ := row_at hR1.out 9 (by omega)
      have m1 : (n1 : Int) < 32 := by omega
      have cc2 := sign_at hE1.out n2 l2
      obtain ⟨z2, d2, y2⟩ := row_at hR1.out 10 (by omega)
      have m2 : (n2 : Int) < 32 := by omega
      have cc3 := sign_at hE1.out n3 l3
      obtain ⟨z3, d3, y3⟩ := row_at hR1.out 11 (by omega)
      have m3 : (n3 : Int) < 32 := by omega
      have cc4 := sign_at hE1.out n4 l4
      obtain ⟨z4, d4, y4⟩ := row_at hR1.out 12 (by omega)
      have m4 : (n4 : Int) < 32 := by omega
      have cc5 := sign_at hE1.out n5 l5
      obtain ⟨z5, d5, y5⟩ := row_at hR1.out 13 (by omega)
      have m5 : (n5 : Int) < 32 := by omega
      have cc6 := sign_at hE1.out n6 l6
      obtain ⟨z6, d6, y6⟩ := row_at hR1.out 14 (by omega)
      have m6 : (n6 : Int) < 32 := by omega
      have cc7 := sign_at hE1.out n7 l7
      obtain ⟨z7, d7, y7⟩ := row_at hR1.out 15 (by omega)
      have m7 : (n7 : Int) < 32 := by omega
      have hst := Aside0.mk (stores8 (pre5 l 1) 16 8 hpl (dgU n0) (dgU n1) (dgU n2) (dgU n3) (dgU n4) (dgU n5) (dgU n6) (dgU n7) hn1 hn2 hmd hE1.out hS1.out hR1.out hb1.out)
      repeat go_step
      go_roundw
      case rel => exact ⟨2, _, _, by omega, rfl, fun _ => rfl, rfl, fun _ => rfl, ⟨hst.out.1⟩, ⟨hst.out.2.1⟩, ⟨by rw [hnx1.out]; exact hst.out.2.2.1⟩, ⟨hst.out.2.2.2⟩⟩
      case measure => simp
    · obtain rfl := hA (by omega)
      obtain rfl := hD (by omega)
      clear hA hD hi
      simp only [Nat.mul_zero, Nat.sub_zero, Nat.mul_one, Nat.reduceMul, Nat.reduceSub]
      have hpl : (pre5 l 2).length = 16 := by unfold pre5; rw [List.length_take, hout]; rfl
      have hrl : (pre5 l 2 ++ List.replicate 16 (0 : Int)).length = 32 := by rw [List.length_append, hpl, List.length_replicate]
      have s0 := hS.out 10 (by omega)
      have b0 := hbB (l.getD 10 0) (by rw [List.getD_eq_getElem?_getD, List.getElem?_eq_getElem (by omega : 10 < l.length)]; exact List.getElem_mem _)
      have s1 := hS.out 11 (by omega)
      have b1 := hbB (l.getD 11 0) (by rw [List.getD_eq_getElem?_getD, List.getElem?_eq_getElem (by omega : 11 < l.length)]; exact List.getElem_mem _)
      have s2 := hS.out 12 (by omega)
      have b2 := hbB (l.getD 12 0) (by rw [List.getD_eq_getElem?_getD, List.getElem?_eq_getElem (by omega : 12 < l.length)]; exact List.getElem_mem _)
      have s3 := hS.out 13 (by omega)
      have b3 := hbB (l.getD 13 0) (by rw [List.getD_eq_getElem?_getD, List.getElem?_eq_getElem (by omega : 13 < l.length)]; exact List.getElem_mem _)
      have s4 := hS.out 14 (by omega)
      have b4 := hbB (l.getD 14 0) (by rw [List.getD_eq_getElem?_getD, List.getElem?_eq_getElem (by omega : 14 < l.length)]; exact List.getElem_mem _)
      have hnx : pre5 l 3 = pre5 l 2 ++ (g5 (l.getD 10 0) (l.getD 11 0) (l.getD 12 0) (l.getD 13 0) (l.getD 14 0)).map dgU := by
        obtain ⟨x0, x1, x2, x3, x4, x5, x6, x7, x8, x9, x10, x11, x12, x13, x14, x15, x16, x17, x18, x19, rfl⟩ := twenty l hl
        rfl
      generalize l.getD 10 0 = x0 at s0 b0 hnx
      generalize l.getD 11 0 = x1 at s1 b1 hnx
      generalize l.getD 12 0 = x2 at s2 b2 hnx
      generalize l.getD 13 0 = x3 at s3 b3 hnx
      generalize l.getD 14 0 = x4 at s4 b4 hnx
      have B0 := Aside0.mk b0
      have B1 := Aside0.mk b1
      have B2 := Aside0.mk b2
      have B3 := Aside0.mk b3
      have B4 := Aside0.mk b4
      clear b0 b1 b2 b3 b4
      repeat go_step
      go_quiet (fail)
      have b0 := B0.out
      have b1 := B1.out
      have b2 := B2.out
      have b3 := B3.out
      have b4 := B4.out
      have hhi := wdv_eq b0 b1 b2 b3
      unfold wdv at hhi
      generalize hh9 : Go.bits .or .u32 (Go.bits .or .u32 (Go.bits .or .u32 (x0 % 4294967296 * 16777216 % 4294967296) (x1 % 4294967296 * 65536 % 4294967296)) (x2 % 4294967296 * 256 % 4294967296)) (x3 % 4294967296) = hi at hhi ⊢
      clear hh9
      have hh0 : 0 ≤ hi ∧ hi < 4294967296 := by omega
      have hlo := lo_eq hh0.1 b4
      obtain ⟨lo, hlo2⟩ : ∃ lo, lo = hi % 16777216 * 256 + x4 := ⟨_, rfl⟩
      rw [← hlo2] at hlo
      obtain ⟨n0, e0, f0, l0⟩ := and31 (x := hi / 134217728) (by omega) (by omega)
      obtain ⟨n1, e1, f1, l1⟩ := and31 (x := hi / 4194304) (by omega) (by omega)
      obtain ⟨n2, e2, f2, l2⟩ := and31 (x := hi / 131072) (by omega) (by omega)
      obtain ⟨n3, e3, f3, l3⟩ := and31 (x := hi / 4096) (by omega) (by omega)
      obtain ⟨n4, e4, f4, l4⟩ := and31 (x := hi / 128) (by omega) (by omega)
      obtain ⟨n5, e5, f5, l5⟩ := and31 (x := hi / 4) (by omega) (by omega)
      obtain ⟨n6, e6, f6, l6⟩ := and31 (x := lo / 32) (by omega) (by omega)
      obtain ⟨n7, e7, f7, l7⟩ := and31 (x := lo) (by omega) (by omega)
      have g5e : g5 x0 x1 x2 x3 x4 = [(n0 : Int), n1, n2, n3, n4, n5, n6, n7] := by
        unfold g5
        have q0 : x0 / 8 = n0 := by omega
        have q1 : x0 % 8 * 4 + x1 / 64 = n1 := by omega
        have q2 : x1 / 2 % 32 = n2 := by omega
        have q3 : x1 % 2 * 16 + x2 / 16 = n3 := by omega
        have q4 : x2 % 16 * 2 + x3 / 128 = n4 := by omega
        have q5 : x3 / 4 % 32 = n5 := by omega
        have q6 : x3 % 4 * 8 + x4 / 32 = n6 := by omega
        have q7 : x4 % 32 = n7 := by omega
        rw [q0, q1, q2, q3, q4, q5, q6, q7]
      rw [g5e] at hnx
      have hnx1 := Aside0.mk hnx
      clear hnx g5e hhi hlo2 f0 f1 f2 f3 f4 f5 f6 f7 hh0 b0 b1 b2 b3 b4 B0 B1 B2 B3 B4 s0 s1 s2 s3
      have hE1 : Aside0 ((wr.drewN nq).heap[mE]? = some (.cells (encV (bytesOf aU) M (-1)) 189 (0, 0))) := hE
      have t4 : (wr.drewN nq).cell? ⟨bs, 14, none⟩ = some (.int .u8 x4) := s4
      clear s4
      have hS1 : Aside0 (RowR (wr.drewN nq) bs l) := hS
      have hR1 : Aside0 ((wr.drewN nq).heap[md]? = some (.cells (rowV (pre5 l 2 ++ List.replicate 16 0)) 5 (0, 0))) := hR
      have hb1 := Aside0.mk (pw_below_drewN hb.out nq)
      clear hE hS hR hb
      generalize wr.drewN nq = W9 at *
      have cc0 := sign_at hE1.out n0 l0
      obtain ⟨z0, d0, y0⟩ := row_at hR1.out 16 (by omega)
      have m0 : (n0 : Int) < 32 := by omega
      have cc1 := sign_at hE1.out n1 l1
      obtain ⟨z1, d1, y1⟩ := row_at hR1.out 17 (by omega)
      have m1 : (n1 : Int) < 32 := by omega
      have cc2 := sign_at hE1.out n2 l2
      obtain ⟨z2, d2, y2⟩ := row_at hR1.out 18 (by omega)
      have m2 : (n2 : Int) < 32 := by omega
      have cc3 := sign_at hE1.out n3 l3
      obtain ⟨z3, d3, y3⟩ := row_at hR1.out 19 (by omega)
      have m3 : (n3 : Int) < 32 := by omega
      have cc4 := sign_at hE1.out n4 l4
      obtain ⟨z4, d4, y4⟩ := row_at hR1.out 20 (by omega)
      have m4 : (n4 : Int) < 32 := by omega
      have cc5 := sign_at hE1.out n5 l5
      obtain ⟨z5, d5, y5⟩ := row_at hR1.out 21 (by omega)
      have m5 : (n5 : Int) < 32 := by omega
      have cc6 := sign_at hE1.out n6 l6
      obtain ⟨z6, d6, y6⟩ := row_at hR1.out 22 (by omega)
      have m6 : (n6 : Int) < 32 := by omega
      have cc7 := sign_at hE1.out n7 l7
      obtain ⟨z7, d7, y7⟩ := row_at hR1.out 23 (by omega)
      have m7 : (n7 : Int) < 32 := by omega
      have hst := Aside0.mk (stores8 (pre5 l 2) 8 16 hpl (dgU n0) (dgU n1) (dgU n2) (dgU n3) (dgU n4) (dgU n5) (dgU n6) (dgU n7) hn1 hn2 hmd hE1.out hS1.out hR1.out hb1.out)
      repeat go_step
      go_roundw
      case rel => exact ⟨3, _, _, by omega, rfl, fun _ => rfl, rfl, fun _ => rfl, ⟨hst.out.1⟩, ⟨hst.out.2.1⟩, ⟨by rw [hnx1.out]; exact hst.out.2.2.1⟩, ⟨hst.out.2.2.2⟩⟩
      case measure => simp
    · obtain rfl := hA (by omega)
      obtain rfl := hD (by omega)
      clear hA hD hi
      simp only [Nat.mul_zero, Nat.sub_zero, Nat.mul_one, Nat.reduceMul, Nat.reduceSub]
      have hpl : (pre5 l 3).length = 24 := by unfold pre5; rw [List.length_take, hout]; rfl
      have hrl : (pre5 l 3 ++ List.replicate 8 (0 : Int)).length = 32 := by rw [List.length_append, hpl, List.length_replicate]
      have s0 := hS.out 15 (by omega)
      have b0 := hbB (l.getD 15 0) (by rw [List.getD_eq_getElem?_getD, List.getElem?_eq_getElem (by omega : 15 < l.length)]; exact List.getElem_mem _)
      have s1 := hS.out 16 (by omega)
      have b1 := hbB (l.getD 16 0) (by rw [List.getD_eq_getElem?_getD, List.getElem?_eq_getElem (by omega : 16 < l.length)]; exact List.getElem_mem _)
      have s2 := hS.out 17 (by omega)
      have b2 := hbB (l.getD 17 0) (by rw [List.getD_eq_getElem?_getD, List.getElem?_eq_getElem (by omega : 17 < l.length)]; exact List.getElem_mem _)
      have s3 := hS.out 18 (by omega)
      have b3 := hbB (l.getD 18 0) (by rw [List.getD_eq_getElem?_getD, List.getElem?_eq_getElem (by omega : 18 < l.length)]; exact List.getElem_mem _)
      have s4 := hS.out 19 (by omega)
      have b4 := hbB (l.getD 19 0) (by rw [List.getD_eq_getElem?_getD, List.getElem?_eq_getElem (by omega : 19 < l.length)]; exact List.getElem_mem _)
      have hnx : pre5 l 4 = pre5 l 3 ++ (g5 (l.getD 15 0) (l.getD 16 0) (l.getD 17 0) (l.getD 18 0) (l.getD 19 0)).map dgU := by
        obtain ⟨x0, x1, x2, x3, x4, x5, x6, x7, x8, x9, x10, x11, x12, x13, x14, x15, x16, x17, x18, x19, rfl⟩ := twenty l hl
        rfl
      generalize l.getD 15 0 = x0 at s0 b0 hnx
      generalize l.getD 16 0 = x1 at s1 b1 hnx
      generalize l.getD 17 0 = x2 at s2 b2 hnx
      generalize l.getD 18 0 = x3 at s3 b3 hnx
      generalize l.getD 19 0 = x4 at s4 b4 hnx
      have B0 := Aside0.mk b0
      have B1 := Aside0.mk b1
      have B2 := Aside0.mk b2
      have B3 := Aside0.mk b3
      have B4 := Aside0.mk b4
      clear b0 b1 b2 b3 b4
      repeat go_step
      go_quiet (fail)
      have b0 := B0.out
      have b1 := B1.out
      have b2 := B2.out
      have b3 := B3.out
      have b4 := B4.out
      have hhi := wdv_eq b0 b1 b2 b3
      unfold wdv at hhi
      generalize hh9 : Go.bits .or .u32 (Go.bits .or .u32 (Go.bits .or .u32 (x0 % 4294967296 * 16777216 % 4294967296) (x1 % 4294967296 * 65536 % 4294967296)) (x2 % 4294967296 * 256 % 4294967296)) (x3 % 4294967296) = hi at hhi ⊢
      clear hh9
      have hh0 : 0 ≤ hi ∧ hi < 4294967296 := by omega
      have hlo := lo_eq hh0.1 b4
      obtain ⟨lo, hlo2⟩ : ∃ lo, lo = hi % 16777216 * 256 + x4 := ⟨_, rfl⟩
      rw [← hlo2] at hlo
      obtain ⟨n0, e0, f0, l0⟩ := and31 (x := hi / 134217728) (by omega) (by omega)
      obtain ⟨n1, e1, f1, l1⟩ := and31 (x := hi / 4194304) (by omega) (by omega)
      obtain ⟨n2, e2, f2, l2⟩ := and31 (x := hi / 131072) (by omega) (by omega)
      obtain ⟨n3, e3, f3, l3⟩ := and31 (x := hi / 4096) (by omega) (by omega)
      obtain ⟨n4, e4, f4, l4⟩ := and31 (x := hi / 128) (by omega) (by omega)
      obtain ⟨n5, e5, f5, l5⟩ := and31 (x := hi / 4) (by omega) (by omega)
      obtain ⟨n6, e6, f6, l6⟩ := and31 (x := lo / 32) (by omega) (by omega)
      obtain ⟨n7, e7, f7, l7⟩ := and31 (x := lo) (by omega) (by omega)
      have g5e : g5 x0 x1 x2 x3 x4 = [(n0 : Int), n1, n2, n3, n4, n5, n6, n7] := by
        unfold g5
        have q0 : x0 / 8 = n0 := by omega
        have q1 : x0 % 8 * 4 + x1 / 64 = n1 := by omega
        have q2 : x1 / 2 % 32 = n2 := by omega
        have q3 : x1 % 2 * 16 + x2 / 16 = n3 := by omega
        have q4 : x2 % 16 * 2 + x3 / 128 = n4 := by omega
        have q5 : x3 / 4 % 32 = n5 := by omega
        have q6 : x3 % 4 * 8 + x4 / 32 = n6 := by omega
        have q7 : x4 % 32 = n7 := by omega
        rw [q0, q1, q2, q3, q4, q5, q6, q7]
      rw [g5e] at hnx
      have hnx1 := Aside0.mk hnx
      clear hnx g5e hhi hlo2 f0 f1 f2 f3 f4 f5 f6 f7 hh0 b0 b1 b2 b3 b4 B0 B1 B2 B3 B4 s0 s1 s2 s3
      have hE1 : Aside0 ((wr.drewN nq).heap[mE]? = some (.cells (encV (bytesOf aU) M (-1)) 189 (0, 0))) := hE
      have t4 : (wr.drewN nq).cell? ⟨bs, 19, none⟩ = some (.int .u8 x4) := s4
      clear s4
      have hS1 : Aside0 (RowR (wr.drewN nq) bs l) := hS
      have hR1 : Aside0 ((wr.drewN nq).heap[md]? = some (.cells (rowV (pre5 l 3 ++ List.replicate 8 0)) 5 (0, 0))) := hR
      have hb1 := Aside0.mk (pw_below_drewN hb.out nq)
      clear hE hS hR hb
      generalize wr.drewN nq = W9 at *
      have cc0 := sign_at hE1.out n0 l0
      obtain ⟨z0, d0, y0⟩ := row_at hR1.out 24 (by omega)
      have m0 : (n0 : Int) < 32 := by omega
      have cc1 := sign_at hE1.out n1 l1
      obtain ⟨z1, d1, y1⟩ := row_at hR1.out 25 (by omega)
      have m1 : (n1 : Int) < 32 := by omega
      have cc2 := sign_at hE1.out n2 l2
      obtain ⟨z2, d2, y2⟩ := row_at hR1.out 26 (by omega)
      have m2 : (n2 : Int) < 32 := by omega
      have cc3 := sign_at hE1.out n3 l3
      obtain ⟨z3, d3, y3⟩ := row_at hR1.out 27 (by omega)
      have m3 : (n3 : Int) < 32 := by omega
      have cc4 := sign_at hE1.out n4 l4
      obtain ⟨z4, d4, y4⟩ := row_at hR1.out 28 (by omega)
      have m4 : (n4 : Int) < 32 := by omega
      have cc5 := sign_at hE1.out n5 l5
      obtain ⟨z5, d5, y5⟩ := row_at hR1.out 29 (by omega)
      have m5 : (n5 : Int) < 32 := by omega
      have cc6 := sign_at hE1.out n6 l6
      obtain ⟨z6, d6, y6⟩ := row_at hR1.out 30 (by omega)
      have m6 : (n6 : Int) < 32 := by omega
      have cc7 := sign_at hE1.out n7 l7
      obtain ⟨z7, d7, y7⟩ := row_at hR1.out 31 (by omega)
      have m7 : (n7 : Int) < 32 := by omega
      have hst := Aside0.mk (stores8 (pre5 l 3) 0 24 hpl (dgU n0) (dgU n1) (dgU n2) (dgU n3) (dgU n4) (dgU n5) (dgU n6) (dgU n7) hn1 hn2 hmd hE1.out hS1.out hR1.out hb1.out)
      by_cases hc3 : c0 = 20
      · subst hc3
        repeat go_step
        go_roundw
        case rel => exact ⟨4, _, _, by omega, rfl, fun h => absurd h (by omega), rfl, fun h => absurd h (by omega), ⟨hst.out.1⟩, ⟨hst.out.2.1⟩, ⟨by rw [hnx1.out]; exact hst.out.2.2.1⟩, ⟨hst.out.2.2.2⟩⟩
        case measure => simp
      · have hc4 : ¬ c0 - 15 = 5 := by omega
        repeat go_step
        go_roundw
        case rel => exact ⟨4, _, _, by omega, rfl, fun h => absurd h (by omega), rfl, fun h => absurd h (by omega), ⟨hst.out.1⟩, ⟨hst.out.2.1⟩, ⟨by rw [hnx1.out]; exact hst.out.2.2.1⟩, ⟨hst.out.2.2.2⟩⟩
        case measure => simp
    · clear hA hD hi
      simp only [Nat.mul_zero, Nat.sub_zero, Nat.mul_one, Nat.reduceMul, Nat.reduceSub]
      have hp4 : pre5 l 4 = (enc5 l).map dgU := by unfold pre5; rw [List.take_of_length_le (by rw [hout]; exact Nat.le_refl _)]
      have hR4 := hR.out
      rw [hp4, List.replicate_zero, List.append_nil] at hR4
      have hR5 := Aside0.mk hR4
      clear hR hR4
      go_wp2
      (try simp only [Exit.inBlock, Exit.then])
      refine bodyPost_ret (results_none rfl _ _ _) rfl ?_
      exact ⟨rfl, hR5.out, hb.out⟩

end Go.Proofs.YtiilihafcdmccaaDoor.P
/- 'spec.upper': a string with its letters of ASCII as large ones. -/
namespace Go.Proofs.YtiilihafcdmccaaDoor.P
open Go.RowKit Go.Proofs.YtiilihafcdmccaaDoorW.PrintWords Go.Proofs.YtiilihafcdmccaaDoorW.PrintLast Go.Proofs.YtiilihafcdmccaaDoorW.PrintMore
set_option linter.unusedVariables false
set_option linter.unusedSimpArgs false

def upI (c : Int) : Int := if 97 ≤ c ∧ c ≤ 122 then c - 32 else c
def upTo (s : ByteArray) (k : Nat) : List Int := ((bytesOf s).take k).map upI ++ (bytesOf s).drop k
def upperB (s : ByteArray) : ByteArray := strOfNums ((bytesOf s).map upI)

theorem upTo_length (s : ByteArray) (k : Nat) : (upTo s k).length = s.size := by
  unfold upTo
  rw [List.length_append, List.length_map, List.length_take, List.length_drop, bytesOf_length]
  omega
theorem upTo_zero (s : ByteArray) : upTo s 0 = bytesOf s := by simp [upTo]
theorem upTo_all (s : ByteArray) : upTo s s.size = (bytesOf s).map upI := by
  unfold upTo
  rw [List.take_of_length_le (by rw [bytesOf_length]; exact Nat.le_refl _), List.drop_of_length_le (by rw [bytesOf_length]; exact Nat.le_refl _), List.append_nil]
theorem upTo_at (s : ByteArray) (k : Nat) (h : k < s.size) : (upTo s k).getD k 0 = bt s k := by
  have hl : k < (bytesOf s).length := by rw [bytesOf_length]; exact h
  have := rd_bytesOf s (k : Int)
  unfold rd at this
  rw [Int.toNat_natCast] at this
  rw [← this]
  unfold upTo
  have h1 : (((bytesOf s).take k).map upI).length = k := by rw [List.length_map, List.length_take]; omega
  rw [List.getD_eq_getElem?_getD, List.getElem?_append_right (by omega), h1, Nat.sub_self, List.getElem?_drop, List.getD_eq_getElem?_getD]
  simp
theorem upTo_succ (s : ByteArray) (k : Nat) (h : k < s.size) : upTo s (k + 1) = (upTo s k).set k (upI (bt s k)) := by
  have hl : k < (bytesOf s).length := by rw [bytesOf_length]; exact h
  have := rd_bytesOf s (k : Int)
  unfold rd at this
  rw [Int.toNat_natCast, List.getD_eq_getElem?_getD, List.getElem?_eq_getElem hl, Option.getD_some] at this
  have h1 : (((bytesOf s).take k).map upI).length = k := by rw [List.length_map, List.length_take]; omega
  unfold upTo
  rw [← this, List.take_succ_eq_append_getElem hl, List.map_append, List.append_assoc, List.set_append_right _ _ (by omega), h1, Nat.sub_self, List.drop_eq_getElem_cons hl, List.set_cons_zero]
  rfl
theorem upTo_same (s : ByteArray) (k : Nat) (h : k < s.size) (hb : upI (bt s k) = bt s k) : upTo s (k + 1) = upTo s k := by
  rw [upTo_succ s k h, hb, ← upTo_at s k h]
  have hl : k < (upTo s k).length := by rw [upTo_length]; exact h
  rw [List.getD_eq_getElem?_getD, List.getElem?_eq_getElem hl, Option.getD_some]
  exact List.set_getElem_self hl

theorem upper_conv {wr : World} {b e : Nat} {s : ByteArray} {P : Program} {src dst cap : Nat} (hs : P.underlying src = some (.slice e)) (he : P.underlying e = some (.int .u8)) (hd : P.underlying dst = some .string)
    (h : RowB wr b (upTo s s.size)) : (convert src dst (.slice (some ⟨b, 0, none⟩) s.size cap)).run P wr = .ok (.string (upperB s)) wr := by
  rw [upTo_all] at h
  have hl : ((bytesOf s).map upI).length = s.size := by rw [List.length_map, bytesOf_length]
  exact run_convert_bytes_arg wr src e hs he b 0 s.size cap _ hl (fun i hi => by rw [Nat.zero_add]; exact h.cell (by omega)) dst hd

set_option maxHeartbeats 1000000 in
set_option maxRecDepth 100000 in
theorem upper_any (s : ByteArray) (w : World) (hs : s.size ≤ 9223372036854775807) :
    Calls Tryd.prog 69 #[.string s] w fun e w' => e = .returned (.string (upperB s)) ∧ Below w.heap.size w w' := by
  have kb := fun W => print_bytes (P := Tryd.prog) 9 22 5 Tryd.underlying9 Tryd.underlying22 Tryd.underlying5 s W
  have HB0 := Aside0.mk (bytes_below (Below.refl w.heap.size w) (Nat.le_refl _) 5 s)
  have HR0 : RowB (Lib.bytesWorld w 5 s) w.heap.size (upTo s 0) := by rw [upTo_zero]; exact RowB_bytes w 5 s
  have HR := Aside0.mk HR0
  clear HR0
  go_enter Tryd.func69, Tryd.ntmps69
  go_wp2
  generalize Lib.bytesWorld w 5 s = w1 at *
  go_loopw [10] (fun i wr => ∃ k : Nat, i = .int .i64 k ∧ k ≤ s.size ∧ RowB wr w.heap.size (upTo s k) ∧ Below w.heap.size w wr) (fun i _ => s.size - (intOf i).toNat)
  case atStart => exact ⟨0, rfl, Nat.zero_le _, HR.out, HB0.out⟩
  case round =>
    clear HR HB0
    obtain ⟨k, rfl, hk, hrow0, hb0⟩ := hrel
    have hrow := Aside0.mk hrow0
    have hb := Aside0.mk hb0
    clear hrow0 hb0
    by_cases hlt : k < s.size
    · have hc1 := hrow.out.cell (j := k) (by rw [upTo_length]; exact hlt)
      have hc2 := hrow.out.free (j := k) (by rw [upTo_length]; exact hlt)
      rw [upTo_at s k hlt] at hc1
      obtain ⟨c0, c1⟩ := bt_lt s k
      have hlow : bt s k ≤ 122 → 97 ≤ bt s k → upI (bt s k) = bt s k - 32 := fun h1 h2 => if_pos ⟨h2, h1⟩
      have hlow2 : ¬ (97 ≤ bt s k ∧ bt s k ≤ 122) → upI (bt s k) = bt s k := fun h1 => if_neg h1
      have hl1 := Aside0.mk hlow
      have hl2 := Aside0.mk hlow2
      clear hlow hlow2
      have hs1 := Aside0.mk (upTo_succ s k hlt)
      have hs2 := Aside0.mk (upTo_same s k hlt)
      have hset := Aside0.mk (fun x => RowB.set hrow.out k x)
      have hbel := Aside0.mk (fun x => Below.setCell hb.out (p := ⟨w.heap.size, k, none⟩) (Nat.le_refl _) x)
      generalize bt s k = c at *
      by_cases h65 : 97 ≤ c
      · by_cases h90 : c ≤ 122
        · go_wp2
          go_roundw
          case rel => exact ⟨k + 1, by go_num, by omega, by rw [hs1.out, hl1.out h90 h65]; exact hset.out _, hbel.out _⟩
          case measure => simp [intOf]; omega
        · go_wp2
          go_roundw
          case rel => exact ⟨k + 1, by go_num, by omega, by rw [hs2.out (hl2.out (by omega))]; exact hrow.out, hb.out⟩
          case measure => simp [intOf]; omega
      · go_wp2
        go_roundw
        case rel => exact ⟨k + 1, by go_num, by omega, by rw [hs2.out (hl2.out (by omega))]; exact hrow.out, hb.out⟩
        case measure => simp [intOf]; omega
    · obtain rfl : k = s.size := by omega
      have kc := upper_conv (cap := grownCap w s.size 0 5) (P := Tryd.prog) (src := 22) (dst := 9) Tryd.underlying22 Tryd.underlying5 Tryd.underlying9 hrow.out
      go_wp2
      go_ret
      exact ⟨rfl, hb.out⟩

def spec_upper.f (a0 : ByteArray) : Option (ByteArray) := if a0.size ≤ 9223372036854775807 then some (upperB a0) else none
theorem spec_upper.calls (a0 : ByteArray) (r : ByteArray) (w : World) (h : spec_upper.f a0 = some r) :
    Calls Tryd.prog 69 #[.string a0] w fun e w' => e = .returned (.string r) ∧ Below w.heap.size w w' := by
  unfold spec_upper.f at h
  split at h
  · obtain rfl := Option.some.inj h
    exact upper_any a0 w ‹_›
  · cases h

end Go.Proofs.YtiilihafcdmccaaDoor.P
/- 'dns.toBase32' at twenty octets. -/
namespace Go.Proofs.YtiilihafcdmccaaDoor.P
open Go.RowKit Go.Proofs.YtiilihafcdmccaaDoorW.PrintWords Go.Proofs.YtiilihafcdmccaaDoorW.PrintLast Go.Proofs.YtiilihafcdmccaaDoorW.PrintMore
set_option linter.unusedVariables false
set_option linter.unusedSimpArgs false

theorem rowB_of {w : World} {m e : Nat} {xs : List Int} (h : w.heap[m]? = some (.cells (rowV xs) e (0, 0))) : RowB w m xs := fun j hj => by
  have h1 := row_cell h hj
  rw [List.getD_eq_getElem?_getD, List.getElem?_eq_getElem hj]
  exact h1
theorem enc5_len (l : List Int) (h : l.length = 20) : (enc5 l).length = 32 := by
  obtain ⟨x0, x1, x2, x3, x4, x5, x6, x7, x8, x9, x10, x11, x12, x13, x14, x15, x16, x17, x18, x19, rfl⟩ := twenty l h
  simp [enc5, g5]
set_option maxHeartbeats 2000000 in
set_option maxRecDepth 100000 in
theorem enc_str (l M : List Int) (mE bs c0 : Nat) (w : World) (hl : l.length = 20) (hB : IsB l) (hM : M.length = 256) (hE : w.heap[mE]? = some (.cells (encV (bytesOf aU) M (-1)) 189 (0, 0))) (hs : RowR w bs l) (hc : 20 ≤ c0) :
    Calls Tryd.prog 124 #[.pointer (some ⟨mE, 0, none⟩), .slice (some ⟨bs, 0, none⟩) 20 c0] w fun e w' => e = .returned (.string (strOfNums ((enc5 l).map dgU))) ∧ Below w.heap.size w w' := by
  have hmk := fun W => run_make_row' (P := Tryd.prog) 22 5 (.int .u8 0) 1 Tryd.underlying22 (by kernel_rfl) rfl .i64 .i64 32 (by omega) (by omega) W
  rw [made_rowV] at hmk
  have hmk2 : ∀ W : World, (Instr.makeSlice 22 (.int .i64 32) (.int .i64 32)).run Tryd.prog W = .ok (.slice (some ⟨W.heap.size, 0, none⟩) 32 32) (W.alloc (.cells (rowV (List.replicate 32 0)) 5)) := hmk
  clear hmk
  have hlen : ((enc5 l).map dgU).length = 32 := by rw [List.length_map, enc5_len l hl]
  have hlt : mE < w.heap.size := heap_lt hE
  have hbt : bs < w.heap.size := World.block_lt_of_cell? w _ (hs 0 (by omega))
  have hE0 := Aside0.mk hE
  have hS0 := Aside0.mk hs
  clear hE hs
  go_enter Tryd.func124, Tryd.ntmps124
  go_wp2_with (first
    | (go_at_call 139; (refine (enc_len (bytesOf aU) M mE _ rfl hM hE0.out).mono ?_); rintro e w' ⟨rfl, ⟨nd, rfl⟩⟩)
    | (go_at_call 140; (refine (enc_run l M mE _ bs c0 w _ hl hB hM ?hE1 ?hS1 hc ?hD1 ?hn1 ?hn2 ?hmd ?hB1).mono ?_); (case hE1 => exact (heap_alloc_old _ _ hlt).trans hE0.out); (case hS1 => exact hS0.out.kept (heap_alloc_old _ _ hbt)); (case hD1 => exact heap_alloc_new (w.drewN nd) _); (case hn1 => omega); (case hn2 => omega); (case hmd => exact Nat.le_refl _); (case hB1 => exact below_alloc (pw_below_drewN (Below.refl _ _) _) _); rintro e w' ⟨rfl, hR, hb⟩; (have hcv := run_convert_bytes_arg (P := Tryd.prog) w' 22 5 Tryd.underlying22 Tryd.underlying5 w.heap.size 0 32 32 ((enc5 l).map dgU) hlen (fun i hi => by rw [Nat.zero_add]; exact (rowB_of hR).cell (by omega)) 9 Tryd.underlying9); (have HB := Aside0.mk hb); clear hR hb))
  go_ret
  exact ⟨rfl, HB.out⟩
/-- dns.toBase32 of twenty octets. -/
theorem to_b32 (l : List Int) (bs c0 : Nat) (w : World) (hl : l.length = 20) (hB : IsB l) (hs : RowR w bs l) (hc : 20 ≤ c0) :
    Calls Tryd.prog 91 #[.slice (some ⟨bs, 0, none⟩) 20 c0] w fun e w' => e = .returned (.string (strOfNums ((enc5 l).map dgU))) ∧ Below w.heap.size w w' := by
  have hbt : bs < w.heap.size := World.block_lt_of_cell? w _ (hs 0 (by omega))
  have hS0 := Aside0.mk hs
  clear hs
  go_enter Tryd.func91, Tryd.ntmps91
  go_wp2_with (first
    | (go_at_call 123; (refine (hex_enc _).mono ?_); rintro e w' ⟨m, M, rfl, hm, hM, hh, hb⟩; (have HH := Aside0.mk hh); (have HB := Aside0.mk hb); (have HS := Aside0.mk (hS0.out.kept (hb.block bs hbt))); clear hh hb)
    | (go_at_call 124; (refine (enc_str l M m bs c0 _ hl hB hM HH.out HS.out hc).mono ?_); rintro e w2 ⟨rfl, hb⟩; (have HB2 := Aside0.mk (below_step HB.out hb)); clear hb))
  go_ret
  exact ⟨rfl, HB2.out⟩

end Go.Proofs.YtiilihafcdmccaaDoor.P
