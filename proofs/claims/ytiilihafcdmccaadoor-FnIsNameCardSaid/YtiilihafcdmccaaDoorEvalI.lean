/- What the printed 'laws.escapes' and 'dns.IsDomainName' come to, in the words of Core. -/
import Derived.Test.YtiilihafcdmccaaDoorEvalG
import Derived.Test.YtiilihafcdmccaaDoorPF23
import Derived.Test.YtiilihafcdmccaaDoorPF53
namespace Go.Proofs.YtiilihafcdmccaaDoor.P
open Go.RowKit Go.Proofs.YtiilihafcdmccaaDoorW.PrintWords
set_option linter.unusedVariables false
set_option linter.unusedSimpArgs false

/-! ### escapes -/
theorem dec_step {s : ByteArray} (hs : s.size ≤ 1000000) {i n x16 : Nat} (x1 : Int) {R : Int × Bool} (hi : i < s.size) (hx : x16 = s.size) (hd : dig (bt s (i : Int))) (hn : n ≤ 1000000)
    (h : Ev (fun k => spec_Decimal.l0 k s x1 ((n : Int) * 10 + (bt s (i : Int) - 48)) (x16 : Nat) ((i + 1 : Nat) : Int)) R) : Ev (fun k => spec_Decimal.l0 k s x1 (n : Nat) (x16 : Nat) (i : Nat)) R := by
  refine Ev.step (fun k => ?_) h
  simp only [spec_Decimal.l0]
  rw [if_pos (by omega), if_pos (by omega), if_pos (by omega), isDigit_eq, decide_eq_true hd]
  simp only [Option.bind_some, if_true]
  unfold dig at hd
  rw [w64 (x := (n : Int) * 10) (by omega) (by omega), show (bt s (i : Int) - 48) % 256 = bt s (i : Int) - 48 by omega, w64 (x := (n : Int) * 10 + (bt s (i : Int) - 48)) (by omega) (by omega), w64 (x := (i : Int) + 1) (by omega) (by omega)]
  rfl
theorem dec_stop {s : ByteArray} (hs : s.size ≤ 1000000) {i n x16 : Nat} (x1 : Int) (hi : i < s.size) (hx : x16 = s.size) (hd : ¬ dig (bt s (i : Int))) :
    Ev (fun k => spec_Decimal.l0 k s x1 (n : Nat) (x16 : Nat) (i : Nat)) (0, false) := by
  refine ⟨1, fun k hk => ?_⟩
  obtain ⟨m, rfl⟩ : ∃ m, k = m + 1 := ⟨k - 1, by omega⟩
  simp only [spec_Decimal.l0]
  rw [if_pos (by omega), if_pos (by omega), if_pos (by omega), isDigit_eq, decide_eq_false hd]
  rfl
theorem dec_end {s : ByteArray} {i n x16 : Nat} (x1 : Int) (hi : i = x16) : Ev (fun k => spec_Decimal.l0 k s x1 (n : Nat) (x16 : Nat) (i : Nat)) ((n : Int), decide ((n : Int) ≤ x1)) := by
  refine ⟨1, fun k hk => ?_⟩
  obtain ⟨m, rfl⟩ : ∃ m, k = m + 1 := ⟨k - 1, by omega⟩
  simp only [spec_Decimal.l0]
  rw [if_neg (by omega)]
/-- Three signs: they are read as a number just if they are digits. -/
theorem dec3 {s : ByteArray} {a b c : Int} (e : bytesOf s = [a, b, c]) :
    Ev (fun k => spec_Decimal.f k s 255) (if dig a ∧ dig b ∧ dig c then (val3 a b c, decide (val3 a b c ≤ 255)) else (0, false)) := by
  have hl := bytesOf_length s
  rw [e] at hl
  have hs : s.size = 3 := by simpa using hl.symm
  have b0 : bt s ((0 : Nat) : Int) = a := by rw [bt_nat, e]; rfl
  have b1 : bt s ((1 : Nat) : Int) = b := by rw [bt_nat, e]; rfl
  have b2 : bt s ((2 : Nat) : Int) = c := by rw [bt_nat, e]; rfl
  have h3 : ∀ R, Ev (fun k => spec_Decimal.l0 k s 255 ((0 : Nat) : Int) ((3 : Nat) : Int) ((0 : Nat) : Int)) R → Ev (fun k => spec_Decimal.f k s 255) R := by
    intro R h
    refine Ev.congr (g := fun k => spec_Decimal.f k s 255) (f := fun k => spec_Decimal.j0 k s 255 false) (fun k => ?_) (Ev.step (fun k => ?_) h)
    · unfold spec_Decimal.f
      rw [if_neg (by rw [toList_nil, e]; simp), decide_eq_false (by omega)]
    · simp only [spec_Decimal.j0]
      rw [if_neg Bool.false_ne_true, hs]
      rfl
  refine h3 _ ?_
  by_cases ha : dig a
  · obtain ⟨na, hna⟩ : ∃ na : Nat, a - 48 = na := ⟨(a - 48).toNat, by unfold dig at ha; omega⟩
    refine dec_step (by omega) 255 (by omega) hs.symm (by rw [b0]; exact ha) (by omega) ?_
    rw [b0, show ((0 : Nat) : Int) * 10 + (a - 48) = ((na : Nat) : Int) by omega]
    by_cases hb : dig b
    · obtain ⟨nb, hnb⟩ : ∃ nb : Nat, b - 48 = nb := ⟨(b - 48).toNat, by unfold dig at hb; omega⟩
      refine dec_step (by omega) 255 (by omega) hs.symm (by rw [b1]; exact hb) (by unfold dig at ha; omega) ?_
      rw [b1, hnb, show (na : Int) * 10 + nb = ((na * 10 + nb : Nat) : Int) by omega]
      by_cases hc : dig c
      · obtain ⟨nc, hnc⟩ : ∃ nc : Nat, c - 48 = nc := ⟨(c - 48).toNat, by unfold dig at hc; omega⟩
        refine dec_step (by omega) 255 (by omega) hs.symm (by rw [b2]; exact hc) (by unfold dig at ha hb; omega) ?_
        rw [b2, hnc, show ((na * 10 + nb : Nat) : Int) * 10 + nc = (((na * 10 + nb) * 10 + nc : Nat) : Int) by omega, if_pos ⟨ha, hb, hc⟩, show val3 a b c = (((na * 10 + nb) * 10 + nc : Nat) : Int) by unfold val3; omega]
        exact dec_end 255 rfl
      · rw [if_neg (fun h => hc h.2.2)]
        exact dec_stop (by omega) 255 (by omega) hs.symm (by rw [b2]; exact hc)
    · rw [if_neg (fun h => hb h.2.1)]
      exact dec_stop (by omega) 255 (by omega) hs.symm (by rw [b1]; exact hb)
  · rw [if_neg (fun h => ha h.1)]
    exact dec_stop (by omega) 255 (by omega) hs.symm (by rw [b0]; exact ha)

theorem escs_tok {s : ByteArray} (hs : s.size ≤ 1000000) {pre t rest : List Int} {c : Int} {p : Bool} {R : Bool} (h : bytesOf s = pre ++ (t ++ rest)) (ht : Tok t c p)
    (k : Ev (fun k => laws_escapes.l0 k s ((pre ++ t).length : Nat)) R) : Ev (fun k => laws_escapes.l0 k s (pre.length : Nat)) R := by
  have hl := bytesOf_length s
  rw [h] at hl
  simp only [List.length_append] at hl
  rw [List.length_append] at k
  cases ht with
  | plain _ h92 =>
    have h0 := bt_at' (s := s) (pre := pre) (rest := rest) [] (c := c) (by simpa using h) 0 rfl
    rw [Int.add_zero] at h0
    simp at hl
    refine Ev.step (fun k => ?_) k
    simp only [laws_escapes.l0]
    rw [if_pos (by omega), if_pos (by omega), h0, if_neg h92, w64 (by omega) (by omega)]
    rfl
  | sign _ hd =>
    have h0 := bt_at' (s := s) (pre := pre) (rest := c :: rest) [] (c := 92) (by simpa using h) 0 rfl
    rw [Int.add_zero] at h0
    have h1 := bt_at' (s := s) (pre := pre) (rest := rest) [92] (c := c) (by simpa using h) 1 rfl
    simp at hl
    refine Ev.step (f := fun k => laws_escapes.j1 k s (pre.length : Nat) true) (fun k => ?_) (Ev.step (fun k => ?_) k)
    · simp only [laws_escapes.l0]
      rw [if_pos (by omega), if_pos (by omega), h0, if_pos rfl, w64 (x := (pre.length : Int) + 1) (by omega) (by omega), if_neg (by omega), if_pos (by omega), if_pos (by omega), h1]
      unfold dig at hd
      by_cases h48 : c < 48
      · rw [if_pos h48]
      · rw [if_neg h48, decide_eq_true (by omega)]
    · simp only [laws_escapes.j1]
      rw [if_pos trivial, w64 (x := (pre.length : Int) + 1) (by omega) (by omega), w64 (by omega) (by omega)]
      congr 1
  | ddd a b d ha hb hd hv =>
    have h0 := bt_at' (s := s) (pre := pre) (rest := a :: b :: d :: rest) [] (c := 92) (by simpa using h) 0 rfl
    rw [Int.add_zero] at h0
    have h1 := bt_at' (s := s) (pre := pre) (rest := b :: d :: rest) [92] (c := a) (by simpa using h) 1 rfl
    simp at hl
    have e3 : bytesOf (s.extract (pre.length + 1) (pre.length + 4)) = [a, b, d] := by
      rw [bytesOf_extract, h, show pre.length + 4 = pre.length + (4 : Nat) from rfl, take_pre]
      rw [show pre ++ List.take 4 ([92, a, b, d] ++ rest) = (pre ++ [92]) ++ [a, b, d] by simp, show pre.length + 1 = (pre ++ [92]).length by simp, List.drop_left]
    have hdec := dec3 e3
    rw [if_pos ⟨ha, hb, hd⟩, decide_eq_true (show val3 a b d ≤ 255 by omega)] at hdec
    refine Ev.step (f := fun k => laws_escapes.j1 k s (pre.length : Nat) false) (fun k => ?_) (Ev.step (f := fun k => (spec_Decimal.f k (s.extract (pre.length + 1) (pre.length + 4)) 255).bind fun x => if x.2 = true then (if x.1 > 255 then some false else laws_escapes.l0 k s ((pre.length + [92, a, b, d].length : Nat) : Int)) else some false) (fun k => ?_) (Ev.bind (f := fun k x => if x.2 = true then (if x.1 > 255 then some false else laws_escapes.l0 k s ((pre.length + [92, a, b, d].length : Nat) : Int)) else some false) hdec ?_))
    · simp only [laws_escapes.l0]
      rw [if_pos (by omega), if_pos (by omega), h0, if_pos rfl, w64 (x := (pre.length : Int) + 1) (by omega) (by omega), if_neg (by omega), if_pos (by omega), if_pos (by omega), h1]
      unfold dig at ha
      rw [if_neg (by omega), decide_eq_false (by omega)]
    · simp only [laws_escapes.j1]
      rw [if_neg Bool.false_ne_true, w64 (x := (pre.length : Int) + 1) (by omega) (by omega), w64 (x := (pre.length : Int) + 3) (by omega) (by omega), w64 (x := (pre.length : Int) + 4) (by omega) (by omega), w64 (x := (pre.length : Int) + 3 + 1) (by omega) (by omega), if_neg (by omega), if_pos (by omega), if_pos (by omega), if_pos (by omega),
        show ((pre.length : Int) + 1).toNat = pre.length + 1 by omega, show ((pre.length : Int) + 4).toNat = pre.length + 4 by omega]
      rfl
    · simp only [if_true]
      rw [show (fun k : Nat => if val3 a b d > 255 then some false else laws_escapes.l0 k s ((pre.length + [92, a, b, d].length : Nat) : Int)) = fun k => laws_escapes.l0 k s ((pre.length + [92, a, b, d].length : Nat) : Int) from funext fun k => if_neg (by omega)]
      exact k
theorem escs_bad {s : ByteArray} (hs : s.size ≤ 1000000) {pre rest : List Int} (h : bytesOf s = pre ++ 92 :: rest) (hno : ∀ t c p rest', 92 :: rest = t ++ rest' → ¬ Tok t c p) :
    Ev (fun k => laws_escapes.l0 k s (pre.length : Nat)) false := by
  have hl := bytesOf_length s
  rw [h] at hl
  simp only [List.length_append, List.length_cons] at hl
  have h0 := bt_at' (s := s) (pre := pre) (rest := rest) [] (c := 92) (by simpa using h) 0 rfl
  rw [Int.add_zero] at h0
  match rest, hno, h, hl with
  | [], hno, h, hl =>
    refine ⟨1, fun k hk => ?_⟩
    obtain ⟨m, rfl⟩ : ∃ m, k = m + 1 := ⟨k - 1, by omega⟩
    simp at hl
    simp only [laws_escapes.l0]
    rw [if_pos (by omega), if_pos (by omega), h0, if_pos rfl, w64 (x := (pre.length : Int) + 1) (by omega) (by omega), if_pos (by omega)]
  | a :: r1, hno, h, hl =>
    have ha : dig a := by
      by_cases ha : dig a
      · exact ha
      · exact absurd (Tok.sign a ha) (hno [92, a] a false r1 rfl)
    have h1 := bt_at' (s := s) (pre := pre) (rest := r1) [92] (c := a) (by simpa using h) 1 rfl
    simp at hl
    refine Ev.step (f := fun k => laws_escapes.j1 k s (pre.length : Nat) false) (fun k => ?_) ?_
    · simp only [laws_escapes.l0]
      rw [if_pos (by omega), if_pos (by omega), h0, if_pos rfl, w64 (x := (pre.length : Int) + 1) (by omega) (by omega), if_neg (by omega), if_pos (by omega), if_pos (by omega), h1]
      unfold dig at ha
      rw [if_neg (by omega), decide_eq_false (by omega)]
    · by_cases h3 : r1.length < 2
      · refine ⟨1, fun k hk => ?_⟩
        obtain ⟨m, rfl⟩ : ∃ m, k = m + 1 := ⟨k - 1, by omega⟩
        simp only [laws_escapes.j1]
        rw [if_neg Bool.false_ne_true, w64 (x := (pre.length : Int) + 3) (by omega) (by omega), if_pos (by omega)]
      · match r1, h3, hno, h, hl with
        | [], h3, hno, h, hl => exact absurd (by simp) h3
        | [_], h3, hno, h, hl => exact absurd (by simp) h3
        | b :: d :: r2, h3, hno, h, hl =>
          simp at hl
          have e3 : bytesOf (s.extract (pre.length + 1) (pre.length + 4)) = [a, b, d] := by
            rw [bytesOf_extract, h, show pre.length + 4 = pre.length + (4 : Nat) from rfl, take_pre]
            rw [show pre ++ List.take 4 (92 :: a :: b :: d :: r2) = (pre ++ [92]) ++ [a, b, d] by simp, show pre.length + 1 = (pre ++ [92]).length by simp, List.drop_left]
          have hdec := dec3 e3
          have hx : (if dig a ∧ dig b ∧ dig d then (val3 a b d, decide (val3 a b d ≤ 255)) else (0, false)).2 = false := by
            split
            · rename_i hh
              exact decide_eq_false (fun hv => hno [92, a, b, d] _ false r2 rfl (.ddd a b d hh.1 hh.2.1 hh.2.2 (by omega)))
            · rfl
          generalize (if dig a ∧ dig b ∧ dig d then (val3 a b d, decide (val3 a b d ≤ 255)) else (0, false)) = v at hdec hx
          refine Ev.step (f := fun k => (spec_Decimal.f k (s.extract (pre.length + 1) (pre.length + 4)) 255).bind fun x => if x.2 = true then (if x.1 > 255 then some false else laws_escapes.l0 k s (wrap64 (wrap64 ((pre.length : Int) + 3) + 1))) else some false) (fun k => ?_) (Ev.bind (f := fun k x => if x.2 = true then (if x.1 > 255 then some false else laws_escapes.l0 k s (wrap64 (wrap64 ((pre.length : Int) + 3) + 1))) else some false) hdec ?_)
          · simp only [laws_escapes.j1]
            rw [if_neg Bool.false_ne_true, w64 (x := (pre.length : Int) + 1) (by omega) (by omega), w64 (x := (pre.length : Int) + 3) (by omega) (by omega), w64 (x := (pre.length : Int) + 4) (by omega) (by omega), if_neg (by omega), if_pos (by omega), if_pos (by omega), if_pos (by omega),
              show ((pre.length : Int) + 1).toNat = pre.length + 1 by omega, show ((pre.length : Int) + 4).toNat = pre.length + 4 by omega]
          · rw [hx]
            exact Ev.now _
theorem escs_end {s : ByteArray} : Ev (fun k => laws_escapes.l0 k s (s.size : Nat)) true := by
  refine ⟨1, fun k hk => ?_⟩
  obtain ⟨m, rfl⟩ : ∃ m, k = m + 1 := ⟨k - 1, by omega⟩
  simp only [laws_escapes.l0]
  rw [if_neg (by omega)]
theorem escs_some {s : ByteArray} (hs : s.size ≤ 1000000) (n : Nat) : ∀ (pre rest : List Int), rest.length ≤ n → bytesOf s = pre ++ rest → ∃ b, Ev (fun k => laws_escapes.l0 k s (pre.length : Nat)) b := by
  induction n with
  | zero =>
    intro pre rest hn h
    obtain rfl : rest = [] := List.eq_nil_of_length_eq_zero (by omega)
    have hl := bytesOf_length s
    rw [h, List.append_nil] at hl
    rw [hl]
    exact ⟨true, escs_end⟩
  | succ n ih =>
    intro pre rest hn h
    cases rest with
    | nil =>
      have hl := bytesOf_length s
      rw [h, List.append_nil] at hl
      rw [hl]
      exact ⟨true, escs_end⟩
    | cons x xs =>
      rcases tok_or x xs with ⟨t, c, p, rest', ht, et⟩ | ⟨rfl, hno⟩
      · rw [et] at h hn
        have hp := ht.pos
        obtain ⟨b, hb⟩ := ih (pre ++ t) rest' (by simp at hn; omega) (by rw [h, List.append_assoc])
        exact ⟨b, escs_tok hs h ht hb⟩
      · exact ⟨false, escs_bad hs h hno⟩
theorem escs_lab {s : ByteArray} (hs : s.size ≤ 1000000) {R : Bool} {r l : List Int} (h : Lab r l) : ∀ (pre rest : List Int), bytesOf s = pre ++ (r ++ rest) → Ev (fun k => laws_escapes.l0 k s ((pre ++ r).length : Nat)) R → Ev (fun k => laws_escapes.l0 k s (pre.length : Nat)) R := by
  induction h with
  | nil => intro pre rest h k; simpa using k
  | @cons t r l c p ht hc _ ih =>
    intro pre rest h k
    refine escs_tok hs (rest := r ++ rest) (by rw [h, List.append_assoc]) ht (ih (pre ++ t) rest (by rw [h]; simp) ?_)
    rw [List.append_assoc]
    exact k
theorem escs_labs {s : ByteArray} (hs : s.size ≤ 1000000) {R : Bool} {rs ls : List (List Int)} (h : Labs rs ls) : ∀ (pre rest : List Int), bytesOf s = pre ++ (joinD rs ++ rest) → Ev (fun k => laws_escapes.l0 k s ((pre ++ joinD rs).length : Nat)) R → Ev (fun k => laws_escapes.l0 k s (pre.length : Nat)) R := by
  induction h with
  | nil => intro pre rest h k; simpa [joinD] using k
  | @cons r l rs ls h1 h2 _ ih =>
    intro pre rest h k
    refine escs_lab hs h1 pre (46 :: (joinD rs ++ rest)) (by rw [h]; simp [joinD]) ?_
    refine escs_tok hs (t := [46]) (rest := joinD rs ++ rest) (by rw [h]; simp [joinD]) (.plain 46 (by decide)) ?_
    refine ih (pre ++ r ++ [46]) rest (by rw [h]; simp [joinD]) ?_
    rw [show pre ++ r ++ [46] ++ joinD rs = pre ++ joinD (r :: rs) by simp [joinD]]
    exact k
theorem escapes_bad {s : ByteArray} (hs : s.size ≤ 1000000) {rs ls : List (List Int)} {r l rest : List Int} (h1 : Labs rs ls) (h2 : Lab r l) (e : bytesOf s = joinD rs ++ (r ++ 92 :: rest)) (hno : ∀ t c p rest', 92 :: rest = t ++ rest' → ¬ Tok t c p) :
    Ev (fun k => laws_escapes.f k s) false :=
  escs_labs hs h1 [] (r ++ 92 :: rest) (by rw [e]; rfl) (by rw [List.nil_append]; exact escs_lab hs h2 (joinD rs) (92 :: rest) e (escs_bad hs (by rw [e, List.append_assoc]) hno))
theorem escapes_some {s : ByteArray} (hs : s.size ≤ 1000000) : ∃ b, Ev (fun k => laws_escapes.f k s) b := escs_some hs _ [] (bytesOf s) (Nat.le_refl _) rfl

/-! ### IsDomainName -/
theorem isDigit_eq' (c : Int) : dns_isDigit.f c = some (decide (dig c)) := by
  have e : decide (dig c) = decide (48 ≤ c ∧ c ≤ 57) := decide_eq_decide.2 Iff.rfl
  rw [e]
  unfold dns_isDigit.f
  by_cases h : c ≥ 48
  · rw [if_pos h]; congr 1; apply decide_eq_decide.2; omega
  · rw [if_neg h]; congr 1; exact (decide_eq_false (by omega)).symm
theorem ddd_no {s : ByteArray} {d : Int} {rest : List Int} (e : bytesOf s = d :: rest) (hd : ¬ dig d) : dns_isDDD_string.f s = some false := by
  have hl := bytesOf_length s
  rw [e] at hl
  have b0 : bt s ((0 : Nat) : Int) = d := by rw [bt_nat, e]; rfl
  unfold dns_isDDD_string.f
  by_cases h3 : (s.size : Int) ≥ 3
  · rw [if_pos h3, if_pos (by omega), show bt s 0 = d from b0, isDigit_eq', decide_eq_false hd]
    rfl
  · rw [if_neg h3]
theorem ddd_yes {s : ByteArray} {a b c : Int} {rest : List Int} (e : bytesOf s = a :: b :: c :: rest) (ha : dig a) (hb : dig b) (hc : dig c) : dns_isDDD_string.f s = some true := by
  have hl := bytesOf_length s
  rw [e] at hl
  simp at hl
  have b0 : bt s ((0 : Nat) : Int) = a := by rw [bt_nat, e]; rfl
  have b1 : bt s ((1 : Nat) : Int) = b := by rw [bt_nat, e]; rfl
  have b2 : bt s ((2 : Nat) : Int) = c := by rw [bt_nat, e]; rfl
  unfold dns_isDDD_string.f
  rw [if_pos (by omega), if_pos (by omega), show bt s 0 = a from b0, isDigit_eq', decide_eq_true ha]
  simp only [Option.bind_some, if_true]
  rw [if_pos (by omega), show bt s 1 = b from b1, isDigit_eq', decide_eq_true hb]
  simp only [Option.bind_some, if_true]
  rw [if_pos (by omega), show bt s 2 = c from b2, isDigit_eq', decide_eq_true hc]
  rfl
abbrev IdR := Int × Bool
/-- One byte of a label: the loop goes on, or the room is used up. -/
theorem idn_tok {s : ByteArray} (hs : s.size ≤ 1000000) {pre t rest : List Int} {c : Int} {p : Bool} (h : bytesOf s = pre ++ (t ++ rest)) (ht : Tok t c p) (hc : ¬ (p = true ∧ c = 46)) {cnt off : Nat} {b : Int} (ho : off ≤ 256) (hb0 : 0 ≤ b) (hb : b ≤ pre.length) (wd e : Bool) :
    (∀ R, (∀ e', Ev (fun k => dns_IsDomainName.l0 k s (cnt : Nat) (off : Nat) (b + ((t.length : Int) - 1)) false e' ((pre ++ t).length : Nat)) R) → off ≤ 255 → Ev (fun k => dns_IsDomainName.l0 k s (cnt : Nat) (off : Nat) b wd e (pre.length : Nat)) R) ∧
    ((∀ e', ∃ x, Ev (fun k => dns_IsDomainName.l0 k s (cnt : Nat) (off : Nat) (b + ((t.length : Int) - 1)) false e' ((pre ++ t).length : Nat)) (x, false)) → ∃ x, Ev (fun k => dns_IsDomainName.l0 k s (cnt : Nat) (off : Nat) b wd e (pre.length : Nat)) (x, false)) := by
  have hl := bytesOf_length s
  rw [h] at hl
  simp only [List.length_append] at hl
  rw [List.length_append]
  have key : ∀ R, (off ≤ 255 ∨ p = true) → (∀ e', Ev (fun k => dns_IsDomainName.l0 k s (cnt : Nat) (off : Nat) (b + ((t.length : Int) - 1)) false e' ((pre.length + t.length : Nat) : Int)) R) → Ev (fun k => dns_IsDomainName.l0 k s (cnt : Nat) (off : Nat) b wd e (pre.length : Nat)) R := by
    intro R hoff k
    cases ht with
    | plain _ h92 =>
      have h0 := bt_at' (s := s) (pre := pre) (rest := rest) [] (c := c) (by simpa using h) 0 rfl
      rw [Int.add_zero] at h0
      simp at hl
      have h46 : c ≠ 46 := fun e => hc ⟨rfl, e⟩
      refine Ev.step (fun k => ?_) (k false)
      simp only [dns_IsDomainName.l0]
      rw [if_pos (by omega), if_pos (by omega), h0, if_neg h92, if_neg h46, w64 (by omega) (by omega)]
      congr 1
      simp
    | sign _ hd =>
      have h0 := bt_at' (s := s) (pre := pre) (rest := c :: rest) [] (c := 92) (by simpa using h) 0 rfl
      rw [Int.add_zero] at h0
      simp at hl
      have h255 : off ≤ 255 := hoff.resolve_right (by decide)
      have e3 : bytesOf (s.extract (pre.length + 1) s.size) = c :: rest := by
        rw [bytesOf_extract, List.take_of_length_le (by rw [bytesOf_length]; exact Nat.le_refl _), h, show pre ++ ([92, c] ++ rest) = (pre ++ [92]) ++ (c :: rest) by simp, show pre.length + 1 = (pre ++ [92]).length by simp, List.drop_left]
      refine Ev.step (fun k => ?_) (k (!e))
      simp only [dns_IsDomainName.l0]
      rw [if_pos (by omega), if_pos (by omega), h0, if_pos rfl, w64 (x := (off : Int) + 1) (by omega) (by omega), if_neg (by omega), w64 (x := (pre.length : Int) + 1) (by omega) (by omega), if_pos (by omega), if_pos (by omega), show ((pre.length : Int) + 1).toNat = pre.length + 1 by omega, ddd_no e3 hd]
      simp only [Option.bind_some, Bool.false_eq_true, if_false]
      rw [w64 (x := b + 1) (by omega) (by omega), w64 (x := (pre.length : Int) + 1 + 1) (by omega) (by omega)]
      congr 1
    | ddd a b' d ha hb' hd hv =>
      have h0 := bt_at' (s := s) (pre := pre) (rest := a :: b' :: d :: rest) [] (c := 92) (by simpa using h) 0 rfl
      rw [Int.add_zero] at h0
      simp at hl
      have h255 : off ≤ 255 := hoff.resolve_right (by decide)
      have e3 : bytesOf (s.extract (pre.length + 1) s.size) = a :: b' :: d :: rest := by
        rw [bytesOf_extract, List.take_of_length_le (by rw [bytesOf_length]; exact Nat.le_refl _), h, show pre ++ ([92, a, b', d] ++ rest) = (pre ++ [92]) ++ (a :: b' :: d :: rest) by simp, show pre.length + 1 = (pre ++ [92]).length by simp, List.drop_left]
      refine Ev.step (fun k => ?_) (k (!e))
      simp only [dns_IsDomainName.l0]
      rw [if_pos (by omega), if_pos (by omega), h0, if_pos rfl, w64 (x := (off : Int) + 1) (by omega) (by omega), if_neg (by omega), w64 (x := (pre.length : Int) + 1) (by omega) (by omega), if_pos (by omega), if_pos (by omega), show ((pre.length : Int) + 1).toNat = pre.length + 1 by omega, ddd_yes e3 ha hb' hd]
      simp only [Option.bind_some, if_true]
      rw [w64 (x := b + 3) (by omega) (by omega), w64 (x := (pre.length : Int) + 3) (by omega) (by omega), w64 (x := (pre.length : Int) + 3 + 1) (by omega) (by omega)]
      congr 1
  refine ⟨fun R k h255 => key R (.inl h255) k, fun k => ?_⟩
  by_cases hx : off ≤ 255 ∨ p = true
  · cases ht with
    | plain _ h92 =>
      obtain ⟨x, hx1⟩ := k false
      refine ⟨x, ?_⟩
      have h0 := bt_at' (s := s) (pre := pre) (rest := rest) [] (c := c) (by simpa using h) 0 rfl
      rw [Int.add_zero] at h0
      simp at hl
      have h46 : c ≠ 46 := fun e => hc ⟨rfl, e⟩
      refine Ev.step (fun k => ?_) hx1
      simp only [dns_IsDomainName.l0]
      rw [if_pos (by omega), if_pos (by omega), h0, if_neg h92, if_neg h46, w64 (by omega) (by omega)]
      congr 1
      simp
    | sign _ hd =>
      obtain ⟨x, hx1⟩ := k (!e)
      refine ⟨x, ?_⟩
      have h0 := bt_at' (s := s) (pre := pre) (rest := c :: rest) [] (c := 92) (by simpa using h) 0 rfl
      rw [Int.add_zero] at h0
      simp at hl
      have h255 : off ≤ 255 := hx.resolve_right (by decide)
      have e3 : bytesOf (s.extract (pre.length + 1) s.size) = c :: rest := by
        rw [bytesOf_extract, List.take_of_length_le (by rw [bytesOf_length]; exact Nat.le_refl _), h, show pre ++ ([92, c] ++ rest) = (pre ++ [92]) ++ (c :: rest) by simp, show pre.length + 1 = (pre ++ [92]).length by simp, List.drop_left]
      refine Ev.step (fun k => ?_) hx1
      simp only [dns_IsDomainName.l0]
      rw [if_pos (by omega), if_pos (by omega), h0, if_pos rfl, w64 (x := (off : Int) + 1) (by omega) (by omega), if_neg (by omega), w64 (x := (pre.length : Int) + 1) (by omega) (by omega), if_pos (by omega), if_pos (by omega), show ((pre.length : Int) + 1).toNat = pre.length + 1 by omega, ddd_no e3 hd]
      simp only [Option.bind_some, Bool.false_eq_true, if_false]
      rw [w64 (x := b + 1) (by omega) (by omega), w64 (x := (pre.length : Int) + 1 + 1) (by omega) (by omega)]
      congr 1
    | ddd a b' d ha hb' hd hv =>
      obtain ⟨x, hx1⟩ := k (!e)
      refine ⟨x, ?_⟩
      have h0 := bt_at' (s := s) (pre := pre) (rest := a :: b' :: d :: rest) [] (c := 92) (by simpa using h) 0 rfl
      rw [Int.add_zero] at h0
      simp at hl
      have h255 : off ≤ 255 := hx.resolve_right (by decide)
      have e3 : bytesOf (s.extract (pre.length + 1) s.size) = a :: b' :: d :: rest := by
        rw [bytesOf_extract, List.take_of_length_le (by rw [bytesOf_length]; exact Nat.le_refl _), h, show pre ++ ([92, a, b', d] ++ rest) = (pre ++ [92]) ++ (a :: b' :: d :: rest) by simp, show pre.length + 1 = (pre ++ [92]).length by simp, List.drop_left]
      refine Ev.step (fun k => ?_) hx1
      simp only [dns_IsDomainName.l0]
      rw [if_pos (by omega), if_pos (by omega), h0, if_pos rfl, w64 (x := (off : Int) + 1) (by omega) (by omega), if_neg (by omega), w64 (x := (pre.length : Int) + 1) (by omega) (by omega), if_pos (by omega), if_pos (by omega), show ((pre.length : Int) + 1).toNat = pre.length + 1 by omega, ddd_yes e3 ha hb' hd]
      simp only [Option.bind_some, if_true]
      rw [w64 (x := b + 3) (by omega) (by omega), w64 (x := (pre.length : Int) + 3) (by omega) (by omega), w64 (x := (pre.length : Int) + 3 + 1) (by omega) (by omega)]
      congr 1
  · have hp : p = false := by cases p with
      | false => rfl
      | true => exact absurd (Or.inr rfl) hx
    have h256 : off = 256 := by
      rcases Nat.lt_or_ge off 256 with h | h
      · exact absurd (Or.inl (by omega)) hx
      · omega
    have h92 : bt s (pre.length : Int) = 92 := by
      cases ht with
      | plain _ _ => cases hp
      | sign _ _ => exact bt_split (rest := c :: rest) (by simpa using h)
      | ddd a b' d _ _ _ _ => exact bt_split (rest := a :: b' :: d :: rest) (by simpa using h)
    refine ⟨cnt, 1, fun k hk => ?_⟩
    obtain ⟨m, rfl⟩ : ∃ m, k = m + 1 := ⟨k - 1, by omega⟩
    have hpos := ht.pos
    simp only [dns_IsDomainName.l0]
    rw [if_pos (by omega), if_pos (by omega), h92, if_pos rfl, w64 (x := (off : Int) + 1) (by omega) (by omega), if_pos (by omega)]
theorem idn_lab {s : ByteArray} (hs : s.size ≤ 1000000) {r l : List Int} (hL : Lab r l) {cnt off : Nat} (ho : off ≤ 256) : ∀ (pre rest : List Int) (b : Int) (wd e : Bool), bytesOf s = pre ++ (r ++ rest) → 0 ≤ b → b ≤ pre.length → r ≠ [] →
    (∀ R, (∀ e', Ev (fun k => dns_IsDomainName.l0 k s (cnt : Nat) (off : Nat) (b + ((r.length : Int) - l.length)) false e' ((pre ++ r).length : Nat)) R) → off ≤ 255 → Ev (fun k => dns_IsDomainName.l0 k s (cnt : Nat) (off : Nat) b wd e (pre.length : Nat)) R) ∧
    ((∀ e', ∃ x, Ev (fun k => dns_IsDomainName.l0 k s (cnt : Nat) (off : Nat) (b + ((r.length : Int) - l.length)) false e' ((pre ++ r).length : Nat)) (x, false)) → ∃ x, Ev (fun k => dns_IsDomainName.l0 k s (cnt : Nat) (off : Nat) b wd e (pre.length : Nat)) (x, false)) := by
  induction hL with
  | nil => intro pre rest b wd e h h0 hb hr; exact absurd rfl hr
  | @cons t r l c p ht hc hlab ih =>
    intro pre rest b wd e h h0 hb hr
    have h1 : bytesOf s = pre ++ (t ++ (r ++ rest)) := by rw [h, List.append_assoc]
    have hpos := ht.pos
    obtain ⟨t1, t2⟩ := idn_tok hs h1 ht hc (cnt := cnt) (off := off) ho h0 hb wd e
    by_cases hr0 : r = []
    · subst hr0
      obtain rfl := hlab.nil_iff.1 rfl
      rw [List.append_nil]
      exact ⟨t1, t2⟩
    · have hb' : b + ((t.length : Int) - 1) ≤ ((pre ++ t).length : Int) := by rw [List.length_append]; omega
      have e1 : b + ((t.length : Int) - 1) + ((r.length : Int) - l.length) = b + (((t ++ r).length : Int) - ((c :: l).length : Int)) := by simp; omega
      have ih' := fun e' => ih (pre ++ t) rest (b + ((t.length : Int) - 1)) false e' (by rw [h]; simp) (by omega) hb' hr0
      rw [e1, List.append_assoc] at ih'
      exact ⟨fun R k h255 => t1 R (fun e' => (ih' e').1 R k h255) h255, fun k => t2 (fun e' => (ih' e').2 k)⟩

theorem idn_dot {s : ByteArray} (hs : s.size ≤ 1000000) {pre rest : List Int} (h : bytesOf s = pre ++ 46 :: rest) {cnt off L : Nat} (hL : L ≤ pre.length) (hp : 0 < pre.length) (hc : cnt ≤ 1000000) (ho : off ≤ 256) (e : Bool) :
    (L ≤ 63 → off + 1 + L ≤ 256 → ∀ R, Ev (fun k => dns_IsDomainName.l0 k s ((cnt + 1 : Nat) : Int) ((off + 1 + L : Nat) : Int) ((pre ++ [46]).length : Nat) true false ((pre ++ [46]).length : Nat)) R → Ev (fun k => dns_IsDomainName.l0 k s (cnt : Nat) (off : Nat) ((pre.length : Int) - L) false e (pre.length : Nat)) R) ∧
    (¬ (L ≤ 63 ∧ off + 1 + L ≤ 256) → Ev (fun k => dns_IsDomainName.l0 k s (cnt : Nat) (off : Nat) ((pre.length : Int) - L) false e (pre.length : Nat)) ((cnt : Int), false)) := by
  have hl := bytesOf_length s
  rw [h] at hl
  simp only [List.length_append, List.length_cons] at hl
  have h0 := bt_split h
  have hj : ∀ k, dns_IsDomainName.l0 (k + 1) s (cnt : Nat) (off : Nat) ((pre.length : Int) - L) false e (pre.length : Nat) = dns_IsDomainName.j1 k s (cnt : Nat) (off : Nat) ((pre.length : Int) - L) false false (pre.length : Nat) false := by
    intro k
    simp only [dns_IsDomainName.l0]
    rw [if_pos (by omega), if_pos (by omega), h0, if_neg (by decide), if_pos rfl, if_neg (by omega)]
  have hw : wrap64 ((pre.length : Int) - ((pre.length : Int) - L)) = (L : Int) := by rw [w64 (by omega) (by omega)]; omega
  constructor
  · intro h63 h256 R k
    refine Ev.step hj (Ev.step (fun k => ?_) k)
    simp only [dns_IsDomainName.j1]
    rw [if_neg Bool.false_ne_true, if_neg Bool.false_ne_true, hw, if_neg (by omega), w64 (x := 1 + (L : Int)) (by omega) (by omega), w64 (x := (off : Int) + (1 + (L : Int))) (by omega) (by omega), if_neg (by omega), w64 (x := (cnt : Int) + 1) (by omega) (by omega), w64 (x := (pre.length : Int) + 1) (by omega) (by omega), List.length_append]
    congr 1
    omega
  · intro hno
    refine Ev.step hj ⟨1, fun k hk => ?_⟩
    obtain ⟨m, rfl⟩ : ∃ m, k = m + 1 := ⟨k - 1, by omega⟩
    simp only [dns_IsDomainName.j1]
    rw [if_neg Bool.false_ne_true, if_neg Bool.false_ne_true, hw]
    by_cases h64 : (L : Int) ≥ 64
    · rw [if_pos h64]
    · rw [if_neg h64, w64 (x := 1 + (L : Int)) (by omega) (by omega), w64 (x := (off : Int) + (1 + (L : Int))) (by omega) (by omega), if_pos (by omega)]
def sumL : List (List Int) → Nat
  | [] => 0
  | l :: ls => 1 + l.length + sumL ls
theorem sumL_size (ls : List (List Int)) : sizeL ls = sumL ls + 1 := by
  induction ls with
  | nil => rfl
  | cons l ls ih => simp only [sizeL, sumL]; omega
def fits (off : Nat) (ls : List (List Int)) : Prop := (∀ l ∈ ls, l.length ≤ 63) ∧ off + sumL ls ≤ 256
theorem idn_labs {s : ByteArray} (hs : s.size ≤ 1000000) {rs ls : List (List Int)} (hL : Labs rs ls) : ∀ (pre rest : List Int) (cnt off : Nat) (wd e : Bool), bytesOf s = pre ++ (joinD rs ++ rest) → off ≤ 256 → cnt + rs.length ≤ 1000000 →
    (fits off ls → ∀ R, Ev (fun k => dns_IsDomainName.l0 k s ((cnt + ls.length : Nat) : Int) ((off + sumL ls : Nat) : Int) ((pre ++ joinD rs).length : Nat) (if rs = [] then wd else true) (if rs = [] then e else false) ((pre ++ joinD rs).length : Nat)) R → Ev (fun k => dns_IsDomainName.l0 k s (cnt : Nat) (off : Nat) (pre.length : Nat) wd e (pre.length : Nat)) R) ∧
    (¬ fits off ls → ∃ x, Ev (fun k => dns_IsDomainName.l0 k s (cnt : Nat) (off : Nat) (pre.length : Nat) wd e (pre.length : Nat)) (x, false)) := by
  induction hL with
  | nil =>
    intro pre rest cnt off wd e h ho hc
    refine ⟨fun _ R k => by simpa [joinD, sumL] using k, fun hno => absurd ⟨(fun l hl => by cases hl), by simp [sumL]; exact ho⟩ hno⟩
  | @cons r l rs ls h1 h2 _ ih =>
    intro pre rest cnt off wd e h ho hc
    simp only [List.length_cons] at hc
    have hr : r ≠ [] := fun h => h2 (h1.nil_iff.1 h)
    have hrp : 0 < r.length := List.length_pos_iff.2 hr
    have hlp : 0 < l.length := List.length_pos_iff.2 h2
    have hll := h1.len
    have e1 : bytesOf s = pre ++ (r ++ 46 :: (joinD rs ++ rest)) := by rw [h]; simp [joinD]
    have e2 : bytesOf s = (pre ++ r) ++ 46 :: (joinD rs ++ rest) := by rw [e1, List.append_assoc]
    obtain ⟨t1, t2⟩ := idn_lab hs h1 (cnt := cnt) ho pre (46 :: (joinD rs ++ rest)) (pre.length : Nat) wd e e1 (by omega) (by omega) hr
    have eb : ((pre.length : Nat) : Int) + ((r.length : Int) - l.length) = ((pre ++ r).length : Int) - (l.length : Nat) := by rw [List.length_append]; omega
    rw [eb] at t1 t2
    have hd := fun e' => idn_dot hs e2 (cnt := cnt) (off := off) (L := l.length) (by rw [List.length_append]; omega) (by rw [List.length_append]; omega) (by omega) ho e'
    by_cases hA : l.length ≤ 63 ∧ off + 1 + l.length ≤ 256
    · obtain ⟨i1, i2⟩ := ih (pre ++ r ++ [46]) rest (cnt + 1) (off + 1 + l.length) true false (by rw [h]; simp [joinD]) hA.2 (by omega)
      have hj : pre ++ r ++ [46] ++ joinD rs = pre ++ joinD (r :: rs) := by simp [joinD]
      rw [hj] at i1
      constructor
      · intro hf R k
        refine t1 R (fun e' => (hd e').1 hA.1 hA.2 R (i1 ⟨fun x hx => hf.1 x (List.mem_cons_of_mem _ hx), by have := hf.2; simp only [sumL] at this; omega⟩ R ?_)) (by omega)
        rw [if_neg (by simp), if_neg (by simp)] at k
        have eT : (if rs = [] then true else true) = true := by split <;> rfl
        have eF : (if rs = [] then false else false) = false := by split <;> rfl
        rw [eT, eF, show cnt + 1 + ls.length = cnt + (l :: ls).length by simp; omega, show off + 1 + l.length + sumL ls = off + sumL (l :: ls) by simp only [sumL]; omega]
        exact k
      · intro hno
        have hno' : ¬ fits (off + 1 + l.length) ls := fun hf => hno ⟨fun x hx => by
          rcases List.mem_cons.1 hx with rfl | hx
          · exact hA.1
          · exact hf.1 x hx, by have := hf.2; simp only [sumL]; omega⟩
        obtain ⟨x, hx⟩ := i2 hno'
        exact t2 (fun e' => ⟨x, (hd e').1 hA.1 hA.2 _ hx⟩)
    · constructor
      · intro hf
        exact absurd ⟨hf.1 l List.mem_cons_self, by have := hf.2; simp only [sumL] at this; omega⟩ hA
      · intro _
        exact t2 (fun e' => ⟨_, (hd e').2 hA⟩)
/-- IsDomainName of a whole text that is a list of labels. -/
theorem idn_whole {s : ByteArray} (hs : s.size ≤ 1000000) {rs ls : List (List Int)} (hL : Labs rs ls) (e : bytesOf s = joinD rs) (hn : rs ≠ []) :
    (fits 0 ls → Ev (fun k => dns_IsDomainName.l0 k s 0 0 0 false false 0) ((ls.length : Int), true)) ∧
    (¬ fits 0 ls → ∃ x, Ev (fun k => dns_IsDomainName.l0 k s 0 0 0 false false 0) (x, false)) := by
  have hlen := hL.len
  have hl := bytesOf_length s
  rw [e] at hl
  have h1 := len_le_size ls
  have h2 := hL.length
  obtain ⟨a, b⟩ := idn_labs hs hL [] [] 0 0 false false (by rw [e]; simp) (by omega) (by
    have hp : 0 < (joinD rs).length := by cases rs with
      | nil => exact absurd rfl hn
      | cons r rs => simp [joinD]; omega
    omega)
  refine ⟨fun hf => a hf _ ?_, b⟩
  rw [if_neg hn, if_neg hn, List.nil_append, hl, Nat.zero_add, Nat.zero_add]
  refine ⟨1, fun k hk => ?_⟩
  obtain ⟨m, rfl⟩ : ∃ m, k = m + 1 := ⟨k - 1, by omega⟩
  simp only [dns_IsDomainName.l0]
  rw [if_neg (by omega), if_neg Bool.false_ne_true]
/-- .. of a text in which an empty label stands. -/
theorem idn_empty {s : ByteArray} (hs : s.size ≤ 1000000) {rs ls : List (List Int)} {rest : List Int} (hL : Labs rs ls) (e : bytesOf s = joinD rs ++ 46 :: rest) (hn : 1 < s.size) :
    ∃ x, Ev (fun k => dns_IsDomainName.l0 k s 0 0 0 false false 0) (x, false) := by
  have hlen := hL.len
  have hl := bytesOf_length s
  rw [e, List.length_append, List.length_cons] at hl
  have h1 := len_le_size ls
  have h2 := hL.length
  obtain ⟨a, b⟩ := idn_labs hs hL [] (46 :: rest) 0 0 false false (by rw [e]; simp) (by omega) (by omega)
  by_cases hf : fits 0 ls
  · have h0 := bt_split e
    refine ⟨((0 + ls.length : Nat) : Int), a hf _ (Ev.step (f := fun k => dns_IsDomainName.j1 k s ((0 + ls.length : Nat) : Int) ((0 + sumL ls : Nat) : Int) (([] ++ joinD rs).length : Nat) (if rs = [] then false else true) false (([] ++ joinD rs).length : Nat) (decide (rs = []))) (fun k => ?_) ⟨1, fun k hk => ?_⟩)⟩
    · simp only [dns_IsDomainName.l0, List.nil_append]
      rw [if_pos (by omega), if_pos (by omega), h0, if_neg (by decide), if_pos rfl]
      by_cases hr : rs = []
      · subst hr
        rw [if_pos (by simp [joinD])]
        congr 1
        simp
        omega
      · have : (joinD rs).length ≠ 0 := by
          cases rs with
          | nil => exact absurd rfl hr
          | cons r rs => simp [joinD]
        rw [if_neg (by omega), decide_eq_false hr]
    · obtain ⟨m, rfl⟩ : ∃ m, k = m + 1 := ⟨k - 1, by omega⟩
      simp only [dns_IsDomainName.j1]
      by_cases hr : rs = []
      · rw [decide_eq_true hr, if_pos rfl]
      · rw [decide_eq_false hr, if_neg Bool.false_ne_true, if_neg hr, if_pos rfl]
  · exact b hf

end Go.Proofs.YtiilihafcdmccaaDoor.P
