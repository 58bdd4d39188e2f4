/- What 'ReadName', 'UnpackDomainName' and 'back' answer, step by step, and that they go together. -/
import Derived.Test.YtiilihafcdmccaaDoorEvalG
import Derived.Test.YtiilihafcdmccaaDoorPF3
namespace Go.Proofs.YtiilihafcdmccaaDoor.Pure
open Go.RowKit Go.Proofs.YtiilihafcdmccaaDoor.P Go.Proofs.YtiilihafcdmccaaDoorW.PrintWords Go.Proofs.YtiilihafcdmccaaDoorW.PrintLast
set_option linter.unusedVariables false
set_option linter.unusedSimpArgs false
set_option linter.unusedSectionVars false

theorem Ev.inv {α : Type} {g f : Nat → Option α} {r : α} (h : ∀ k, g (k + 1) = f k) (k : Ev g r) : Ev f r := by
  obtain ⟨K, k⟩ := k
  exact ⟨K, fun n hn => by rw [← h]; exact k (n + 1) (by omega)⟩
theorem Ev.inj {α : Type} {g : Nat → Option α} {a b : α} (h : Ev g a) (k : Ev g b) : a = b := by
  obtain ⟨K, h⟩ := h
  obtain ⟨L, k⟩ := k
  have h1 := h (max K L) (by omega)
  have h2 := k (max K L) (by omega)
  rw [h1] at h2
  exact Option.some.inj h2

theorem and192 {c : Int} (h0 : 0 ≤ c) (h : c < 256) : Go.bits .and .i64 c 192 = if c < 64 then 0 else if c < 128 then 64 else if c < 192 then 128 else 192 := by
  obtain ⟨n, rfl⟩ := Int.eq_ofNat_of_zero_le h0
  have hn : n < 256 := by omega
  clear h h0
  revert n
  decide +kernel
theorem and192_hi {c : Int} (h0 : 192 ≤ c) (h : c < 256) : Go.bits .and .i64 c 192 = 192 := by
  rw [and192 (by omega) h, if_neg (by omega), if_neg (by omega), if_neg (by omega)]
theorem xor192 {c : Int} (h0 : 192 ≤ c) (h : c < 256) : Go.bits .xor .i64 c 192 = c - 192 := by
  obtain ⟨n, hn0⟩ := Int.eq_ofNat_of_zero_le (show 0 ≤ c - 192 by omega)
  obtain rfl : c = 192 + (n : Int) := by omega
  have hn : n < 64 := by omega
  clear h h0 hn0
  revert n
  decide +kernel
theorem and63 {c : Int} (h0 : 192 ≤ c) (h : c < 256) : Go.bits .and .i64 c 63 = c - 192 := by
  obtain ⟨n, hn0⟩ := Int.eq_ofNat_of_zero_le (show 0 ≤ c - 192 by omega)
  obtain rfl : c = 192 + (n : Int) := by omega
  have hn : n < 64 := by omega
  clear h h0 hn0
  revert n
  decide +kernel
theorem ptr_or {c d : Int} (h0 : 192 ≤ c) (h : c < 256) (d0 : 0 ≤ d) (d1 : d < 256) : Go.bits .or .i64 (wrap64 ((c - 192) * 256)) d = (c - 192) * 256 + d := by
  rw [w64 (by omega) (by omega)]
  refine bits_join .i64 62 (by decide) (fun n h0 h1 => ?_) 8 _ _ (by omega) (by omega) (by omega) d0 (by omega) (by omega)
  rw [IntKind.wrap_i64]
  omega
theorem rd_range {x : List Int} (hB : IsB x) {i : Int} (h0 : 0 ≤ i) (h : i < x.length) : 0 ≤ rd x i ∧ rd x i < 256 := by
  unfold rd
  rw [List.getD_eq_getElem?_getD, List.getElem?_eq_getElem (show i.toNat < x.length by omega)]
  exact hB _ (List.getElem_mem _)

section back
variable {x : List Int} (hB : IsB x) (hx : x.length ≤ 65536) {off lim cnt : Int} (h0 : 0 ≤ off)
include hx h0
theorem back_end (h : (x.length : Int) ≤ off) : Ev (fun k => laws_back.l0 k x off lim cnt) true := by
  refine Ev.step (f := fun _ => some true) (fun k => ?_) (Ev.now _)
  simp only [laws_back.l0]
  rw [if_neg (by omega)]
include hB
theorem back_stop (h : off < x.length) (hc : rd x off = 0 ∨ (64 ≤ rd x off ∧ rd x off < 192)) : Ev (fun k => laws_back.l0 k x off lim cnt) true := by
  obtain ⟨r0, r1⟩ := rd_range hB h0 h
  refine Ev.step (f := fun _ => some true) (fun k => ?_) (Ev.now _)
  simp only [laws_back.l0]
  rw [if_pos (by omega), if_pos (by omega), w64 (x := rd x off) (by omega) (by omega), and192 r0 r1]
  rw [if_neg (by split <;> (try split) <;> (try split) <;> omega)]
  by_cases hz : rd x off = 0
  · rw [if_pos hz]
  · rw [if_neg hz, if_pos (by omega)]
theorem back_label (h : off < x.length) (hc : 0 < rd x off) (hc' : rd x off < 64) (k : Nat) : laws_back.l0 (k + 1) x off lim cnt = laws_back.l0 k x (off + 1 + rd x off) lim cnt := by
  obtain ⟨r0, r1⟩ := rd_range hB h0 h
  rw [laws_back.l0]
  rw [if_pos (by omega), if_pos (by omega), w64 (x := rd x off) (by omega) (by omega), and192 r0 r1, if_pos hc', if_neg (by decide), if_neg (by omega), if_neg (by omega)]
  rw [w64 (x := 1 + rd x off) (by omega) (by omega), w64 (x := off + (1 + rd x off)) (by omega) (by omega), ← Int.add_assoc]
theorem back_short (h : off < x.length) (hc : 192 ≤ rd x off) (hs : (x.length : Int) ≤ off + 1) : Ev (fun k => laws_back.l0 k x off lim cnt) true := by
  obtain ⟨r0, r1⟩ := rd_range hB h0 h
  refine Ev.step (f := fun _ => some true) (fun k => ?_) (Ev.now _)
  simp only [laws_back.l0]
  rw [if_pos (by omega), if_pos (by omega), w64 (x := rd x off) (by omega) (by omega), and192_hi hc r1, if_pos rfl]
  rw [w64 (x := off + 1) (by omega) (by omega), if_pos (by omega)]
theorem back_ptr (h : off < x.length) (hc : 192 ≤ rd x off) (hs : off + 1 < x.length) (c0 : 0 ≤ cnt) (c1 : cnt ≤ 126) (k : Nat) :
    laws_back.l0 (k + 1) x off lim cnt = if (rd x off - 192) * 256 + rd x (off + 1) ≥ lim then some false else if cnt + 1 > 126 then some false else
      laws_back.l0 k x ((rd x off - 192) * 256 + rd x (off + 1)) ((rd x off - 192) * 256 + rd x (off + 1)) (cnt + 1) := by
  obtain ⟨r0, r1⟩ := rd_range hB h0 h
  obtain ⟨s0, s1⟩ := rd_range hB (i := off + 1) (by omega) hs
  rw [laws_back.l0]
  rw [if_pos (by omega), if_pos (by omega), w64 (x := rd x off) (by omega) (by omega), and192_hi hc r1, if_pos rfl]
  rw [w64 (x := off + 1) (by omega) (by omega), if_neg (by omega), if_pos (by omega), if_pos (by omega), and63 hc r1, w64 (x := rd x (off + 1)) (by omega) (by omega), ptr_or hc r1 s0 s1,
    w64 (x := cnt + 1) (by omega) (by omega)]
end back

/-- 'back' always answers. -/
theorem back_total {x : List Int} (hB : IsB x) (hx : x.length ≤ 65536) : ∀ (m : Nat) (off lim cnt : Int), 0 ≤ off → 0 ≤ lim → 0 ≤ cnt → cnt ≤ 126 → lim.toNat * (x.length + 65) + (x.length + 64 - off).toNat ≤ m →
    ∃ b, Ev (fun k => laws_back.l0 k x off lim cnt) b := by
  intro m
  induction m with
  | zero =>
    intro off lim cnt h0 hl c0 c1 hm
    exact ⟨true, back_end hx h0 (by omega)⟩
  | succ m ih =>
    intro off lim cnt h0 hl c0 c1 hm
    by_cases h : off < x.length
    · obtain ⟨r0, r1⟩ := rd_range hB h0 h
      by_cases hp : 192 ≤ rd x off
      · by_cases hs : off + 1 < x.length
        · obtain ⟨s0, s1⟩ := rd_range hB (i := off + 1) (by omega) hs
          have hst := back_ptr (lim := lim) hB hx h0 h hp hs c0 c1
          have e3 : 0 ≤ (rd x off - 192) * 256 + rd x (off + 1) := by omega
          generalize (rd x off - 192) * 256 + rd x (off + 1) = tgt at hst e3
          by_cases e1 : tgt ≥ lim
          · exact ⟨false, Ev.step (f := fun _ => some false) (fun k => by rw [hst, if_pos e1]) (Ev.now _)⟩
          · by_cases e2 : cnt + 1 > 126
            · exact ⟨false, Ev.step (f := fun _ => some false) (fun k => by rw [hst, if_neg e1, if_pos e2]) (Ev.now _)⟩
            · · have hmul : (tgt.toNat + 1) * (x.length + 65) ≤ lim.toNat * (x.length + 65) := Nat.mul_le_mul_right _ (by omega)
                rw [Nat.succ_mul] at hmul
                obtain ⟨b, hb⟩ := ih tgt tgt (cnt + 1) e3 e3 (by omega) (by omega) (by omega)
                exact ⟨b, Ev.step (fun k => by rw [hst, if_neg e1, if_neg e2]) hb⟩
        · exact ⟨true, back_short hB hx h0 h hp (by omega)⟩
      · by_cases hc : 0 < rd x off ∧ rd x off < 64
        · obtain ⟨b, hb⟩ := ih (off + 1 + rd x off) lim cnt (by omega) hl c0 c1 (by omega)
          exact ⟨b, Ev.step (back_label hB hx h0 h hc.1 hc.2) hb⟩
        · exact ⟨true, back_stop hB hx h0 h (by omega)⟩
    · exact ⟨true, back_end hx h0 (by omega)⟩

/-! ### ReadName -/
abbrev RdR := List ByteArray × Int × Bool
section read
variable {x : List Int} (hB : IsB x) (hx : x.length ≤ 65536) {off lim cnt next : Int} (h0 : 0 ≤ off) {ns : List ByteArray}
include hx h0
theorem read_end (h : (x.length : Int) ≤ off) : Ev (fun k => spec_ReadName.l0 k x off ns next lim cnt) ([], 0, false) := by
  refine Ev.step (f := fun k => spec_ReadName.j1 k x off ns next lim cnt true) (fun k => ?_) (Ev.step (f := fun _ => some ([], 0, false)) (fun k => ?_) (Ev.now _))
  · rw [spec_ReadName.l0, if_neg (by omega)]
    congr 1
    exact decide_eq_true (by omega)
  · rw [spec_ReadName.j1, if_pos rfl]
theorem read_go {R : RdR} (h : off < x.length) (k : Ev (fun k => spec_ReadName.j1 k x off ns next lim cnt false) R) : Ev (fun k => spec_ReadName.l0 k x off ns next lim cnt) R := by
  refine Ev.step (fun k => ?_) k
  rw [spec_ReadName.l0, if_neg (by omega)]
  congr 1
  exact decide_eq_false (by omega)
include hB
theorem read_zero {b : Bool} (h : off < x.length) (hc : rd x off = 0) (hv : Ev (fun k => spec_Name_Valid.f k ns) b) : Ev (fun k => spec_ReadName.l0 k x off ns next lim cnt) (ns, (if next < 0 then off + 1 else next), b) := by
  refine read_go hx h0 h (Ev.step (f := fun k => (spec_Name_Valid.f k ns).bind fun t => some (ns, (if next < 0 then off + 1 else next), t)) (fun k => ?_) (Ev.bind (f := fun k t => some (ns, (if next < 0 then off + 1 else next), t)) hv (Ev.now _)))
  rw [spec_ReadName.j1, if_neg Bool.false_ne_true, if_pos h0, if_pos h, hc]
  rw [w64 (x := 0) (by omega) (by omega), if_pos (by decide), if_pos rfl]
  by_cases hn : next < 0
  · simp only [if_pos hn]; rw [w64 (by omega) (by omega)]
  · simp only [if_neg hn]
theorem read_stop (h : off < x.length) (hc : 64 ≤ rd x off) (hc' : rd x off < 192) : Ev (fun k => spec_ReadName.l0 k x off ns next lim cnt) ([], 0, false) := by
  refine read_go hx h0 h (Ev.step (f := fun _ => some ([], 0, false)) (fun k => ?_) (Ev.now _))
  rw [spec_ReadName.j1, if_neg Bool.false_ne_true, if_pos h0, if_pos h, w64 (x := rd x off) (by omega) (by omega), if_neg (by omega), if_neg (by omega)]
theorem read_cut (h : off < x.length) (hc : 0 < rd x off) (hc' : rd x off < 64) (hl : (x.length : Int) < off + 1 + rd x off) : Ev (fun k => spec_ReadName.l0 k x off ns next lim cnt) ([], 0, false) := by
  refine read_go hx h0 h (Ev.step (f := fun _ => some ([], 0, false)) (fun k => ?_) (Ev.now _))
  rw [spec_ReadName.j1, if_neg Bool.false_ne_true, if_pos h0, if_pos h, w64 (x := rd x off) (by omega) (by omega), if_pos (by omega), if_neg (by omega), w64 (x := off + 1) (by omega) (by omega),
    w64 (x := off + 1 + rd x off) (by omega) (by omega), if_pos (by omega)]
theorem read_label {R : RdR} {z : Int} (h : off < x.length) (hc : 0 < rd x off) (hc' : rd x off < 64) (hl : off + 1 + rd x off ≤ x.length) (hn : ns.length < 8796093022208)
    (hz : Ev (fun k => spec_Name_Size.f k (ns ++ [strOfNums ((x.take (off + 1 + rd x off).toNat).drop (off + 1).toNat)])) z)
    (k : Ev (fun k => if z > 255 then some ([], 0, false) else spec_ReadName.l0 k x (off + 1 + rd x off) (ns ++ [strOfNums ((x.take (off + 1 + rd x off).toNat).drop (off + 1).toNat)]) next lim cnt) R) :
    Ev (fun k => spec_ReadName.l0 k x off ns next lim cnt) R := by
  refine read_go hx h0 h (Ev.step (fun k => ?_) (Ev.bind (f := fun k t => if t > 255 then some ([], 0, false) else spec_ReadName.l0 k x (off + 1 + rd x off) (ns ++ [strOfNums ((x.take (off + 1 + rd x off).toNat).drop (off + 1).toNat)]) next lim cnt) hz k))
  rw [spec_ReadName.j1, if_neg Bool.false_ne_true, if_pos h0, if_pos h, w64 (x := rd x off) (by omega) (by omega), if_pos (by omega), if_neg (by omega), w64 (x := off + 1) (by omega) (by omega),
    w64 (x := off + 1 + rd x off) (by omega) (by omega), if_neg (by omega), if_pos (by omega), if_pos (by omega), if_pos (by omega), if_pos hn, Option.bind_some,
    w64 (x := 1 + rd x off) (by omega) (by omega), w64 (x := off + (1 + rd x off)) (by omega) (by omega), ← Int.add_assoc]
theorem read_short (h : off < x.length) (hc : 192 ≤ rd x off) (hs : (x.length : Int) ≤ off + 1) : Ev (fun k => spec_ReadName.l0 k x off ns next lim cnt) ([], 0, false) := by
  obtain ⟨r0, r1⟩ := rd_range hB h0 h
  refine read_go hx h0 h (Ev.step (f := fun _ => some ([], 0, false)) (fun k => ?_) (Ev.now _))
  rw [spec_ReadName.j1, if_neg Bool.false_ne_true, if_pos h0, if_pos h, w64 (x := rd x off) (by omega) (by omega), if_neg (by omega), if_pos (by omega), w64 (x := off + 1) (by omega) (by omega), if_pos (by omega)]
theorem read_ptr {R : RdR} (h : off < x.length) (hc : 192 ≤ rd x off) (hs : off + 1 < x.length) (c0 : 0 ≤ cnt) (c1 : cnt + 1 ≤ 126) (ht : (rd x off - 192) * 256 + rd x (off + 1) < lim)
    (k : Ev (fun k => spec_ReadName.l0 k x ((rd x off - 192) * 256 + rd x (off + 1)) ns (if next < 0 then off + 2 else next) ((rd x off - 192) * 256 + rd x (off + 1)) (cnt + 1)) R) :
    Ev (fun k => spec_ReadName.l0 k x off ns next lim cnt) R := by
  obtain ⟨r0, r1⟩ := rd_range hB h0 h
  obtain ⟨s0, s1⟩ := rd_range hB (i := off + 1) (by omega) hs
  refine read_go hx h0 h (Ev.step (fun k => ?_) k)
  rw [spec_ReadName.j1, if_neg Bool.false_ne_true, if_pos h0, if_pos h, w64 (x := rd x off) (by omega) (by omega), if_neg (by omega), if_pos (by omega), w64 (x := off + 1) (by omega) (by omega), if_neg (by omega)]
  rw [and63 hc r1, w64 (x := rd x (off + 1)) (by omega) (by omega), ptr_or hc r1 s0 s1, w64 (x := cnt + 1) (by omega) (by omega), w64 (x := off + 2) (by omega) (by omega)]
  by_cases hn : next < 0
  · simp only [if_pos hn]
    rw [if_pos (by omega), if_pos (by omega), if_neg (by omega), if_neg (by omega)]
  · simp only [if_neg hn]
    rw [if_pos (by omega), if_pos (by omega), if_neg (by omega), if_neg (by omega)]
end read

/-! ### the escaping of a label's bytes -/
def special (b : Int) : Prop := b = 46 ∨ b = 32 ∨ b = 39 ∨ b = 64 ∨ b = 59 ∨ b = 40 ∨ b = 41 ∨ b = 34 ∨ b = 92
instance (b : Int) : Decidable (special b) := by unfold special; infer_instance
theorem special_eq (b : Int) : dns_isDomainNameLabelSpecial.f b = some (decide (special b)) := by
  by_cases h : special b
  · rw [decide_eq_true h]
    unfold special at h
    unfold dns_isDomainNameLabelSpecial.f
    rcases h with rfl | rfl | rfl | rfl | rfl | rfl | rfl | rfl | rfl <;> rfl
  · rw [decide_eq_false h]
    unfold special at h
    unfold dns_isDomainNameLabelSpecial.f
    repeat (rw [if_neg (by omega)])
def escB (b : Int) : List Int := if special b then [92, b] else if b < 32 ∨ 126 < b then ddd3 b else [b]
def escs (l : List Int) : List Int := l.flatMap escB
theorem escs_cons (b : Int) (l : List Int) : escs (b :: l) = escB b ++ escs l := by simp [escs]
theorem escB_len (b : Int) : (escB b).length ≤ 4 := by
  unfold escB ddd3
  split
  · simp
  · split <;> simp
theorem escs_len (l : List Int) : (escs l).length ≤ 4 * l.length := by
  induction l with
  | nil => simp [escs]
  | cons b l ih =>
    rw [escs_cons, List.length_append, List.length_cons]
    have := escB_len b
    omega
theorem ddd3_isB {b : Int} (h0 : 0 ≤ b) (h : b < 256) : IsB (ddd3 b) := by
  unfold ddd3
  refine IsB.cons (by omega) (IsB.cons (by omega) (IsB.cons (by omega) (IsB.cons (by omega) IsB.nil)))
theorem escB_isB {b : Int} (h0 : 0 ≤ b) (h : b < 256) : IsB (escB b) := by
  unfold escB
  split
  · exact IsB.cons (by omega) (IsB.cons ⟨h0, h⟩ IsB.nil)
  · split
    · exact ddd3_isB h0 h
    · exact IsB.cons ⟨h0, h⟩ IsB.nil
theorem escs_isB {l : List Int} (h : IsB l) : IsB (escs l) := by
  induction l with
  | nil => exact IsB.nil
  | cons b l ih => rw [escs_cons]; exact (escB_isB h.head.1 h.head.2).append (ih h.tail)
theorem escB_lab {b : Int} (h0 : 0 ≤ b) (h : b < 256) : Lab (escB b) [b] := by
  unfold escB
  split
  · rename_i hs
    exact .one (.sign b (by unfold dig; unfold special at hs; omega)) (by rintro ⟨h, _⟩; cases h)
  · rename_i hs
    unfold special at hs
    split
    · have e : val3 (48 + b / 100) (48 + b / 10 % 10) (48 + b % 10) = b := by unfold val3; omega
      have ht := Tok.ddd (48 + b / 100) (48 + b / 10 % 10) (48 + b % 10) (by unfold dig; omega) (by unfold dig; omega) (by unfold dig; omega) (by rw [e]; exact h)
      rw [e] at ht
      exact .one ht (by rintro ⟨h, _⟩; cases h)
    · exact .one (.plain b (by omega)) (by rintro ⟨_, h⟩; omega)
theorem escs_lab {l : List Int} (h : IsB l) : Lab (escs l) l := by
  induction l with
  | nil => exact .nil
  | cons b l ih => rw [escs_cons]; exact (escB_lab h.head.1 h.head.2).append (ih h.tail)

/-! ### UnpackDomainName -/
abbrev UnR := ByteArray × Int × Option Int
section unpack
/-- One label's bytes are written down. -/
theorem unp_row {x row : List Int} (hB : IsB row) {o x8 len bud cnt c : Int} {R : UnR} : ∀ (suf pre s : List Int), row = pre ++ suf → row.length ≤ 100 → s.length + 4 * suf.length + 4 < 140737488355328 →
    Ev (fun k => dns_UnpackDomainName.l0 k x (wrap64 (o + c)) (s ++ escs suf ++ [46]) x8 len bud cnt) R → Ev (fun k => dns_UnpackDomainName.l1 k x o s x8 len bud cnt c row (row.length : Int) (pre.length : Int)) R := by
  intro suf
  induction suf with
  | nil =>
    intro pre s e hr hs2 k
    rw [List.append_nil] at e
    subst e
    refine Ev.step (fun k => ?_) k
    rw [dns_UnpackDomainName.l1, if_neg (by omega), if_pos (by omega)]
    simp [escs]
  | cons b suf ih =>
    intro pre s e hr hs2 k
    have hlen : row.length = pre.length + (suf.length + 1) := by rw [e]; simp
    have hb : 0 ≤ b ∧ b < 256 := hB b (by rw [e]; simp)
    have hrd : rd row (pre.length : Int) = b := by
      unfold rd
      rw [Int.toNat_natCast, e, List.getD_eq_getElem?_getD, List.getElem?_append_right (Nat.le_refl _)]
      simp
    rw [List.length_cons] at hs2
    have h4 := escB_len b
    have hnx : wrap64 ((pre.length : Int) + 1) = ((pre ++ [b]).length : Int) := by
      rw [w64 (by omega) (by omega)]
      simp
    have ih2 := ih (pre ++ [b]) (s ++ escB b) (by rw [e]; simp) hr (by rw [List.length_append]; omega)
      (by rw [escs_cons] at k; simpa using k)
    refine Ev.step (fun k => ?_) ih2
    rw [dns_UnpackDomainName.l1, if_pos (by omega), if_pos (by omega), if_pos (by omega), hrd, special_eq, Option.bind_some, hnx]
    unfold escB
    by_cases h1 : special b
    · rw [if_pos (decide_eq_true h1), if_pos h1, Option.bind_some, if_pos (by simp; omega)]
    · rw [if_neg (by simpa using h1), if_neg h1]
      by_cases h2 : b < 32
      · rw [if_pos h2, if_pos (Or.inl h2)]
        unfold dns_escapeByte.f
        rw [if_pos (Or.inl ⟨hb.1, h2⟩), Option.bind_some, bytesOf_strOfNums (ddd3_isB hb.1 hb.2), if_pos]
        rw [size_eq_len, bytesOf_strOfNums (ddd3_isB hb.1 hb.2)]
        unfold ddd3
        simp
        omega
      · rw [if_neg h2]
        by_cases h3 : b > 126
        · rw [if_pos h3, if_pos (Or.inr h3)]
          unfold dns_escapeByte.f
          rw [if_pos (Or.inr ⟨h3, hb.2⟩), Option.bind_some, bytesOf_strOfNums (ddd3_isB hb.1 hb.2), if_pos]
          rw [size_eq_len, bytesOf_strOfNums (ddd3_isB hb.1 hb.2)]
          unfold ddd3
          simp
          omega
        · rw [if_neg h3, if_neg (show ¬ (b < 32 ∨ 126 < b) by omega), if_pos (by omega)]
variable {x : List Int} (hB : IsB x) (hx : x.length ≤ 65536) {off off1 bud cnt : Int} (h0 : 0 ≤ off) {s : List Int}
include hx h0
theorem unp_end (h : (x.length : Int) ≤ off) : Ev (fun k => dns_UnpackDomainName.l0 k x off s off1 x.length bud cnt) (⟨#[]⟩, (x.length : Int), some 0) := by
  refine Ev.step (f := fun _ => some (⟨#[]⟩, (x.length : Int), some 0)) (fun k => ?_) (Ev.now _)
  rw [dns_UnpackDomainName.l0, if_pos (by omega)]
include hB
theorem unp_zero (h : off < x.length) (hc : rd x off = 0) : Ev (fun k => dns_UnpackDomainName.l0 k x off s off1 x.length bud cnt) ((if s = [] then ⟨#[46]⟩ else strOfNums s), (if cnt = 0 then off + 1 else off1), none) := by
  refine Ev.step (f := fun _ => some ((if s = [] then ⟨#[46]⟩ else strOfNums s), (if cnt = 0 then off + 1 else off1), none)) (fun k => ?_) (Ev.now _)
  rw [dns_UnpackDomainName.l0, if_neg (by omega), if_pos h0, if_pos h, hc, w64 (x := 0) (by omega) (by omega), w64 (x := off + 1) (by omega) (by omega), if_pos (by decide +kernel), if_pos rfl]
  by_cases hs : s = []
  · subst hs
    by_cases hn : cnt = 0
    · simp only [if_pos hn]; rfl
    · simp only [if_neg hn]; rfl
  · have hs' : ¬ ((s.length : Int) = 0) := by
      intro h
      exact hs (List.eq_nil_of_length_eq_zero (by omega))
    by_cases hn : cnt = 0
    · simp only [if_pos hn, if_neg hs, if_neg hs']
    · simp only [if_neg hn, if_neg hs, if_neg hs']
theorem unp_stop (h : off < x.length) (hc : 64 ≤ rd x off) (hc' : rd x off < 192) : Ev (fun k => dns_UnpackDomainName.l0 k x off s off1 x.length bud cnt) (⟨#[]⟩, (x.length : Int), some 2) := by
  obtain ⟨r0, r1⟩ := rd_range hB h0 h
  refine Ev.step (f := fun _ => some (⟨#[]⟩, (x.length : Int), some 2)) (fun k => ?_) (Ev.now _)
  have hne : ¬ Go.bits .and .i64 (rd x off) 192 = 0 ∧ ¬ Go.bits .and .i64 (rd x off) 192 = 192 := by
    rw [and192 r0 r1]
    constructor <;> (split <;> (try split) <;> (try split) <;> omega)
  rw [dns_UnpackDomainName.l0, if_neg (by omega), if_pos h0, if_pos h, w64 (x := rd x off) (by omega) (by omega), if_neg hne.1, if_neg hne.2]
theorem unp_cut (h : off < x.length) (hc : 0 < rd x off) (hc' : rd x off < 64) (hl : (x.length : Int) < off + 1 + rd x off) : Ev (fun k => dns_UnpackDomainName.l0 k x off s off1 x.length bud cnt) (⟨#[]⟩, (x.length : Int), some 0) := by
  obtain ⟨r0, r1⟩ := rd_range hB h0 h
  refine Ev.step (f := fun _ => some (⟨#[]⟩, (x.length : Int), some 0)) (fun k => ?_) (Ev.now _)
  rw [dns_UnpackDomainName.l0, if_neg (by omega), if_pos h0, if_pos h, w64 (x := rd x off) (by omega) (by omega), and192 r0 r1, if_pos hc', if_pos rfl, if_neg (by omega), w64 (x := off + 1) (by omega) (by omega),
    w64 (x := off + 1 + rd x off) (by omega) (by omega), if_pos (by omega)]
theorem unp_long (h : off < x.length) (hc : 0 < rd x off) (hc' : rd x off < 64) (hl : off + 1 + rd x off ≤ x.length) (b0 : 0 ≤ bud) (b1 : bud ≤ 255) (hb : bud - (rd x off + 1) ≤ 0) : Ev (fun k => dns_UnpackDomainName.l0 k x off s off1 x.length bud cnt) (⟨#[]⟩, (x.length : Int), some 1) := by
  obtain ⟨r0, r1⟩ := rd_range hB h0 h
  refine Ev.step (f := fun _ => some (⟨#[]⟩, (x.length : Int), some 1)) (fun k => ?_) (Ev.now _)
  rw [dns_UnpackDomainName.l0, if_neg (by omega), if_pos h0, if_pos h, w64 (x := rd x off) (by omega) (by omega), and192 r0 r1, if_pos hc', if_pos rfl, if_neg (by omega), w64 (x := off + 1) (by omega) (by omega),
    w64 (x := off + 1 + rd x off) (by omega) (by omega), if_neg (by omega), w64 (x := rd x off + 1) (by omega) (by omega), w64 (x := bud - (rd x off + 1)) (by omega) (by omega), if_pos hb]
theorem unp_label {R : UnR} (h : off < x.length) (hc : 0 < rd x off) (hc' : rd x off < 64) (hl : off + 1 + rd x off ≤ x.length) (b0 : 0 ≤ bud) (b1 : bud ≤ 255) (hb : 0 < bud - (rd x off + 1)) (hs : s.length ≤ 10000)
    (k : Ev (fun k => dns_UnpackDomainName.l0 k x (off + 1 + rd x off) (s ++ escs ((x.take (off + 1 + rd x off).toNat).drop (off + 1).toNat) ++ [46]) off1 x.length (bud - (rd x off + 1)) cnt) R) :
    Ev (fun k => dns_UnpackDomainName.l0 k x off s off1 x.length bud cnt) R := by
  obtain ⟨r0, r1⟩ := rd_range hB h0 h
  have hrl : ((x.take (off + 1 + rd x off).toNat).drop (off + 1).toNat).length ≤ 100 := by
    rw [List.length_drop, List.length_take]
    omega
  have hrB : IsB ((x.take (off + 1 + rd x off).toNat).drop (off + 1).toNat) := fun y hy => hB y (List.mem_of_mem_take (List.mem_of_mem_drop hy))
  have h1 := unp_row (x := x) hrB (o := off + 1) (x8 := off1) (len := x.length) (bud := bud - (rd x off + 1)) (cnt := cnt) (c := rd x off) (R := R) ((x.take (off + 1 + rd x off).toNat).drop (off + 1).toNat) [] s rfl hrl (by omega)
    (by rw [w64 (x := off + 1 + rd x off) (by omega) (by omega)]; exact k)
  refine Ev.step (fun k => ?_) h1
  rw [dns_UnpackDomainName.l0, if_neg (by omega), if_pos h0, if_pos h, w64 (x := rd x off) (by omega) (by omega), and192 r0 r1, if_pos hc', if_pos rfl, if_neg (by omega), w64 (x := off + 1) (by omega) (by omega),
    w64 (x := off + 1 + rd x off) (by omega) (by omega), if_neg (by omega), w64 (x := rd x off + 1) (by omega) (by omega), w64 (x := bud - (rd x off + 1)) (by omega) (by omega), if_neg (by omega), if_pos (by omega), if_pos (by omega), if_pos (by omega)]
  rfl
theorem unp_short (h : off < x.length) (hc : 192 ≤ rd x off) (hs : (x.length : Int) ≤ off + 1) : Ev (fun k => dns_UnpackDomainName.l0 k x off s off1 x.length bud cnt) (⟨#[]⟩, (x.length : Int), some 0) := by
  obtain ⟨r0, r1⟩ := rd_range hB h0 h
  refine Ev.step (f := fun _ => some (⟨#[]⟩, (x.length : Int), some 0)) (fun k => ?_) (Ev.now _)
  rw [dns_UnpackDomainName.l0, if_neg (by omega), if_pos h0, if_pos h, w64 (x := rd x off) (by omega) (by omega), and192_hi hc r1, if_neg (by omega), if_pos rfl, w64 (x := off + 1) (by omega) (by omega), if_pos (by omega)]
theorem unp_ptr {R : UnR} (h : off < x.length) (hc : 192 ≤ rd x off) (hs : off + 1 < x.length) (c0 : 0 ≤ cnt) (c1 : cnt + 1 ≤ 126)
    (k : Ev (fun k => dns_UnpackDomainName.l0 k x ((rd x off - 192) * 256 + rd x (off + 1)) s (if cnt = 0 then off + 2 else off1) x.length bud (cnt + 1)) R) :
    Ev (fun k => dns_UnpackDomainName.l0 k x off s off1 x.length bud cnt) R := by
  obtain ⟨r0, r1⟩ := rd_range hB h0 h
  obtain ⟨s0, s1⟩ := rd_range hB (i := off + 1) (by omega) hs
  refine Ev.step (fun k => ?_) k
  rw [dns_UnpackDomainName.l0, if_neg (by omega), if_pos h0, if_pos h, w64 (x := rd x off) (by omega) (by omega), and192_hi hc r1, if_neg (by omega), if_pos rfl, w64 (x := off + 1) (by omega) (by omega), if_neg (by omega), if_pos (by omega), if_pos (by omega)]
  rw [xor192 hc r1, w64 (x := rd x (off + 1)) (by omega) (by omega), ptr_or hc r1 s0 s1, w64 (x := cnt + 1) (by omega) (by omega), w64 (x := off + 1 + 1) (by omega) (by omega), show off + 1 + 1 = off + 2 by omega]
  by_cases hn : cnt = 0
  · simp only [if_pos hn]; rw [if_neg (by omega)]
  · simp only [if_neg hn]; rw [if_neg (by omega)]
end unpack

end Go.Proofs.YtiilihafcdmccaaDoor.Pure
