/- Texts of this session merged by program (wip/tools/merge.py): Base, PackA, Core, Fqdn, P0, PF101, PF110, PF111, PackL, B32, Enc, Nip4, QTail, Nip5, Nip6, Nip11, Nip7, ShApp, Nip8, Nip9, Nip12, Nip10, Nip13, Txt6, PF71, PF96, PF93, RefE, Gap6, Mapd. -/
import Derived.Test.YtiilihafcdmccaaDoorProg
import Derived.Below
import Derived.Deep.Draws
import Derived.Deep.AppendLies
import Derived.Maps.AppendAt
import Derived.OwnWalk
import Derived.Laws.BytesArg
import Derived.Laws.MakeOwn
import Derived.Laws.OwnMore
import Derived.Deep.OwnRows
import Derived.Tactics
import Derived.Lib.ConvBytes
import Derived.Lib.Hide
import Derived.Laws.Slices
import Derived.WalkKit
import Derived.KernelRfl
import Derived.RowKit3
import Derived.Deep.LoopGhost
import Derived.Deep.QuietTactic
import Derived.BigQuiet
import Derived.WideLaws
import Derived.Deep.DeepCutAuto
import Derived.Deep.CutBlock
import Derived.Deep.RegionHeld3
import Derived.Laws.Rows
import Derived.Lib.AppendStr
import Derived.ArgAppend
import Derived.Laws.IdiomCopy
import Derived.OrdersHeld
import Derived.Laws.BitsLemmas
import Derived.RowKit
import Derived.Test.YtiilihafcdmccaaDoorWWords
import Derived.Test.YtiilihafcdmccaaDoorWLast
import Derived.Test.YtiilihafcdmccaaDoorWTab
import Derived.Test.YtiilihafcdmccaaDoorWFour
import Derived.Test.YtiilihafcdmccaaDoorWMore
import Derived.Laws.Cover3
import Derived.Lib.LazyBuf
import Derived.Lib.Bytes
import Derived.Test.YtiilihafcdmccaaDoorWQPut
import Derived.Test.YtiilihafcdmccaaDoorWApart
import Derived.Test.YtiilihafcdmccaaDoorWArr
import Derived.Test.YtiilihafcdmccaaDoorWZeros
import Derived.Test.YtiilihafcdmccaaDoorWFoot
import Derived.Test.YtiilihafcdmccaaDoorWKept
import Derived.Test.YtiilihafcdmccaaDoorWShare
import Derived.Test.YtiilihafcdmccaaDoorWN
import Derived.Test.YtiilihafcdmccaaDoorWFootNe
import Derived.Test.YtiilihafcdmccaaDoorWAt
import Derived.Test.YtiilihafcdmccaaDoorWEqStruct
import Derived.Test.YtiilihafcdmccaaDoorWRepsOne
import Derived.Test.YtiilihafcdmccaaDoorWInv
import Derived.Test.YtiilihafcdmccaaDoorWInvWords
import Derived.Test.YtiilihafcdmccaaDoorWGuard
import Derived.Test.YtiilihafcdmccaaDoorWNEv
import Derived.WalkMore
import Derived.Laws.CopyOwn
import Derived.Lib.BufferWrite
import Derived.Laws.AppendOwn
import Derived.StillTailTactics
import Derived.StillTail
import Derived.Laws.ResultCell
import Derived.Laws.Tables
import Derived.Shelf.Strconv.AppendIntPublic10
import Derived.Lib.Bytealg
import Derived.Lib.SliceRun
/- Lemmas of this seat's hand-made contracts: a row of bytes that '[]byte(s)' made, a make with a capacity of its own. -/
namespace Go.Proofs.YtiilihafcdmccaaDoor.P
open Go.RowKit Go.Proofs.YtiilihafcdmccaaDoorW.PrintWords Go.Proofs.YtiilihafcdmccaaDoorW.PrintLast Go.Proofs.YtiilihafcdmccaaDoorW.PrintMore
set_option linter.unusedVariables false
set_option linter.unusedSimpArgs false

/-- Block b holds, from its head on, these bytes, and they may be written. -/
def RowB (wr : World) (b : Nat) (xs : List Int) : Prop :=
  ∀ j, j < xs.length → wr.cell? ⟨b, j, none⟩ = some (.int .u8 (xs.getD j 0)) ∧ wr.frozen? ⟨b, j, none⟩ = false

theorem RowB.cell {wr : World} {b : Nat} {xs : List Int} (h : RowB wr b xs) {j : Nat} (hj : j < xs.length) :
    wr.cell? ⟨b, j, none⟩ = some (.int .u8 (xs.getD j 0)) := (h j hj).1
theorem RowB.free {wr : World} {b : Nat} {xs : List Int} (h : RowB wr b xs) {j : Nat} (hj : j < xs.length) :
    wr.frozen? ⟨b, j, none⟩ = false := (h j hj).2

theorem RowB.set {wr : World} {b : Nat} {xs : List Int} (h : RowB wr b xs) (i : Nat) (x : Int) :
    RowB (wr.setCell ⟨b, i, none⟩ (.int .u8 x)) b (xs.set i x) := by
  intro j hj
  rw [List.length_set] at hj
  obtain ⟨h1, h2⟩ := h j hj
  refine ⟨?_, by rw [World.frozen?_setCell]; exact h2⟩
  by_cases e : i = j
  · subst e
    rw [World.cell?_setCell_same _ _ _ h1]
    simp [List.getD_eq_getElem?_getD, List.getElem?_set, hj]
  · rw [World.cell?_setCell_other _ _ _ _ (by intro he; injection he with _ he; exact e he), h1]
    simp [List.getD_eq_getElem?_getD, List.getElem?_set, e]

theorem RowB_bytes (w : World) (e : TypeId) (s : ByteArray) : RowB (Lib.bytesWorld w e s) w.heap.size (bytesOf s) := by
  intro j hj
  rw [bytesOf_length] at hj
  refine ⟨?_, ?_⟩
  · rw [Lib.bytesWorld_cell w e s j hj]
    have h' : j < s.data.toList.length := by rw [data_length]; exact hj
    simp [bytesOf, List.getD_eq_getElem?_getD, List.getElem?_eq_getElem h']
  · have hc : (Lib.bytesCells w e s).size ≥ s.size := by
      unfold Lib.bytesCells
      simp
    simp only [World.frozen?, Lib.bytesWorld_at_new]
    simp
    intro h
    omega

section
variable {α : Type} {P : Program} {ops : Array Oper} {rest : List Oper} {o : Oper} {a : Act} {Q : Exit → Act → World → Prop}
/-- make([]T, n, m): a length and a capacity of its own. -/
theorem R_makec (d : Kd α) {w0 W : World} (base e : Nat) (hgd : o.guard = none) {N : Tmp} (hd : o.dst = some N) (t : TypeId) (x y : Operand) (ho : o.op = .makeSlice t x y) (n m : Int) (hx : a.eval x = .int .i64 n) (hy : a.eval y = .int .i64 m) (hnm : n ≤ m)
    (ht : P.underlying t = some (.slice e)) (z : Value) (bytes : Nat) (hinfo : (P.info? e).map (fun i => (i.zero, i.size, i.bytes)) = some (some z, d.sz, bytes)) (hz : z.cells.size = d.sz) (hs0 : 0 < d.sz) (hb0 : 0 < bytes)
    (z0 : α) {ok okp : Nat → Prop} (hzero : d.M W base okp z0 z.cells.toList) (hok : ∀ k, okp k → ok k) (hfresh : ok W.heap.size) (h0 : 0 ≤ n) (hl : m.toNat * bytes ≤ 281474976710656) (HB : Below base w0 W) (hbase : base ≤ W.heap.size)
    (h : ∀ v1 w1, d.R e w1 base ok v1 (List.replicate n.toNat z0) → Below base w0 w1 → W.grownBy w1 none → (∃ b, v1.ownBlock = some b ∧ W.heap.size ≤ b) → wpList P ops Q rest (a.put o.dst v1) w1) : wpList P ops Q (o :: rest) a W := by
  obtain ⟨m, rfl⟩ := Int.eq_ofNat_of_zero_le (Int.le_trans h0 hnm)
  obtain ⟨n, rfl⟩ := Int.eq_ofNat_of_zero_le h0
  simp only [Int.toNat_natCast] at hl h
  obtain ⟨i0, hi, hzz⟩ := Option.map_eq_some_iff.1 hinfo
  simp only [Prod.mk.injEq] at hzz
  obtain ⟨hz0, hz1, hz2⟩ := hzz
  have hm : m ≤ 281474976710656 := Nat.le_trans (Nat.le_mul_of_pos_right _ hb0) hl
  have hr := run_make (P := P) W t e i0 z ht hi hz0 .i64 .i64 (n : Int) (m : Int) (by omega) hnm
    (by
      have h3 : ((i0.bytes * m : Nat) : Int) ≤ 281474976710656 := by rw [hz2, Nat.mul_comm]; omega
      rwa [Int.natCast_mul] at h3) (by omega)
  simp only [Int.toNat_natCast] at hr
  rw [hz1] at hr
  have hrep := Kd.reps_made hz hs0 hzero m
  have hR : d.R e (W.alloc (.cells (madeCells z.cells (m * d.sz)) e)) base ok (.slice (some ⟨W.heap.size, 0, none⟩) m m) (List.replicate m z0) := by
    refine ⟨fun k hk => ?_, (madeCells z.cells (m * d.sz)).toList, ?_, ?_⟩
    · have : W.heap.size = k := by simpa [Value.ownBlock] using hk
      subst this
      exact hfresh
    · have h2 := World.ownsRow_lit (base := base) (e := e) (size := d.sz) W (madeCells z.cells (m * d.sz)) m hbase (by simp [maxLen]; omega) (by simp [size_madeCells])
      simpa using h2
    · refine hrep.imp_ (fun p c hp => d.M_mono (fun k hk => ⟨hok k hk.1, fun he => ?_⟩) (Kd.M_below (d.M_bound hp) (below_alloc (Below.refl _ _) _)))
      have h3 : k = W.heap.size := by simpa [Value.ownBlock] using he
      have := hk.2.2.1
      omega
  have hR' := Kd.R_take (m := n) hR (by rw [List.length_replicate]; omega)
  rw [List.take_replicate, Nat.min_eq_left (by omega)] at hR'
  refine Kd.event_run hgd (w1 := W.alloc (.cells (madeCells z.cells (m * d.sz)) e)) (v := .slice (some ⟨W.heap.size, 0, none⟩) n m) ?_ (h _ _ hR' (HB.alloc hbase _) (World.grownBy_alloc W _ none) ⟨W.heap.size, by simp [Value.ownBlock], Nat.le_refl _⟩)
  simp [execOp, ho, hx, hy, hr]
end

end Go.Proofs.YtiilihafcdmccaaDoor.P
/- What packDomainName calls: compressionMap.valid at no map, isRootLabel; a row of bytes that is written in part. -/
namespace Go.Proofs.YtiilihafcdmccaaDoor.P
open Go.RowKit Go.Proofs.YtiilihafcdmccaaDoorW.PrintWords Go.Proofs.YtiilihafcdmccaaDoorW.PrintLast Go.Proofs.YtiilihafcdmccaaDoorW.PrintMore
set_option linter.unusedVariables false
set_option linter.unusedSimpArgs false

/-- The package's errors are laid: ErrBuf, ErrRdata, ErrFqdn. -/
def GoodP (w : World) : Prop := ∃ t0 x0 t2 x2, w.cell? ⟨0, 0, none⟩ = some (.iface t0 x0) ∧ w.cell? ⟨2, 0, none⟩ = some (.iface t2 x2)
theorem GoodP.below {w w' : World} (h : GoodP w) (hb : Below w.heap.size w w') : GoodP w' := by
  obtain ⟨t0, x0, t2, x2, h0, h2⟩ := h
  exact ⟨t0, x0, t2, x2, (hb.cell (World.block_lt_of_cell? w _ h0)).trans h0, (hb.cell (World.block_lt_of_cell? w _ h2)).trans h2⟩

theorem RowB.setCells {b : Nat} : ∀ (vs : List Int) (o : Nat) {wr : World} {xs : List Int}, RowB wr b xs → o + vs.length ≤ xs.length →
    RowB (wr.setCells b o (vs.map fun x => Value.int .u8 x)) b (xs.take o ++ vs ++ xs.drop (o + vs.length))
  | [], o, wr, xs, h, _ => by
    simp only [List.map_nil, World.setCells, List.append_nil, List.length_nil, Nat.add_zero, List.take_append_drop]
    exact h
  | v :: vs, o, wr, xs, h, hl => by
    rw [List.length_cons] at hl
    have ih := RowB.setCells vs (o + 1) (h.set o v) (by rw [List.length_set]; omega)
    simp only [List.map_cons, World.setCells]
    have e1 : (xs.set o v).take (o + 1) = xs.take o ++ [v] := by
      rw [List.take_succ_eq_append_getElem (by rw [List.length_set]; omega), List.getElem_set_self]
      congr 1
      rw [List.take_set_of_le (Nat.le_refl _)]
    have e2 : (xs.set o v).drop (o + 1 + vs.length) = xs.drop (o + (v :: vs).length) := by
      rw [List.drop_set_of_lt (by omega), List.length_cons]
      congr 1
      omega
    rw [e1, e2] at ih
    simpa using ih

set_option maxRecDepth 100000
set_option maxHeartbeats 1000000
theorem cmap_valid (w : World) : Calls Tryd.prog 112 #[.agg #[.map none, .map none]] w fun e w' => e = .returned (.bool false) ∧ Below w.heap.size w w' := by
  have q1 := fun W => run_neq_map_nil (P := Tryd.prog) W 105 _ _ none Tryd.underlying105
  have q2 := fun W => run_neq_map_nil (P := Tryd.prog) W 103 _ _ none Tryd.underlying103
  go_enter Tryd.func112, Tryd.ntmps112
  go_wp2
  go_ret
  exact ⟨rfl, by repeat (first | (with_reducible first | exact Below.refl _ _ | apply below_alloc | apply pw_below_drewN | apply below_drew1) | exact Below.refl _ _)⟩
theorem root_nil (s : ByteArray) (n : Nat) (w : World) (h : n ≤ s.size) : Calls Tryd.prog 113 #[.string s, .slice none 0 0, .int .i64 0, .int .i64 (n : Int)] w fun e w' => e = .returned (.bool ((s.extract 0 n).toList == [46])) ∧ w' = w := by
  have q1 := fun W => run_eql_slice_nil (P := Tryd.prog) W 22 _ none 0 0 Tryd.underlying22
  have c0 : (0 : Int) ≤ (n : Int) := by omega
  have c1 : (n : Int) ≤ (s.size : Int) := by omega
  go_enter Tryd.func113, Tryd.ntmps113
  go_wp2
  go_ret
  exact ⟨by simp, rfl⟩
theorem root_row (s : ByteArray) (n : Int) (a : Addr) (len cap : Nat) (w : World) (h : 1 < n) (h2 : n ≤ 1000000000) : Calls Tryd.prog 113 #[.string s, .slice (some a) len cap, .int .i64 0, .int .i64 n] w fun e w' => e = .returned (.bool false) ∧ w' = w := by
  have q1 := fun W => run_eql_slice_nil (P := Tryd.prog) W 22 _ (some a) len cap Tryd.underlying22
  have c0 : ((n - 0) == 1) = false := beq_eq_false_iff_ne.mpr (by omega)
  have c1 : (n == 1) = false := beq_eq_false_iff_ne.mpr (by omega)
  have c2 : wrap64 (n - 0) = n := by unfold wrap64; omega
  have c3 : wrap64 n = n := by unfold wrap64; omega
  go_enter Tryd.func113, Tryd.ntmps113
  go_wp2
  go_ret
  exact ⟨by simp, rfl⟩

end Go.Proofs.YtiilihafcdmccaaDoor.P
/- The plain mathematics of names as texts: bytes, escapes, labels, the places where labels end. No program is in sight. -/
namespace Go.Proofs.YtiilihafcdmccaaDoor.P
open Go.RowKit Go.Proofs.YtiilihafcdmccaaDoorW.PrintWords
set_option linter.unusedVariables false
set_option linter.unusedSimpArgs false

/-! ### bytes -/
def IsB (l : List Int) : Prop := ∀ x ∈ l, 0 ≤ x ∧ x < 256
theorem IsB.nil : IsB [] := fun _ h => by cases h
theorem IsB.cons {x : Int} {l : List Int} (h : 0 ≤ x ∧ x < 256) (k : IsB l) : IsB (x :: l) := by
  intro y hy
  rcases List.mem_cons.1 hy with rfl | hy
  · exact h
  · exact k y hy
theorem IsB.append {l m : List Int} (h : IsB l) (k : IsB m) : IsB (l ++ m) := fun x hx => (List.mem_append.1 hx).elim (h x) (k x)
theorem IsB.left {l m : List Int} (h : IsB (l ++ m)) : IsB l := fun x hx => h x (List.mem_append_left _ hx)
theorem IsB.right {l m : List Int} (h : IsB (l ++ m)) : IsB m := fun x hx => h x (List.mem_append_right _ hx)
theorem IsB.tail {x : Int} {l : List Int} (h : IsB (x :: l)) : IsB l := fun y hy => h y (List.mem_cons_of_mem _ hy)
theorem IsB.head {x : Int} {l : List Int} (h : IsB (x :: l)) : 0 ≤ x ∧ x < 256 := h x List.mem_cons_self
theorem bytesOf_isB (s : ByteArray) : IsB (bytesOf s) := by
  intro x hx
  obtain ⟨b, _, rfl⟩ := List.mem_map.1 hx
  have := UInt8.toNat_lt b
  omega
theorem strOfNums_bytesOf (s : ByteArray) : strOfNums (bytesOf s) = s := by
  apply ByteArray.ext
  apply Array.ext'
  rw [strOfNums_data]
  unfold bytesOf
  rw [List.map_map]
  conv => rhs; rw [← List.map_id s.data.toList]
  apply List.map_congr_left
  intro b _
  simp
theorem bytesOf_strOfNums {l : List Int} (h : IsB l) : bytesOf (strOfNums l) = l := by
  unfold bytesOf
  rw [strOfNums_data, List.map_map]
  conv => rhs; rw [← List.map_id l]
  apply List.map_congr_left
  intro x hx
  obtain ⟨h0, h1⟩ := h x hx
  simp only [Function.comp, id]
  rw [UInt8.toNat_ofNat']
  omega
theorem bytesOf_inj {s t : ByteArray} (h : bytesOf s = bytesOf t) : s = t := by rw [← strOfNums_bytesOf s, h, strOfNums_bytesOf]
theorem strOfNums_inj {l m : List Int} (h : IsB l) (k : IsB m) (e : strOfNums l = strOfNums m) : l = m := by
  rw [← bytesOf_strOfNums h, e, bytesOf_strOfNums k]
theorem toList_iff (s : ByteArray) (l : List UInt8) : s.toList = l ↔ bytesOf s = l.map fun b => (b.toNat : Int) := by
  rw [Lib.toList_data]
  unfold bytesOf
  constructor
  · intro h; rw [h]
  · intro h
    apply List.map_inj_right (f := fun b : UInt8 => (b.toNat : Int)) (fun x y hxy => ?_) |>.1 h
    exact UInt8.toNat_inj.1 (by omega)
theorem toList_inj (s t : ByteArray) : s.toList = t.toList ↔ s = t := by
  constructor
  · intro h
    apply bytesOf_inj
    rw [Lib.toList_data, Lib.toList_data] at h
    unfold bytesOf
    rw [h]
  · intro h; rw [h]
theorem toList_nil (s : ByteArray) : s.toList = ([] : List UInt8) ↔ bytesOf s = [] := by rw [toList_iff]; rfl
theorem toList_dot (s : ByteArray) : s.toList = ([46] : List UInt8) ↔ bytesOf s = [46] := by rw [toList_iff]; rfl
theorem bt_nat (s : ByteArray) (i : Nat) : bt s (i : Int) = (bytesOf s).getD i 0 := by
  have h := rd_bytesOf s (i : Int)
  unfold rd at h
  rw [Int.toNat_natCast] at h
  exact h.symm
theorem bt_split {s : ByteArray} {pre rest : List Int} {c : Int} (h : bytesOf s = pre ++ c :: rest) : bt s (pre.length : Int) = c := by
  rw [bt_nat, h, List.getD_eq_getElem?_getD, List.getElem?_append_right (Nat.le_refl _)]
  simp
theorem size_eq_len (s : ByteArray) : s.size = (bytesOf s).length := (bytesOf_length s).symm
theorem bytesOf_append (s t : ByteArray) : bytesOf (s ++ t) = bytesOf s ++ bytesOf t := by
  unfold bytesOf
  rw [ByteArray.data_append, Array.toList_append, List.map_append]
theorem strOfNums_append (l m : List Int) : strOfNums l ++ strOfNums m = strOfNums (l ++ m) := by
  apply ByteArray.ext
  apply Array.ext'
  rw [ByteArray.data_append, Array.toList_append, strOfNums_data, strOfNums_data, strOfNums_data, List.map_append]
theorem bytesOf_extract (s : ByteArray) (a b : Nat) : bytesOf (s.extract a b) = ((bytesOf s).take b).drop a := by
  unfold bytesOf
  rw [ByteArray.data_extract, Array.toList_extract, List.extract_eq_take_drop, ← List.map_take, ← List.map_drop, List.take_drop]
  by_cases hab : a ≤ b
  · rw [Nat.add_sub_cancel' hab]
  · congr 1
    rw [List.drop_of_length_le (by rw [List.length_take]; omega), List.drop_of_length_le (by rw [List.length_take]; omega)]

/-! ### one byte of a text, perhaps an escape -/
def dig (d : Int) : Prop := 48 ≤ d ∧ d ≤ 57
instance (d : Int) : Decidable (dig d) := by unfold dig; infer_instance
def val3 (a b c : Int) : Int := (a - 48) * 100 + (b - 48) * 10 + (c - 48)
inductive Tok : List Int → Int → Bool → Prop
  | plain (c : Int) : c ≠ 92 → Tok [c] c true
  | sign (d : Int) : ¬ dig d → Tok [92, d] d false
  | ddd (a b c : Int) : dig a → dig b → dig c → val3 a b c < 256 → Tok [92, a, b, c] (val3 a b c) false
theorem Tok.ne {t : List Int} {c : Int} {p : Bool} (h : Tok t c p) : t ≠ [] := by cases h <;> simp
theorem Tok.pos {t : List Int} {c : Int} {p : Bool} (h : Tok t c p) : 1 ≤ t.length := by cases h <;> simp
theorem Tok.isB {t : List Int} {c : Int} {p : Bool} (h : Tok t c p) (hB : IsB t) : 0 ≤ c ∧ c < 256 := by
  cases h with
  | plain _ h => exact hB.head
  | sign _ h => exact hB.tail.head
  | ddd a b c ha hb hc hv => unfold dig at *; unfold val3 at *; omega
theorem Tok.true_inv {t : List Int} {c : Int} {p : Bool} (h : Tok t c p) (hp : p = true) : t = [c] ∧ c ≠ 92 := by
  cases h with
  | plain _ h => exact ⟨rfl, h⟩
  | sign _ _ => cases hp
  | ddd _ _ _ _ _ _ _ => cases hp
/-- The text of one label, and the bytes that it is. -/
inductive Lab : List Int → List Int → Prop
  | nil : Lab [] []
  | cons {t r l : List Int} {c : Int} {p : Bool} : Tok t c p → ¬ (p = true ∧ c = 46) → Lab r l → Lab (t ++ r) (c :: l)
theorem Lab.append {r l r' l' : List Int} (h : Lab r l) (k : Lab r' l') : Lab (r ++ r') (l ++ l') := by
  induction h with
  | nil => exact k
  | cons ht hc _ ih => rw [List.append_assoc, List.cons_append]; exact .cons ht hc ih
theorem Lab.one {t : List Int} {c : Int} {p : Bool} (ht : Tok t c p) (hc : ¬ (p = true ∧ c = 46)) : Lab t [c] := by
  have h := Lab.cons ht hc .nil
  rwa [List.append_nil] at h
theorem Lab.snoc {r l t : List Int} {c : Int} {p : Bool} (h : Lab r l) (ht : Tok t c p) (hc : ¬ (p = true ∧ c = 46)) : Lab (r ++ t) (l ++ [c]) := h.append (.one ht hc)
theorem Lab.isB {r l : List Int} (h : Lab r l) (hB : IsB r) : IsB l := by
  induction h with
  | nil => exact hB
  | cons ht hc _ ih => exact IsB.cons (ht.isB hB.left) (ih hB.right)
theorem Lab.len {r l : List Int} (h : Lab r l) : l.length ≤ r.length := by
  induction h with
  | nil => exact Nat.le_refl _
  | cons ht hc _ ih => have := ht.pos; simp; omega
theorem Lab.nil_iff {r l : List Int} (h : Lab r l) : r = [] ↔ l = [] := by
  cases h with
  | nil => simp
  | cons ht hc hr => have := ht.ne; simp [this]
theorem Lab.plain {r l : List Int} (h : Lab r l) (hp : ∀ x ∈ r, x ≠ 92) : l = r := by
  induction h with
  | nil => rfl
  | cons ht hc _ ih =>
    cases ht with
    | plain c h => rw [ih (fun x hx => hp x (List.mem_append_right _ hx))]; rfl
    | sign d h => exact absurd rfl (hp 92 (by simp))
    | ddd a b c _ _ _ _ => exact absurd rfl (hp 92 (by simp))

/-- Labels' texts, each with a point behind it. -/
def joinD : List (List Int) → List Int
  | [] => []
  | r :: rs => r ++ 46 :: joinD rs
theorem joinD_append (a b : List (List Int)) : joinD (a ++ b) = joinD a ++ joinD b := by
  induction a with
  | nil => rfl
  | cons r rs ih => simp [joinD, ih]
theorem joinD_snoc (a : List (List Int)) (r : List Int) : joinD (a ++ [r]) = joinD a ++ (r ++ [46]) := by
  rw [joinD_append]
  simp [joinD]
inductive Labs : List (List Int) → List (List Int) → Prop
  | nil : Labs [] []
  | cons {r l : List Int} {rs ls : List (List Int)} : Lab r l → l ≠ [] → Labs rs ls → Labs (r :: rs) (l :: ls)
theorem Labs.snoc {rs ls : List (List Int)} {r l : List Int} (h : Labs rs ls) (hl : Lab r l) (hn : l ≠ []) : Labs (rs ++ [r]) (ls ++ [l]) := by
  induction h with
  | nil => exact .cons hl hn .nil
  | cons h1 h2 _ ih => exact .cons h1 h2 ih
theorem Labs.length {rs ls : List (List Int)} (h : Labs rs ls) : rs.length = ls.length := by
  induction h with
  | nil => rfl
  | cons _ _ _ ih => simp [ih]
theorem Labs.isB {rs ls : List (List Int)} (h : Labs rs ls) (hB : IsB (joinD rs)) : ∀ l ∈ ls, IsB l := by
  induction h with
  | nil => intro l hl; cases hl
  | cons h1 h2 _ ih =>
    intro l hl
    rcases List.mem_cons.1 hl with rfl | hl
    · exact h1.isB hB.left
    · exact ih hB.right.tail l hl
theorem Labs.ne {rs ls : List (List Int)} (h : Labs rs ls) : ∀ l ∈ ls, l ≠ [] := by
  induction h with
  | nil => intro l hl; cases hl
  | cons h1 h2 _ ih =>
    intro l hl
    rcases List.mem_cons.1 hl with rfl | hl
    · exact h2
    · exact ih l hl

/-- A text is a list of labels and a rest of a label; or an empty label stands in it; or an escape that is none. -/
inductive Dec (x : List Int) : Prop
  | ok (rs ls : List (List Int)) (r l : List Int) : Labs rs ls → Lab r l → x = joinD rs ++ r → Dec x
  | empty (rs ls : List (List Int)) (rest : List Int) : Labs rs ls → x = joinD rs ++ 46 :: rest → Dec x
  | bad (rs ls : List (List Int)) (r l rest : List Int) : Labs rs ls → Lab r l → x = joinD rs ++ (r ++ 92 :: rest) → (∀ t c p rest', 92 :: rest = t ++ rest' → ¬ Tok t c p) → Dec x
theorem tok_or (x : Int) (l : List Int) : (∃ t c p rest, Tok t c p ∧ x :: l = t ++ rest) ∨ (x = 92 ∧ ∀ t c p rest', 92 :: l = t ++ rest' → ¬ Tok t c p) := by
  by_cases hx : x = 92
  · subst hx
    by_cases hex : ∃ t c p rest, Tok t c p ∧ 92 :: l = t ++ rest
    · exact .inl hex
    · exact .inr ⟨rfl, fun t c p rest' e ht => hex ⟨t, c, p, rest', ht, e⟩⟩
  · exact .inl ⟨[x], x, true, l, .plain x hx, rfl⟩
theorem dec_from (n : Nat) : ∀ (x : List Int) (rs ls : List (List Int)) (r l rest : List Int), rest.length ≤ n → Labs rs ls → Lab r l → x = joinD rs ++ (r ++ rest) → Dec x := by
  induction n with
  | zero =>
    intro x rs ls r l rest hn h1 h2 e
    obtain rfl : rest = [] := List.eq_nil_of_length_eq_zero (by omega)
    exact .ok rs ls r l h1 h2 (by rw [e, List.append_nil])
  | succ n ih =>
    intro x rs ls r l rest hn h1 h2 e
    cases rest with
    | nil => exact .ok rs ls r l h1 h2 (by rw [e, List.append_nil])
    | cons y ys =>
      rcases tok_or y ys with ⟨t, c, p, rest', ht, et⟩ | ⟨rfl, hno⟩
      · have hl : rest'.length ≤ n := by
          have := congrArg List.length et
          have := ht.pos
          simp at *
          omega
        by_cases hd : p = true ∧ c = 46
        · obtain ⟨rfl, rfl⟩ := hd
          obtain ⟨rfl, _⟩ := ht.true_inv rfl
          by_cases hr : l = []
          · subst hr
            obtain rfl := h2.nil_iff.2 rfl
            exact .empty rs ls rest' h1 (by rw [e, et]; rfl)
          · exact ih x (rs ++ [r]) (ls ++ [l]) [] [] rest' hl (h1.snoc h2 hr) .nil (by rw [e, et, joinD_snoc]; simp)
        · exact ih x rs ls (r ++ t) (l ++ [c]) rest' hl h1 (h2.snoc ht hd) (by rw [e, et]; simp)
      · exact .bad rs ls r l ys h1 h2 e hno
theorem dec (x : List Int) : Dec x := dec_from x.length x [] [] [] [] x (Nat.le_refl _) .nil .nil rfl

/-! ### where labels end: a point behind an even number of backslashes -/
def trail : List Int → Nat := fun l => (l.reverse.takeWhile (· == 92)).length
theorem trail_snoc (l : List Int) (c : Int) : trail (l ++ [c]) = if c = 92 then trail l + 1 else 0 := by
  unfold trail
  rw [List.reverse_append]
  by_cases h : c = 92 <;> simp [h]
theorem trail_nil : trail [] = 0 := rfl
def cutL (l : List Int) (j : Nat) : Prop := l.getD j 0 = 46 ∧ trail (l.take j) % 2 = 0
theorem take_pre (pre m : List Int) (k : Nat) : (pre ++ m).take (pre.length + k) = pre ++ m.take k := by
  rw [List.take_append, List.take_of_length_le (by omega), Nat.add_sub_cancel_left]
theorem getD_pre (pre m : List Int) (k : Nat) : (pre ++ m).getD (pre.length + k) 0 = m.getD k 0 := by
  rw [List.getD_eq_getElem?_getD, List.getElem?_append_right (by omega), Nat.add_sub_cancel_left, List.getD_eq_getElem?_getD]
theorem tok_even {pre t : List Int} {c : Int} {p : Bool} (h : Tok t c p) (he : trail pre % 2 = 0) : trail (pre ++ t) % 2 = 0 := by
  cases h with
  | plain _ h => rw [trail_snoc, if_neg h]
  | sign d h =>
    rw [show pre ++ [92, c] = (pre ++ [92]) ++ [c] by simp, trail_snoc, trail_snoc, if_pos rfl]
    split <;> omega
  | ddd a b d ha hb hc _ =>
    rw [show pre ++ [92, a, b, d] = (pre ++ [92, a, b]) ++ [d] by simp, trail_snoc, if_neg (by unfold dig at hc; omega)]
theorem tok_cut {pre t rest : List Int} {c : Int} {p : Bool} (h : Tok t c p) (he : trail pre % 2 = 0) (hc : ¬ (p = true ∧ c = 46)) (j : Nat) (hj : j < t.length) : ¬ cutL (pre ++ (t ++ rest)) (pre.length + j) := by
  unfold cutL
  rw [getD_pre, take_pre]
  rintro ⟨h1, h2⟩
  cases h with
  | plain _ h =>
    obtain rfl : j = 0 := by simp at hj; omega
    exact hc ⟨rfl, by simpa using h1⟩
  | sign d h =>
    match j, hj with
    | 0, _ => simp at h1
    | 1, _ =>
      have e : List.take 1 ([92, c] ++ rest) = [92] := by simp
      rw [e, trail_snoc, if_pos rfl] at h2
      omega
    | n + 2, hj => exact absurd hj (by simp)
  | ddd a b d ha hb hd _ =>
    unfold dig at *
    match j, hj with
    | 0, _ => simp at h1
    | 1, _ => simp at h1; omega
    | 2, _ => simp at h1; omega
    | 3, _ => simp at h1; omega
    | n + 4, hj => exact absurd hj (by simp)
theorem lab_even {r l : List Int} (h : Lab r l) : ∀ (pre : List Int), trail pre % 2 = 0 → trail (pre ++ r) % 2 = 0 := by
  induction h with
  | nil => intro pre he; rwa [List.append_nil]
  | cons ht hc _ ih =>
    intro pre he
    rw [← List.append_assoc]
    exact ih _ (tok_even ht he)
theorem lab_cut {r l : List Int} (h : Lab r l) : ∀ (pre rest : List Int), trail pre % 2 = 0 → ∀ j, j < r.length → ¬ cutL (pre ++ (r ++ rest)) (pre.length + j) := by
  induction h with
  | nil => intro pre rest he j hj; simp at hj
  | @cons t r l c p ht hc _ ih =>
    intro pre rest he j hj
    by_cases hjt : j < t.length
    · rw [List.append_assoc]
      exact tok_cut ht he hc j hjt
    · have h := ih (pre ++ t) rest (tok_even ht he) (j - t.length) (by simp at hj; omega)
      rw [List.length_append, show pre.length + t.length + (j - t.length) = pre.length + j by omega] at h
      rw [List.append_assoc] at h ⊢
      exact h
theorem dot_cut {pre rest : List Int} (he : trail pre % 2 = 0) : cutL (pre ++ 46 :: rest) pre.length := by
  unfold cutL
  have h1 := getD_pre pre (46 :: rest) 0
  have h2 := take_pre pre (46 :: rest) 0
  rw [Nat.add_zero] at h1 h2
  rw [h1, h2]
  simpa using he
theorem dot_even (pre : List Int) : trail (pre ++ [46]) % 2 = 0 := by rw [trail_snoc]; simp
theorem join_even {rs ls : List (List Int)} (h : Labs rs ls) : ∀ (pre : List Int), trail pre % 2 = 0 → trail (pre ++ joinD rs) % 2 = 0 := by
  induction h with
  | nil => intro pre he; simpa [joinD] using he
  | @cons r l rs ls h1 h2 _ ih =>
    intro pre he
    have := ih (pre ++ r ++ [46]) (dot_even _)
    simpa [joinD] using this

end Go.Proofs.YtiilihafcdmccaaDoor.P
/- 'dns.IsFqdn' for texts of ASCII: whether a text ends with a point behind an even number of backslashes. -/
namespace Go.Proofs.YtiilihafcdmccaaDoor.P
open Go.RowKit Go.Proofs.YtiilihafcdmccaaDoorW.PrintWords Go.Proofs.YtiilihafcdmccaaDoorW.PrintLast Go.Proofs.YtiilihafcdmccaaDoorW.PrintMore
set_option linter.unusedVariables false
set_option linter.unusedSimpArgs false

/-- The last byte of a text's first i bytes that is no backslash: its place, or -1. -/
def lastNB (s : ByteArray) : Nat → Int
  | 0 => -1
  | i + 1 => if bt s i = 92 then lastNB s i else i

theorem bt_extract (s : ByteArray) (i : Nat) (j : Nat) (hj : j < i) (hi : i ≤ s.size) : bt (s.extract 0 i) (j : Int) = bt s (j : Int) := by
  unfold bt
  rw [Int.toNat_natCast]
  have h1 : j < (s.extract 0 i).size := by rw [ByteArray.size_extract]; omega
  have h2 : j < s.size := by omega
  rw [dif_pos h1, dif_pos h2]
  congr 2
  simp [ByteArray.getElem_extract]

theorem bt_at_nat (s : ByteArray) (i : Nat) : ∀ h : i < s.size, ((s[i]'h).toNat : Int) = bt s (i : Int) := fun h => by simp [bt, h]

set_option maxHeartbeats 1000000 in
theorem dlr_ascii (s : ByteArray) (w : World) (n : Nat) (c : Int) (hn : s.size = n + 1) (hs : s.size ≤ 9223372036854775807) (hc : bt s (n : Int) = c) (hb : c < 128) :
    Calls Tryd.prog 129 #[.string s] w fun e w' => e = .returned (.tuple #[.int .i32 c, .int .i64 1]) ∧ w = w' := by
  have hx : ∀ h : n < s.size, ((s[n]'h).toNat : Int) = c := fun h => by rw [bt_at_nat, hc]
  have h0 : 0 ≤ c := by have := bt_range s (n : Int); omega
  clear hc
  go_enter Tryd.func129, Tryd.ntmps129
  go_wp2_with fail
  go_ret2
  exact ⟨rfl, rfl⟩

set_option maxHeartbeats 1000000 in
theorem ifq1 (c : Int) (w : World) :
    Calls Tryd.prog 78 #[.int .i32 c] w fun e w' => e = .returned (.bool (c != 92)) ∧ w = w' := by
  go_enter Tryd.func78, Tryd.ntmps78
  go_wp2
  go_ret
  exact ⟨rfl, rfl⟩
set_option maxHeartbeats 2000000 in
set_option maxRecDepth 100000 in
theorem lif_ascii (s : ByteArray) (w : World) (hs : s.size ≤ 9223372036854775807) (hb : ∀ i : Nat, bt s (i : Int) < 128) :
    Calls Tryd.prog 100 #[.string s, .func (.func 78) #[] #[], .bool true] w fun e w' => e = .returned (.int .i64 (lastNB s s.size)) ∧ w = w' := by
  have HB := Aside0.mk hb
  clear hb
  go_enter Tryd.func100, Tryd.ntmps100
  go_wp2_with fail
  go_loop [7] (fun i => ∃ k : Nat, i = .int .i64 k ∧ k ≤ s.size ∧ Aside0 (lastNB s s.size = lastNB s k)) (fun i => (intOf i).toNat)
  case atStart => exact ⟨s.size, rfl, Nat.le_refl _, ⟨rfl⟩⟩
  case round =>
    obtain ⟨k, rfl, hk, hl⟩ := hrel
    cases k with
    | zero =>
      go_wp2
      go_ret
      exact ⟨by rw [hl.out]; rfl, rfl⟩
    | succ k =>
      have hbk := HB.out k
      have he := bt_extract s (k + 1) k (by omega) hk
      have hsz : (s.extract 0 (k + 1)).size = k + 1 := by rw [ByteArray.size_extract]; omega
      have hstep : lastNB s (k + 1) = if bt s (k : Int) = 92 then lastNB s k else (k : Int) := rfl
      generalize hc : bt s (k : Int) = c at *
      have He := Aside0.mk he
      have Hsz := Aside0.mk hsz
      have Hst := Aside0.mk hstep
      clear he hsz hstep hc
      have hk1 : (k : Int) + 1 ≤ (s.size : Int) := by omega
      have hk0 : (0 : Int) ≤ (k : Int) + 1 := by omega
      by_cases h92 : c = 92
      · subst h92
        go_wp2_with (first | (go_at_call 129; refine (dlr_ascii _ _ k 92 Hsz.out (by rw [Hsz.out]; omega) He.out hbk).mono ?_; rintro e w' ⟨rfl, rfl⟩) | (go_at_call 78; refine (ifq1 _ _).mono ?_; rintro e w' ⟨rfl, rfl⟩))
        go_round
        case rel => exact ⟨k, by go_num, by omega, ⟨by rw [hl.out, Hst.out, if_pos trivial]⟩⟩
        case measure => simp [intOf]
      · have h92b : (c != 92) = true := by simpa using h92
        go_wp2_with (first | (go_at_call 129; refine (dlr_ascii _ _ k c Hsz.out (by rw [Hsz.out]; omega) He.out hbk).mono ?_; rintro e w' ⟨rfl, rfl⟩) | (go_at_call 78; refine (ifq1 _ _).mono ?_; rintro e w' ⟨rfl, rfl⟩))
        go_ret
        exact ⟨by rw [hl.out, Hst.out, if_neg h92]; go_num, rfl⟩

set_option maxHeartbeats 1000000 in
theorem li_ascii (s : ByteArray) (w : World) (hs : s.size ≤ 9223372036854775807) (hb : ∀ i : Nat, bt s (i : Int) < 128) :
    Calls Tryd.prog 77 #[.string s, .func (.func 78) #[] #[]] w fun e w' => e = .returned (.int .i64 (lastNB s s.size)) ∧ w = w' := by
  go_enter Tryd.func77, Tryd.ntmps77
  go_wp2_with (go_at_call 100; refine (lif_ascii _ _ hs hb).mono ?_; rintro e w' ⟨rfl, rfl⟩)
  go_ret
  exact ⟨rfl, rfl⟩

theorem lastNB_bd (s : ByteArray) : ∀ n : Nat, -1 ≤ lastNB s n ∧ lastNB s n < n
  | 0 => by unfold lastNB; omega
  | n + 1 => by
    unfold lastNB
    have := lastNB_bd s n
    split <;> omega
theorem bt_extract' (s : ByteArray) (i : Nat) (hi : i ≤ s.size) (j : Nat) : bt (s.extract 0 i) (j : Int) = if j < i then bt s (j : Int) else 0 := by
  split
  · exact bt_extract s i j ‹_› hi
  · unfold bt
    rw [dif_neg]
    rw [ByteArray.size_extract]
    omega
/-- Does a text end with a point behind an even number of backslashes? -/
def fqB (s : ByteArray) : Bool :=
  if s.size = 0 then false
  else if bt s ((s.size - 1 : Nat) : Int) ≠ 46 then false
  else if s.size = 1 then true
  else if bt s ((s.size - 2 : Nat) : Int) ≠ 92 then true
  else (((s.size - 1 : Nat) : Int) - lastNB (s.extract 0 (s.size - 1)) (s.size - 1)) % 2 != 0

theorem toList_ne (s : ByteArray) (h : s.size ≠ 0) : (s.toList == ([] : List UInt8)) = false := by
  rw [beq_eq_false_iff_ne]
  intro e
  rw [ByteArray.toList_eq] at e
  exact h (by have := congrArg List.length e; simpa using this)
set_option maxHeartbeats 2000000 in
set_option maxRecDepth 100000 in
theorem isfqdn_any (s : ByteArray) (w : World) (hs : s.size ≤ 9223372036854775807) (hb : ∀ i : Nat, bt s (i : Int) < 128) :
    Calls Tryd.prog 51 #[.string s] w fun e w' => e = .returned (.bool (fqB s)) ∧ w = w' := by
  rcases hn : s.size with _ | n
  · have hnil : s.toList = [] := by rw [ByteArray.toList_eq]; exact List.eq_nil_of_length_eq_zero hn
    have hnb : (s.toList == ([] : List UInt8)) = true := beq_iff_eq.mpr hnil
    have hf := Aside0.mk (show fqB s = false by unfold fqB; rw [if_pos hn])
    clear hn
    go_enter Tryd.func51, Tryd.ntmps51
    go_wp2
    go_ret
    exact ⟨by rw [hf.out]; rfl, rfl⟩
  · have hnb := toList_ne s (by omega)
    have hnb' : (!(s.toList.isEmpty)) = true := by
      cases h : s.toList with
      | nil => rw [h] at hnb; cases hnb
      | cons _ _ => rfl
    have hx : ∀ h : n < s.size, ((s[n]'h).toNat : Int) = bt s (n : Int) := bt_at_nat s n
    have hF := Aside0.mk (show fqB s = if bt s ((n : Nat) : Int) ≠ 46 then false
      else if n = 0 then true
      else if bt s ((n - 1 : Nat) : Int) ≠ 92 then true
      else ((n : Int) - lastNB (s.extract 0 n) n) % 2 != 0 by
        unfold fqB
        rw [hn, if_neg (by omega), show n + 1 - 1 = n by omega, show n + 1 - 2 = n - 1 by omega]
        by_cases h0 : n = 0
        · subst h0; rfl
        · rw [if_neg (show ¬ n + 1 = 1 by omega), if_neg h0])
    have hle := Aside0.mk (bt_extract' s n (by omega))
    have hsz : (s.extract 0 n).size = n := by rw [ByteArray.size_extract]; omega
    have hn1 : n ≤ s.size := by omega
    have hn2 : (n : Int) ≤ (s.size : Int) := by omega
    have Hn := Aside0.mk hn
    generalize hc : bt s (n : Int) = c at *
    have HB := Aside0.mk hb
    clear hb hc
    by_cases h46 : c = 46
    · have h46b : (c != 46) = false := by simpa using h46
      rw [hn] at hs
      cases n with
      | zero =>
        have hnil : (s.extract 0 0).toList = [] := by rw [ByteArray.toList_eq]; exact List.eq_nil_of_length_eq_zero hsz
        have hnb2 : ((s.extract 0 0).toList == ([] : List UInt8)) = true := beq_iff_eq.mpr hnil
        clear hsz hnil
        subst h46
        go_enter Tryd.func51, Tryd.ntmps51
        go_wp2_with fail
        go_ret
        exact ⟨by rw [hF.out]; rfl, rfl⟩
      | succ n =>
        have hnb2 := toList_ne (s.extract 0 (n + 1)) (by omega)
        have hnb2' : (!((s.extract 0 (n + 1)).toList.isEmpty)) = true := by
          cases h : (s.extract 0 (n + 1)).toList with
          | nil => rw [h] at hnb2; cases hnb2
          | cons _ _ => rfl
        have hd := hle.out n
        rw [if_pos (by omega)] at hd
        have hx2 : ∀ h : n < (s.extract 0 (n + 1)).size, (((s.extract 0 (n + 1))[n]'h).toNat : Int) = bt s (n : Int) := fun h => by rw [← hd]; exact bt_at_nat _ n h
        clear hd
        have hb2 := Aside0.mk (fun j : Nat => show bt (s.extract 0 (n + 1)) (j : Int) < 128 by
          rw [hle.out j]
          split
          · exact HB.out j
          · decide)
        clear hle
        have hFF := hF.out
        rw [if_neg (by rw [h46]; decide), if_neg (by omega), Nat.add_sub_cancel] at hFF
        clear hF
        have hF := Aside0.mk hFF
        clear hFF
        subst h46
        have HL0 := li_ascii (s.extract 0 (n + 1)) w (by rw [hsz]; omega) hb2.out
        rw [hsz] at HL0
        have HL := Aside0.mk HL0
        clear HL0
        have Hbd := lastNB_bd (s.extract 0 (n + 1)) (n + 1)
        generalize lastNB (s.extract 0 (n + 1)) (n + 1) = z at *
        generalize bt s (n : Int) = d at *
        clear hb2 HB
        have hw : IntKind.i64.wrap ((n : Int) + 1 - z) = (n : Int) + 1 - z := IntWalk.i64_in _ (by omega)
        by_cases h92 : d = 92
        · have h92b : (d != 92) = false := by simpa using h92
          have hFF := hF.out
          rw [if_neg (by rw [h92]; decide)] at hFF
          clear hF h92
          have hF := Aside0.mk hFF
          clear hFF
          go_enter Tryd.func51, Tryd.ntmps51
          go_wp2_with (go_at_call 77; refine HL.out.mono ?_; rintro e w' ⟨rfl, rfl⟩)
          go_ret
          exact ⟨by rw [hF.out, Int.natCast_add]; rfl, rfl⟩
        · have h92b : (d != 92) = true := by simpa using h92
          have hf := Aside0.mk (hF.out.trans (if_pos h92))
          clear hF h92
          go_enter Tryd.func51, Tryd.ntmps51
          go_wp2_with fail
          go_ret
          exact ⟨by rw [hf.out]; rfl, rfl⟩
    · have h46b : (c != 46) = true := by simpa using h46
      have hf := Aside0.mk (hF.out.trans (if_pos h46))
      clear hF hle h46 Hn HB
      go_enter Tryd.func51, Tryd.ntmps51
      go_wp2
      go_ret
      exact ⟨by rw [hf.out]; rfl, rfl⟩

def dns_IsFqdn.f (a0 : ByteArray) : Option (Bool) := if a0.size ≤ 9223372036854775807 then (if (bytesOf a0).all (fun x => decide (x < 128)) = true then some (fqB a0) else none) else none
theorem dns_IsFqdn.calls (a0 : ByteArray) (r : Bool) (w : World) (h : dns_IsFqdn.f a0 = some r) :
    Calls Tryd.prog 51 #[.string a0] w fun e w' => e = .returned (.bool r) ∧ Drawn0 w w' := by
  unfold dns_IsFqdn.f at h
  split at h
  · split at h
    · obtain rfl := Option.some.inj h
      rename_i h1 h2
      rw [List.all_eq_true] at h2
      refine (isfqdn_any a0 w h1 (fun i => ?_)).mono ?_
      · by_cases hi : i < a0.size
        · have hl : i < (bytesOf a0).length := by rw [bytesOf_length]; exact hi
          have hb := rd_bytesOf a0 (i : Int)
          unfold rd at hb
          rw [Int.toNat_natCast, List.getD_eq_getElem?_getD, List.getElem?_eq_getElem hl, Option.getD_some] at hb
          rw [← hb]
          exact of_decide_eq_true (h2 _ (List.getElem_mem hl))
        · unfold bt
          rw [dif_neg (by rw [Int.toNat_natCast]; exact hi)]
          decide
      · rintro e w' ⟨rfl, rfl⟩
        exact ⟨rfl, Drawn0.refl _⟩
    · cases h
  · cases h

end Go.Proofs.YtiilihafcdmccaaDoor.P
-- Written by a program of this session (wip/tools/pprint.py) out of the translation: it goes by the kit's print and by the contracts of YtiilihafcdmccaaDoorHand. Not trusted: Lean checks it.
namespace Go.Proofs.YtiilihafcdmccaaDoor.P
open Go.RowKit Go.Proofs.YtiilihafcdmccaaDoorW.PrintWords Go.Proofs.YtiilihafcdmccaaDoorW.PrintLast Go.Proofs.YtiilihafcdmccaaDoorW.PrintMore
attribute [local go_sem] max2_int min2_int max_two min_two max_three min_three max_four min_four   -- for this text's walks alone
set_option linter.unusedVariables false
set_option linter.unusedSimpArgs false



def errW : Option Int → Value
  | none => .nilIface
  | some c => .iface 0 (.int .i64 c)
theorem errW_none : errW none = .nilIface := rfl
theorem errW_some (c : Int) : errW (some c) = .iface 0 (.int .i64 c) := rfl

theorem info3 : (Tryd.prog.info? 3).map (fun i => (i.zero, i.size, i.bytes)) = some (some (.int .i64 0), 1, 8) := by kernel_rfl
theorem info5 : (Tryd.prog.info? 5).map (fun i => (i.zero, i.size, i.bytes)) = some (some (.int .u8 0), 1, 1) := by kernel_rfl
theorem info9 : (Tryd.prog.info? 9).map (fun i => (i.zero, i.size, i.bytes)) = some (some (.string ⟨#[]⟩), 1, 16) := by kernel_rfl
theorem info85 : (Tryd.prog.info? 85).map (fun i => (i.zero, i.size, i.bytes)) = some (some (.agg #[(.int .i64 0), (.string ⟨#[]⟩)]), 2, 24) := by kernel_rfl
-- the values' own types
def rd_L3 (xs : List (List Int)) (i : Int) : (List Int) := xs.getD i.toNat ([] : List Int)
theorem at_L3 {w : World} {A : Option Addr} {n : Nat} {xs : List (List Int)} (h : Kd.C (Kd.slice 5 (Kd.int .u8)) w A n xs) (i : Int) (h0 : 0 ≤ i) (h1 : i < n) : ∃ ad A0 c0, A = some ad ∧ w.cell? (ad.add i.toNat) = some (.slice A0 (rd_L3 xs i).length c0) ∧ (rd_L3 xs i).length ≤ c0 ∧ (Kd.int .u8).C w A0 (rd_L3 xs i).length (rd_L3 xs i) := by
  obtain ⟨ad, c, e, _, hK, hc0⟩ := Kd.C_get h ([] : List Int) i h0 h1
  have hc : ∀ j u, c[j]? = some u → w.cell? (ad.add (i.toNat * 1 + j)) = some u := hc0
  obtain ⟨A0, c0, rfl, l0, g0⟩ := hK
  exact ⟨ad, A0, c0, e, by have hq := hc 0 _ rfl; rwa [Nat.mul_one, Nat.add_zero] at hq, l0, g0⟩

/-! #### struct type 85 -/
structure S85 where
  f0 : Int
  f1 : ByteArray
def z85 : S85 := ⟨(0 : Int), (⟨#[]⟩ : ByteArray)⟩
def k85 : Kd S85 := Kd.iso (Kd.pair (Kd.int .i64) Kd.string) (fun x : S85 => (x.f0, x.f1))
theorem k85_open {w : World} {x : S85} {cs : List Value} (h : k85.K w x cs) : cs = [.int .i64 x.f0, .string x.f1] := by
  obtain ⟨_, _, rfl, rfl, rfl⟩ := h
  exact rfl
theorem k85_openM {w : World} {base : Nat} {ok : Nat → Prop} {x : S85} {cs : List Value} (h : k85.M w base ok x cs) : cs = [.int .i64 x.f0, .string x.f1] := by
  obtain ⟨_, _, rfl, rfl, rfl⟩ := h
  exact rfl
theorem k85_mk (w : World) (x : S85)  : k85.K w x [.int .i64 x.f0, .string x.f1] := ⟨[.int .i64 x.f0], [.string x.f1], rfl, rfl, rfl⟩
theorem k85_mkM (w : World) (base : Nat) (ok : Nat → Prop) (x : S85)  : k85.M w base ok x [.int .i64 x.f0, .string x.f1] := ⟨[.int .i64 x.f0], [.string x.f1], rfl, rfl, rfl⟩
theorem k85_mkF (W : World) (ok : Nat → Prop) (x : S85) : Kd.FK k85 W ok x [.int .i64 x.f0, .string x.f1] := fun W2 _ => k85_mk W2 x
def rd_T85 (xs : List S85) (i : Int) : S85 := xs.getD i.toNat z85
theorem at_T85 {w : World} {A : Option Addr} {n : Nat} {xs : List S85} (h : Kd.C k85 w A n xs) (i : Int) (h0 : 0 ≤ i) (h1 : i < n) : ∃ ad , A = some ad ∧ w.cell? (ad.add (i.toNat * 2)) = some (.int .i64 (rd_T85 xs i).f0) ∧ w.cell? ⟨(ad.add (i.toNat * 2)).block, (ad.add (i.toNat * 2)).off + 1, none⟩ = some (.string (rd_T85 xs i).f1) := by
  obtain ⟨ad, c, e, _, hK, hc0⟩ := Kd.C_get h z85 i h0 h1
  have hc : ∀ j u, c[j]? = some u → w.cell? (ad.add (i.toNat * 2 + j)) = some u := hc0
  obtain rfl := k85_open hK
  exact ⟨ad, e, hc 0 _ rfl, by rw [← add_field _ _ 1 (by omega)]; exact hc 1 _ rfl⟩

end Go.Proofs.YtiilihafcdmccaaDoor.P
-- Written by a program of this session (wip/tools/pprint.py) out of the translation: it goes by the kit's print and by the contracts of YtiilihafcdmccaaDoorHand. Not trusted: Lean checks it.
namespace Go.Proofs.YtiilihafcdmccaaDoor.P
open Go.RowKit Go.Proofs.YtiilihafcdmccaaDoorW.PrintWords Go.Proofs.YtiilihafcdmccaaDoorW.PrintLast Go.Proofs.YtiilihafcdmccaaDoorW.PrintMore
attribute [local go_sem] max2_int min2_int max_two min_two max_three min_three max_four min_four   -- for this text's walks alone
set_option linter.unusedVariables false
set_option linter.unusedSimpArgs false

/-! ### dns_isDigit: function 101 -/
def dns_isDigit.f (a0 : Int) : Option (Bool) := if a0 ≥ 48 then (some (decide (a0 ≤ 57))) else (some false)
set_option maxHeartbeats 8000000 in
set_option maxRecDepth 100000 in
theorem dns_isDigit.calls (a0 : Int) (r : Bool) (w : World) (h : dns_isDigit.f a0 = some r) :
    Calls Tryd.prog 101 #[.int .u8 a0] w fun e w' => e = .returned (.bool r) ∧ Drawn0 w w' := by
  have H : (if a0 ≥ 48 then (some (decide (a0 ≤ 57))) else (some false)) = some r := h
  clear h
  by_cases c2 : a0 ≥ 48
  · rw [if_pos c2] at H
    have c2b0 : decide (48 ≤ a0) = true := decide_eq_true c2
    clear c2
    obtain rfl := Option.some.inj H
    go_enter Tryd.func101, Tryd.ntmps101
    go_wp2
    go_ret
    exact ⟨by first | rfl | (simp; done) | (simp [*]; done) | (simp [wrap64]; done), by repeat (first | exact Drawn0.refl _ | apply Drawn0.step)⟩
  · rw [if_neg c2] at H
    have c2b0 : decide (48 ≤ a0) = false := decide_eq_false c2
    clear c2
    obtain rfl := Option.some.inj H
    go_enter Tryd.func101, Tryd.ntmps101
    go_wp2
    go_ret
    exact ⟨by first | rfl | (simp; done) | (simp [*]; done) | (simp [wrap64]; done), by repeat (first | exact Drawn0.refl _ | apply Drawn0.step)⟩

end Go.Proofs.YtiilihafcdmccaaDoor.P
-- Written by a program of this session (wip/tools/pprint.py) out of the translation: it goes by the kit's print and by the contracts of YtiilihafcdmccaaDoorHand. Not trusted: Lean checks it.
namespace Go.Proofs.YtiilihafcdmccaaDoor.P
open Go.RowKit Go.Proofs.YtiilihafcdmccaaDoorW.PrintWords Go.Proofs.YtiilihafcdmccaaDoorW.PrintLast Go.Proofs.YtiilihafcdmccaaDoorW.PrintMore
attribute [local go_sem] max2_int min2_int max_two min_two max_three min_three max_four min_four   -- for this text's walks alone
set_option linter.unusedVariables false
set_option linter.unusedSimpArgs false

/-! ### dns_isDDD_byte: function 110 -/
def dns_isDDD_byte.f (l0 : List Int) : Option (Bool) := if (l0.length : Int) ≥ 3 then (if 0 < (l0.length : Int) then ((dns_isDigit.f (rd l0 0)).bind fun t347 => (if t347 = true then (if 1 < (l0.length : Int) then ((dns_isDigit.f (rd l0 1)).bind fun t349 => (if t349 = true then (if 2 < (l0.length : Int) then ((dns_isDigit.f (rd l0 2)).bind fun t351 => (some t351)) else (none)) else (some false))) else (none)) else (some false))) else (none)) else (some false)
set_option maxHeartbeats 8000000 in
set_option maxRecDepth 100000 in
theorem dns_isDDD_byte.calls (A0 : Option Addr) (c0 : Nat) (l0 : List Int) (r : Bool) (w : World) (hr0 : Kd.C (Kd.int .u8) w A0 l0.length l0) (hc0 : l0.length ≤ c0) (h : dns_isDDD_byte.f l0 = some r) :
    Calls Tryd.prog 110 #[.slice A0 l0.length c0] w fun e w' => e = .returned (.bool r) ∧ Drawn0 w w' := by
  have HR0 := Aside0.mk hr0
  have HC0 := Aside0.mk hc0
  clear hr0 hc0
  have H : (if (l0.length : Int) ≥ 3 then (if 0 < (l0.length : Int) then ((dns_isDigit.f (rd l0 0)).bind fun t347 => (if t347 = true then (if 1 < (l0.length : Int) then ((dns_isDigit.f (rd l0 1)).bind fun t349 => (if t349 = true then (if 2 < (l0.length : Int) then ((dns_isDigit.f (rd l0 2)).bind fun t351 => (some t351)) else (none)) else (some false))) else (none)) else (some false))) else (none)) else (some false)) = some r := h
  clear h
  by_cases c2 : (l0.length : Int) ≥ 3
  · rw [if_pos c2] at H
    have c2b0 : decide (3 ≤ (l0.length : Int)) = true := decide_eq_true c2
    have c2b1 : decide (3 ≤ l0.length) = true := decide_eq_true (by omega)
    clear c2
    by_cases c3 : 0 < (l0.length : Int)
    · rw [if_pos c3] at H
      have c3b0 : decide (0 < (l0.length : Int)) = true := decide_eq_true c3
      have c3b1 : decide (0 < l0.length) = true := decide_eq_true (by omega)
      clear c3
      replace H := Option.bind_eq_some_iff.mp H
      obtain ⟨t347, A40, H⟩ := H
      replace H : (if t347 = true then (if 1 < (l0.length : Int) then ((dns_isDigit.f (rd l0 1)).bind fun t349 => (if t349 = true then (if 2 < (l0.length : Int) then ((dns_isDigit.f (rd l0 2)).bind fun t351 => (some t351)) else (none)) else (some false))) else (none)) else (some false)) = some r := H
      have A4 := Aside0.mk A40
      clear A40
      by_cases c5 : t347 = true
      · subst c5
        have H1 : (if 1 < (l0.length : Int) then ((dns_isDigit.f (rd l0 1)).bind fun t349 => (if t349 = true then (if 2 < (l0.length : Int) then ((dns_isDigit.f (rd l0 2)).bind fun t351 => (some t351)) else (none)) else (some false))) else (none)) = some r := by rw [if_pos rfl] at H; exact H
        clear H
        have H := H1
        clear H1
        by_cases c6 : 1 < (l0.length : Int)
        · rw [if_pos c6] at H
          have c6b0 : decide (1 < (l0.length : Int)) = true := decide_eq_true c6
          have c6b1 : decide (1 < l0.length) = true := decide_eq_true (by omega)
          clear c6
          replace H := Option.bind_eq_some_iff.mp H
          obtain ⟨t349, A70, H⟩ := H
          replace H : (if t349 = true then (if 2 < (l0.length : Int) then ((dns_isDigit.f (rd l0 2)).bind fun t351 => (some t351)) else (none)) else (some false)) = some r := H
          have A7 := Aside0.mk A70
          clear A70
          by_cases c8 : t349 = true
          · subst c8
            have H1 : (if 2 < (l0.length : Int) then ((dns_isDigit.f (rd l0 2)).bind fun t351 => (some t351)) else (none)) = some r := by rw [if_pos rfl] at H; exact H
            clear H
            have H := H1
            clear H1
            by_cases c9 : 2 < (l0.length : Int)
            · rw [if_pos c9] at H
              have c9b0 : decide (2 < (l0.length : Int)) = true := decide_eq_true c9
              have c9b1 : decide (2 < l0.length) = true := decide_eq_true (by omega)
              clear c9
              replace H := Option.bind_eq_some_iff.mp H
              obtain ⟨t351, A100, H⟩ := H
              replace H : (some t351) = some r := H
              have A10 := Aside0.mk A100
              clear A100
              obtain rfl := Option.some.inj H
              have p346 : 0 ≤ (0 : Int) := (by omega)
              have q346 : 0 < (l0.length : Int) := of_decide_eq_true (by first | (with_reducible assumption) | assumption)
              obtain ⟨ad346, e346, hx346_0⟩ := Kd.at_int HR0.out 0 p346 q346
              cases e346
              have qi346 : (0 < l0.length) = True := eq_true (by omega)
              (try rw [show ((0 : Int)).toNat = 0 from rfl] at hx346_0)
              (try rw [Addr.add_zero'] at hx346_0)
              replace p346 := eq_true p346
              replace q346 := eq_true q346
              go_enter Tryd.func110, Tryd.ntmps110
              go_wp2_with (first | (go_at_call 101; (with_reducible refine (dns_isDigit.calls (rd l0 0) true _ A4.out).mono ?_); rintro e w' ⟨rfl, ⟨nd, rfl⟩⟩; have p348 : 0 ≤ (1 : Int) := (by omega); have q348 : 1 < (l0.length : Int) := of_decide_eq_true (by first | (with_reducible assumption) | assumption); obtain ⟨ad348, e348, hx348_0⟩ := Kd.at_int HR0.out 1 p348 q348; obtain rfl : ad346 = ad348 := (by injection e348); (try simp only [show (1 : Int).toNat = 1 from rfl, Nat.reduceMul, Nat.reduceEqDiff, Go.Addr.add, ↓reduceIte] at hx348_0); have qi348 : (1 < l0.length) = True := eq_true (by omega); (try rw [show ((1 : Int)).toNat = 1 from rfl] at hx348_0); replace p348 := eq_true p348; replace q348 := eq_true q348) | (go_at_call 101; (with_reducible refine (dns_isDigit.calls (rd l0 1) true _ A7.out).mono ?_); rintro e w' ⟨rfl, ⟨nd, rfl⟩⟩; have p350 : 0 ≤ (2 : Int) := (by omega); have q350 : 2 < (l0.length : Int) := of_decide_eq_true (by first | (with_reducible assumption) | assumption); obtain ⟨ad350, e350, hx350_0⟩ := Kd.at_int HR0.out 2 p350 q350; obtain rfl : ad346 = ad350 := (by injection e350); (try simp only [show (2 : Int).toNat = 2 from rfl, Nat.reduceMul, Nat.reduceEqDiff, Go.Addr.add, ↓reduceIte] at hx350_0); have qi350 : (2 < l0.length) = True := eq_true (by omega); (try rw [show ((2 : Int)).toNat = 2 from rfl] at hx350_0); replace p350 := eq_true p350; replace q350 := eq_true q350) | (go_at_call 101; (with_reducible refine (dns_isDigit.calls (rd l0 2) t351 _ A10.out).mono ?_); rintro e w' ⟨rfl, ⟨nd, rfl⟩⟩))
              go_ret
              exact ⟨by first | rfl | (simp; done) | (simp [*]; done) | (simp [wrap64]; done), by repeat (first | exact Drawn0.refl _ | apply Drawn0.step)⟩
            · rw [if_neg c9] at H
              exact absurd H (by simp)
          · replace c8 := Bool.eq_false_iff.mpr c8
            subst c8
            have H1 : (some false) = some r := by rw [if_neg (show ¬ (false = true) by decide)] at H; exact H
            clear H
            have H := H1
            clear H1
            obtain rfl := Option.some.inj H
            have p346 : 0 ≤ (0 : Int) := (by omega)
            have q346 : 0 < (l0.length : Int) := of_decide_eq_true (by first | (with_reducible assumption) | assumption)
            obtain ⟨ad346, e346, hx346_0⟩ := Kd.at_int HR0.out 0 p346 q346
            cases e346
            have qi346 : (0 < l0.length) = True := eq_true (by omega)
            (try rw [show ((0 : Int)).toNat = 0 from rfl] at hx346_0)
            (try rw [Addr.add_zero'] at hx346_0)
            replace p346 := eq_true p346
            replace q346 := eq_true q346
            go_enter Tryd.func110, Tryd.ntmps110
            go_wp2_with (first | (go_at_call 101; (with_reducible refine (dns_isDigit.calls (rd l0 0) true _ A4.out).mono ?_); rintro e w' ⟨rfl, ⟨nd, rfl⟩⟩; have p348 : 0 ≤ (1 : Int) := (by omega); have q348 : 1 < (l0.length : Int) := of_decide_eq_true (by first | (with_reducible assumption) | assumption); obtain ⟨ad348, e348, hx348_0⟩ := Kd.at_int HR0.out 1 p348 q348; obtain rfl : ad346 = ad348 := (by injection e348); (try simp only [show (1 : Int).toNat = 1 from rfl, Nat.reduceMul, Nat.reduceEqDiff, Go.Addr.add, ↓reduceIte] at hx348_0); have qi348 : (1 < l0.length) = True := eq_true (by omega); (try rw [show ((1 : Int)).toNat = 1 from rfl] at hx348_0); replace p348 := eq_true p348; replace q348 := eq_true q348) | (go_at_call 101; (with_reducible refine (dns_isDigit.calls (rd l0 1) false _ A7.out).mono ?_); rintro e w' ⟨rfl, ⟨nd, rfl⟩⟩))
            go_ret
            exact ⟨by first | rfl | (simp; done) | (simp [*]; done) | (simp [wrap64]; done), by repeat (first | exact Drawn0.refl _ | apply Drawn0.step)⟩
        · rw [if_neg c6] at H
          exact absurd H (by simp)
      · replace c5 := Bool.eq_false_iff.mpr c5
        subst c5
        have H1 : (some false) = some r := by rw [if_neg (show ¬ (false = true) by decide)] at H; exact H
        clear H
        have H := H1
        clear H1
        obtain rfl := Option.some.inj H
        have p346 : 0 ≤ (0 : Int) := (by omega)
        have q346 : 0 < (l0.length : Int) := of_decide_eq_true (by first | (with_reducible assumption) | assumption)
        obtain ⟨ad346, e346, hx346_0⟩ := Kd.at_int HR0.out 0 p346 q346
        cases e346
        have qi346 : (0 < l0.length) = True := eq_true (by omega)
        (try rw [show ((0 : Int)).toNat = 0 from rfl] at hx346_0)
        (try rw [Addr.add_zero'] at hx346_0)
        replace p346 := eq_true p346
        replace q346 := eq_true q346
        go_enter Tryd.func110, Tryd.ntmps110
        go_wp2_with (first | (go_at_call 101; (with_reducible refine (dns_isDigit.calls (rd l0 0) false _ A4.out).mono ?_); rintro e w' ⟨rfl, ⟨nd, rfl⟩⟩))
        go_ret
        exact ⟨by first | rfl | (simp; done) | (simp [*]; done) | (simp [wrap64]; done), by repeat (first | exact Drawn0.refl _ | apply Drawn0.step)⟩
    · rw [if_neg c3] at H
      exact absurd H (by simp)
  · rw [if_neg c2] at H
    have c2b0 : decide (3 ≤ (l0.length : Int)) = false := decide_eq_false c2
    have c2b1 : decide (3 ≤ l0.length) = false := decide_eq_false (by omega)
    clear c2
    obtain rfl := Option.some.inj H
    go_enter Tryd.func110, Tryd.ntmps110
    go_wp2
    go_ret
    exact ⟨by first | rfl | (simp; done) | (simp [*]; done) | (simp [wrap64]; done), by repeat (first | exact Drawn0.refl _ | apply Drawn0.step)⟩

end Go.Proofs.YtiilihafcdmccaaDoor.P
-- Written by a program of this session (wip/tools/pprint.py) out of the translation: it goes by the kit's print and by the contracts of YtiilihafcdmccaaDoorHand. Not trusted: Lean checks it.
namespace Go.Proofs.YtiilihafcdmccaaDoor.P
open Go.RowKit Go.Proofs.YtiilihafcdmccaaDoorW.PrintWords Go.Proofs.YtiilihafcdmccaaDoorW.PrintLast Go.Proofs.YtiilihafcdmccaaDoorW.PrintMore
attribute [local go_sem] max2_int min2_int max_two min_two max_three min_three max_four min_four   -- for this text's walks alone
set_option linter.unusedVariables false
set_option linter.unusedSimpArgs false

/-! ### dns_dddToByte_byte: function 111 -/
def dns_dddToByte_byte.f (l0 : List Int) : Option (Int) := if 2 < (l0.length : Int) then (if 0 < (l0.length : Int) then (if 1 < (l0.length : Int) then (some (((((((((rd l0 0) - 48) % 256) * 100) % 256) + (((((rd l0 1) - 48) % 256) * 10) % 256)) % 256) + (((rd l0 2) - 48) % 256)) % 256)) else (none)) else (none)) else (none)
set_option maxHeartbeats 8000000 in
set_option maxRecDepth 100000 in
theorem dns_dddToByte_byte.calls (A0 : Option Addr) (c0 : Nat) (l0 : List Int) (r : Int) (w : World) (hr0 : Kd.C (Kd.int .u8) w A0 l0.length l0) (hc0 : l0.length ≤ c0) (h : dns_dddToByte_byte.f l0 = some r) :
    Calls Tryd.prog 111 #[.slice A0 l0.length c0] w fun e w' => e = .returned (.int .u8 r) ∧ Drawn0 w w' := by
  have HR0 := Aside0.mk hr0
  have HC0 := Aside0.mk hc0
  clear hr0 hc0
  have H : (if 2 < (l0.length : Int) then (if 0 < (l0.length : Int) then (if 1 < (l0.length : Int) then (some (((((((((rd l0 0) - 48) % 256) * 100) % 256) + (((((rd l0 1) - 48) % 256) * 10) % 256)) % 256) + (((rd l0 2) - 48) % 256)) % 256)) else (none)) else (none)) else (none)) = some r := h
  clear h
  by_cases c2 : 2 < (l0.length : Int)
  · rw [if_pos c2] at H
    have c2b0 : decide (2 < (l0.length : Int)) = true := decide_eq_true c2
    have c2b1 : decide (2 < l0.length) = true := decide_eq_true (by omega)
    clear c2
    by_cases c3 : 0 < (l0.length : Int)
    · rw [if_pos c3] at H
      have c3b0 : decide (0 < (l0.length : Int)) = true := decide_eq_true c3
      have c3b1 : decide (0 < l0.length) = true := decide_eq_true (by omega)
      clear c3
      by_cases c4 : 1 < (l0.length : Int)
      · rw [if_pos c4] at H
        have c4b0 : decide (1 < (l0.length : Int)) = true := decide_eq_true c4
        have c4b1 : decide (1 < l0.length) = true := decide_eq_true (by omega)
        clear c4
        obtain rfl := Option.some.inj H
        have p352 : 0 ≤ (2 : Int) := (by omega)
        have q352 : 2 < (l0.length : Int) := of_decide_eq_true (by first | (with_reducible assumption) | assumption)
        obtain ⟨ad352, e352, hx352_0⟩ := Kd.at_int HR0.out 2 p352 q352
        cases e352
        (try simp only [show (2 : Int).toNat = 2 from rfl, Nat.reduceMul, Nat.reduceEqDiff, Go.Addr.add, ↓reduceIte] at hx352_0)
        have qi352 : (2 < l0.length) = True := eq_true (by omega)
        (try rw [show ((2 : Int)).toNat = 2 from rfl] at hx352_0)
        replace p352 := eq_true p352
        replace q352 := eq_true q352
        have p353 : 0 ≤ (0 : Int) := (by omega)
        have q353 : 0 < (l0.length : Int) := of_decide_eq_true (by first | (with_reducible assumption) | assumption)
        obtain ⟨ad353, e353, hx353_0⟩ := Kd.at_int HR0.out 0 p353 q353
        obtain rfl : ad352 = ad353 := (by injection e353)
        have qi353 : (0 < l0.length) = True := eq_true (by omega)
        (try rw [show ((0 : Int)).toNat = 0 from rfl] at hx353_0)
        (try rw [Addr.add_zero'] at hx353_0)
        replace p353 := eq_true p353
        replace q353 := eq_true q353
        have p354 : 0 ≤ (1 : Int) := (by omega)
        have q354 : 1 < (l0.length : Int) := of_decide_eq_true (by first | (with_reducible assumption) | assumption)
        obtain ⟨ad354, e354, hx354_0⟩ := Kd.at_int HR0.out 1 p354 q354
        obtain rfl : ad352 = ad354 := (by injection e354)
        (try simp only [show (1 : Int).toNat = 1 from rfl, Nat.reduceMul, Nat.reduceEqDiff, Go.Addr.add, ↓reduceIte] at hx354_0)
        have qi354 : (1 < l0.length) = True := eq_true (by omega)
        (try rw [show ((1 : Int)).toNat = 1 from rfl] at hx354_0)
        replace p354 := eq_true p354
        replace q354 := eq_true q354
        have p355 : 0 ≤ (2 : Int) := (by omega)
        have q355 : 2 < (l0.length : Int) := of_decide_eq_true (by first | (with_reducible assumption) | assumption)
        obtain ⟨ad355, e355, hx355_0⟩ := Kd.at_int HR0.out 2 p355 q355
        obtain rfl : ad352 = ad355 := (by injection e355)
        (try simp only [show (2 : Int).toNat = 2 from rfl, Nat.reduceMul, Nat.reduceEqDiff, Go.Addr.add, ↓reduceIte] at hx355_0)
        have qi355 : (2 < l0.length) = True := eq_true (by omega)
        (try rw [show ((2 : Int)).toNat = 2 from rfl] at hx355_0)
        replace p355 := eq_true p355
        replace q355 := eq_true q355
        go_enter Tryd.func111, Tryd.ntmps111
        go_wp2
        repeat (go_quiet (fail); try go_wp2)
        go_ret
        exact ⟨by first | rfl | (simp; done) | (simp [*]; done) | (simp [wrap64]; done), by repeat (first | exact Drawn0.refl _ | apply Drawn0.step)⟩
      · rw [if_neg c4] at H
        exact absurd H (by simp)
    · rw [if_neg c3] at H
      exact absurd H (by simp)
  · rw [if_neg c2] at H
    exact absurd H (by simp)

end Go.Proofs.YtiilihafcdmccaaDoor.P
/- The row that packDomainName writes, and the laws of 'copy' for it: into the message out of the text, out of a row of its own; within that row. -/
namespace Go.Proofs.YtiilihafcdmccaaDoor.P
open Go.RowKit Go.Proofs.YtiilihafcdmccaaDoorW.PrintWords Go.Proofs.YtiilihafcdmccaaDoorW.PrintLast Go.Proofs.YtiilihafcdmccaaDoorW.PrintMore
set_option linter.unusedVariables false
set_option linter.unusedSimpArgs false

/-- Labels, each behind its length. -/
def wpL : List (List Int) → List Int
  | [] => []
  | l :: ls => (l.length : Int) :: (l ++ wpL ls)
theorem wpL_append (a b : List (List Int)) : wpL (a ++ b) = wpL a ++ wpL b := by
  induction a with
  | nil => rfl
  | cons l ls ih => simp [wpL, ih]
theorem wpL_snoc (a : List (List Int)) (l : List Int) : wpL (a ++ [l]) = wpL a ++ ((l.length : Int) :: l) := by
  rw [wpL_append]
  simp [wpL]
/-- What stands ahead in the text of a name: the rest of a label, a point, further labels; or nothing. -/
inductive Rest (n : List (List Int)) : List (List Int) → List Int → List Int → Prop
  | fin : Rest n n [] []
  | lab (D : List (List Int)) (cur r l : List Int) (rs2 ls2 : List (List Int)) : Lab r l → Labs rs2 ls2 → n = D ++ (cur ++ l) :: ls2 → cur ++ l ≠ [] → Rest n D cur (r ++ 46 :: joinD rs2)
/-- The buffer: the text itself, or a row of its own. -/
def BufIs (s : ByteArray) (wr : World) (m q base : Nat) (bs : Value) (X T : List Int) : Prop :=
  (bs = .slice none 0 0 ∧ bytesOf s = X ++ T) ∨
  ∃ b cap J, bs = .slice (some ⟨b, 0, none⟩) s.size cap ∧ s.size ≤ cap ∧ RowB wr b (X ++ (T ++ J)) ∧ (X ++ (T ++ J)).length = s.size ∧ b ≠ m ∧ b ≠ q ∧ base ≤ b
def rowV (xs : List Int) : Array Value := (xs.map fun x => Value.int .u8 x).toArray
theorem row_cell {wr : World} {m e : Nat} {xs : List Int} (h : wr.heap[m]? = some (.cells (rowV xs) e (0, 0))) {i : Nat} (hi : i < xs.length) : wr.cell? ⟨m, i, none⟩ = some (.int .u8 (xs[i])) ∧ wr.frozen? ⟨m, i, none⟩ = false := by
  constructor
  · simp [World.cell?, h, rowV, hi]
  · simp [World.frozen?, h]
theorem row_set {wr : World} {m e : Nat} {xs : List Int} (h : wr.heap[m]? = some (.cells (rowV xs) e (0, 0))) {i : Nat} (hi : i < xs.length) (v : Int) : (wr.setCell ⟨m, i, none⟩ (.int .u8 v)).heap[m]? = some (.cells (rowV (xs.set i v)) e (0, 0)) := by
  have h1 := setCell_eq_setRow wr m i (rowV xs) e (0, 0) (.int .u8 v) h
  rw [h1, setRow_heap wr m _ _ e _ h]
  simp [rowV, List.map_set]
theorem heap_lt {wr : World} {k : Nat} {o : Obj} (h : wr.heap[k]? = some o) : k < wr.heap.size := by
  rcases Nat.lt_or_ge k wr.heap.size with h1 | h1
  · exact h1
  · rw [Array.getElem?_eq_none h1] at h; cases h
theorem heap_kept {wr w2 : World} {k : Nat} {o : Obj} (hb : Below wr.heap.size wr w2) (h : wr.heap[k]? = some o) : w2.heap[k]? = some o := by rw [hb.block k (heap_lt h)]; exact h
theorem RowB.lt {wr : World} {b : Nat} {xs : List Int} (h : RowB wr b xs) (h0 : 0 < xs.length) : b < wr.heap.size := World.block_lt_of_cell? wr _ (h.cell (j := 0) h0)
theorem RowB.kept {wr w2 : World} {b : Nat} {xs : List Int} (hb : w2.heap[b]? = wr.heap[b]?) (h : RowB wr b xs) : RowB w2 b xs := by
  intro j hj
  obtain ⟨h1, h2⟩ := h j hj
  simp only [World.cell?, World.frozen?] at h1 h2 ⊢
  rw [hb]
  exact ⟨h1, h2⟩
structure PkW (s : ByteArray) (n : List (List Int)) (room m q : Nat) (w00 wr : World) (D : List (List Int)) (cur T : List Int) (bs : Value) (wd : Bool) : Prop where
  rest : Rest n D cur T
  dot : wd = true → cur = []
  fit : (wpL D).length ≤ room
  buf : BufIs s wr m q w00.heap.size bs (joinD D ++ cur) T
  msg : wr.heap[m]? = some (.cells (rowV (wpL D ++ List.replicate (room - (wpL D).length) 0)) 5 (0, 0))
  comp : wr.heap[q]? = some (.cells #[.map none, .map none] 107 (0, 0))
  bel : Below w00.heap.size w00 wr

section
variable {P : Program} {w : World} {ops : Array Oper} {rest : List Oper} {o : Oper} {a : Act} {Q : Exit → Act → World → Prop}
theorem wpList_copy_run (hgd : o.guard = none) (d s : Operand) (dT sT : TypeId) (ho : o.op = .call { callee := .builtin .copy, args := #[d, s], argTypes := #[dT, sT] }) (dv sv : Value) (hd : a.eval d = dv) (hs : a.eval s = sv) (n : Nat) (w2 : World)
    (hrun : (Builtin.copy_ #[dT, sT] o.type #[dv, sv]).run P w = .ok (goInt n) w2) (h : wpList P ops Q rest (a.put o.dst (goInt n)) w2) : wpList P ops Q (o :: rest) a w := by
  refine wpList_plain hgd fun K hK => ?_
  unfold Oper.wp
  simp [execOp, ho, resolve, invoke, builtin, hd, hs, hrun, Result.andThen]
  exact hK _ _ h
theorem rowV_length (xs : List Int) : (rowV xs).size = xs.length := by simp [rowV]
theorem rowV_splice (xs ys : List Int) (o n : Nat) : ((rowV xs).toList.take o ++ (ys.map fun x => Value.int .u8 x) ++ (rowV xs).toList.drop (o + n)).toArray = rowV (xs.take o ++ ys ++ xs.drop (o + n)) := by
  simp [rowV, List.map_take, List.map_drop]
theorem byteCells_bytesOf (s : ByteArray) : Lib.byteCells s.data.toList = (bytesOf s).map fun x => Value.int .u8 x := by
  unfold Lib.byteCells bytesOf
  rw [List.map_map]
  rfl
theorem below_setRow' (w : World) (g : Nat) (cs : Array Value) : Below g w (w.setRow g cs) := ⟨rfl, rfl, rfl, by simp [World.setRow], fun k hk => setRow_other w g k cs (by omega)⟩
/-- Into the message, out of a text. -/
theorem wpList_copy_str (hgd : o.guard = none) (d s : Operand) (dT sT elem : TypeId) (ho : o.op = .call { callee := .builtin .copy, args := #[d, s], argTypes := #[dT, sT] }) (hu : P.underlying dT = some (.slice elem)) (hsz : (P.info? elem).map (·.size) = some 1)
    (g off dLen dCap : Nat) (str : ByteArray) (hd : a.eval d = .slice (some ⟨g, off, none⟩) dLen dCap) (hs : a.eval s = .string str) (xs : List Int) (t : TypeId) (hg : w.heap[g]? = some (.cells (rowV xs) t (0, 0))) (hle : str.size ≤ dLen) (hfit : off + str.size ≤ xs.length)
    (h : ∀ w2, Hid (w2.heap[g]? = some (.cells (rowV (xs.take off ++ bytesOf str ++ xs.drop (off + str.size))) t (0, 0))) → Hid (∀ k, k ≠ g → w2.heap[k]? = w.heap[k]?) → Hid (Below g w w2) → wpList P ops Q rest (a.put o.dst (goInt str.size)) w2) : wpList P ops Q (o :: rest) a w := by
  have hr := Lib.run_copy_row_string (P := P) w dT sT o.type elem g off dLen dCap str (rowV xs) t hu hsz hg hle (by rw [rowV_length]; exact hfit)
  rw [byteCells_bytesOf, rowV_splice] at hr
  exact wpList_copy_run hgd d s dT sT ho _ _ hd hs _ _ hr (h _ (setRow_heap w g _ _ t _ hg) (fun k hk => setRow_other w g k _ hk) (below_setRow' _ _ _))
/-- Into the message, out of a row. -/
theorem wpList_copy_rowB (hgd : o.guard = none) (d s : Operand) (dT sT elem : TypeId) (ho : o.op = .call { callee := .builtin .copy, args := #[d, s], argTypes := #[dT, sT] }) (hu : P.underlying dT = some (.slice elem)) (hsz : (P.info? elem).map (·.size) = some 1)
    (g off dLen dCap b so sLen sCap : Nat) (hd : a.eval d = .slice (some ⟨g, off, none⟩) dLen dCap) (hs : a.eval s = .slice (some ⟨b, so, none⟩) sLen sCap) (xs : List Int) (t : TypeId) (hg : w.heap[g]? = some (.cells (rowV xs) t (0, 0))) (ys zs : List Int) (hz : RowB w b zs)
    (hys : ys = (zs.drop so).take sLen) (hsl : so + sLen ≤ zs.length) (hle : sLen ≤ dLen) (hfit : off + sLen ≤ xs.length)
    (h : ∀ w2, Hid (w2.heap[g]? = some (.cells (rowV (xs.take off ++ ys ++ xs.drop (off + sLen))) t (0, 0))) → Hid (∀ k, k ≠ g → w2.heap[k]? = w.heap[k]?) → Hid (Below g w w2) → wpList P ops Q rest (a.put o.dst (goInt sLen)) w2) : wpList P ops Q (o :: rest) a w := by
  have hyl : ys.length = sLen := by rw [hys, List.length_take, List.length_drop]; omega
  have hr := run_copy_row (P := P) w dT sT o.type elem g off dLen dCap ⟨b, so, none⟩ sLen sCap (rowV xs) t (ys.map fun x => Value.int .u8 x) hu hsz hg (by rw [List.length_map, hyl]; exact (Nat.min_eq_left hle).symm)
    (fun j v hj => by
      obtain ⟨hjl, rfl⟩ := List.getElem?_eq_some_iff.1 hj
      rw [List.length_map] at hjl
      have hc := hz.cell (j := so + j) (by omega)
      rw [List.getElem_map, show (⟨b, so, none⟩ : Addr).add j = ⟨b, so + j, none⟩ by unfold Addr.add; simp, hc]
      congr 2
      subst hys
      rw [List.getElem_take, List.getElem_drop, List.getD_eq_getElem?_getD, List.getElem?_eq_getElem (by omega), Option.getD_some])
    (by rw [rowV_length, List.length_map, hyl]; exact hfit) (fun v hv => by obtain ⟨x, _, rfl⟩ := List.mem_map.1 hv; rfl)
  rw [List.length_map, hyl, rowV_splice] at hr
  exact wpList_copy_run hgd d s dT sT ho _ _ hd hs _ _ hr (h _ (setRow_heap w g _ _ t _ hg) (fun k hk => setRow_other w g k _ hk) (below_setRow' _ _ _))
theorem setCells_other (b k : Nat) (hk : k ≠ b) : ∀ (vs : List Value) (o : Nat) (w : World), (w.setCells b o vs).heap[k]? = w.heap[k]?
  | [], _, _ => rfl
  | v :: vs, o, w => by rw [World.setCells, setCells_other b k hk vs, Below.heap_setCell _ _ _ _ hk]
theorem setCells_below (b : Nat) : ∀ (vs : List Value) (o : Nat) (w : World), Below b w (w.setCells b o vs)
  | [], _, w => Below.refl _ _
  | v :: vs, o, w => by rw [World.setCells]; exact ((Below.refl b w).setCell (p := ⟨b, o, none⟩) (Nat.le_refl _) v).trans (setCells_below b vs (o + 1) _)
/-- Within a row. -/
theorem wpList_copy_self (hgd : o.guard = none) (d s : Operand) (dT sT elem : TypeId) (ho : o.op = .call { callee := .builtin .copy, args := #[d, s], argTypes := #[dT, sT] }) (hu : P.underlying dT = some (.slice elem)) (hsz : (P.info? elem).map (·.size) = some 1)
    (b off dLen dCap so sLen sCap : Nat) (hd : a.eval d = .slice (some ⟨b, off, none⟩) dLen dCap) (hs : a.eval s = .slice (some ⟨b, so, none⟩) sLen sCap) (zs : List Int) (hz : RowB w b zs)
    (n : Nat) (hn : n = Nat.min sLen dLen) (hsl : so + n ≤ zs.length) (hfit : off + n ≤ zs.length)
    (h : ∀ w2, Hid (RowB w2 b (zs.take off ++ (zs.drop so).take n ++ zs.drop (off + n))) → Hid (∀ k, k ≠ b → w2.heap[k]? = w.heap[k]?) → Hid (Below b w w2) → wpList P ops Q rest (a.put o.dst (goInt n)) w2) : wpList P ops Q (o :: rest) a w := by
  have hyl : ((zs.drop so).take n).length = n := by rw [List.length_take, List.length_drop]; omega
  have hr := run_copy_cells (P := P) w dT sT o.type elem b off dLen dCap ⟨b, so, none⟩ sLen sCap (((zs.drop so).take n).map fun x => Value.int .u8 x) hu hsz (by rw [List.length_map, hyl, hn])
    (fun j v hj => by
      obtain ⟨hjl, rfl⟩ := List.getElem?_eq_some_iff.1 hj
      rw [List.length_map, hyl] at hjl
      have hc := hz.cell (j := so + j) (by omega)
      rw [List.getElem_map, show (⟨b, so, none⟩ : Addr).add j = ⟨b, so + j, none⟩ by unfold Addr.add; simp, hc]
      congr 2
      rw [List.getElem_take, List.getElem_drop, List.getD_eq_getElem?_getD, List.getElem?_eq_getElem (by omega), Option.getD_some])
    (fun j hj => by rw [List.length_map, hyl] at hj; rw [hz.cell (j := off + j) (by omega)]; rfl)
    (fun j hj => by rw [List.length_map, hyl] at hj; exact hz.free (j := off + j) (by omega)) (fun v hv => by obtain ⟨x, _, rfl⟩ := List.mem_map.1 hv; rfl)
  rw [List.length_map, hyl] at hr
  have hset := RowB.setCells ((zs.drop so).take n) off hz (by rw [hyl]; exact hfit)
  rw [hyl] at hset
  exact wpList_copy_run hgd d s dT sT ho _ _ hd hs _ _ hr (h _ hset (fun k hk => setCells_other b k hk _ _ _) (setCells_below _ _ _ _))
end

theorem row_point (D : List (List Int)) (cur : List Int) (room : Nat) (h : (wpL D).length + 1 + cur.length ≤ room) :
    ((wpL D ++ 0 :: List.replicate (room - ((wpL D).length + 1)) 0).set (wpL D).length (cur.length : Int)).take ((wpL D).length + 1) ++ cur ++ ((wpL D ++ 0 :: List.replicate (room - ((wpL D).length + 1)) 0).set (wpL D).length (cur.length : Int)).drop ((wpL D).length + 1 + cur.length) =
      wpL (D ++ [cur]) ++ List.replicate (room - (wpL (D ++ [cur])).length) 0 := by
  rw [wpL_snoc, List.set_append_right _ _ (Nat.le_refl _), Nat.sub_self, List.set_cons_zero]
  rw [List.take_append, List.drop_append, List.take_of_length_le (by omega), List.drop_of_length_le (by omega), show (wpL D).length + 1 - (wpL D).length = 1 by omega, show (wpL D).length + 1 + cur.length - (wpL D).length = cur.length + 1 by omega]
  simp only [List.take_succ_cons, List.take_zero, List.drop_succ_cons, List.drop_replicate, List.nil_append, List.length_append, List.length_cons, List.append_assoc, List.cons_append]
  congr 4
  omega
theorem below_mono {B m : Nat} {a b : World} (h : Below m a b) (hB : B ≤ m) : Below B a b := ⟨h.os, h.tape, h.output, h.size, fun k hk => h.block k (by omega)⟩

theorem rowB_C {w : World} {b o n : Nat} {zs : List Int} (hz : RowB w b zs) (ho : o + n ≤ zs.length) (hs : zs.length ≤ 1000000) : Kd.C (Kd.int .u8) w (some ⟨b, o, none⟩) n ((zs.drop o).take n) := by
  refine Kd.C_of_reads (d := 0) ⟨by rw [List.length_take, List.length_drop]; omega, by omega, fun _ => ⟨_, rfl, fun j hj => ?_⟩⟩
  rw [show (⟨b, o, none⟩ : Addr).add j = ⟨b, o + j, none⟩ by unfold Addr.add; simp, hz.cell (j := o + j) (by omega)]
  congr 2
  rw [List.getD_eq_getElem?_getD, List.getD_eq_getElem?_getD, List.getElem?_take_of_lt hj, List.getElem?_drop]
theorem isddd_row (w : World) (b o n c : Nat) (zs : List Int) (r : Bool) (hz : RowB w b zs) (ho : o + n ≤ zs.length) (hs : zs.length ≤ 1000000) (hc : n ≤ c) (h : dns_isDDD_byte.f ((zs.drop o).take n) = some r) :
    Calls Tryd.prog 110 #[.slice (some ⟨b, o, none⟩) n c] w fun e w' => e = .returned (.bool r) ∧ Drawn0 w w' := by
  have hl : ((zs.drop o).take n).length = n := by rw [List.length_take, List.length_drop]; omega
  have h1 := dns_isDDD_byte.calls (some ⟨b, o, none⟩) c ((zs.drop o).take n) r w (by rw [hl]; exact rowB_C hz ho hs) (by rw [hl]; exact hc) h
  rwa [hl] at h1
theorem dddb_row (w : World) (b o n c : Nat) (zs : List Int) (r : Int) (hz : RowB w b zs) (ho : o + n ≤ zs.length) (hs : zs.length ≤ 1000000) (hc : n ≤ c) (h : dns_dddToByte_byte.f ((zs.drop o).take n) = some r) :
    Calls Tryd.prog 111 #[.slice (some ⟨b, o, none⟩) n c] w fun e w' => e = .returned (.int .u8 r) ∧ Drawn0 w w' := by
  have hl : ((zs.drop o).take n).length = n := by rw [List.length_take, List.length_drop]; omega
  have h1 := dns_dddToByte_byte.calls (some ⟨b, o, none⟩) c ((zs.drop o).take n) r w (by rw [hl]; exact rowB_C hz ho hs) (by rw [hl]; exact hc) h
  rwa [hl] at h1
theorem isddd_no (d : Int) (l : List Int) (h : ¬ dig d) : dns_isDDD_byte.f (d :: l) = some false := by
  unfold dns_isDDD_byte.f
  split
  · rw [if_pos (by simp)]
    have e : dns_isDigit.f (rd (d :: l) 0) = some false := by
      unfold dns_isDigit.f dig at *
      show (if d ≥ 48 then some (decide (d ≤ 57)) else some false) = some false
      split
      · rw [decide_eq_false (by omega)]
      · rfl
    rw [e]
    rfl
  · rfl
theorem isddd_yes (a b c : Int) (l : List Int) (ha : dig a) (hb : dig b) (hc : dig c) : dns_isDDD_byte.f (a :: b :: c :: l) = some true := by
  have e : ∀ x : Int, dig x → dns_isDigit.f x = some true := fun x hx => by
    unfold dns_isDigit.f
    unfold dig at hx
    rw [if_pos (by omega), decide_eq_true (by omega)]
  unfold dns_isDDD_byte.f
  rw [if_pos (by simp; omega), if_pos (by simp; omega)]
  have e0 : rd (a :: b :: c :: l) 0 = a := rfl
  have e1 : rd (a :: b :: c :: l) 1 = b := rfl
  have e2 : rd (a :: b :: c :: l) 2 = c := rfl
  rw [e0, e a ha, Option.bind_some, if_pos rfl, if_pos (by simp; omega), e1, e b hb, Option.bind_some, if_pos rfl, if_pos (by simp; omega), e2, e c hc, Option.bind_some]
theorem dddb_val (a b c : Int) (l : List Int) (ha : dig a) (hb : dig b) (hc : dig c) (hv : val3 a b c < 256) : dns_dddToByte_byte.f (a :: b :: c :: l) = some (val3 a b c) := by
  unfold dns_dddToByte_byte.f
  rw [if_pos (by simp; omega), if_pos (by simp; omega), if_pos (by simp; omega)]
  have e0 : rd (a :: b :: c :: l) 0 = a := rfl
  have e1 : rd (a :: b :: c :: l) 1 = b := rfl
  have e2 : rd (a :: b :: c :: l) 2 = c := rfl
  rw [e0, e1, e2]
  unfold val3 dig at *
  congr 1
  omega

theorem row_shift (X Y T J : List Int) (a b c : Nat) (ha : a = X.length) (hb : b = X.length + Y.length) (hc : c = T.length) :
    (X ++ (Y ++ (T ++ J))).take a ++ ((X ++ (Y ++ (T ++ J))).drop b).take c ++ (X ++ (Y ++ (T ++ J))).drop (a + c) = X ++ (T ++ (X ++ (Y ++ (T ++ J))).drop (a + c)) := by
  subst ha hb hc
  rw [List.take_left, show (X ++ (Y ++ (T ++ J))).drop (X.length + Y.length) = T ++ J by rw [← List.append_assoc, ← List.length_append, List.drop_left], List.take_left, List.append_assoc]
theorem row_shift_len (X Y T J : List Int) : (X ++ (T ++ (X ++ (Y ++ (T ++ J))).drop (X.length + T.length))).length = (X ++ (Y ++ (T ++ J))).length := by
  simp
  omega

theorem RowB.drewN {w : World} {b : Nat} {zs : List Int} (h : RowB w b zs) (n : Nat) : RowB (w.drewN n) b zs := h

end Go.Proofs.YtiilihafcdmccaaDoor.P
/- Base 32 and base 16 of octets: in plain Lean, as both sides reckon them. -/
namespace Go.Proofs.YtiilihafcdmccaaDoor.P
open Go.RowKit Go.Proofs.YtiilihafcdmccaaDoorW.PrintWords
set_option linter.unusedVariables false
set_option linter.unusedSimpArgs false

/-- The small and the large digit of a number below 32. -/
def dgL (v : Int) : Int := if v < 10 then 48 + v else 87 + v
def dgU (v : Int) : Int := if v < 10 then 48 + v else 55 + v
/-- Five octets as eight numbers of five bits. -/
def g5 (a b c d e : Int) : List Int := [a / 8, a % 8 * 4 + b / 64, b / 2 % 32, b % 2 * 16 + c / 16, c % 16 * 2 + d / 128, d / 4 % 32, d % 4 * 8 + e / 32, e % 32]
def enc5 : List Int → List Int
  | a :: b :: c :: d :: e :: t => g5 a b c d e ++ enc5 t
  | _ => []
def enc4 (l : List Int) : List Int := l.flatMap fun b => [b / 16, b % 16]
theorem g5_lt {a b c d e : Int} (ha : 0 ≤ a ∧ a < 256) (hb : 0 ≤ b ∧ b < 256) (hc : 0 ≤ c ∧ c < 256) (hd : 0 ≤ d ∧ d < 256) (he : 0 ≤ e ∧ e < 256) : ∀ v ∈ g5 a b c d e, 0 ≤ v ∧ v < 32 := by
  intro v hv
  simp only [g5, List.mem_cons, List.not_mem_nil, or_false] at hv
  omega
theorem enc5_lt : ∀ (l : List Int), IsB l → ∀ v ∈ enc5 l, 0 ≤ v ∧ v < 32
  | a :: b :: c :: d :: e :: t, h => fun v hv => by
    rw [enc5, List.mem_append] at hv
    rcases hv with hv | hv
    · exact g5_lt (h a (by simp)) (h b (by simp)) (h c (by simp)) (h d (by simp)) (h e (by simp)) v hv
    · exact enc5_lt t (fun x hx => h x (by simp [hx])) v hv
  | [], _ => fun v hv => by cases hv
  | [_], _ => fun v hv => by cases hv
  | [_, _], _ => fun v hv => by cases hv
  | [_, _, _], _ => fun v hv => by cases hv
  | [_, _, _, _], _ => fun v hv => by cases hv
theorem up_dgL {v : Int} (h0 : 0 ≤ v) (h : v < 32) : (if 97 ≤ dgL v ∧ dgL v ≤ 122 then dgL v - 32 else dgL v) = dgU v := by
  unfold dgL dgU
  split <;> split <;> omega

end Go.Proofs.YtiilihafcdmccaaDoor.P
/- encoding/base32: the encoding that the program makes, and what it writes. -/
namespace Go.Proofs.YtiilihafcdmccaaDoor.P
open Go.RowKit Go.Proofs.YtiilihafcdmccaaDoorW.PrintWords Go.Proofs.YtiilihafcdmccaaDoorW.PrintLast Go.Proofs.YtiilihafcdmccaaDoorW.PrintMore
set_option linter.unusedVariables false
set_option linter.unusedSimpArgs false

/-- The cells of an encoding: its signs, what they mean, the sign that fills. -/
def encV (E M : List Int) (p : Int) : Array Value := ((E ++ M).map (fun x => Value.int .u8 x) ++ [Value.int .i32 p]).toArray
def aU : ByteArray := ⟨#[48, 49, 50, 51, 52, 53, 54, 55, 56, 57, 65, 66, 67, 68, 69, 70, 71, 72, 73, 74, 75, 76, 77, 78, 79, 80, 81, 82, 83, 84, 85, 86]⟩
theorem encV_size (E M : List Int) (p : Int) : (encV E M p).size = E.length + M.length + 1 := by simp [encV]; omega
theorem encV_cell {wr : World} {m e : Nat} {E M : List Int} {p : Int} (h : wr.heap[m]? = some (.cells (encV E M p) e (0, 0))) {i : Nat} (hi : i < E.length + M.length) : wr.cell? ⟨m, i, none⟩ = some (.int .u8 ((E ++ M).getD i 0)) ∧ wr.frozen? ⟨m, i, none⟩ = false := by
  have hi2 : i < (E ++ M).length := by rw [List.length_append]; exact hi
  constructor
  · simp only [World.cell?, h, encV]
    rw [List.getElem?_toArray, List.getElem?_append_left (by rw [List.length_map]; exact hi2), List.getElem?_map, List.getElem?_eq_getElem hi2, List.getD_eq_getElem?_getD, List.getElem?_eq_getElem hi2]
    rfl
  · simp [World.frozen?, h]
theorem encV_pad {wr : World} {m e : Nat} {E M : List Int} {p : Int} (h : wr.heap[m]? = some (.cells (encV E M p) e (0, 0))) {i : Nat} (hi : i = E.length + M.length) : wr.cell? ⟨m, i, none⟩ = some (.int .i32 p) ∧ wr.frozen? ⟨m, i, none⟩ = false := by
  subst hi
  constructor
  · simp only [World.cell?, h, encV]
    rw [List.getElem?_toArray, List.getElem?_append_right (by rw [List.length_map, List.length_append]; exact Nat.le_refl _), List.length_map, List.length_append, Nat.sub_self]
    rfl
  · simp [World.frozen?, h]
theorem encV_set {wr : World} {m e : Nat} {E M : List Int} {p : Int} (h : wr.heap[m]? = some (.cells (encV E M p) e (0, 0))) {i : Nat} (hi : i < M.length) (v : Int) : (wr.setCell ⟨m, E.length + i, none⟩ (.int .u8 v)).heap[m]? = some (.cells (encV E (M.set i v) p) e (0, 0)) := by
  have h1 := setCell_eq_setRow wr m (E.length + i) (encV E M p) e (0, 0) (.int .u8 v) h
  rw [h1, setRow_heap wr m _ _ e _ h]
  congr 2
  unfold encV
  rw [List.map_append, List.map_append, List.map_set]
  simp [List.set_append_left, List.set_append_right, hi]
theorem encV_copyE (E E' M : List Int) (p : Int) (h : E'.length = E.length) : ((encV E M p).toList.take 0 ++ (E'.map fun x => Value.int .u8 x) ++ (encV E M p).toList.drop (0 + E'.length)).toArray = encV E' M p := by
  unfold encV
  simp [h]
theorem splice_mid (A B C B' : List Value) (h : B'.length = B.length) : (A ++ (B ++ C)).take A.length ++ B' ++ (A ++ (B ++ C)).drop (A.length + B'.length) = A ++ (B' ++ C) := by
  rw [List.take_left, ← List.drop_drop, List.drop_left, h, List.drop_left, List.append_assoc]
theorem encV_copyM (E M M' : List Int) (p : Int) (h : M'.length = M.length) : ((encV E M p).toList.take E.length ++ (M'.map fun x => Value.int .u8 x) ++ (encV E M p).toList.drop (E.length + M'.length)).toArray = encV E M' p := by
  have h1 := splice_mid (E.map fun x => Value.int .u8 x) (M.map fun x => Value.int .u8 x) [Value.int .i32 p] (M'.map fun x => Value.int .u8 x) (by simp [h])
  rw [List.length_map, List.length_map] at h1
  unfold encV
  rw [List.map_append, List.map_append, List.toList_toArray]
  simp only [List.append_assoc] at h1 ⊢
  rw [h1]
theorem zero_enc : Tryd.zeroCells189.setIfInBounds 288 (Value.int IntKind.i32 61) = encV (List.replicate 32 0) (List.replicate 256 0) 61 := by kernel_rfl
theorem copy_enc {w : World} {g ty dT sT : Nat} {E M : List Int} {p : Int} {t : Nat} (s : ByteArray) (off n c : Nat) (E' M' : List Int) (hu : Tryd.prog.underlying dT = some (.slice 5)) (hg : w.heap[g]? = some (.cells (encV E M p) t (0, 0))) (hn : s.size = n)
    (hle : off + n ≤ E.length + M.length) (he : ((encV E M p).toList.take off ++ ((bytesOf s).map fun x => Value.int .u8 x) ++ (encV E M p).toList.drop (off + n)).toArray = encV E' M' p) :
    ∃ W2, (Builtin.copy_ #[dT, sT] ty #[.slice (some ⟨g, off, none⟩) n c, .string s]).run Tryd.prog w = .ok (.int .i64 n) W2 ∧ W2.heap[g]? = some (.cells (encV E' M' p) t (0, 0)) ∧ Below g w W2 := by
  have hr := Lib.run_copy_row_string (P := Tryd.prog) w dT sT ty 5 g off n c s (encV E M p) t hu (by kernel_rfl) hg (by omega) (by rw [encV_size]; omega)
  rw [byteCells_bytesOf, hn, he] at hr
  exact ⟨_, hr, setRow_heap w g _ _ t _ hg, below_setRow' _ _ _⟩
def dm : Nat → List Int
  | 0 => List.replicate 256 255
  | i + 1 => (dm i).set ((bytesOf aU).getD i 0).toNat (i : Int)
theorem dm_len : ∀ i, (dm i).length = 256
  | 0 => List.length_replicate
  | i + 1 => by rw [dm, List.length_set, dm_len i]
theorem aU_at : ∀ i : Fin 32, ∃ c : Fin 256, (bytesOf aU).getD i.val 0 = (c.val : Int) ∧ c.val ≠ 10 ∧ c.val ≠ 13 ∧ (dm i.val).getD c.val 0 = 255 := by decide +kernel
set_option maxHeartbeats 1000000 in
set_option maxRecDepth 100000 in
theorem new_enc (w : World) : Calls Tryd.prog 137 #[.string aU] w fun e w' => ∃ m M, e = .returned (.pointer (some ⟨m, 0, none⟩)) ∧ w.heap.size ≤ m ∧ M.length = 256 ∧ w'.heap[m]? = some (.cells (encV (bytesOf aU) M 61) 189 (0, 0)) ∧ Below w.heap.size w w' := by
  have hsz : aU.size = 32 := rfl
  obtain ⟨W2, hc2, hh2, hb2⟩ := copy_enc (w := w.alloc (Obj.cells (Tryd.zeroCells189.setIfInBounds 288 (Value.int IntKind.i32 61)) 189)) (ty := 3) (sT := 9) (E := List.replicate 32 0) (M := List.replicate 256 0) (p := 61) (t := 189) (g := w.heap.size) aU 0 32 32 (bytesOf aU) (List.replicate 256 0) Tryd.underlying22 (by rw [← zero_enc]; exact heap_alloc_new w _) rfl (by simp) (encV_copyE _ _ _ _ rfl)
  obtain ⟨W3, hc3, hh3, hb3⟩ := copy_enc (w := W2) (ty := 3) (sT := 9) (E := bytesOf aU) (M := List.replicate 256 0) (p := 61) (t := 189) (g := w.heap.size) (⟨#[255, 255, 255, 255, 255, 255, 255, 255, 255, 255, 255, 255, 255, 255, 255, 255, 255, 255, 255, 255, 255, 255, 255, 255, 255, 255, 255, 255, 255, 255, 255, 255, 255, 255, 255, 255, 255, 255, 255, 255, 255, 255, 255, 255, 255, 255, 255, 255, 255, 255, 255, 255, 255, 255, 255, 255, 255, 255, 255, 255, 255, 255, 255, 255, 255, 255, 255, 255, 255, 255, 255, 255, 255, 255, 255, 255, 255, 255, 255, 255, 255, 255, 255, 255, 255, 255, 255, 255, 255, 255, 255, 255, 255, 255, 255, 255, 255, 255, 255, 255, 255, 255, 255, 255, 255, 255, 255, 255, 255, 255, 255, 255, 255, 255, 255, 255, 255, 255, 255, 255, 255, 255, 255, 255, 255, 255, 255, 255, 255, 255, 255, 255, 255, 255, 255, 255, 255, 255, 255, 255, 255, 255, 255, 255, 255, 255, 255, 255, 255, 255, 255, 255, 255, 255, 255, 255, 255, 255, 255, 255, 255, 255, 255, 255, 255, 255, 255, 255, 255, 255, 255, 255, 255, 255, 255, 255, 255, 255, 255, 255, 255, 255, 255, 255, 255, 255, 255, 255, 255, 255, 255, 255, 255, 255, 255, 255, 255, 255, 255, 255, 255, 255, 255, 255, 255, 255, 255, 255, 255, 255, 255, 255, 255, 255, 255, 255, 255, 255, 255, 255, 255, 255, 255, 255, 255, 255, 255, 255, 255, 255, 255, 255, 255, 255, 255, 255, 255, 255, 255, 255, 255, 255, 255, 255, 255, 255, 255, 255, 255, 255, 255, 255, 255, 255, 255, 255]⟩ : ByteArray) 32 256 256 (bytesOf aU) (List.replicate 256 255) Tryd.underlying22 hh2 rfl (by rw [bytesOf_length, hsz, List.length_replicate]; omega) (by rw [show bytesOf (⟨#[255, 255, 255, 255, 255, 255, 255, 255, 255, 255, 255, 255, 255, 255, 255, 255, 255, 255, 255, 255, 255, 255, 255, 255, 255, 255, 255, 255, 255, 255, 255, 255, 255, 255, 255, 255, 255, 255, 255, 255, 255, 255, 255, 255, 255, 255, 255, 255, 255, 255, 255, 255, 255, 255, 255, 255, 255, 255, 255, 255, 255, 255, 255, 255, 255, 255, 255, 255, 255, 255, 255, 255, 255, 255, 255, 255, 255, 255, 255, 255, 255, 255, 255, 255, 255, 255, 255, 255, 255, 255, 255, 255, 255, 255, 255, 255, 255, 255, 255, 255, 255, 255, 255, 255, 255, 255, 255, 255, 255, 255, 255, 255, 255, 255, 255, 255, 255, 255, 255, 255, 255, 255, 255, 255, 255, 255, 255, 255, 255, 255, 255, 255, 255, 255, 255, 255, 255, 255, 255, 255, 255, 255, 255, 255, 255, 255, 255, 255, 255, 255, 255, 255, 255, 255, 255, 255, 255, 255, 255, 255, 255, 255, 255, 255, 255, 255, 255, 255, 255, 255, 255, 255, 255, 255, 255, 255, 255, 255, 255, 255, 255, 255, 255, 255, 255, 255, 255, 255, 255, 255, 255, 255, 255, 255, 255, 255, 255, 255, 255, 255, 255, 255, 255, 255, 255, 255, 255, 255, 255, 255, 255, 255, 255, 255, 255, 255, 255, 255, 255, 255, 255, 255, 255, 255, 255, 255, 255, 255, 255, 255, 255, 255, 255, 255, 255, 255, 255, 255, 255, 255, 255, 255, 255, 255, 255, 255, 255, 255, 255, 255, 255, 255, 255, 255, 255, 255]⟩ : ByteArray) = List.replicate 256 255 from by decide +kernel]; exact encV_copyM (bytesOf aU) (List.replicate 256 0) (List.replicate 256 255) 61 (by simp))
  have hB3 := Aside0.mk (((below_alloc (Below.refl w.heap.size w) _).trans hb2).trans hb3)
  have hH3 := Aside0.mk hh3
  clear hh2 hb2 hh3 hb3
  go_enter Tryd.func137, Tryd.ntmps137
  go_wp2
  go_loopw [4] (fun v4 W => ∃ i : Nat, v4 = .int .i64 i ∧ i ≤ 32 ∧ Aside0 (W.heap[w.heap.size]? = some (.cells (encV (bytesOf aU) (dm i) 61) 189 (0, 0))) ∧ Aside0 (Below w.heap.size w W)) (fun v4 _ => (32 - intOf v4).toNat)
  case atStart => exact ⟨0, rfl, by omega, hH3, hB3⟩
  case round =>
    clear hH3 hB3 hc2 hc3
    obtain ⟨i, rfl, hi, hH, hB⟩ := hrel
    by_cases hlt : i < 32
    · obtain ⟨⟨c, hc⟩, e1, e2, e3, e4⟩ := aU_at ⟨i, hlt⟩
      simp only [] at e1 e2 e3 e4
      have d0 : decide ((i : Int) < 32) = true := decide_eq_true (by omega)
      have hbt : bt aU (i : Int) = (c : Int) := by rw [bt_nat]; exact e1
      have hx : ∀ h : i < aU.size, ((aU[i]'h).toNat : Int) = (c : Int) := fun h => by rw [bt_at_nat _ _ h]; exact hbt
      clear hbt
      have hix : ∀ W : World, (Instr.index 9 (.string aU) (.int .i64 (i : Int))).run Tryd.prog W = .ok (.int .u8 (c : Int)) W := fun W => by
        have h2 : i < aU.size := by rw [hsz]; exact hlt
        rw [run_index_string W 9 aU .i64 (i : Int) Tryd.underlying9]
        simp [h2, hx h2]
      have hi2 : i < aU.size := by rw [hsz]; exact hlt
      have f1 : ((c : Int) == 10) = false := beq_eq_false_iff_ne.mpr (by omega)
      have f2 : ((c : Int) == 13) = false := beq_eq_false_iff_ne.mpr (by omega)
      have hl : (bytesOf aU).length = 32 := by rw [bytesOf_length]; rfl
      have hk := encV_cell hH.out (i := 32 + c) (by rw [hl, dm_len]; omega)
      have hv : (bytesOf aU ++ dm i).getD (32 + c) 0 = 255 := by
        rw [List.getD_eq_getElem?_getD, List.getElem?_append_right (by omega), hl, show 32 + c - 32 = c by omega, ← List.getD_eq_getElem?_getD]
        exact e4
      rw [hv] at hk
      obtain ⟨k1, k2⟩ := hk
      have q1 : (c : Int) < 256 := by omega
      have hE1 := Aside0.mk e1
      clear e1 e4 hv
      go_wp2
      go_quiet (fail)
      go_wp2
      have k1' : (wr.drewN nq).cell? ⟨w.heap.size, 32 + c, none⟩ = some (.int .u8 255) := k1
      have k2' : (wr.drewN nq).frozen? ⟨w.heap.size, 32 + c, none⟩ = false := k2
      have hH' : Aside0 ((wr.drewN nq).heap[w.heap.size]? = some (.cells (encV (bytesOf aU) (dm i) 61) 189 (0, 0))) := hH
      have hB' := Aside0.mk (pw_below_drewN hB.out nq)
      clear k1 k2 hH hB
      generalize wr.drewN nq = W9 at *
      go_still_tail 9, (by kernel_rfl)
      go_wp2
      go_roundw
      case rel =>
        have hs := encV_set hH'.out (i := c) (by rw [dm_len]; omega) (i : Int)
        rw [hl] at hs
        refine ⟨i + 1, by simp, by omega, ⟨?_⟩, ⟨?_⟩⟩
        · rw [dm, hE1.out, Int.toNat_natCast]
          exact hs
        · exact (hB'.out.setCell (p := ⟨w.heap.size, 32 + c, none⟩) (Nat.le_refl _) _).trans ⟨rfl, rfl, rfl, Nat.le_refl _, fun _ _ => rfl⟩
      case measure => simp [intOf]; omega
    · obtain rfl : i = 32 := by omega
      go_wp2
      go_ret
      exact ⟨_, _, rfl, Nat.le_refl _, dm_len _, hH.out, hB.out⟩

theorem encV_last (E M : List Int) (p : Int) (h : E.length + M.length = 288) : (encV E M p)[288]? = some (.int .i32 p) := by
  unfold encV
  rw [List.getElem?_toArray, List.getElem?_append_right (by rw [List.length_map, List.length_append]; omega), List.length_map, List.length_append, h]
  rfl
theorem encV_setLast (E M : List Int) (p q : Int) (h : E.length + M.length = 288) : (encV E M p).setIfInBounds 288 (.int .i32 q) = encV E M q := by
  unfold encV
  rw [List.setIfInBounds_toArray, List.set_append_right _ _ (by rw [List.length_map, List.length_append]; omega), List.length_map, List.length_append, h]
  rfl
/-- WithPadding: a new encoding with the same signs. -/
theorem with_pad (E M : List Int) (hE : E.length = 32) (hM : M.length = 256) (w : World) : Calls Tryd.prog 138 #[.agg (encV E M 61), .int .i32 (-1)] w fun e w' => ∃ m, e = .returned (.pointer (some ⟨m, 0, none⟩)) ∧ w.heap.size ≤ m ∧ w'.heap[m]? = some (.cells (encV E M (-1)) 189 (0, 0)) ∧ Below w.heap.size w w' := by
  have hp := encV_last E M 61 (by omega)
  have hq := encV_setLast E M 61 (-1) (by omega)
  go_enter Tryd.func138, Tryd.ntmps138
  go_wp2
  go_ret
  exact ⟨_, rfl, Nat.le_refl _, heap_alloc_new w _, below_alloc (Below.refl _ _) _⟩
set_option maxHeartbeats 2000000 in
set_option maxRecDepth 100000 in
/-- The program's own encoding. -/
theorem hex_enc (w : World) : Calls Tryd.prog 123 #[] w fun e w' => ∃ m M, e = .returned (.pointer (some ⟨m, 0, none⟩)) ∧ w.heap.size ≤ m ∧ M.length = 256 ∧ w'.heap[m]? = some (.cells (encV (bytesOf aU) M (-1)) 189 (0, 0)) ∧ Below w.heap.size w w' := by
  go_enter Tryd.func123, Tryd.ntmps123
  go_wp2_with (first | (go_at_call 137; (refine (new_enc _).mono ?_); rintro e w' ⟨m, M, rfl, hm, hM, hh, hb⟩; (have HH := Aside0.mk hh); (have HB := Aside0.mk hb); clear hh hb))
  refine wp_load_row 189 (.tmp 2) rfl m rfl 189 (encV (bytesOf aU) M 61) (0, 0) _ HH.out Tryd.underlying189 rfl (by rw [encV_size, hM, show (bytesOf aU).length = 32 from rfl]; kernel_rfl) ?_
  go_wp2_with (first | (go_at_call 138; (refine (with_pad (bytesOf aU) M rfl hM _).mono ?_); rintro e w2 ⟨m2, rfl, hm2, hh2, hb2⟩; (have HH2 := Aside0.mk hh2); (have HB2 := Aside0.mk (below_step HB.out hb2)); (have HS2 := Aside0.mk (Nat.le_trans HB.out.size hm2)); clear hh2 hb2))
  go_ret
  exact ⟨_, M, rfl, HS2.out, hM, HH2.out, HB2.out⟩

/-- How much is written: 32 signs of 20 octets. -/
theorem enc_len (E M : List Int) (m : Nat) (w : World) (hE : E.length = 32) (hM : M.length = 256) (hh : w.heap[m]? = some (.cells (encV E M (-1)) 189 (0, 0))) : Calls Tryd.prog 139 #[.pointer (some ⟨m, 0, none⟩), .int .i64 20] w fun e w' => e = .returned (.int .i64 32) ∧ Drawn0 w w' := by
  have hk := (encV_pad hh (i := 288) (by omega)).1
  have HH := Aside0.mk hh
  clear hh
  go_enter Tryd.func139, Tryd.ntmps139
  go_wp2
  go_ret
  exact ⟨rfl, ⟨_, (World.drewN_zero _).symm⟩⟩

end Go.Proofs.YtiilihafcdmccaaDoor.P
/- 'netip.parseIPv4Fields' at four numbers written with points. -/
namespace Go.Proofs.YtiilihafcdmccaaDoor.P
open Go.RowKit Go.Proofs.YtiilihafcdmccaaDoorW.PrintWords Go.Proofs.YtiilihafcdmccaaDoorW.PrintLast Go.Proofs.YtiilihafcdmccaaDoorW.PrintMore
set_option linter.unusedVariables false
set_option linter.unusedSimpArgs false

/-- A number below 256 in decimal digits. -/
def dec3 (v : Int) : List Int := if v < 10 then [48 + v] else if v < 100 then [48 + v / 10, 48 + v % 10] else [48 + v / 100, 48 + v / 10 % 10, 48 + v % 10]
def vdig (ds : List Int) : Int := ds.foldl (fun a c => a * 10 + (c - 48)) 0
theorem vdig_snoc (ds : List Int) (c : Int) : vdig (ds ++ [c]) = vdig ds * 10 + (c - 48) := by simp [vdig, List.foldl_append]
theorem dec3_val (v : Int) (h : v < 1000) : vdig (dec3 v) = v := by
  unfold dec3
  split
  · simp [vdig]; omega
  · split
    · simp [vdig]; omega
    · simp [vdig]; omega
theorem dec3_ne (v : Int) : dec3 v ≠ [] := by
  unfold dec3
  split
  · simp
  · split <;> simp
theorem dec3_len (v : Int) : (dec3 v).length ≤ 3 := by
  unfold dec3
  split
  · simp
  · split <;> simp
theorem dec3_at {v c : Int} {ds r : List Int} (h0 : 0 ≤ v) (h1 : v < 256) (h : dec3 v = ds ++ c :: r) : 48 ≤ c ∧ c ≤ 57 ∧ 0 ≤ vdig ds ∧ vdig ds ≤ 25 ∧ vdig ds * 10 + (c - 48) ≤ 255 ∧ ¬ (ds.length = 1 ∧ vdig ds = 0) ∧ ds.length ≤ 2 := by
  unfold dec3 at h
  split at h
  · rcases ds with _ | ⟨d0, ds⟩
    · simp at h
      obtain ⟨rfl, rfl⟩ := h
      simp [vdig]
      omega
    · simp at h
  · split at h
    · rcases ds with _ | ⟨d0, _ | ⟨d1, ds⟩⟩
      · simp at h
        obtain ⟨rfl, rfl⟩ := h
        simp [vdig]
        omega
      · simp at h
        obtain ⟨rfl, rfl, rfl⟩ := h
        simp [vdig]
        omega
      · simp at h
    · rcases ds with _ | ⟨d0, _ | ⟨d1, _ | ⟨d2, ds⟩⟩⟩
      · simp at h
        obtain ⟨rfl, rfl⟩ := h
        simp [vdig]
        omega
      · simp at h
        obtain ⟨rfl, rfl, rfl⟩ := h
        simp [vdig]
        omega
      · simp at h
        obtain ⟨rfl, rfl, rfl, rfl⟩ := h
        simp [vdig]
        omega
      · simp at h
/-- Numbers with points between them. -/
def joinP : List Int → List Int
  | [] => []
  | v :: t => dec3 v ++ (match t with | [] => [] | w :: u => 46 :: joinP (w :: u))
/-- What stands behind a number. -/
def tailP : List Int → List Int
  | [] => []
  | w :: u => 46 :: joinP (w :: u)
theorem joinP_cons (v : Int) (t : List Int) : joinP (v :: t) = dec3 v ++ tailP t := by
  cases t <;> rfl
theorem joinP_ne (w : Int) (u : List Int) : joinP (w :: u) ≠ [] := by
  rw [joinP_cons]
  have := dec3_ne w
  simp [this]
/-- Where the reader stands: numbers read, the number that is read, its digits read and ahead. -/
structure At4 (l xs : List Int) (i : Nat) (D T ds r : List Int) (v : Int) : Prop where
  nums : l = D ++ v :: T
  digs : dec3 v = ds ++ r
  text : ∃ X, xs = X ++ (ds ++ (r ++ tailP T)) ∧ i = X.length + ds.length
theorem char_at {s : ByteArray} {X R : List Int} {c : Int} {i : Nat} (h : bytesOf s = X ++ c :: R) (hi : i = X.length) : i < s.size ∧ ∀ h : i < s.size, ((s[i]'h).toNat : Int) = c := by
  have hl : (bytesOf s).length = s.size := bytesOf_length s
  rw [h, List.length_append, List.length_cons] at hl
  refine ⟨by omega, fun h9 => ?_⟩
  rw [bt_at_nat, hi]
  exact bt_split h
theorem At4.start (l xs : List Int) (v : Int) (T : List Int) (h : l = v :: T) (hx : xs = joinP l) : At4 l xs 0 [] T [] (dec3 v) v := by
  refine ⟨h, rfl, ⟨[], ?_, rfl⟩⟩
  rw [hx, h, joinP_cons]
  rfl
theorem At4.digit {l xs D T ds r : List Int} {i : Nat} {v c : Int} (h : At4 l xs i D T ds (c :: r) v) : At4 l xs (i + 1) D T (ds ++ [c]) r v := by
  obtain ⟨h1, h2, X, h3, h4⟩ := h
  refine ⟨h1, by rw [h2]; simp, X, by rw [h3]; simp, by rw [List.length_append]; simp; omega⟩
theorem At4.point {l xs D T ds : List Int} {i : Nat} {v w : Int} (h : At4 l xs i D (w :: T) ds [] v) : At4 l xs (i + 1) (D ++ [v]) T [] (dec3 w) w := by
  obtain ⟨h1, h2, X, h3, h4⟩ := h
  refine ⟨by rw [h1]; simp, rfl, X ++ (ds ++ [46]), ?_, by simp; omega⟩
  rw [h3]
  show X ++ (ds ++ ([] ++ 46 :: joinP (w :: T))) = _
  rw [joinP_cons]
  simp

set_option maxHeartbeats 4000000 in
set_option maxRecDepth 100000 in
/-- The four numbers are read. -/
theorem ip4_fields (s : ByteArray) (l : List Int) (m t : Nat) (w00 w : World) (hl : l.length = 4) (hB : IsB l) (hs : bytesOf s = joinP l) (hm : w.heap[m]? = some (.cells (rowV [0, 0, 0, 0]) t (0, 0))) (hm0 : w00.heap.size ≤ m) (hBel : Below w00.heap.size w00 w) :
    Calls Tryd.prog 155 #[.string s, .int .i64 0, .int .i64 s.size, .slice (some ⟨m, 0, none⟩) 4 4] w fun e w' => e = .returned .nilIface ∧ w'.heap[m]? = some (.cells (rowV l) t (0, 0)) ∧ Below w00.heap.size w00 w' := by
  have hlen : (joinP l).length ≤ 100 := by
    match l, hl with
    | [a, b, c, d], _ =>
      have := dec3_len a
      have := dec3_len b
      have := dec3_len c
      have := dec3_len d
      simp [joinP]
      omega
  have hsz : s.size ≤ 100 := by rw [← bytesOf_length, hs]; exact hlen
  have hex : s.extract 0 s.size = s := by
    apply bytesOf_inj
    rw [bytesOf_extract, List.drop_zero, List.take_of_length_le (by rw [bytesOf_length]; exact Nat.le_refl _)]
  obtain ⟨v, T, hvT⟩ : ∃ v T, l = v :: T := by
    cases l with
    | nil => cases hl
    | cons v T => exact ⟨v, T, rfl⟩
  have HS0 := Aside0.mk (At4.start l (bytesOf s) v T hvT hs)
  have HM := Aside0.mk hm
  have HB := Aside0.mk hBel
  have HL := Aside0.mk hl
  have HLB := Aside0.mk hB
  clear hm hBel hs hvT hlen hB hl
  go_enter Tryd.func155, Tryd.ntmps155
  go_wp2
  clear hex
  go_loopw [9, 10, 11, 13] (fun v9 v10 v11 v13 W => ∃ (i : Nat) (D T ds r : List Int) (v : Int), v13 = .int .i64 i ∧ v9 = .int .i64 (vdig ds) ∧ v10 = .int .i64 (D.length : Nat) ∧ v11 = .int .i64 (ds.length : Nat) ∧ Aside0 (At4 l (bytesOf s) i D T ds r v) ∧ Aside0 (W.heap[m]? = some (.cells (rowV (D ++ List.replicate (4 - D.length) 0)) t (0, 0))) ∧ Aside0 (Below w00.heap.size w00 W)) (fun v9 v10 v11 v13 _ => (100 - intOf v13).toNat)
  case atStart => exact ⟨0, [], T, [], dec3 v, v, rfl, rfl, rfl, rfl, HS0, HM, HB⟩
  case round =>
    clear HS0 HM HB
    obtain ⟨i, D, T', ds, r, v', rfl, rfl, rfl, rfl, hA, hM, hB⟩ := hrel
    obtain ⟨h1, h2, X, h3, h4⟩ := hA.out
    have hDl : D.length + 1 + T'.length = 4 := by rw [← HL.out, h1]; simp; omega
    have hv : 0 ≤ v' ∧ v' < 256 := HLB.out v' (by rw [h1]; simp)
    have hbs : (bytesOf s).length = s.size := bytesOf_length s
    rw [h3] at hbs
    simp only [List.length_append] at hbs
    cases r with
    | cons c r =>
      obtain ⟨d1, d2, d3, d4, d5, d6, d7⟩ := dec3_at hv.1 hv.2 h2
      obtain ⟨q1, q2⟩ := char_at (i := i) (show bytesOf s = (X ++ ds) ++ c :: (r ++ tailP T') by rw [h3]; simp) (by rw [List.length_append]; exact h4)
      have hN := Aside0.mk hA.out.digit
      have hVD := Aside0.mk (vdig_snoc ds c)
      have hDL := Aside0.mk (show ((ds ++ [c]).length : Int) = (ds.length : Int) + 1 by simp)
      clear h1 h2 h3 h4 hA hbs
      obtain ⟨va, hva⟩ : ∃ va, va = vdig ds := ⟨_, rfl⟩
      rw [← hva] at d3 d4 d5 d6 ⊢
      obtain ⟨dl, hdl⟩ : ∃ dl, dl = ds.length := ⟨_, rfl⟩
      have hdl1 := Aside0.mk hdl
      rw [← hdl] at d6 d7 ⊢
      have hva1 := Aside0.mk hva
      clear hva hdl
      have c0 : decide ((i : Int) < (s.size : Int)) = true := decide_eq_true (by omega)
      have c1 : decide ((48 : Int) ≤ c) = true := decide_eq_true d1
      have c2 : decide (c ≤ 57) = true := decide_eq_true d2
      have e1 : IntKind.i64.wrap (va * 10) = va * 10 := IntWalk.i64_in _ (by omega)
      have e2 : IntKind.i64.wrap (va * 10 + c) = va * 10 + c := IntWalk.i64_in _ (by omega)
      have e3 : IntKind.i64.wrap (va * 10 + c - 48) = va * 10 + c - 48 := IntWalk.i64_in _ (by omega)
      have e4 : ¬ (255 : Int) < va * 10 + c - 48 := by omega
      have e5 : IntKind.i64.wrap c = c := IntWalk.i64_in _ (by omega)
      by_cases z1 : (dl : Int) = 1
      · have z2 : ¬ va = 0 := fun h => d6 ⟨by omega, h⟩
        go_wp2
        go_roundw
        case rel => exact ⟨i + 1, D, T', ds ++ [c], r, v', by go_num, by rw [hVD.out, ← hva1.out]; congr 1; omega, rfl, by rw [hDL.out, ← hdl1.out]; congr 1; omega, ⟨hN.out⟩, hM, hB⟩
        case measure => simp [intOf]; omega
      · have e6 : IntKind.i64.wrap ((dl : Int) + 1) = (dl : Int) + 1 := IntWalk.i64_in _ (by omega)
        go_wp2
        go_roundw
        case rel => exact ⟨i + 1, D, T', ds ++ [c], r, v', by go_num, by rw [hVD.out, ← hva1.out]; congr 1; omega, rfl, by rw [hDL.out, ← hdl1.out], ⟨hN.out⟩, hM, hB⟩
        case measure => simp [intOf]; omega
    | nil =>
      rw [List.append_nil] at h2
      have hdn : 1 ≤ ds.length := by
        rw [← h2]
        exact List.length_pos_iff.2 (dec3_ne v')
      have hvd : vdig ds = v' := by rw [← h2]; exact dec3_val v' (by omega)
      cases T' with
      | cons u U =>
        obtain ⟨ds', d, hds⟩ : ∃ ds' d, ds = ds' ++ [d] := ⟨ds.dropLast, ds.getLast (by intro h; rw [h] at hdn; simp at hdn), (List.dropLast_concat_getLast _).symm⟩
        have hdd : 48 ≤ d ∧ d ≤ 57 := by
          have := dec3_at hv.1 hv.2 (show dec3 v' = ds' ++ d :: [] by rw [h2, hds])
          exact ⟨this.1, this.2.1⟩
        obtain ⟨q1, q2⟩ := char_at (i := i) (show bytesOf s = (X ++ ds) ++ 46 :: joinP (u :: U) by rw [h3]; simp [tailP]) (by rw [List.length_append]; exact h4)
        obtain ⟨q3, q4⟩ := char_at (i := i - 1) (show bytesOf s = (X ++ ds') ++ d :: 46 :: joinP (u :: U) by rw [h3, hds]; simp [tailP]) (by rw [List.length_append, h4, hds]; simp)
        have hjn := List.length_pos_iff.2 (joinP_ne u U)
        have hend : i + 1 < s.size := by simp [tailP] at hbs; omega
        have hD3 : D.length < 3 := by simp at hDl; omega
        have hi1 : 1 ≤ i := by omega
        have hN := Aside0.mk hA.out.point
        have hst : Aside0 ((rowV (D ++ List.replicate (4 - D.length) 0)) = rowV (D ++ List.replicate (4 - D.length) 0)) := ⟨rfl⟩
        obtain ⟨pz, pc, pf⟩ : ∃ z, wr.cell? ⟨m, D.length, none⟩ = some (.int .u8 z) ∧ wr.frozen? ⟨m, D.length, none⟩ = false := ⟨_, row_cell hM.out (i := D.length) (by simp; omega)⟩
        have hset := Aside0.mk (row_set hM.out (i := D.length) (by simp; omega) v')
        have hrw := Aside0.mk (show (D ++ List.replicate (4 - D.length) 0).set D.length v' = (D ++ [v']) ++ List.replicate (4 - (D ++ [v']).length) 0 by
          rw [List.set_append_right _ _ (Nat.le_refl _), Nat.sub_self, show 4 - D.length = (4 - (D ++ [v']).length) + 1 by simp; omega, List.replicate_succ]
          simp)
        have hbel := Aside0.mk (hB.out.setCell (p := ⟨m, D.length, none⟩) hm0 (.int .u8 v'))
        have hDL := Aside0.mk (show ((D ++ [v']).length : Int) = (D.length : Int) + 1 by simp)
        rw [hvd]
        clear h1 h2 h3 h4 hA hbs hds hvd hjn
        obtain ⟨pn, hpn⟩ : ∃ pn, pn = D.length := ⟨_, rfl⟩
        rw [← hpn] at hD3 pc pf ⊢
        have hpn1 := Aside0.mk hpn
        clear hpn
        have c0 : decide ((i : Int) < (s.size : Int)) = true := decide_eq_true (by omega)
        have f0 : ((i : Int) == 0) = false := beq_eq_false_iff_ne.mpr (by omega)
        have f0c : ¬ i = 0 := by omega
        have f1 : IntKind.i64.wrap ((s.size : Int) - 1) = (s.size : Int) - 1 := IntWalk.i64_in _ (by omega)
        have f2 : ((i : Int) == (s.size : Int) - 1) = false := beq_eq_false_iff_ne.mpr (by omega)
        have f3 : IntKind.i64.wrap ((i : Int) - 1) = ((i - 1 : Nat) : Int) := by rw [IntWalk.i64_in _ (by omega)]; omega
        have f4 : (d == 46) = false := beq_eq_false_iff_ne.mpr (by omega)
        have f5 : ((pn : Int) == 3) = false := beq_eq_false_iff_ne.mpr (by omega)
        have f6 : v' % 256 = v' := by omega
        have f7 : IntKind.i64.wrap ((pn : Int) + 1) = (pn : Int) + 1 := IntWalk.i64_in _ (by omega)
        have f8 : pn < 4 := by omega
        go_wp2
        go_roundw
        case rel => exact ⟨i + 1, D ++ [v'], U, [], dec3 u, u, by go_num, rfl, by rw [hDL.out, ← hpn1.out], rfl, hN, ⟨by rw [hpn1.out, ← hrw.out]; exact hset.out⟩, ⟨by rw [hpn1.out]; exact hbel.out⟩⟩
        case measure => simp [intOf]; omega
      | nil =>
        have hD3 : D.length = 3 := by simp at hDl; omega
        have hie : i = s.size := by simp [tailP] at hbs; omega
        have hset := row_set hM.out (i := 3) (by simp; omega) v'
        have hrw : (D ++ List.replicate (4 - D.length) 0).set 3 v' = l := by
          rw [h1, ← hD3, List.set_append_right _ _ (Nat.le_refl _), Nat.sub_self, show 4 - D.length = 1 by omega]
          rfl
        rw [hrw] at hset
        have hset1 := Aside0.mk hset
        obtain ⟨pz, pc, pf⟩ : ∃ z, wr.cell? ⟨m, 3, none⟩ = some (.int .u8 z) ∧ wr.frozen? ⟨m, 3, none⟩ = false := ⟨_, row_cell hM.out (i := 3) (by simp; omega)⟩
        have hbel := Aside0.mk (hB.out.setCell (p := ⟨m, 3, none⟩) hm0 (.int .u8 v'))
        rw [hvd, hD3]
        subst hie
        clear h1 h2 h3 h4 hA hbs hvd hset hrw hD3 hdn hDl
        have f6 : v' % 256 = v' := by omega
        have c0 : decide ((s.size : Int) < (s.size : Int)) = false := decide_eq_false (by omega)
        go_wp2
        go_ret
        exact ⟨rfl, hset1.out, hbel.out⟩

end Go.Proofs.YtiilihafcdmccaaDoor.P
/- A region that draws its order: first operations that are quiet (they read, or call what reads and may draw), then, in one forced order, what may write: one walk in the order of the text serves every order. Beside the library's 'wp_region_still_tail' (no draws in the calls) and 'wp_region_quiet' (no writing end). -/
namespace Go.Proofs.YtiilihafcdmccaaDoor.P
open Go
section
variable {P : Program} {ops : Array Oper} {md : Region.Mode} {C : World → Prop}
/-- The head's operations, in whatever order they come up; 'L': what is asked when f of them have come up. -/
def headQ (P : Program) (md : Region.Mode) (ops : Array Oper) (C : World → Prop) (n : Nat) (L : Array Bool → Act → Prop) : Nat → Array Bool → Act → Prop
  | 0, listed, a => L listed a
  | f + 1, listed, a => Region.ready md ops listed ≠ [] ∧ ∀ i, i ∈ Region.ready md ops listed → i < n ∧ qOp P ops C i (headQ P md ops C n L f (listed.setIfInBounds i true)) a
theorem any_of_headQ {n g : Nat} {L : Array Bool → Act → Prop} {Q : Exit → Act → World → Prop} (hL : ∀ listed a w, C w → L listed a → wpAny P md ops Q g listed a w) (f : Nat) :
    ∀ (listed : Array Bool) (a : Act) (w : World), C w → headQ P md ops C n L f listed a → wpAny P md ops Q (f + g) listed a w := by
  induction f with
  | zero => intro listed a w hw h; rw [Nat.zero_add]; exact hL _ _ _ hw h
  | succ f ih =>
    intro listed a w hw h
    rw [Nat.add_right_comm f 1 g]
    exact ⟨fun h0 => absurd h0 h.1, fun i hi => wpOp_of_qOp hw (fun a' w' hw' h' => ih _ a' w' hw' h') (h.2 i hi).2⟩
/-- Whichever of the head's operations comes up, the one that is quiet now may be taken first. -/
theorem headQ_first {n i : Nat} {oi : Oper} {v : Value} {L : Array Bool → Act → Prop} (hi : ops[i]? = some oi) (hsel : ∀ (j : Nat) (o : Oper) cs b, ops[j]? = some o → o.op ≠ .select cs b)
    (hs : Region.sinkB md ops n = true) (hc : Region.chainB md ops n = true) (hn : n < ops.size) (hin : i < n) (hdone : ∀ listed a, L listed a → ∀ j ∈ Region.ready md ops listed, n ≤ j) (f : Nat) :
    ∀ (listed : Array Bool) (a : Act), HeadInv md ops n listed →
      (∀ j oj, ops[j]? = some oj → j ≠ i → listed.getD j true = false → (∀ e ∈ oj.after, Region.binds md e = true → e.on ≠ i) → oi.apart ops oj = true) →
      i ∈ Region.ready md ops listed → YieldsIn P ops C oi v a → headQ P md ops C n L f (listed.setIfInBounds i true) (a.put oi.dst v) → headQ P md ops C n L (f + 1) listed a := by
  induction f with
  | zero =>
    intro listed a inv _ hr hy H
    have hun := (mem_ready.1 hr).1
    refine ⟨fun h => by simp [h] at hr, fun j hj => ⟨Nat.lt_of_not_le fun h => tail_waits hs hc hn inv _ i rfl hin hun j h hj, ?_⟩⟩
    rcases Nat.decEq j i with hji | hji
    · exact absurd (hdone _ _ H j (ready_mono hj hji)) (Nat.not_le.2 (Nat.lt_of_not_le fun h => tail_waits hs hc hn inv _ i rfl hin hun j h hj))
    · subst hji
      exact hy.qOp hi H
  | succ f ih =>
    intro listed a inv hfree hr hy H
    have hun := (mem_ready.1 hr).1
    refine ⟨fun h => by simp [h] at hr, fun j hj => ?_⟩
    have hjn : j < n := Nat.lt_of_not_le fun h => tail_waits hs hc hn inv _ i rfl hin hun j h hj
    refine ⟨hjn, ?_⟩
    rcases Nat.decEq j i with hji | hji
    · obtain ⟨hjun, oj, hoj, hall⟩ := mem_ready.1 hj
      have hnot : ∀ e ∈ oj.after, Region.binds md e = true → e.on ≠ i := by
        intro e he hb heq
        have h1 := hall e he hb
        rw [heq, getD_both hun] at h1
        cases h1
      have hput := qOp_put hoj (hfree j oj hoj hji hjun hnot) (fun cs b => hsel i oi cs b hi) (fun cs b => hsel j oj cs b hoj) hy (H.2 j (ready_mono hj hji)).2
      refine qOp_mono (fun a' h3 => ih (listed.setIfInBounds j true) a' (inv.set hj hjn) (fun k ok hk hki hkun hno => hfree k ok hk hki ?_ hno) (ready_mono hr (Ne.symm hji)) h3.1 (by rw [Array.setIfInBounds_comm _ _ hji]; exact h3.2)) hput
      rcases Nat.decEq j k with hjk | hjk
      · rwa [getD_set_ne true hjk] at hkun
      · subst hjk
        exact hjun
    · subst hji
      exact hy.qOp hi H
theorem headQ_lex {n g : Nat} {R : Act → Prop} (hsel : Region.noSelect ops = true) (hs : Region.sinkB md ops n = true) (hc : Region.chainB md ops n = true) (hn : n < ops.size) (l : List Oper) :
    ∀ (k : Nat) (listed : Array Bool) (a : Act), (∀ j, j < l.length → l[j]? = ops[k + j]?) → k + l.length = n → HeadInv md ops n listed → Region.lexHead md ops g l.length k listed = true → wpQuiet P ops C R l a →
      headQ P md ops C n (fun listed' a' => Region.seqB md ops g n listed' = true ∧ R a') l.length listed a := by
  induction l with
  | nil =>
    intro k listed a _ hk _ hB h
    obtain rfl : k = n := by simpa using hk
    exact ⟨by simpa [Region.lexHead] using hB, h⟩
  | cons o l ih =>
    intro k listed a hl hk inv hB h
    have h0 : ops[k]? = some o := by simpa using (hl 0 (by simp)).symm
    rw [List.length_cons] at hk
    simp only [List.length_cons, Region.lexHead, Bool.and_eq_true] at hB
    have hr : k ∈ Region.ready md ops listed := by simpa using hB.1.1
    have hq : qOp P ops C k (wpQuiet P ops C R l) a := by unfold qOp; simp only [h0]; exact h
    obtain ⟨v, hy, hK⟩ := yieldsIn_of_qOp h0 hq
    refine headQ_first h0 (Region.noSelect_spec hsel) hs hc hn (by omega) (fun listed' a' hL => seqB_ready hL.1) l.length listed a inv (Region.free_spec h0 hB.1.2) hr hy (ih (k + 1) _ _ (fun j hj => ?_) (by omega) (inv.set hr (by omega)) hB.2 hK)
    have := hl (j + 1) (by simp; omega)
    simpa [Nat.add_assoc, Nat.add_comm 1 j] using this
theorem wp_region_quiet_tail {id : Nat} {Q : Exit → Act → World → Prop} {a : Act} {w : World} {l : List Oper} (n : Nat) (hm : P.follows .mixedOrders = true) (hB : Region.lexTailB .any l.toArray n = true)
    (h : wpQuiet P l.toArray (fun w' => ∃ m, w' = w.drewN m) (fun a' => ∀ w', (∃ m, w' = w.drewN m) → wpList P l.toArray Q (l.drop n) a' w') (l.take n) a) : (Code.region id l.toArray true).wp P Q a w := by
  simp only [Region.lexTailB, Bool.and_eq_true, decide_eq_true_eq] at hB
  obtain ⟨⟨⟨⟨hsel, hn⟩, hs⟩, hc⟩, hlex⟩ := hB
  have hn' : n < l.length := by simpa using hn
  have htl : (l.take n).length = n := by rw [List.length_take]; omega
  have hdl : (l.drop n).length = l.toArray.size - n := by simp
  have H := headQ_lex (C := fun w' => ∃ m, w' = w.drewN m) (md := .any) (g := l.toArray.size - n) hsel hs hc hn (l.take n) 0 (Array.replicate l.toArray.size false) a
    (fun j hj => by rw [htl] at hj; simp [hj]) (by simpa using htl) ⟨by simp, fun j oj _ hl => (by rw [getD_replicate_false] at hl; cases hl), fun t _ ht => getD_in (by simpa using ht) (getD_replicate_false _ _)⟩ (by rw [htl]; exact hlex) h
  refine wp_region_any hm ?_
  have hall := any_of_headQ (Q := Q) (g := l.toArray.size - n) (fun listed a' w' hw' hL => by
    have h1 := wpAny_of_seq (md := .any) (Q' := Q) (l.drop n) n listed a' w' (fun j => by simp [List.getElem?_drop]) (by rw [hdl]; exact hL.1) (hL.2 w' hw')
    rwa [hdl] at h1) _ _ _ { w with drawn := w.drawn + 1 } ⟨1, rfl⟩ H
  rw [htl, show n + (l.toArray.size - n) = l.toArray.size by omega] at hall
  exact hall
end
end Go.Proofs.YtiilihafcdmccaaDoor.P
/- netip.Addr: made of four bytes, its zone, its sixteen bytes. -/
namespace Go.Proofs.YtiilihafcdmccaaDoor.P
open Go.RowKit Go.Proofs.YtiilihafcdmccaaDoorW.PrintWords Go.Proofs.YtiilihafcdmccaaDoorW.PrintLast Go.Proofs.YtiilihafcdmccaaDoorW.PrintMore
set_option linter.unusedVariables false
set_option linter.unusedSimpArgs false

/-- What netip's variables z0, z4, z6noz hold. -/
structure ZZ (p4 p6 : Addr) (w : World) : Prop where
  z0 : w.cell? ⟨6, 0, none⟩ = some (.pointer none)
  z4 : w.cell? ⟨13, 0, none⟩ = some (.pointer (some p4))
  z6 : w.cell? ⟨14, 0, none⟩ = some (.pointer (some p6))
  s4 : w.cell? (p4.add 1) = some (.string ByteArray.empty)
  s6 : w.cell? (p6.add 1) = some (.string ByteArray.empty)
  b4 : ∃ b, w.cell? p4 = some (.bool b)
  b6 : ∃ b, w.cell? p6 = some (.bool b)
  h4 : ∃ c t, w.heap[p4.block]? = some (.cells c t (0, 0))
  h6 : ∃ c t, w.heap[p6.block]? = some (.cells c t (0, 0))
def adr (hi lo : Int) (p : Addr) : Value := .agg #[.int .u64 hi, .int .u64 lo, .pointer (some p)]
def lo4 (a b c d : Int) : Int := 281470681743360 + a * 16777216 + b * 65536 + c * 256 + d
theorem lo4_eq {a b c d : Int} (ha : 0 ≤ a ∧ a < 256) (hb : 0 ≤ b ∧ b < 256) (hc : 0 ≤ c ∧ c < 256) (hd : 0 ≤ d ∧ d < 256) :
    Go.bits .or .u64 (Go.bits .or .u64 (Go.bits .or .u64 (Go.bits .or .u64 281470681743360 (IntKind.u64.wrap (IntKind.u64.wrap a * 16777216))) (IntKind.u64.wrap (IntKind.u64.wrap b * 65536))) (IntKind.u64.wrap (IntKind.u64.wrap c * 256))) (IntKind.u64.wrap d) = lo4 a b c d := by
  have hw : ∀ n : Int, 0 ≤ n → n < 2 ^ 63 → IntKind.u64.wrap n = n := fun n a b => IntWalk.u64_in _ (by omega)
  have wa : IntKind.u64.wrap a = a := IntWalk.u64_in _ (by omega)
  have wb : IntKind.u64.wrap b = b := IntWalk.u64_in _ (by omega)
  have wc : IntKind.u64.wrap c = c := IntWalk.u64_in _ (by omega)
  have wd : IntKind.u64.wrap d = d := IntWalk.u64_in _ (by omega)
  rw [wa, wb, wc, wd]
  have wa2 : IntKind.u64.wrap (a * 16777216) = a * 16777216 := IntWalk.u64_in _ (by omega)
  have wb2 : IntKind.u64.wrap (b * 65536) = b * 65536 := IntWalk.u64_in _ (by omega)
  have wc2 : IntKind.u64.wrap (c * 256) = c * 256 := IntWalk.u64_in _ (by omega)
  rw [wa2, wb2, wc2]
  have j1 : Go.bits .or .u64 281470681743360 (a * 16777216) = 281470681743360 + a * 16777216 := bits_join .u64 63 (by decide) hw 32 _ _ (by omega) (by omega) (by omega) (by omega) (by omega) (by omega)
  rw [j1]
  have j2 : Go.bits .or .u64 (281470681743360 + a * 16777216) (b * 65536) = 281470681743360 + a * 16777216 + b * 65536 := bits_join .u64 63 (by decide) hw 24 _ _ (by omega) (by omega) (by omega) (by omega) (by omega) (by omega)
  rw [j2]
  have j3 : Go.bits .or .u64 (281470681743360 + a * 16777216 + b * 65536) (c * 256) = 281470681743360 + a * 16777216 + b * 65536 + c * 256 := bits_join .u64 63 (by decide) hw 16 _ _ (by omega) (by omega) (by omega) (by omega) (by omega) (by omega)
  rw [j3]
  exact bits_join .u64 63 (by decide) hw 8 _ _ (by omega) (by omega) (by omega) (by omega) (by omega) (by omega)
set_option maxRecDepth 100000 in
set_option maxHeartbeats 1000000 in
theorem adr4 {w : World} (p4 p6 : Addr) (a b c d : Int) (hZ : ZZ p4 p6 w) (ha : 0 ≤ a ∧ a < 256) (hb : 0 ≤ b ∧ b < 256) (hc : 0 ≤ c ∧ c < 256) (hd : 0 ≤ d ∧ d < 256) : Calls Tryd.prog 156 #[.agg #[.int .u8 a, .int .u8 b, .int .u8 c, .int .u8 d]] w fun e w' => e = .returned (adr 0 (lo4 a b c d) p4) ∧ Below w.heap.size w w' := by
  have z4 := hZ.z4
  have hl4 : 13 < w.heap.size := World.block_lt_of_cell? w _ z4
  have hlo := Aside0.mk (lo4_eq ha hb hc hd)
  clear hZ ha hb hc hd
  go_enter Tryd.func156, Tryd.ntmps156
  go_wp2
  rw [hlo.out]
  refine bodyPost_ret (results_cell_row rfl _ _ (w.heap.size + 1) 152 _ (0, 0) _ rfl (heap_alloc2_new w _ _) Tryd.underlying152 rfl (by kernel_rfl)) rfl ?_
  exact ⟨rfl, below_alloc (below_alloc (Below.refl _ _) _) _⟩
theorem heap_alloc3_new (w : World) (A B C : Obj) : (((w.alloc A).alloc B).alloc C).heap[w.heap.size + 1 + 1]? = some C := by
  have h := heap_alloc_new ((w.alloc A).alloc B) C
  have e : ((w.alloc A).alloc B).heap.size = w.heap.size + 1 + 1 := by
    show ((w.heap.push A).push B).size = _
    simp
  rwa [e] at h
theorem spot_none {w : World} {p : Addr} {v : Value} (h : w.cell? p = some v) : p = ⟨p.block, p.off, none⟩ := by
  obtain ⟨b, o, sp⟩ := p
  cases sp with
  | none => rfl
  | some x =>
    unfold World.cell? at h
    simp at h
    split at h <;> cases h
set_option maxRecDepth 100000 in
set_option maxHeartbeats 1000000 in
theorem zone_of {w : World} (p4 p6 p : Addr) (hi lo : Int) (hZ : ZZ p4 p6 w) (hp : p = p4 ∨ p = p6) : Calls Tryd.prog 126 #[adr hi lo p] w fun e w' => e = .returned (.string ByteArray.empty) ∧ Below w.heap.size w w' := by
  unfold adr
  have z0 := hZ.z0
  have s1 : w.cell? (p.add 1) = some (.string ByteArray.empty) := by rcases hp with rfl | rfl; exact hZ.s4; exact hZ.s6
  obtain ⟨bv, b1⟩ : ∃ b, w.cell? p = some (.bool b) := by rcases hp with rfl | rfl; exact hZ.b4; exact hZ.b6
  have hl0 : 6 < w.heap.size := World.block_lt_of_cell? w _ z0
  have hlp : p.block < w.heap.size := World.block_lt_of_cell? w _ b1
  obtain ⟨pb, po, rfl⟩ : ∃ pb po, p = ⟨pb, po, none⟩ := ⟨_, _, spot_none b1⟩
  have s2 : w.cell? ⟨pb, po + 1, none⟩ = some (.string ByteArray.empty) := by
    rw [← s1]
    unfold Addr.add
    rfl
  clear s1
  simp only [] at hlp
  have hlp1 : pb < w.heap.size + 1 := by omega
  have hlp2 : pb < w.heap.size + 1 + 1 := by omega
  have heq : ∀ W : World, (Op.equalIn 9999 148 (.pointer (some ⟨pb, po, none⟩)) (.pointer none)).run Tryd.prog W = .ok false W := fun W => by kernel_rfl
  have hfd : ∀ W : World, (Instr.field 168 (.agg #[.bool bv, .string ByteArray.empty]) 1).run Tryd.prog W = .ok (.string ByteArray.empty) W := fun W => by kernel_rfl
  clear hZ hp
  go_enter Tryd.func126, Tryd.ntmps126
  go_wp2
  refine bodyPost_ret (results_cell_row rfl _ _ (w.heap.size + 1 + 1) 168 _ (0, 0) _ rfl (heap_alloc3_new w _ _ _) Tryd.underlying168 rfl (by kernel_rfl)) rfl ?_
  dsimp only []
  go_wp2
  go_ret
  exact ⟨rfl, below_alloc (below_alloc (below_alloc (Below.refl _ _) _) _) _⟩

/-! ### sixteen bytes -/
def be8 (x : Int) : List Int := [x / 72057594037927936 % 256, x / 281474976710656 % 256, x / 1099511627776 % 256, x / 4294967296 % 256, x / 16777216 % 256, x / 65536 % 256, x / 256 % 256, x % 256]
theorem row_at' {wr : World} {m e : Nat} {xs : List Int} (h : wr.heap[m]? = some (.cells (rowV xs) e (0, 0))) (i : Nat) (hi : i < xs.length) : ∃ z, wr.cell? ⟨m, i, none⟩ = some (.int .u8 z) ∧ wr.frozen? ⟨m, i, none⟩ = false := ⟨_, row_cell h hi⟩
theorem put8w {w w00 : World} {m e : Nat} (A B C : List Int) (o : Nat) (hA : A.length = o) (hBl : B.length = 8) (v0 v1 v2 v3 v4 v5 v6 v7 : Int) (hm : w.heap[m]? = some (.cells (rowV (A ++ (B ++ C))) e (0, 0))) (hm0 : w00.heap.size ≤ m) (hb : Below w00.heap.size w00 w) :
    ((((((((w.setCell ⟨m, o, none⟩ (.int .u8 v0)).setCell ⟨m, o + 1, none⟩ (.int .u8 v1)).setCell ⟨m, o + 2, none⟩ (.int .u8 v2)).setCell ⟨m, o + 3, none⟩ (.int .u8 v3)).setCell ⟨m, o + 4, none⟩ (.int .u8 v4)).setCell ⟨m, o + 5, none⟩ (.int .u8 v5)).setCell ⟨m, o + 6, none⟩ (.int .u8 v6)).setCell ⟨m, o + 7, none⟩ (.int .u8 v7)).heap[m]? = some (.cells (rowV (A ++ ([v0, v1, v2, v3, v4, v5, v6, v7] ++ C))) e (0, 0)) ∧ Below w00.heap.size w00 ((((((((w.setCell ⟨m, o, none⟩ (.int .u8 v0)).setCell ⟨m, o + 1, none⟩ (.int .u8 v1)).setCell ⟨m, o + 2, none⟩ (.int .u8 v2)).setCell ⟨m, o + 3, none⟩ (.int .u8 v3)).setCell ⟨m, o + 4, none⟩ (.int .u8 v4)).setCell ⟨m, o + 5, none⟩ (.int .u8 v5)).setCell ⟨m, o + 6, none⟩ (.int .u8 v6)).setCell ⟨m, o + 7, none⟩ (.int .u8 v7)) := by
  have hl : (A ++ (B ++ C)).length = o + 8 + C.length := by simp; omega
  refine ⟨?_, ?_⟩
  · have h0 := row_set hm (i := o) (by omega) v0
    have h1 := row_set h0 (i := o + 1) (by simp only [List.length_set]; omega) v1
    have h2 := row_set h1 (i := o + 2) (by simp only [List.length_set]; omega) v2
    have h3 := row_set h2 (i := o + 3) (by simp only [List.length_set]; omega) v3
    have h4 := row_set h3 (i := o + 4) (by simp only [List.length_set]; omega) v4
    have h5 := row_set h4 (i := o + 5) (by simp only [List.length_set]; omega) v5
    have h6 := row_set h5 (i := o + 6) (by simp only [List.length_set]; omega) v6
    have h7 := row_set h6 (i := o + 7) (by simp only [List.length_set]; omega) v7
    have e8 : ((((((((A ++ (B ++ C)).set o v0).set (o + 1) v1).set (o + 2) v2).set (o + 3) v3).set (o + 4) v4).set (o + 5) v5).set (o + 6) v6).set (o + 7) v7 = A ++ ([v0, v1, v2, v3, v4, v5, v6, v7] ++ C) := by
      match B, hBl with
      | [b0, b1, b2, b3, b4, b5, b6, b7], _ =>
        subst hA
        simp [List.set_append_right]
    rw [e8] at h7
    exact h7
  · have K : ∀ (W : World) (i : Nat) (v : Value), Below w00.heap.size w00 W → Below w00.heap.size w00 (W.setCell ⟨m, i, none⟩ v) := fun W i v h => h.setCell (p := ⟨m, i, none⟩) hm0 v
    exact K _ _ _ (K _ _ _ (K _ _ _ (K _ _ _ (K _ _ _ (K _ _ _ (K _ _ _ (K _ _ _ hb)))))))
set_option maxRecDepth 100000 in
set_option maxHeartbeats 2000000 in
/-- PutUint64 at the place off of a row. -/
theorem put64 (x : Int) (m o n cp e : Nat) (A B C : List Int) (w00 w : World) (hA : A.length = o) (hBl : B.length = 8) (hn : 8 ≤ n) (hcp : n ≤ cp) (ho : o = 0 ∨ o = 8) (hm : w.heap[m]? = some (.cells (rowV (A ++ (B ++ C))) e (0, 0))) (hm0 : w00.heap.size ≤ m) (hb : Below w00.heap.size w00 w) :
    Calls Tryd.prog 144 #[.slice (some ⟨m, o, none⟩) n cp, .int .u64 x] w fun e' w' => e' = .returned (.tuple #[]) ∧ w'.heap[m]? = some (.cells (rowV (A ++ (be8 x ++ C))) e (0, 0)) ∧ Below w00.heap.size w00 w' := by
  have hn8 : 8 ≤ n := by omega
  have hn8i : (8 : Int) ≤ (n : Int) := by omega
  have hl : (A ++ (B ++ C)).length = o + 8 + C.length := by simp; omega
  obtain ⟨z0, k0, f0⟩ := row_at' hm o (by omega)
  obtain ⟨z1, k1, f1⟩ := row_at' hm (o + 1) (by omega)
  obtain ⟨z2, k2, f2⟩ := row_at' hm (o + 2) (by omega)
  obtain ⟨z3, k3, f3⟩ := row_at' hm (o + 3) (by omega)
  obtain ⟨z4, k4, f4⟩ := row_at' hm (o + 4) (by omega)
  obtain ⟨z5, k5, f5⟩ := row_at' hm (o + 5) (by omega)
  obtain ⟨z6, k6, f6⟩ := row_at' hm (o + 6) (by omega)
  obtain ⟨z7, k7, f7⟩ := row_at' hm (o + 7) (by omega)
  have HP := Aside0.mk (put8w A B C o hA hBl (x / 72057594037927936 % 256) (x / 281474976710656 % 256) (x / 1099511627776 % 256) (x / 4294967296 % 256) (x / 16777216 % 256) (x / 65536 % 256) (x / 256 % 256) (x % 256) hm hm0 hb)
  clear hm hb hl hA hBl
  rcases ho with rfl | rfl
  · go_enter Tryd.func144, Tryd.ntmps144
    go_wp2
    go_end0
    exact ⟨rfl, HP.out.1, HP.out.2⟩
  · go_enter Tryd.func144, Tryd.ntmps144
    go_wp2
    go_end0
    exact ⟨rfl, HP.out.1, HP.out.2⟩
set_option maxRecDepth 100000 in
set_option maxHeartbeats 2000000 in
/-- The sixteen bytes of an address. -/
theorem as16 (p : Addr) (hi lo : Int) (w : World) : Calls Tryd.prog 127 #[adr hi lo p] w fun e w' => e = .returned (.agg (rowV (be8 hi ++ be8 lo))) ∧ Below w.heap.size w w' := by
  unfold adr
  go_enter Tryd.func127, Tryd.ntmps127
  go_wp2
  refine wp_region_quiet_tail 4 (by kernel_rfl) (by kernel_rfl) ?_
  simp only [List.take_succ_cons, List.take_zero, List.drop_succ_cons, List.drop_zero]
  repeat (go_big_quiet_step (fail))
  refine wpQuiet_nil ?_
  intro w2 hw2
  obtain ⟨nq, rfl⟩ := hw2
  go_wp2_with (first | (go_at_call 144; fail))
  obtain ⟨w1, hw1⟩ : ∃ w1, w1 = w.alloc (Obj.cells #[Value.int IntKind.u64 hi, Value.int IntKind.u64 lo, Value.pointer (some p)] 152) := ⟨_, rfl⟩
  have hs1 : w1.heap.size = w.heap.size + 1 := by rw [hw1]; exact World.size_alloc _ _
  have hb1 : Below w.heap.size w w1 := by rw [hw1]; exact below_alloc (Below.refl _ _) _
  have hc1 : w1.cell? ⟨w.heap.size, 1, none⟩ = some (.int .u64 lo) := by rw [hw1]; simp
  have hd : ∀ B : Obj, (w1.alloc B).heap[w.heap.size + 1]? = some B := fun B => by rw [← hs1]; exact heap_alloc_new w1 B
  rw [← hw1]
  clear hw1
  refine (put64 hi (w.heap.size + 1) 0 8 16 155 [] (List.replicate 8 0) (List.replicate 8 0) w1 ((w1.alloc _).drewN nq) rfl rfl (by omega) (by omega) (.inl rfl) (hd _) (by omega) (pw_below_drewN (below_alloc (Below.refl _ _) _) _)).mono ?_
  rintro e w3 ⟨rfl, hh, hb⟩
  dsimp only []
  have k1 : w3.cell? ⟨w.heap.size, 1, none⟩ = some (.int .u64 lo) := (hb.cell (p := ⟨w.heap.size, 1, none⟩) (by show w.heap.size < w1.heap.size; omega)).trans hc1
  have HH := Aside0.mk hh
  have HB := Aside0.mk hb
  clear hh hb hd hc1
  go_wp2
  refine wp_region_quiet_tail 4 (by kernel_rfl) (by kernel_rfl) ?_
  simp only [List.take_succ_cons, List.take_zero, List.drop_succ_cons, List.drop_zero]
  repeat (go_big_quiet_step (fail))
  refine wpQuiet_nil ?_
  intro w2 hw2
  obtain ⟨nq2, rfl⟩ := hw2
  go_wp2_with (first | (go_at_call 144; fail))
  refine (put64 lo (w.heap.size + 1) 8 8 8 155 (be8 hi) (List.replicate 8 0) [] w1 _ rfl rfl (by omega) (by omega) (.inr rfl) (by simpa using HH.out) (by omega) (pw_below_drewN HB.out _)).mono ?_
  rintro e w4 ⟨rfl, hh, hb⟩
  dsimp only []
  rw [List.append_nil] at hh
  obtain ⟨R, hR⟩ : ∃ R, R = be8 hi ++ be8 lo := ⟨_, rfl⟩
  have hRl : R.length = 16 := by rw [hR]; rfl
  rw [← hR] at hh
  have HRE := Aside0.mk hR
  have HH2 := Aside0.mk hh
  have HB2 := Aside0.mk (hb1.trans (below_mono hb (by omega)))
  clear hh hb HH HB
  have hsz16 : (rowV R).size = 16 := by rw [rowV_length, hRl]
  have HI : (Tryd.prog.info? 155).map (·.size) = some (rowV R).size := by rw [hsz16]; kernel_rfl
  have HO : (rowV R).all (·.oneCell') = true := by
    rw [Array.all_eq_true_iff_forall_mem]
    intro v hv
    simp only [rowV, List.mem_toArray, List.mem_map] at hv
    obtain ⟨x, _, rfl⟩ := hv
    rfl
  clear hsz16 hRl hR
  repeat (first
    | (refine wp_load_row 155 (.tmp 2) rfl (w.heap.size + 1) rfl 155 (rowV R) (0, 0) _ HH2.out Tryd.underlying155 rfl HI ?_; simp only [Act.put, List.setIfInBounds_toArray, List.set_cons_succ, List.set_cons_zero])
    | (refine wp_store_row 155 (.tmp 2) (.tmp 13) rfl (w.heap.size + 1) (rowV R) rfl rfl 155 (rowV R) HH2.out HI rfl HO ?_; simp only [Act.put])
    | go_step)
  refine bodyPost_ret (results_cell_row rfl _ _ (w.heap.size + 1) 155 (rowV R) (0, 0) _ rfl (setRow_heap _ _ _ _ 155 _ HH2.out) Tryd.underlying155 rfl HI) rfl ?_
  exact ⟨by rw [HRE.out], HB2.out.trans (below_mono (below_setRow' _ _ _) (by omega))⟩

end Go.Proofs.YtiilihafcdmccaaDoor.P
/- netip.parseIPv4, ParseAddr at four numbers with points; dns.parseIP. -/
namespace Go.Proofs.YtiilihafcdmccaaDoor.P
open Go.RowKit Go.Proofs.YtiilihafcdmccaaDoorW.PrintWords Go.Proofs.YtiilihafcdmccaaDoorW.PrintLast Go.Proofs.YtiilihafcdmccaaDoorW.PrintMore
set_option linter.unusedVariables false
set_option linter.unusedSimpArgs false

theorem results_cell_row_tmp {P : Program} {fn : Func} {p u : Tmp} {ty : TypeId} (h : fn.results = #[.cell p ty, .tmp u]) (tmps : Array Value) (w : World) (g : Nat) (t : TypeId) (cs : Array Value) (fr : Nat × Nat) (d : TypeDesc)
    (hp : tmps.getD p undef = .pointer (some ⟨g, 0, none⟩)) (hg : w.heap[g]? = some (.cells cs t fr))
    (hu : P.underlying ty = some d) (hd : (match d with | .struct _ | .array _ _ => true | _ => false) = true) (hi : (P.info? ty).map (·.size) = some cs.size) :
    (results fn tmps).run P w = .ok (.tuple #[.agg cs, tmps.getD u undef]) w := by
  have hp' : tmps[p]?.getD undef = .pointer (some ⟨g, 0, none⟩) := by simpa using hp
  rw [results_cell_tmp h]
  simp [hp', asAddr, run_loadVar_row w g t ty cs fr d hg hu hd hi]
def adrV (hi lo : Int) (p : Option Addr) : Array Value := #[.int .u64 hi, .int .u64 lo, .pointer p]
theorem adrV_cells {W : World} {g e : Nat} {hi lo : Int} {p : Option Addr} (h : W.heap[g]? = some (.cells (adrV hi lo p) e (0, 0))) :
    (W.cell? ⟨g, 0, none⟩ = some (.int .u64 hi) ∧ W.frozen? ⟨g, 0, none⟩ = false) ∧ (W.cell? ⟨g, 1, none⟩ = some (.int .u64 lo) ∧ W.frozen? ⟨g, 1, none⟩ = false) ∧ (W.cell? ⟨g, 2, none⟩ = some (.pointer p) ∧ W.frozen? ⟨g, 2, none⟩ = false) := by
  refine ⟨⟨?_, ?_⟩, ⟨?_, ?_⟩, ⟨?_, ?_⟩⟩ <;> simp [World.cell?, World.frozen?, h, adrV]
theorem adrV_set3 {W : World} {g e : Nat} {hi lo : Int} {p : Option Addr} (h : W.heap[g]? = some (.cells (adrV hi lo p) e (0, 0))) (hi' lo' : Int) (p' : Option Addr) :
    (((W.setCell ⟨g, 0, none⟩ (.int .u64 hi')).setCell ⟨g, 1, none⟩ (.int .u64 lo')).setCell ⟨g, 2, none⟩ (.pointer p')).heap[g]? = some (.cells (adrV hi' lo' p') e (0, 0)) := by
  have h1 := setCell_eq_setRow W g 0 (adrV hi lo p) e (0, 0) (.int .u64 hi') h
  have g1 := setRow_heap W g _ ((adrV hi lo p).setIfInBounds 0 (.int .u64 hi')) e _ h
  rw [← h1] at g1
  have h2 := setCell_eq_setRow _ g 1 _ e (0, 0) (.int .u64 lo') g1
  have g2 := setRow_heap _ g _ (((adrV hi lo p).setIfInBounds 0 (.int .u64 hi')).setIfInBounds 1 (.int .u64 lo')) e _ g1
  rw [← h2] at g2
  have h3 := setCell_eq_setRow _ g 2 _ e (0, 0) (.pointer p') g2
  have g3 := setRow_heap _ g _ ((((adrV hi lo p).setIfInBounds 0 (.int .u64 hi')).setIfInBounds 1 (.int .u64 lo')).setIfInBounds 2 (.pointer p')) e _ g2
  rw [← h3] at g3
  rw [g3]
  rfl
theorem set3_below {W w00 : World} {g : Nat} (a b c : Value) (hg : w00.heap.size ≤ g) (h : Below w00.heap.size w00 W) : Below w00.heap.size w00 (((W.setCell ⟨g, 0, none⟩ a).setCell ⟨g, 1, none⟩ b).setCell ⟨g, 2, none⟩ c) :=
  ((h.setCell (p := ⟨g, 0, none⟩) hg a).setCell (p := ⟨g, 1, none⟩) hg b).setCell (p := ⟨g, 2, none⟩) hg c
theorem ZZ.below {p4 p6 : Addr} {w w' : World} (h : ZZ p4 p6 w) (hb : Below w.heap.size w w') : ZZ p4 p6 w' := by
  have K : ∀ {a : Addr} {v : Value}, w.cell? a = some v → w'.cell? a = some v := fun {a v} h => (hb.cell (World.block_lt_of_cell? w _ h)).trans h
  obtain ⟨b4, h4⟩ := h.b4
  obtain ⟨b6, h6⟩ := h.b6
  obtain ⟨c4, t4, g4⟩ := h.h4
  obtain ⟨c6, t6, g6⟩ := h.h6
  exact ⟨K h.z0, K h.z4, K h.z6, K h.s4, K h.s6, ⟨b4, K h4⟩, ⟨b6, K h6⟩, ⟨c4, t4, (hb.block _ (heap_lt g4)).trans g4⟩, ⟨c6, t6, (hb.block _ (heap_lt g6)).trans g6⟩⟩
set_option maxRecDepth 100000 in
set_option maxHeartbeats 2000000 in
theorem pip4 (s : ByteArray) (a b c d : Int) (p4 p6 : Addr) (w : World) (hB : IsB [a, b, c, d]) (hs : bytesOf s = joinP [a, b, c, d]) (hZ : ZZ p4 p6 w) :
    Calls Tryd.prog 141 #[.string s] w fun e w' => e = .returned (.tuple #[adr 0 (lo4 a b c d) p4, .nilIface]) ∧ Below w.heap.size w w' := by
  have HZ := Aside0.mk hZ
  have HS := Aside0.mk hs
  have HB := Aside0.mk hB
  clear hZ hs hB
  go_enter Tryd.func141, Tryd.ntmps141
  go_wp2_with (first | (go_at_call 155; fail))
  obtain ⟨w1, hw1⟩ : ∃ w1, w1 = w.alloc (Obj.cells #[Value.int IntKind.u64 0, Value.int IntKind.u64 0, Value.pointer none] 152) := ⟨_, rfl⟩
  have hs1 : w1.heap.size = w.heap.size + 1 := by rw [hw1]; exact World.size_alloc _ _
  have hb1 : Below w.heap.size w w1 := by rw [hw1]; exact below_alloc (Below.refl _ _) _
  have hc1 : w1.heap[w.heap.size]? = some (.cells (adrV 0 0 none) 152 (0, 0)) := by rw [hw1]; exact heap_alloc_new w _
  have hd : ∀ B : Obj, (w1.alloc B).heap[w.heap.size + 1]? = some B := fun B => by rw [← hs1]; exact heap_alloc_new w1 B
  rw [← hw1]
  clear hw1
  refine (ip4_fields s [a, b, c, d] (w.heap.size + 1) 190 w1 (w1.alloc _) rfl HB.out HS.out (hd _) (by omega) (below_alloc (Below.refl _ _) _)).mono ?_
  rintro e w3 ⟨rfl, hh, hb⟩
  dsimp only []
  obtain ⟨ba, bb, bc, bd⟩ : (0 ≤ a ∧ a < 256) ∧ (0 ≤ b ∧ b < 256) ∧ (0 ≤ c ∧ c < 256) ∧ (0 ≤ d ∧ d < 256) := ⟨HB.out a (by simp), HB.out b (by simp), HB.out c (by simp), HB.out d (by simp)⟩
  have k0 : w3.cell? ⟨w.heap.size + 1, 0, none⟩ = some (.int .u8 a) := (row_cell hh (i := 0) (by simp)).1
  have k1 : w3.cell? ⟨w.heap.size + 1, 1, none⟩ = some (.int .u8 b) := (row_cell hh (i := 1) (by simp)).1
  have k2 : w3.cell? ⟨w.heap.size + 1, 2, none⟩ = some (.int .u8 c) := (row_cell hh (i := 2) (by simp)).1
  have k3 : w3.cell? ⟨w.heap.size + 1, 3, none⟩ = some (.int .u8 d) := (row_cell hh (i := 3) (by simp)).1
  have HC := Aside0.mk (show w3.heap[w.heap.size]? = some (.cells (adrV 0 0 none) 152 (0, 0)) by rw [hb.block _ (by omega)]; exact hc1)
  have hb3 : Below w.heap.size w w3 := hb1.trans (below_mono hb (by omega))
  have HB3 := Aside0.mk hb3
  have HZ3 := Aside0.mk (ZZ.below HZ.out hb3)
  have HA := Aside0.mk (adr4 p4 p6 a b c d HZ3.out ba bb bc bd)
  have hlt3 : w.heap.size < w3.heap.size := heap_lt HC.out
  clear hh hb hc1 hd hb1 hb3 ba bb bc bd hs1
  go_wp2_with (first | (go_at_call 156; (refine HA.out.mono ?_); rintro e w4 ⟨rfl, hb⟩; (have HC4 := Aside0.mk (show w4.heap[w.heap.size]? = some (.cells (adrV 0 0 none) 152 (0, 0)) by rw [hb.block _ hlt3]; exact HC.out)); (have HB4 := Aside0.mk (below_step HB3.out hb)); obtain ⟨⟨q0, q1⟩, ⟨q2, q3⟩, ⟨q4, q5⟩⟩ := adrV_cells HC4.out; clear hb; unfold adr))
  refine bodyPost_ret (results_cell_row_tmp rfl _ _ w.heap.size 152 (adrV 0 (lo4 a b c d) (some p4)) (0, 0) _ rfl (adrV_set3 HC4.out _ _ _) Tryd.underlying152 rfl (by kernel_rfl)) rfl ?_
  exact ⟨rfl, set3_below _ _ _ (Nat.le_refl _) HB4.out⟩
theorem dec3_dig {v : Int} (h0 : 0 ≤ v) (h1 : v < 256) : ∀ c ∈ dec3 v, 48 ≤ c ∧ c ≤ 57 := by
  intro c hc
  unfold dec3 at hc
  split at hc
  · simp at hc; omega
  · split at hc
    · simp at hc; omega
    · simp at hc; omega
set_option maxRecDepth 100000 in
set_option maxHeartbeats 2000000 in
/-- The reader of an address comes to a point. -/
theorem pa4 (s : ByteArray) (a b c d : Int) (p4 p6 : Addr) (w : World) (hB : IsB [a, b, c, d]) (hs : bytesOf s = joinP [a, b, c, d]) (hZ : ZZ p4 p6 w) :
    Calls Tryd.prog 125 #[.string s] w fun e w' => e = .returned (.tuple #[adr 0 (lo4 a b c d) p4, .nilIface]) ∧ Below w.heap.size w w' := by
  have hsz : s.size ≤ 100 := by
    rw [← bytesOf_length, hs]
    have := dec3_len a
    have := dec3_len b
    have := dec3_len c
    have := dec3_len d
    simp [joinP]
    omega
  have HZ := Aside0.mk hZ
  have HS := Aside0.mk hs
  have HB := Aside0.mk hB
  clear hZ hs hB
  go_enter Tryd.func125, Tryd.ntmps125
  go_wp2
  go_loopw [4] (fun v4 W => ∃ i : Nat, v4 = .int .i64 i ∧ i ≤ (dec3 a).length ∧ Aside0 (W.heap[w.heap.size]? = some (.cells (adrV 0 0 none) 152 (0, 0))) ∧ Aside0 (Below w.heap.size w W)) (fun v4 _ => (100 - intOf v4).toNat)
  case atStart => exact ⟨0, rfl, Nat.zero_le _, ⟨heap_alloc_new w _⟩, ⟨below_alloc (Below.refl _ _) _⟩⟩
  case round =>
    obtain ⟨i, rfl, hi, hH, hBl⟩ := hrel
    have hT : bytesOf s = dec3 a ++ 46 :: joinP [b, c, d] := by rw [HS.out]; rfl
    by_cases hlt : i < (dec3 a).length
    · obtain ⟨x, hx⟩ : ∃ x, x = (dec3 a)[i] := ⟨_, rfl⟩
      have hxd : 48 ≤ x ∧ x ≤ 57 := dec3_dig (HB.out a (by simp)).1 (HB.out a (by simp)).2 x (by rw [hx]; exact List.getElem_mem hlt)
      obtain ⟨q1, q2⟩ := char_at (s := s) (i := i) (X := (dec3 a).take i) (R := (dec3 a).drop (i + 1) ++ 46 :: joinP [b, c, d]) (c := x) (by rw [hT, hx, ← List.cons_append, ← List.drop_eq_getElem_cons hlt, ← List.append_assoc, List.take_append_drop]) (by rw [List.length_take]; omega)
      have c0 : decide ((i : Int) < (s.size : Int)) = true := decide_eq_true (by omega)
      have f1 : (x == 46) = false := beq_eq_false_iff_ne.mpr (by omega)
      have f2 : (x == 58) = false := beq_eq_false_iff_ne.mpr (by omega)
      have f3 : (x == 37) = false := beq_eq_false_iff_ne.mpr (by omega)
      have g1 : ¬ x = 46 := by omega
      have g2 : ¬ x = 58 := by omega
      have g3 : ¬ x = 37 := by omega
      clear hx hxd hT
      go_wp2
      go_roundw
      case rel => exact ⟨i + 1, by go_num, by omega, hH, hBl⟩
      case measure => simp [intOf]; omega
    · obtain rfl : i = (dec3 a).length := by omega
      obtain ⟨q1, q2⟩ := char_at (s := s) (i := (dec3 a).length) (X := dec3 a) (R := joinP [b, c, d]) (c := 46) hT rfl
      obtain ⟨i, hii⟩ : ∃ i, i = (dec3 a).length := ⟨_, rfl⟩
      rw [← hii] at q1 q2 ⊢
      have c0 : decide ((i : Int) < (s.size : Int)) = true := decide_eq_true (by omega)
      have HP := Aside0.mk (pip4 s a b c d p4 p6 wr HB.out HS.out (ZZ.below HZ.out hBl.out))
      have hlt3 : w.heap.size < wr.heap.size := heap_lt hH.out
      clear hT hii hlt hi
      go_wp2_with (first | (go_at_call 141; (refine HP.out.mono ?_); rintro e w4 ⟨rfl, hb⟩; (have HC4 := Aside0.mk (show w4.heap[w.heap.size]? = some (.cells (adrV 0 0 none) 152 (0, 0)) by rw [hb.block _ hlt3]; exact hH.out)); (have HB4 := Aside0.mk (below_step hBl.out hb)); obtain ⟨⟨k0, k1⟩, ⟨k2, k3⟩, ⟨k4, k5⟩⟩ := adrV_cells HC4.out; clear hb; unfold adr))
      refine bodyPost_ret (results_cell_row_tmp rfl _ _ w.heap.size 152 (adrV 0 (lo4 a b c d) (some p4)) (0, 0) _ rfl (adrV_set3 HC4.out _ _ _) Tryd.underlying152 rfl (by kernel_rfl)) rfl ?_
      exact ⟨rfl, set3_below _ _ _ (Nat.le_refl _) HB4.out⟩
theorem store16 (w : World) (R : List Int) (hR : R.length = 16) : ∃ W2, (storeCells ⟨w.heap.size, 0, none⟩ (rowV R).toList).run Tryd.prog (w.alloc (Obj.cells #[Value.int IntKind.u8 0, Value.int IntKind.u8 0, Value.int IntKind.u8 0, Value.int IntKind.u8 0, Value.int IntKind.u8 0, Value.int IntKind.u8 0, Value.int IntKind.u8 0, Value.int IntKind.u8 0, Value.int IntKind.u8 0, Value.int IntKind.u8 0, Value.int IntKind.u8 0, Value.int IntKind.u8 0, Value.int IntKind.u8 0, Value.int IntKind.u8 0, Value.int IntKind.u8 0, Value.int IntKind.u8 0] 155)) = .ok () W2 ∧ W2.heap[w.heap.size]? = some (.cells (rowV R) 155 (0, 0)) ∧ Below w.heap.size w W2 := by
  have hg : (w.alloc (Obj.cells #[Value.int IntKind.u8 0, Value.int IntKind.u8 0, Value.int IntKind.u8 0, Value.int IntKind.u8 0, Value.int IntKind.u8 0, Value.int IntKind.u8 0, Value.int IntKind.u8 0, Value.int IntKind.u8 0, Value.int IntKind.u8 0, Value.int IntKind.u8 0, Value.int IntKind.u8 0, Value.int IntKind.u8 0, Value.int IntKind.u8 0, Value.int IntKind.u8 0, Value.int IntKind.u8 0, Value.int IntKind.u8 0] 155)).heap[w.heap.size]? = some (.cells #[Value.int IntKind.u8 0, Value.int IntKind.u8 0, Value.int IntKind.u8 0, Value.int IntKind.u8 0, Value.int IntKind.u8 0, Value.int IntKind.u8 0, Value.int IntKind.u8 0, Value.int IntKind.u8 0, Value.int IntKind.u8 0, Value.int IntKind.u8 0, Value.int IntKind.u8 0, Value.int IntKind.u8 0, Value.int IntKind.u8 0, Value.int IntKind.u8 0, Value.int IntKind.u8 0, Value.int IntKind.u8 0] 155 (0, 0)) := heap_alloc_new w _
  have h := run_storeCells_from (P := Tryd.prog) w.heap.size 155 (rowV R).toList 0 _ _ hg (by rw [Array.length_toList, rowV_length, hR]; rfl) (fun v hv => by
    rw [Array.mem_toList_iff] at hv
    simp only [rowV, List.mem_toArray, List.mem_map] at hv
    obtain ⟨x, _, rfl⟩ := hv
    rfl)
  rw [List.take_zero, List.nil_append, Array.toArray_toList] at h
  exact ⟨_, h, setRow_heap _ _ _ _ 155 _ hg, (below_alloc (Below.refl w.heap.size w) _).trans (below_setRow' _ _ _)⟩
theorem be8_len (x : Int) : (be8 x).length = 8 := rfl
set_option maxRecDepth 100000 in
set_option maxHeartbeats 2000000 in
/-- dns.parseIP, where the address is read. -/
theorem parse_ip (s : ByteArray) (hi lo : Int) (p p4 p6 : Addr) (w : World) (hp : p = p4 ∨ p = p6) (hZ : ZZ p4 p6 w) (hPA : ∀ W, Below w.heap.size w W → Calls Tryd.prog 125 #[.string s] W fun e w' => e = .returned (.tuple #[adr hi lo p, .nilIface]) ∧ Below W.heap.size W w') :
    Calls Tryd.prog 97 #[.string s] w fun e w' => ∃ m, e = .returned (.slice (some ⟨m, 0, none⟩) 16 16) ∧ w.heap.size ≤ m ∧ w'.heap[m]? = some (.cells (rowV (be8 hi ++ be8 lo)) 155 (0, 0)) ∧ Below w.heap.size w w' := by
  have HZ := Aside0.mk hZ
  have HP := Aside0.mk hPA
  have Hp := Aside0.mk hp
  clear hZ hPA hp
  go_enter Tryd.func97, Tryd.ntmps97
  go_wp2_with (first
    | (go_at_call 125; (refine (HP.out _ (Below.refl _ _)).mono ?_); rintro e w4 ⟨rfl, hb⟩; (have HB4 := Aside0.mk hb); clear hb; unfold adr)
    | (go_at_call 126; ((refine (zone_of p4 p6 p hi lo (ZZ.below (ZZ.below HZ.out HB4.out) (below_alloc (Below.refl _ _) _)) Hp.out).mono ?_); rintro e w5 ⟨rfl, hb⟩; (have HC5 := Aside0.mk (show w5.heap[w4.heap.size]? = some (.cells (adrV hi lo (some p)) 152 (0, 0)) by rw [hb.block _ (by simp)]; exact heap_alloc_new w4 _)); (have HB5 := Aside0.mk (below_step HB4.out ((below_alloc (Below.refl w4.heap.size w4) _).trans (below_mono hb (by simp))))); obtain ⟨⟨k0, k1⟩, ⟨k2, k3⟩, ⟨k4, k5⟩⟩ := adrV_cells HC5.out; clear hb))
    | (go_at_call 127; (refine (as16 p hi lo _).mono ?_); rintro e w6 ⟨rfl, hb⟩; obtain ⟨W7, hst, hh7, hb7⟩ := store16 w6 (be8 hi ++ be8 lo) (by rw [List.length_append, be8_len, be8_len]); (have HH7 := Aside0.mk hh7); (have HB7 := Aside0.mk (below_step (below_step HB5.out hb) hb7)); (have HS7 := Aside0.mk (below_step HB5.out hb).size); clear hb hh7 hb7))
  go_ret
  exact ⟨_, rfl, HS7.out, HH7.out, HB7.out⟩

end Go.Proofs.YtiilihafcdmccaaDoor.P
/- netip's Is6, WithZone (no zone), IPv6Unspecified. -/
namespace Go.Proofs.YtiilihafcdmccaaDoor.P
open Go.RowKit Go.Proofs.YtiilihafcdmccaaDoorW.PrintWords Go.Proofs.YtiilihafcdmccaaDoorW.PrintLast Go.Proofs.YtiilihafcdmccaaDoorW.PrintMore
set_option linter.unusedVariables false
set_option linter.unusedSimpArgs false

theorem run_equalIn_ptr_same {P : Program} (w : World) (d : Nat) {tp te : TypeId} (a : Addr) (hp : P.underlying tp = some (.pointer te)) (hte : (P.info? te).any (fun j => j.size != 0) = true) :
    (Op.equalIn (d + 1) tp (.pointer (some a)) (.pointer (some a))).run P w = .ok true w := by
  cases hi : P.info? te with
  | none => rw [hi] at hte; cases hte
  | some j => simp [Op.equalIn, run_underlying hp, typeInfo, sizeOf, run_sameAddr_same, hi]
theorem run_equalIn_ptr_other {P : Program} (w : World) (d : Nat) {tp te : TypeId} {a b : Addr} {ca cb : Array Value} {ta tb : TypeId} (hp : P.underlying tp = some (.pointer te)) (hte : (P.info? te).any (fun j => j.size != 0) = true)
    (hne : a ≠ b) (ha : w.heap[a.block]? = some (.cells ca ta (0, 0))) (hb : w.heap[b.block]? = some (.cells cb tb (0, 0))) :
    (Op.equalIn (d + 1) tp (.pointer (some a)) (.pointer (some b))).run P w = .ok false w := by
  cases hi : P.info? te with
  | none => rw [hi] at hte; cases hte
  | some j =>
    rw [hi] at hte
    have hsz : j.size ≠ 0 := by simpa using hte
    simp [Op.equalIn, run_underlying hp, typeInfo, sizeOf, hi, hsz, run_sameAddr_other w hne ha hb]
theorem eq_ptr {w : World} {p4 p6 : Addr} (hZ : ZZ p4 p6 w) : ∃ b, ∀ X : Obj, (Op.equalIn 9999 148 (.pointer (some p6)) (.pointer (some p4))).run Tryd.prog (w.alloc X) = .ok b (w.alloc X) := by
  obtain ⟨c4, t4, g4⟩ := hZ.h4
  obtain ⟨c6, t6, g6⟩ := hZ.h6
  by_cases he : p6 = p4
  · subst he
    exact ⟨true, fun X => run_equalIn_ptr_same (w.alloc X) 9998 p6 Tryd.underlying148 (by kernel_rfl)⟩
  · refine ⟨false, fun X => ?_⟩
    have k4 : (w.alloc X).heap[p4.block]? = some (.cells c4 t4 (0, 0)) := (heap_alloc_old w X (heap_lt g4)).trans g4
    have k6 : (w.alloc X).heap[p6.block]? = some (.cells c6 t6 (0, 0)) := (heap_alloc_old w X (heap_lt g6)).trans g6
    exact run_equalIn_ptr_other (w.alloc X) 9998 Tryd.underlying148 (by kernel_rfl) he k6 k4
set_option maxRecDepth 100000 in
set_option maxHeartbeats 2000000 in
theorem is6 (hi lo : Int) (p4 p6 : Addr) (w : World) (hZ : ZZ p4 p6 w) : Calls Tryd.prog 168 #[adr hi lo p6] w fun e w' => (∃ b, e = .returned (.bool b)) ∧ Below w.heap.size w w' := by
  unfold adr
  have z0 := hZ.z0
  have z4 := hZ.z4
  have hl0 : 6 < w.heap.size := World.block_lt_of_cell? w _ z0
  have hl4 : 13 < w.heap.size := World.block_lt_of_cell? w _ z4
  have heq : ∀ W : World, (Op.equalIn 9999 148 (.pointer (some p6)) (.pointer none)).run Tryd.prog W = .ok false W := fun W => by kernel_rfl
  obtain ⟨b, hb⟩ := eq_ptr hZ
  clear hZ
  go_enter Tryd.func168, Tryd.ntmps168
  cases b with
  | true =>
    go_wp2
    go_ret
    exact ⟨⟨_, rfl⟩, below_alloc (Below.refl _ _) _⟩
  | false =>
    go_wp2
    go_ret
    exact ⟨⟨_, rfl⟩, below_alloc (Below.refl _ _) _⟩
set_option maxRecDepth 100000 in
set_option maxHeartbeats 2000000 in
theorem no_zone (hi lo : Int) (p4 p6 : Addr) (w : World) (hZ : ZZ p4 p6 w) : Calls Tryd.prog 159 #[adr hi lo p6, .string ByteArray.empty] w fun e w' => e = .returned (adr hi lo p6) ∧ Below w.heap.size w w' := by
  unfold adr
  have HZ := Aside0.mk hZ
  clear hZ
  go_enter Tryd.func159, Tryd.ntmps159
  go_wp2_with (first | (go_at_call 168; fail))
  obtain ⟨W1, hW1⟩ : ∃ W1, W1 = (w.alloc (Obj.cells #[Value.int IntKind.u64 hi, Value.int IntKind.u64 lo, Value.pointer (some p6)] 152)).alloc (Obj.cells #[Value.int IntKind.u64 0, Value.int IntKind.u64 0, Value.pointer none] 152) := ⟨_, rfl⟩
  have hbA : Below w.heap.size w W1 := by rw [hW1]; exact below_alloc (below_alloc (Below.refl _ _) _) _
  have h0 : W1.heap[w.heap.size]? = some (.cells (adrV hi lo (some p6)) 152 (0, 0)) := by rw [hW1]; exact heap_alloc2_old w _ _
  have h1 : W1.heap[w.heap.size + 1]? = some (.cells (adrV 0 0 none) 152 (0, 0)) := by rw [hW1]; exact heap_alloc2_new w _ _
  rw [← hW1]
  clear hW1
  refine (is6 hi lo p4 p6 W1 (ZZ.below HZ.out hbA)).mono ?_
  rintro e w3 ⟨⟨b, rfl⟩, hb⟩
  dsimp only []
  have g0 : w3.heap[w.heap.size]? = some (.cells (adrV hi lo (some p6)) 152 (0, 0)) := by rw [hb.block _ (heap_lt h0)]; exact h0
  have g1 : w3.heap[w.heap.size + 1]? = some (.cells (adrV 0 0 none) 152 (0, 0)) := by rw [hb.block _ (heap_lt h1)]; exact h1
  have HB3 := Aside0.mk (below_step hbA hb)
  have Z6 := (ZZ.below HZ.out HB3.out).z6
  obtain ⟨⟨a0, a1⟩, ⟨a2, a3⟩, ⟨a4, a5⟩⟩ := adrV_cells g0
  obtain ⟨⟨c0, c1⟩, ⟨c2, c3⟩, ⟨c4, c5⟩⟩ := adrV_cells g1
  have G0 := Aside0.mk g0
  have G1 := Aside0.mk g1
  clear hb hbA h0 h1 g0 g1
  have hne : w.heap.size ≠ w.heap.size + 1 := by omega
  cases b with
  | false =>
    go_wp2
    refine bodyPost_ret (results_cell_row rfl _ _ (w.heap.size + 1) 152 (adrV hi lo (some p6)) (0, 0) _ rfl (adrV_set3 G1.out _ _ _) Tryd.underlying152 rfl (by kernel_rfl)) rfl ?_
    exact ⟨rfl, set3_below _ _ _ (by omega) HB3.out⟩
  | true =>
    go_wp2
    have e2 : (w3.setCell ⟨w.heap.size, 2, none⟩ (.pointer (some p6))).heap[w.heap.size + 1]? = some (.cells (adrV 0 0 none) 152 (0, 0)) := (heap_setCell_other w3 ⟨w.heap.size, 2, none⟩ _ _ (by show w.heap.size + 1 ≠ w.heap.size; omega)).trans G1.out
    refine bodyPost_ret (results_cell_row rfl _ _ (w.heap.size + 1) 152 (adrV hi lo (some p6)) (0, 0) _ rfl (adrV_set3 e2 _ _ _) Tryd.underlying152 rfl (by kernel_rfl)) rfl ?_
    exact ⟨rfl, set3_below _ _ _ (by omega) (HB3.out.setCell (p := ⟨w.heap.size, 2, none⟩) (Nat.le_refl _) _)⟩

set_option maxRecDepth 100000 in
set_option maxHeartbeats 2000000 in
theorem unspec (p4 p6 : Addr) (w : World) (hZ : ZZ p4 p6 w) : Calls Tryd.prog 158 #[] w fun e w' => e = .returned (adr 0 0 p6) ∧ Below w.heap.size w w' := by
  unfold adr
  have z6 := hZ.z6
  have hl6 : 14 < w.heap.size := World.block_lt_of_cell? w _ z6
  clear hZ
  go_enter Tryd.func158, Tryd.ntmps158
  go_wp2
  refine bodyPost_ret (results_cell_row rfl _ _ w.heap.size 152 (adrV 0 0 (some p6)) (0, 0) _ rfl (heap_alloc_new w _) Tryd.underlying152 rfl (by kernel_rfl)) rfl ?_
  exact ⟨rfl, below_alloc (Below.refl _ _) _⟩

end Go.Proofs.YtiilihafcdmccaaDoor.P
/- dns.IP's To4. -/
namespace Go.Proofs.YtiilihafcdmccaaDoor.P
open Go.RowKit Go.Proofs.YtiilihafcdmccaaDoorW.PrintWords Go.Proofs.YtiilihafcdmccaaDoorW.PrintLast Go.Proofs.YtiilihafcdmccaaDoorW.PrintMore
set_option linter.unusedVariables false
set_option linter.unusedSimpArgs false

/-- Sixteen bytes that stand for four. -/
def mapd (R : List Int) : Bool := (R.take 10).all (fun x => decide (x = 0)) && decide (R.getD 10 0 = 255) && decide (R.getD 11 0 = 255)
set_option maxRecDepth 100000 in
set_option maxHeartbeats 2000000 in
theorem to4' (R : List Int) (m : Nat) (w : World) (res : Value) (hres : res = if mapd R = true then .slice (some ⟨m, 12, none⟩) 4 4 else .slice none 0 0) (hR : R.length = 16) (hm : w.heap[m]? = some (.cells (rowV R) 155 (0, 0))) :
    Calls Tryd.prog 98 #[.slice (some ⟨m, 0, none⟩) 16 16] w fun e w' => e = .returned res ∧ Drawn0 w w' := by
  have HRES := Aside0.mk hres
  clear hres
  have k10 : w.cell? ⟨m, 10, none⟩ = some (.int .u8 (R.getD 10 0)) := by rw [(row_cell hm (i := 10) (by omega)).1, List.getD_eq_getElem?_getD, List.getElem?_eq_getElem (by omega)]; rfl
  have k11 : w.cell? ⟨m, 11, none⟩ = some (.int .u8 (R.getD 11 0)) := by rw [(row_cell hm (i := 11) (by omega)).1, List.getD_eq_getElem?_getD, List.getElem?_eq_getElem (by omega)]; rfl
  obtain ⟨x10, h10⟩ : ∃ x, x = R.getD 10 0 := ⟨_, rfl⟩
  obtain ⟨x11, h11⟩ : ∃ x, x = R.getD 11 0 := ⟨_, rfl⟩
  rw [← h10] at k10
  rw [← h11] at k11
  have H10 := Aside0.mk h10
  have H11 := Aside0.mk h11
  have HM := Aside0.mk hm
  have HR := Aside0.mk hR
  clear h10 h11 hm hR
  by_cases c10 : x10 = 255
  · have e10 : (x10 == 255) = true := beq_iff_eq.mpr c10
    by_cases c11 : x11 = 255
    · have e11 : (x11 == 255) = true := beq_iff_eq.mpr c11
      have C10 := Aside0.mk c10
      have C11 := Aside0.mk c11
      go_enter Tryd.func98, Tryd.ntmps98
      go_wp2
      go_loopw [4, 27] (fun v4 v27 W => ∃ i : Nat, v27 = .int .i64 i ∧ i ≤ 10 ∧ Aside0 (∀ j, j < i → R.getD j 0 = 0) ∧ W = w) (fun v4 v27 _ => (10 - intOf v27).toNat)
      case atStart => exact ⟨0, rfl, Nat.zero_le _, ⟨fun j hj => by omega⟩, rfl⟩
      case round =>
        obtain ⟨i, rfl, hi, hz, rfl⟩ := hrel
        by_cases hlt : i < 10
        · have ki : wr.cell? ⟨m, i, none⟩ = some (.int .u8 (R.getD i 0)) := by rw [(row_cell HM.out (i := i) (by have := HR.out; omega)).1, List.getD_eq_getElem?_getD, List.getElem?_eq_getElem (by have := HR.out; omega)]; rfl
          obtain ⟨y, hy⟩ : ∃ y, y = R.getD i 0 := ⟨_, rfl⟩
          rw [← hy] at ki
          have hy1 := Aside0.mk hy
          clear hy
          have d0 : decide ((i : Int) < 10) = true := decide_eq_true (by omega)
          by_cases hy0 : y = 0
          · have f0 : (y == 0) = true := beq_iff_eq.mpr hy0
            have Y0 := Aside0.mk hy0
            clear hy0
            go_wp2
            go_roundw
            case rel => exact ⟨i + 1, by go_num, by omega, ⟨fun j hj => by
              rcases Nat.lt_or_ge j i with h | h
              · exact hz.out j h
              · rw [show j = i by omega, ← hy1.out, Y0.out]⟩, by simp⟩
            case measure => simp [intOf]; omega
          · have f0 : (y == 0) = false := beq_eq_false_iff_ne.mpr hy0
            have hmf : mapd R = false := by
              unfold mapd
              rw [Bool.and_eq_false_iff, Bool.and_eq_false_iff]
              refine .inl (.inl ?_)
              rw [List.all_eq_false]
              refine ⟨y, ?_, by simpa using hy0⟩
              have hil : i < (R.take 10).length := by rw [List.length_take]; have := HR.out; omega
              rw [hy1.out, List.getD_eq_getElem?_getD, ← List.getElem?_take_of_lt hlt, List.getElem?_eq_getElem hil]
              exact List.getElem_mem hil
            have Y0 := Aside0.mk hmf
            clear hmf
            go_wp2
            go_ret
            exact ⟨by rw [HRES.out, Y0.out]; rfl, ⟨0, (World.drewN_zero _).symm⟩⟩
        · obtain rfl : i = 10 := by omega
          have hmt : mapd R = true := by
            unfold mapd
            rw [← H10.out, ← H11.out, decide_eq_true C10.out, decide_eq_true C11.out, Bool.and_true, Bool.and_true, List.all_eq_true]
            intro x hx
            obtain ⟨j, hj, rfl⟩ := List.getElem_of_mem hx
            rw [List.length_take] at hj
            have := hz.out j (by omega)
            rw [List.getD_eq_getElem?_getD, List.getElem?_eq_getElem (by omega), Option.getD_some] at this
            rw [List.getElem_take, this]
            rfl
          have Y0 := Aside0.mk hmt
          clear hmt
          go_wp2
          go_ret
          exact ⟨by rw [HRES.out, Y0.out]; rfl, ⟨0, (World.drewN_zero _).symm⟩⟩
    · have e11 : (x11 == 255) = false := beq_eq_false_iff_ne.mpr c11
      have hmf : mapd R = false := by unfold mapd; rw [← H11.out, decide_eq_false c11, Bool.and_false]
      have Y0 := Aside0.mk hmf
      clear hmf
      go_enter Tryd.func98, Tryd.ntmps98
      go_wp2
      go_ret
      exact ⟨by rw [HRES.out, Y0.out]; rfl, ⟨0, (World.drewN_zero _).symm⟩⟩
  · have e10 : (x10 == 255) = false := beq_eq_false_iff_ne.mpr c10
    have hmf : mapd R = false := by unfold mapd; rw [← H10.out, decide_eq_false c10, Bool.and_false, Bool.false_and]
    have Y0 := Aside0.mk hmf
    clear hmf
    go_enter Tryd.func98, Tryd.ntmps98
    go_wp2
    go_ret
    exact ⟨by rw [HRES.out, Y0.out]; rfl, ⟨0, (World.drewN_zero _).symm⟩⟩
theorem to4 (R : List Int) (m : Nat) (w : World) (hR : R.length = 16) (hm : w.heap[m]? = some (.cells (rowV R) 155 (0, 0))) :
    Calls Tryd.prog 98 #[.slice (some ⟨m, 0, none⟩) 16 16] w fun e w' => e = .returned (if mapd R = true then .slice (some ⟨m, 12, none⟩) 4 4 else .slice none 0 0) ∧ Drawn0 w w' := to4' R m w _ rfl hR hm

end Go.Proofs.YtiilihafcdmccaaDoor.P
/- Contracts of the library at this dump: written by the kit's lay-shelf.mjs and lay-plain.mjs, picked by wip/tools/shelfpick. -/
namespace Go.Proofs
open Go.Shelf
def Tryd.laysM176_ren : Go.Shelf.Ren := ⟨fun | 176 => 99 | 249 => 128 | 288 => 145 | 283 => 150 | 284 => 151 | 285 => 152 | 286 => 153 | 129 => 162 | 317 => 161 | 318 => 163 | 319 => 164 | 320 => 165 | 337 => 171 | 338 => 172 | n => n, fun | 37 => 22 | 2 => 2 | 3 => 3 | 53 => 145 | 4 => 4 | 9 => 9 | 171 => 179 | 0 => 0 | 173 => 181 | 212 => 198 | 51 => 112 | 5 => 5 | 20 => 20 | 213 => 199 | 46 => 69 | 232 => 187 | 233 => 211 | n => n, fun | 17 => 12 | 18 => 15 | 19 => 16 | n => n⟩
theorem Tryd.laysM176 : Go.Proofs.LaysM.n176 Tryd.prog Tryd.laysM176_ren := {
  mixed := by kernel_rfl
  f129 := Tryd.func162.trans (congrArg some (by kernel_rfl))
  f176 := Tryd.func99.trans (congrArg some (by kernel_rfl))
  f249 := Tryd.func128.trans (congrArg some (by kernel_rfl))
  f283 := Tryd.func150.trans (congrArg some (by kernel_rfl))
  f284 := Tryd.func151.trans (congrArg some (by kernel_rfl))
  f285 := Tryd.func152.trans (congrArg some (by kernel_rfl))
  f286 := Tryd.func153.trans (congrArg some (by kernel_rfl))
  f288 := Tryd.func145.trans (congrArg some (by kernel_rfl))
  f317 := Tryd.func161.trans (congrArg some (by kernel_rfl))
  f318 := Tryd.func163.trans (congrArg some (by kernel_rfl))
  f319 := Tryd.func164.trans (congrArg some (by kernel_rfl))
  f320 := Tryd.func165.trans (congrArg some (by kernel_rfl))
  f337 := Tryd.func171.trans (congrArg some (by kernel_rfl))
  f338 := Tryd.func172.trans (congrArg some (by kernel_rfl))
  t0 := Tryd.underlying0
  a0 := Tryd.isAgg0
  z0 := Tryd.sizeOf0
  v0 := Tryd.zeroValue0
  t2 := Tryd.underlying2
  a2 := Tryd.isAgg2
  z2 := Tryd.sizeOf2
  v2 := Tryd.zeroValue2
  t3 := Tryd.underlying3
  a3 := Tryd.isAgg3
  z3 := Tryd.sizeOf3
  v3 := Tryd.zeroValue3
  t4 := Tryd.underlying4
  a4 := Tryd.isAgg4
  z4 := Tryd.sizeOf4
  v4 := Tryd.zeroValue4
  t5 := Tryd.underlying5
  a5 := Tryd.isAgg5
  z5 := Tryd.sizeOf5
  v5 := Tryd.zeroValue5
  t9 := Tryd.underlying9
  a9 := Tryd.isAgg9
  z9 := Tryd.sizeOf9
  v9 := Tryd.zeroValue9
  t20 := Tryd.underlying20
  a20 := Tryd.isAgg20
  z20 := Tryd.sizeOf20
  v20 := Tryd.zeroValue20
  t37 := Tryd.underlying22
  a37 := Tryd.isAgg22
  z37 := Tryd.sizeOf22
  v37 := Tryd.zeroValue22
  t46 := Tryd.underlying69
  a46 := Tryd.isAgg69
  z46 := Tryd.sizeOf69
  v46 := Tryd.zeroValue69
  t51 := Tryd.underlying112
  a51 := Tryd.isAgg112
  z51 := Tryd.sizeOf112
  v51 := Tryd.zeroValue112
  t53 := Tryd.underlying145
  a53 := Tryd.isAgg145
  z53 := Tryd.sizeOf145
  v53 := Tryd.zeroValue145
  t171 := Tryd.underlying179
  a171 := Tryd.isAgg179
  z171 := Tryd.sizeOf179
  v171 := Tryd.zeroValue179
  t173 := Tryd.underlying181
  a173 := Tryd.isAgg181
  z173 := Tryd.sizeOf181
  v173 := Tryd.zeroValue181
  t212 := Tryd.underlying198
  a212 := Tryd.isAgg198
  z212 := Tryd.sizeOf198
  v212 := Tryd.zeroValue198
  t213 := Tryd.underlying199
  a213 := Tryd.isAgg199
  z213 := Tryd.sizeOf199
  t232 := Tryd.underlying187
  a232 := Tryd.isAgg187
  z232 := Tryd.sizeOf187
  v232 := Tryd.zeroValue187
  t233 := Tryd.underlying211
  a233 := Tryd.isAgg211
  z233 := Tryd.sizeOf211
  v233 := Tryd.zeroValue211
  g17 := by kernel_rfl
  g18 := by kernel_rfl
  g19 := by kernel_rfl
  i0 := by kernel_rfl
  i2 := by kernel_rfl
  i3 := by kernel_rfl
  i4 := by kernel_rfl
  i5 := by kernel_rfl
  i9 := by kernel_rfl
  i20 := by kernel_rfl
  i37 := by kernel_rfl
  i46 := by kernel_rfl
  i51 := by kernel_rfl
  i53 := by kernel_rfl
  i171 := by kernel_rfl
  i173 := by kernel_rfl
  i212 := by kernel_rfl
  i232 := by kernel_rfl
  i233 := by kernel_rfl
  m17 := by kernel_rfl
  m18 := by kernel_rfl
  m19 := by kernel_rfl }
open Go.RowKit Go.Sort Go.Lib in
/-- strconv.AppendInt: "AppendInt appends the string form of the integer i, as generated by FormatInt, to dst and returns the extended buffer.": AT BASE 10: WHAT COMES BACK OWNS dst's CELLS AND, BEHIND THEM, i's DECIMAL NUMERAL ('Lib.itoa i': at most 20 bytes), for every int64. Below the call's own blocks nothing has turned. (LAID: no walk: one application.) -/
theorem Tryd.strconv_AppendInt_10 (B n : Nat) (i : Int) (h0 : -9223372036854775808 ≤ i) (h1 : i ≤ 9223372036854775807) (sv : Value) (xs : List Value) (w : World) (hown : w.ownsRow B 5 1 sv n xs) (hBw : B ≤ w.heap.size) (hlim : n + 21 ≤ 140737488355328) (htab : Lib.TabBelow Tryd.prog B w "internal/strconv.uint64pow10" .u64 Lib.pow10Tab) :
    Calls Tryd.prog 99 #[sv, .int .i64 i, .int .i64 10] w fun e w' => ∃ v', e = .returned v' ∧ w'.ownsRow B 5 1 v' (n + (Lib.itoa i).length) (xs ++ Lib.byteCells (Lib.itoa i)) ∧ Below B w w' ∧ Lib.OthersKept 5 none w w' := Any.strconv_AppendInt_10 Tryd.laysM176 B n i h0 h1 sv xs w hown hBw hlim htab
end Go.Proofs
/- strconv.AppendInt and append of a text, at rows of octets of the call's own. -/
namespace Go.Proofs.YtiilihafcdmccaaDoor.P
open Go.RowKit Go.Proofs.YtiilihafcdmccaaDoorW.PrintWords Go.Proofs.YtiilihafcdmccaaDoorW.PrintLast Go.Proofs.YtiilihafcdmccaaDoorW.PrintMore
set_option linter.unusedVariables false
set_option linter.unusedSimpArgs false

theorem itoa3 {n : Int} (h0 : 0 ≤ n) (h1 : n < 256) : Lib.byteCells (Lib.itoa n) = encs (Value.int .u8) (dec3 n) := by
  obtain ⟨u, rfl⟩ := Int.eq_ofNat_of_zero_le h0
  have hu : u < 256 := by omega
  rw [Lib.itoa_nonneg]
  unfold Lib.byteCells encs dec3
  by_cases c1 : u < 10
  · rw [Lib.decDigits_one c1, if_pos (by omega)]
    have : (UInt8.ofNat (48 + u)).toNat = 48 + u := by rw [UInt8.toNat_ofNat']; omega
    simp only [List.map_cons, List.map_nil, this]
    rfl
  · rw [if_neg (by omega)]
    by_cases c2 : u < 100
    · rw [Lib.decDigits_two c1 c2, if_pos (by omega)]
      have e1 : (UInt8.ofNat (48 + u / 10)).toNat = 48 + u / 10 := by rw [UInt8.toNat_ofNat']; omega
      have e2 : (UInt8.ofNat (48 + u % 10)).toNat = 48 + u % 10 := by rw [UInt8.toNat_ofNat']; omega
      simp only [List.map_cons, List.map_nil, e1, e2]
      have q1 : ((48 + u / 10 : Nat) : Int) = 48 + (u : Int) / 10 := by omega
      have q2 : ((48 + u % 10 : Nat) : Int) = 48 + (u : Int) % 10 := by omega
      rw [q1, q2]
    · rw [if_neg (by omega), Lib.decDigits, dif_neg c1]
      have c3 : ¬ u / 10 < 10 := by omega
      rw [Lib.decDigits_two c3 (by omega)]
      have e1 : (UInt8.ofNat (48 + u / 10 / 10)).toNat = 48 + u / 10 / 10 := by rw [UInt8.toNat_ofNat']; omega
      have e2 : (UInt8.ofNat (48 + u / 10 % 10)).toNat = 48 + u / 10 % 10 := by rw [UInt8.toNat_ofNat']; omega
      have e3 : (UInt8.ofNat (48 + u % 10)).toNat = 48 + u % 10 := by rw [UInt8.toNat_ofNat']; omega
      simp only [List.cons_append, List.nil_append, List.map_cons, List.map_nil, e1, e2, e3]
      have q1 : ((48 + u / 10 / 10 : Nat) : Int) = 48 + (u : Int) / 100 := by omega
      have q2 : ((48 + u / 10 % 10 : Nat) : Int) = 48 + (u : Int) / 10 % 10 := by omega
      have q3 : ((48 + u % 10 : Nat) : Int) = 48 + (u : Int) % 10 := by omega
      rw [q1, q2, q3]
/-- The table of the powers of ten is laid below. -/
def TabW (w : World) : Prop := ∀ w', Below w.heap.size w w' → Lib.TabIs Tryd.prog w' "internal/strconv.uint64pow10" .u64 Lib.pow10Tab
theorem TabW.below {w w' : World} (h : TabW w) (hb : Below w.heap.size w w') : TabW w' := fun w2 h2 => h w2 (below_step hb h2)
theorem app_int (n : Int) (h0 : 0 ≤ n) (h1 : n < 256) (v : Value) (xs : List Int) (w0 w : World) (hT : TabW w0) (hR : Kd.R (Kd.int .u8) 5 w w0.heap.size (fun _ => True) v xs) (hb : Below w0.heap.size w0 w) (hl : xs.length ≤ 100000) :
    Calls Tryd.prog 99 #[v, .int .i64 n, .int .i64 10] w fun e w' => ∃ v', e = .returned v' ∧ Kd.R (Kd.int .u8) 5 w' w0.heap.size (fun _ => True) v' (xs ++ dec3 n) ∧ Below w0.heap.size w0 w' := by
  refine (Tryd.strconv_AppendInt_10 w0.heap.size xs.length n (by omega) (by omega) v _ w (Kd.own_of_R hR) hb.size (by omega) (fun w' h' => hT w' (hb.trans h'))).mono ?_
  rintro e w' ⟨v', rfl, ho, hb', _⟩
  refine ⟨v', rfl, ?_, hb.trans hb'⟩
  rw [itoa3 h0 h1, ← encs_append] at ho
  have hlen : xs.length + (Lib.itoa n).length = (xs ++ dec3 n).length := by
    have := congrArg List.length (itoa3 h0 h1)
    rw [encs_length] at this
    unfold Lib.byteCells at this
    rw [List.length_map] at this
    rw [List.length_append, this]
  rw [hlen] at ho
  exact Kd.R_of_own ho (fun _ _ => trivial)
theorem strCells_enc (s : ByteArray) : Lib.strCells s = encs (Value.int .u8) (bytesOf s) := by
  unfold Lib.strCells encs bytesOf
  rw [List.map_map]
  rfl
theorem app_str (s : ByteArray) (v : Value) (xs : List Int) (w0 w : World) (hR : Kd.R (Kd.int .u8) 5 w w0.heap.size (fun _ => True) v xs) (hb : Below w0.heap.size w0 w) (hl : xs.length ≤ 100000) (hs : s.size ≤ 100000) :
    ∃ v' w', (Builtin.append_ #[22, 9] 22 #[v, .string s]).run Tryd.prog w = .ok v' w' ∧ Kd.R (Kd.int .u8) 5 w' w0.heap.size (fun _ => True) v' (xs ++ bytesOf s) ∧ Below w0.heap.size w0 w' := by
  obtain ⟨inf, h1, h2⟩ := Option.map_eq_some_iff.1 (show (Tryd.prog.info? 5).map (fun i => (i.zero, i.size, i.bytes)) = some (some (.int .u8 0), 1, 1) from info5)
  simp only [Prod.mk.injEq] at h2
  obtain ⟨z0, z1, z2⟩ := h2
  obtain ⟨v', w', hr, ho, hg, _⟩ := Lib.run_append_own_string (P := Tryd.prog) w w0.heap.size 22 9 22 5 inf Tryd.underlying22 Tryd.underlying9 h1 z0 z1 z2 v xs.length _ (Kd.own_of_R hR) s (by unfold maxLen; omega) (by omega) hb.size
  refine ⟨v', w', hr, ?_, ?_⟩
  · rw [strCells_enc, ← encs_append, ← bytesOf_length, ← List.length_append] at ho
    exact Kd.R_of_own ho (fun _ _ => trivial)
  · exact hb.grown hg hb.size (own_base (Kd.own_of_R hR))
theorem wpList_app_str {ops : Array Oper} {rest : List Oper} {o : Oper} {a : Act} {Q : Exit → Act → World → Prop} {W w0 : World} (hgd : o.guard = none) (sl x : Operand) (ho : o.op = .call { callee := .builtin .append, args := #[sl, x], argTypes := #[22, 9] })
    (s : ByteArray) (v : Value) (xs : List Int) (hs : a.eval sl = v) (hx : a.eval x = .string s) (HO : Kd.R (Kd.int .u8) 5 W w0.heap.size (fun _ => True) v xs) (HB : Below w0.heap.size w0 W) (hl : xs.length ≤ 100000) (hsz : s.size ≤ 100000)
    (h : ∀ v1 w1, Kd.R (Kd.int .u8) 5 w1 w0.heap.size (fun _ => True) v1 (xs ++ bytesOf s) → Below w0.heap.size w0 w1 → wpList Tryd.prog ops Q rest (a.put o.dst v1) w1) : wpList Tryd.prog ops Q (o :: rest) a W := by
  obtain ⟨inf, h1, h2⟩ := Option.map_eq_some_iff.1 (show (Tryd.prog.info? 5).map (fun i => (i.zero, i.size, i.bytes)) = some (some (.int .u8 0), 1, 1) from info5)
  simp only [Prod.mk.injEq] at h2
  obtain ⟨z0, z1, z2⟩ := h2
  refine Lib.wpList_append_own_string W hgd sl x 22 9 ho w0.heap.size 5 inf Tryd.underlying22 Tryd.underlying9 h1 z0 z1 z2 v xs.length _ hs (Kd.own_of_R HO) s hx (by unfold maxLen; omega) (by omega) HB.size ?_
  intro v1 w1 ho1 hg _
  rw [strCells_enc, ← encs_append, ← bytesOf_length, ← List.length_append] at ho1
  exact h v1 w1 (Kd.R_of_own ho1 (fun _ _ => trivial)) (HB.grown hg HB.size (own_base (Kd.own_of_R HO)))

end Go.Proofs.YtiilihafcdmccaaDoor.P
/- 'dns.ReverseAddr' at four numbers. -/
namespace Go.Proofs.YtiilihafcdmccaaDoor.P
open Go.RowKit Go.Proofs.YtiilihafcdmccaaDoorW.PrintWords Go.Proofs.YtiilihafcdmccaaDoorW.PrintLast Go.Proofs.YtiilihafcdmccaaDoorW.PrintMore
set_option linter.unusedVariables false
set_option linter.unusedSimpArgs false

/-- Block b holds these bytes. -/
def RowQ (wr : World) (b : Nat) (xs : List Int) : Prop := ∀ j, j < xs.length → wr.cell? ⟨b, j, none⟩ = some (.int .u8 (xs.getD j 0))
theorem rowQ_of {w : World} {base : Nat} {v : Value} {P : List Int} (h : Kd.R (Kd.int .u8) 5 w base (fun _ => True) v P) (n : Nat) (hn : P.length = n) (hp : 0 < n) : ∃ b cap, v = .slice (some ⟨b, 0, none⟩) n cap ∧ n ≤ cap ∧ RowQ w b P := by
  subst hn
  obtain ⟨g, cap, he, _, _, _⟩ := Kd.R_form h hp
  obtain ⟨A, c, he2, hl, hc⟩ := Kd.R_reads h
  rw [he] at he2
  injection he2 with h1 h2 h3
  subst h1 h3
  refine ⟨g, cap, he, hl, fun j hj => ?_⟩
  obtain ⟨ad, e, hr⟩ := hc.2.2 hp
  injection e with e
  subst e
  obtain ⟨c, _, hk, hu⟩ := hr j (P.getD j 0) (by rw [List.getD_eq_getElem?_getD, List.getElem?_eq_getElem hj]; rfl)
  have hk2 : c = [.int .u8 (P.getD j 0)] := hk
  have := hu 0 (.int .u8 (P.getD j 0)) (by rw [hk2]; rfl)
  have ea : (⟨g, 0, none⟩ : Addr).add (j * (Kd.int IntKind.u8).sz + 0) = ⟨g, j, none⟩ := by
    show (⟨g, 0, none⟩ : Addr).add (j * 1 + 0) = ⟨g, j, none⟩
    rw [Nat.mul_one, Nat.add_zero]
    simp only [Addr.add]
    split <;> simp_all
  rw [ea] at this
  exact this
def arpa4 : ByteArray := ⟨#[105, 110, 45, 97, 100, 100, 114, 46, 97, 114, 112, 97, 46]⟩
/-- The numbers so far, the last one first. -/
def pre4 (l : List Int) (j : Nat) : List Int := (l.reverse.take j).flatMap fun v => dec3 v ++ [46]
theorem be8_lo4 {a b c d : Int} (ha : 0 ≤ a ∧ a < 256) (hb : 0 ≤ b ∧ b < 256) (hc : 0 ≤ c ∧ c < 256) (hd : 0 ≤ d ∧ d < 256) : be8 0 ++ be8 (lo4 a b c d) = [0, 0, 0, 0, 0, 0, 0, 0, 0, 0, 255, 255, a, b, c, d] := by
  have h0 : be8 0 = [0, 0, 0, 0, 0, 0, 0, 0] := rfl
  have h1 : be8 (lo4 a b c d) = [0, 0, 255, 255, a, b, c, d] := by
    unfold be8 lo4
    have e0 : (281470681743360 + a * 16777216 + b * 65536 + c * 256 + d) / 72057594037927936 % 256 = 0 := by omega
    have e1 : (281470681743360 + a * 16777216 + b * 65536 + c * 256 + d) / 281474976710656 % 256 = 0 := by omega
    have e2 : (281470681743360 + a * 16777216 + b * 65536 + c * 256 + d) / 1099511627776 % 256 = 255 := by omega
    have e3 : (281470681743360 + a * 16777216 + b * 65536 + c * 256 + d) / 4294967296 % 256 = 255 := by omega
    have e4 : (281470681743360 + a * 16777216 + b * 65536 + c * 256 + d) / 16777216 % 256 = a := by omega
    have e5 : (281470681743360 + a * 16777216 + b * 65536 + c * 256 + d) / 65536 % 256 = b := by omega
    have e6 : (281470681743360 + a * 16777216 + b * 65536 + c * 256 + d) / 256 % 256 = c := by omega
    have e7 : (281470681743360 + a * 16777216 + b * 65536 + c * 256 + d) % 256 = d := by omega
    rw [e0, e1, e2, e3, e4, e5, e6, e7]
  rw [h0, h1]
  rfl
set_option maxRecDepth 100000 in
set_option maxHeartbeats 4000000 in
theorem rev4 (s : ByteArray) (a b c d : Int) (p4 p6 : Addr) (w : World) (hB : IsB [a, b, c, d]) (hs : bytesOf s = joinP [a, b, c, d]) (hZ : ZZ p4 p6 w) (hT : TabW w) :
    Calls Tryd.prog 73 #[.string s] w fun e w' => e = .returned (.tuple #[.string (strOfNums (pre4 [a, b, c, d] 4 ++ bytesOf arpa4)), .nilIface]) ∧ Below w.heap.size w w' := by
  have HP := Aside0.mk (parse_ip s 0 (lo4 a b c d) p4 p4 p6 w (.inl rfl) hZ (fun W hW => pa4 s a b c d p4 p6 W hB hs (ZZ.below hZ hW)))
  have ba := hB a (by simp)
  have bb := hB b (by simp)
  have bc := hB c (by simp)
  have bd := hB d (by simp)
  have HE := Aside0.mk (be8_lo4 ba bb bc bd)
  have HT := Aside0.mk hT
  have HBB := Aside0.mk hB
  have heq : ∀ (m o n c : Nat) (W : World), (binOp .eql 120 (.slice (some ⟨m, o, none⟩) n c) (.slice none 0 0)).run Tryd.prog W = .ok (.bool false) W := fun m o n c W => by kernel_rfl
  have hne : ∀ (m o n c : Nat) (W : World), (binOp .neq 120 (.slice (some ⟨m, o, none⟩) n c) (.slice none 0 0)).run Tryd.prog W = .ok (.bool true) W := fun m o n c W => by kernel_rfl
  clear hZ hT hs hB
  go_enter Tryd.func73, Tryd.ntmps73
  go_wp2_with (first
    | (go_at_call 97; ((refine HP.out.mono ?_); rintro e w1 ⟨m, rfl, hm, hh, hb⟩; rw [HE.out] at hh; (have HH := Aside0.mk hh); (have HB1 := Aside0.mk hb); (have HMd : Aside0 (mapd [0, 0, 0, 0, 0, 0, 0, 0, 0, 0, 255, 255, a, b, c, d] = true) := ⟨rfl⟩); clear hh hb))
    | (go_at_call 98; ((refine (to4 [0, 0, 0, 0, 0, 0, 0, 0, 0, 0, 255, 255, a, b, c, d] m _ rfl HH.out).mono ?_); rintro e w2 ⟨rfl, ⟨nd, rfl⟩⟩; rw [if_pos HMd.out]; (have HH2 : Aside0 ((w1.drewN nd).heap[m]? = some (.cells (rowV [0, 0, 0, 0, 0, 0, 0, 0, 0, 0, 255, 255, a, b, c, d]) 155 (0, 0))) := HH); (have HB2 := Aside0.mk (pw_below_drewN HB1.out nd)); generalize w1.drewN nd = wB at HH2 HB2 ⊢))
    | ((with_reducible refine gate_dst (N := 24) rfl ?_); (refine R_makec (Kd.int .u8) _ 5 rfl (N := 24) rfl 22 _ _ rfl 0 29 rfl rfl (by omega) Tryd.underlying22 (.int .u8 0) 1 info5 rfl (by decide) (by omega) 0 (ok := fun _ => True) (okp := fun _ => True) rfl (fun _ hk => hk) trivial (by omega) (by omega) (Below.refl _ _) (Nat.le_refl _) ?_; intro v3 w3 ho hb hg_ hnew_; clear hg_ hnew_; (have HO3 := Aside0.mk ho); (have HB3 := Aside0.mk hb); clear ho hb)))
  go_loopw [6, 7] (fun v6 v7 W => ∃ (j : Nat) (z : Int), j ≤ 4 ∧ z = 3 - (j : Int) ∧ v7 = .int .i64 z ∧ Aside0 (Kd.R (Kd.int .u8) 5 W wB.heap.size (fun _ => True) v6 (pre4 [a, b, c, d] j)) ∧ Aside0 (Below wB.heap.size wB W)) (fun v6 v7 _ => (intOf v7 + 1).toNat)
  case atStart => exact ⟨0, 3, by omega, rfl, rfl, HO3, HB3⟩
  case round =>
    clear HO3 HB3
    obtain ⟨j, z, hj, hz, rfl, HO, HBW⟩ := hrel
    have hmB : m < wB.heap.size := heap_lt HH2.out
    have hpl : ∀ j, (pre4 [a, b, c, d] j).length ≤ 100 := fun j => by
      have := dec3_len a
      have := dec3_len b
      have := dec3_len c
      have := dec3_len d
      have h : ∀ L : List Int, (L.flatMap fun v => dec3 v ++ [46]).length ≤ 4 * L.length := fun L => by
        induction L with
        | nil => simp
        | cons x L ih => have := dec3_len x; simp only [List.flatMap_cons, List.length_append, List.length_cons, List.length_nil]; omega
      have := h (([a, b, c, d] : List Int).reverse.take j)
      have h4 : (([a, b, c, d] : List Int).reverse.take j).length ≤ 4 := by rw [List.length_take]; exact Nat.le_trans (Nat.min_le_right _ _) (by simp)
      unfold pre4
      omega
    have HTB : Aside0 (TabW wB) := ⟨TabW.below HT.out HB2.out⟩
    have HHW : Aside0 (wr.heap[m]? = some (.cells (rowV [0, 0, 0, 0, 0, 0, 0, 0, 0, 0, 255, 255, a, b, c, d]) 155 (0, 0))) := ⟨by rw [HBW.out.block m hmB]; exact HH2.out⟩
    rcases (show j = 0 ∨ j = 1 ∨ j = 2 ∨ j = 3 ∨ j = 4 by omega) with rfl | rfl | rfl | rfl | rfl
    · obtain rfl : z = 3 := by omega
      have kc : wr.cell? ⟨m, 15, none⟩ = some (.int .u8 d) := (row_cell HHW.out (i := 15) (by simp)).1
      have BX := Aside0.mk bd
      have HPL := Aside0.mk (hpl 0)
      have HNX := Aside0.mk (show pre4 [a, b, c, d] 1 = (pre4 [a, b, c, d] 0 ++ dec3 d) ++ [46] by simp [pre4])
      have DL := Aside0.mk (dec3_len d)
      generalize pre4 [a, b, c, d] 0 = xs at HO HPL HNX
      have ex : IntKind.i64.wrap d = d := IntWalk.i64_in _ (by omega)
      clear hpl ba bb bc bd hj hz
      go_wp2_with (first
        | (go_at_call 99; ((refine (app_int d BX.out.1 BX.out.2 _ xs wB wr HTB.out HO.out HBW.out (by have := HPL.out; omega)).mono ?_); rintro e w5 ⟨v5, rfl, hR, hb⟩; (have HO5 := Aside0.mk hR); (have HB5 := Aside0.mk hb); clear hR hb))
        | ((with_reducible refine gate_builtin (b := .append) (xs := #[.tmp 39, .tmp 40]) rfl ?_); at_builtin; (refine Kd.R_append (Kd.int .u8) (w0 := wB) wB.heap.size rfl (.tmp 39) (.tmp 40) 22 5 (.int .u8 0) 1 rfl Tryd.underlying22 info5 rfl (by decide) (by omega) v5 (xs ++ dec3 d) 46 [.int .u8 46] (fun _ => True) (fun _ => False) rfl rfl ?aP (fun _ hk => hk.elim) ?aF ?aO ?aB ?aS ?aL ?_; (case aP => exact rfl); (case aB => exact HB5.out); (case aF => exact (fun _ _ => trivial)); (case aO => exact HO5.out); (case aS => exact HB5.out.size); (case aL => have := HPL.out; have := DL.out; rw [List.length_append]; omega); intro v6 w6 ho hb hg hat; (have HO6 := Aside0.mk ho); (have HB6 := Aside0.mk hb); clear ho hb hg hat)))
      go_roundw
      case rel => exact ⟨1, 2, by omega, by omega, rfl, ⟨by rw [HNX.out]; exact HO6.out⟩, HB6⟩
      case measure => simp [intOf]
    · obtain rfl : z = 2 := by omega
      have kc : wr.cell? ⟨m, 14, none⟩ = some (.int .u8 c) := (row_cell HHW.out (i := 14) (by simp)).1
      have BX := Aside0.mk bc
      have HPL := Aside0.mk (hpl 1)
      have HNX := Aside0.mk (show pre4 [a, b, c, d] 2 = (pre4 [a, b, c, d] 1 ++ dec3 c) ++ [46] by simp [pre4])
      have DL := Aside0.mk (dec3_len c)
      generalize pre4 [a, b, c, d] 1 = xs at HO HPL HNX
      have ex : IntKind.i64.wrap c = c := IntWalk.i64_in _ (by omega)
      clear hpl ba bb bc bd hj hz
      go_wp2_with (first
        | (go_at_call 99; ((refine (app_int c BX.out.1 BX.out.2 _ xs wB wr HTB.out HO.out HBW.out (by have := HPL.out; omega)).mono ?_); rintro e w5 ⟨v5, rfl, hR, hb⟩; (have HO5 := Aside0.mk hR); (have HB5 := Aside0.mk hb); clear hR hb))
        | ((with_reducible refine gate_builtin (b := .append) (xs := #[.tmp 39, .tmp 40]) rfl ?_); at_builtin; (refine Kd.R_append (Kd.int .u8) (w0 := wB) wB.heap.size rfl (.tmp 39) (.tmp 40) 22 5 (.int .u8 0) 1 rfl Tryd.underlying22 info5 rfl (by decide) (by omega) v5 (xs ++ dec3 c) 46 [.int .u8 46] (fun _ => True) (fun _ => False) rfl rfl ?aP (fun _ hk => hk.elim) ?aF ?aO ?aB ?aS ?aL ?_; (case aP => exact rfl); (case aB => exact HB5.out); (case aF => exact (fun _ _ => trivial)); (case aO => exact HO5.out); (case aS => exact HB5.out.size); (case aL => have := HPL.out; have := DL.out; rw [List.length_append]; omega); intro v6 w6 ho hb hg hat; (have HO6 := Aside0.mk ho); (have HB6 := Aside0.mk hb); clear ho hb hg hat)))
      go_roundw
      case rel => exact ⟨2, 1, by omega, by omega, rfl, ⟨by rw [HNX.out]; exact HO6.out⟩, HB6⟩
      case measure => simp [intOf]
    · obtain rfl : z = 1 := by omega
      have kc : wr.cell? ⟨m, 13, none⟩ = some (.int .u8 b) := (row_cell HHW.out (i := 13) (by simp)).1
      have BX := Aside0.mk bb
      have HPL := Aside0.mk (hpl 2)
      have HNX := Aside0.mk (show pre4 [a, b, c, d] 3 = (pre4 [a, b, c, d] 2 ++ dec3 b) ++ [46] by simp [pre4])
      have DL := Aside0.mk (dec3_len b)
      generalize pre4 [a, b, c, d] 2 = xs at HO HPL HNX
      have ex : IntKind.i64.wrap b = b := IntWalk.i64_in _ (by omega)
      clear hpl ba bb bc bd hj hz
      go_wp2_with (first
        | (go_at_call 99; ((refine (app_int b BX.out.1 BX.out.2 _ xs wB wr HTB.out HO.out HBW.out (by have := HPL.out; omega)).mono ?_); rintro e w5 ⟨v5, rfl, hR, hb⟩; (have HO5 := Aside0.mk hR); (have HB5 := Aside0.mk hb); clear hR hb))
        | ((with_reducible refine gate_builtin (b := .append) (xs := #[.tmp 39, .tmp 40]) rfl ?_); at_builtin; (refine Kd.R_append (Kd.int .u8) (w0 := wB) wB.heap.size rfl (.tmp 39) (.tmp 40) 22 5 (.int .u8 0) 1 rfl Tryd.underlying22 info5 rfl (by decide) (by omega) v5 (xs ++ dec3 b) 46 [.int .u8 46] (fun _ => True) (fun _ => False) rfl rfl ?aP (fun _ hk => hk.elim) ?aF ?aO ?aB ?aS ?aL ?_; (case aP => exact rfl); (case aB => exact HB5.out); (case aF => exact (fun _ _ => trivial)); (case aO => exact HO5.out); (case aS => exact HB5.out.size); (case aL => have := HPL.out; have := DL.out; rw [List.length_append]; omega); intro v6 w6 ho hb hg hat; (have HO6 := Aside0.mk ho); (have HB6 := Aside0.mk hb); clear ho hb hg hat)))
      go_roundw
      case rel => exact ⟨3, 0, by omega, by omega, rfl, ⟨by rw [HNX.out]; exact HO6.out⟩, HB6⟩
      case measure => simp [intOf]
    · obtain rfl : z = 0 := by omega
      have kc : wr.cell? ⟨m, 12, none⟩ = some (.int .u8 a) := (row_cell HHW.out (i := 12) (by simp)).1
      have BX := Aside0.mk ba
      have HPL := Aside0.mk (hpl 3)
      have HNX := Aside0.mk (show pre4 [a, b, c, d] 4 = (pre4 [a, b, c, d] 3 ++ dec3 a) ++ [46] by simp [pre4])
      have DL := Aside0.mk (dec3_len a)
      generalize pre4 [a, b, c, d] 3 = xs at HO HPL HNX
      have ex : IntKind.i64.wrap a = a := IntWalk.i64_in _ (by omega)
      clear hpl ba bb bc bd hj hz
      go_wp2_with (first
        | (go_at_call 99; ((refine (app_int a BX.out.1 BX.out.2 _ xs wB wr HTB.out HO.out HBW.out (by have := HPL.out; omega)).mono ?_); rintro e w5 ⟨v5, rfl, hR, hb⟩; (have HO5 := Aside0.mk hR); (have HB5 := Aside0.mk hb); clear hR hb))
        | ((with_reducible refine gate_builtin (b := .append) (xs := #[.tmp 39, .tmp 40]) rfl ?_); at_builtin; (refine Kd.R_append (Kd.int .u8) (w0 := wB) wB.heap.size rfl (.tmp 39) (.tmp 40) 22 5 (.int .u8 0) 1 rfl Tryd.underlying22 info5 rfl (by decide) (by omega) v5 (xs ++ dec3 a) 46 [.int .u8 46] (fun _ => True) (fun _ => False) rfl rfl ?aP (fun _ hk => hk.elim) ?aF ?aO ?aB ?aS ?aL ?_; (case aP => exact rfl); (case aB => exact HB5.out); (case aF => exact (fun _ _ => trivial)); (case aO => exact HO5.out); (case aS => exact HB5.out.size); (case aL => have := HPL.out; have := DL.out; rw [List.length_append]; omega); intro v6 w6 ho hb hg hat; (have HO6 := Aside0.mk ho); (have HB6 := Aside0.mk hb); clear ho hb hg hat)))
      go_roundw
      case rel => exact ⟨4, -1, by omega, by omega, rfl, ⟨by rw [HNX.out]; exact HO6.out⟩, HB6⟩
      case measure => simp [intOf]
    · obtain rfl : z = -1 := by omega
      have HPL := Aside0.mk (hpl 4)
      obtain ⟨F, hF⟩ : ∃ F, F = pre4 [a, b, c, d] 4 ++ bytesOf arpa4 := ⟨_, rfl⟩
      obtain ⟨nF, hnF⟩ : ∃ nF, F.length = nF := ⟨_, rfl⟩
      have hF0 : 0 < nF := by rw [← hnF, hF, List.length_append]; show 0 < _ + 13; omega
      have HF := Aside0.mk hF
      have HFE := Aside0.mk hF.symm
      have HNF := Aside0.mk hnF
      generalize pre4 [a, b, c, d] 4 = xs at HO HPL HF
      clear hF hnF hpl ba bb bc bd hj hz
      go_wp2_with (first | ((with_reducible refine gate_builtin (b := .append) (xs := #[.tmp 42, .const (.string (⟨#[105, 110, 45, 97, 100, 100, 114, 46, 97, 114, 112, 97, 46]⟩ : ByteArray))]) rfl ?_); at_builtin; (refine wpList_app_str (w0 := wB) rfl (.tmp 42) (.const (.string (⟨#[105, 110, 45, 97, 100, 100, 114, 46, 97, 114, 112, 97, 46]⟩ : ByteArray))) rfl (⟨#[105, 110, 45, 97, 100, 100, 114, 46, 97, 114, 112, 97, 46]⟩ : ByteArray) _ xs rfl rfl HO.out HBW.out (by have := HPL.out; omega) (by show 13 ≤ 100000; omega) ?_; intro v7 w7 hR7 hb7; rw [show (⟨#[105, 110, 45, 97, 100, 100, 114, 46, 97, 114, 112, 97, 46]⟩ : ByteArray) = arpa4 from rfl, ← HF.out] at hR7; obtain ⟨g7, c7, rfl, hc7, hrow7⟩ := rowQ_of hR7 nF HNF.out hF0; (have hcv := run_convert_bytes_arg (P := Tryd.prog) w7 22 5 Tryd.underlying22 Tryd.underlying5 g7 0 nF c7 F HNF.out (fun i hi => by rw [Nat.zero_add]; exact hrow7 i (by have := HNF.out; omega)) 9 Tryd.underlying9); (have HB7 := Aside0.mk hb7); clear hR7 hrow7 hb7)))
      go_ret2
      exact ⟨by rw [HFE.out]; rfl, HB2.out.trans (below_mono HB7.out HB2.out.size)⟩

end Go.Proofs.YtiilihafcdmccaaDoor.P
/- 'dns.ReverseAddr' at sixteen bytes. -/
namespace Go.Proofs.YtiilihafcdmccaaDoor.P
open Go.RowKit Go.Proofs.YtiilihafcdmccaaDoorW.PrintWords Go.Proofs.YtiilihafcdmccaaDoorW.PrintLast Go.Proofs.YtiilihafcdmccaaDoorW.PrintMore
set_option linter.unusedVariables false
set_option linter.unusedSimpArgs false

def arpa6 : ByteArray := ⟨#[105, 112, 54, 46, 97, 114, 112, 97, 46]⟩
def hexN (n : Nat) : Int := if n < 10 then 48 + (n : Int) else 87 + (n : Int)
def dig6 (v : Int) : List Int := [hexN (v % 16).toNat, 46, hexN (v / 16).toNat, 46]
/-- The digits so far, the last one first. -/
def pre6 (B : List Int) (j : Nat) : List Int := (B.reverse.take j).flatMap dig6
theorem pre6_len (B : List Int) (j : Nat) (hB : B.length = 16) : (pre6 B j).length ≤ 64 := by
  have h : ∀ L : List Int, (L.flatMap dig6).length = 4 * L.length := fun L => by
    induction L with
    | nil => simp
    | cons x L ih => simp only [List.flatMap_cons, List.length_append, List.length_cons, ih, dig6, List.length_nil]; omega
  have h4 : (B.reverse.take j).length ≤ 16 := by rw [List.length_take, List.length_reverse, hB]; exact Nat.min_le_right _ _
  unfold pre6
  rw [h]
  omega
theorem pre6_succ (B : List Int) (j : Nat) (hB : B.length = 16) (hj : j < 16) : pre6 B (j + 1) = pre6 B j ++ dig6 (B[15 - j]'(by omega)) := by
  unfold pre6
  have hr : j < B.reverse.length := by simp [hB]; omega
  rw [List.take_succ_eq_append_getElem hr, List.flatMap_append, List.flatMap_singleton, List.getElem_reverse]
  have e : B.length - 1 - j = 15 - j := by omega
  simp only [e]
theorem hex_at (n : Nat) (hn : n < 16) : ∀ h : n < (⟨#[48, 49, 50, 51, 52, 53, 54, 55, 56, 57, 97, 98, 99, 100, 101, 102]⟩ : ByteArray).size, (((⟨#[48, 49, 50, 51, 52, 53, 54, 55, 56, 57, 97, 98, 99, 100, 101, 102]⟩ : ByteArray)[n]'h).toNat : Int) = hexN n := by
  intro h
  rcases (show n = 0 ∨ n = 1 ∨ n = 2 ∨ n = 3 ∨ n = 4 ∨ n = 5 ∨ n = 6 ∨ n = 7 ∨ n = 8 ∨ n = 9 ∨ n = 10 ∨ n = 11 ∨ n = 12 ∨ n = 13 ∨ n = 14 ∨ n = 15 by omega) with rfl | rfl | rfl | rfl | rfl | rfl | rfl | rfl | rfl | rfl | rfl | rfl | rfl | rfl | rfl | rfl <;> rfl
theorem low4 (v : Int) (h0 : 0 ≤ v) (h1 : v < 256) : Go.bits .and .u8 v 15 = v % 16 := by
  have h : ∀ n : Fin 256, Go.bits .and .u8 (n.val : Int) 15 = (n.val : Int) % 16 := by decide +kernel
  have := h ⟨v.toNat, by omega⟩
  simpa [Int.toNat_of_nonneg h0] using this
theorem lit4 (W : World) (x0 x1 x2 x3 : Int) (e : TypeId) : ReadsRow (Kd.K (Kd.int .u8) (W.alloc (.cells #[.int .u8 x0, .int .u8 x1, .int .u8 x2, .int .u8 x3] e))) (Kd.int .u8).sz (W.alloc (.cells #[.int .u8 x0, .int .u8 x1, .int .u8 x2, .int .u8 x3] e)) (some ⟨W.heap.size, 0, none⟩) 4 [x0, x1, x2, x3] := by
  have h := own_lit W W.heap.size e .u8 [x0, x1, x2, x3] (Nat.le_refl _) (by simp)
  exact (Kd.R_reads' (Kd.R_of_own (ok := fun _ => True) h (fun _ _ => trivial))).2.2
theorem lit4d (W : World) (x0 x1 x2 x3 : Int) (e : TypeId) : ReadsRow (Kd.K (Kd.int .u8) (W.alloc (.cells #[.int .u8 x0, .int .u8 x1, .int .u8 x2, .int .u8 x3] e)).drew) (Kd.int .u8).sz (W.alloc (.cells #[.int .u8 x0, .int .u8 x1, .int .u8 x2, .int .u8 x3] e)).drew (some ⟨W.heap.size, 0, none⟩) 4 [x0, x1, x2, x3] := by
  exact Kd.C_below (lit4 W x0 x1 x2 x3 e) ⟨rfl, rfl, rfl, Nat.le_refl _, fun _ _ => rfl⟩
theorem hb6 (W : World) (o : Obj) : Below W.heap.size W (W.alloc o).drew := (below_alloc (Below.refl _ _) o).trans ⟨rfl, rfl, rfl, Nat.le_refl _, fun _ _ => rfl⟩
set_option maxRecDepth 100000 in
set_option maxHeartbeats 4000000 in
theorem rev6 (s : ByteArray) (B : List Int) (p4 p6 : Addr) (hi lo : Int) (w : World) (hB : IsB B) (hBl : B.length = 16) (hE : be8 hi ++ be8 lo = B) (hM : mapd B = false) (hZ : ZZ p4 p6 w)
    (hP : ∀ W : World, Below w.heap.size w W → Calls Tryd.prog 125 #[.string s] W fun e w' => e = .returned (.tuple #[adr hi lo p6, .nilIface]) ∧ Below W.heap.size W w') :
    Calls Tryd.prog 73 #[.string s] w fun e w' => e = .returned (.tuple #[.string (strOfNums (pre6 B 16 ++ bytesOf arpa6)), .nilIface]) ∧ Below w.heap.size w w' := by
  have HP := Aside0.mk (parse_ip s hi lo p6 p4 p6 w (.inr rfl) hZ hP)
  have HE := Aside0.mk hE
  have HMd := Aside0.mk hM
  have HBB := Aside0.mk hB
  have HBl := Aside0.mk hBl
  have heq : ∀ (m o n c : Nat) (W : World), (binOp .eql 120 (.slice (some ⟨m, o, none⟩) n c) (.slice none 0 0)).run Tryd.prog W = .ok (.bool false) W := fun m o n c W => by kernel_rfl
  have hne : ∀ (W : World), (binOp .neq 120 (.slice none 0 0) (.slice none 0 0)).run Tryd.prog W = .ok (.bool false) W := fun W => by kernel_rfl
  clear hZ hB hP hE hM hBl
  go_enter Tryd.func73, Tryd.ntmps73
  go_wp2_with (first
    | (go_at_call 97; ((refine HP.out.mono ?_); rintro e w1 ⟨m, rfl, hm, hh, hb⟩; rw [HE.out] at hh; (have HH := Aside0.mk hh); (have HB1 := Aside0.mk hb); clear hh hb))
    | (go_at_call 98; ((refine (to4 B m _ HBl.out HH.out).mono ?_); rintro e w2 ⟨rfl, ⟨nd, rfl⟩⟩; rw [HMd.out, if_neg (by decide)]; (have HH2 : Aside0 ((w1.drewN nd).heap[m]? = some (.cells (rowV B) 155 (0, 0))) := HH); (have HB2 := Aside0.mk (pw_below_drewN HB1.out nd)); generalize w1.drewN nd = wB at HH2 HB2 ⊢))
    | ((with_reducible refine gate_dst (N := 46) rfl ?_); (refine R_makec (Kd.int .u8) _ 5 rfl (N := 46) rfl 22 _ _ rfl 0 73 rfl rfl (by omega) Tryd.underlying22 (.int .u8 0) 1 info5 rfl (by decide) (by omega) 0 (ok := fun _ => True) (okp := fun _ => True) rfl (fun _ hk => hk) trivial (by omega) (by omega) (Below.refl _ _) (Nat.le_refl _) ?_; intro v3 w3 ho hb hg_ hnew_; clear hg_ hnew_; (have HO3 := Aside0.mk ho); (have HB3 := Aside0.mk hb); clear ho hb)))
  go_loopw [8, 9] (fun v8 v9 W => ∃ (j : Nat) (z : Int), j ≤ 16 ∧ z = 15 - (j : Int) ∧ v9 = .int .i64 z ∧ Aside0 (Kd.R (Kd.int .u8) 5 W wB.heap.size (fun _ => True) v8 (pre6 B j)) ∧ Aside0 (Below wB.heap.size wB W)) (fun v8 v9 _ => (intOf v9 + 1).toNat)
  case atStart => exact ⟨0, 15, by omega, rfl, rfl, HO3, HB3⟩
  case round =>
    clear HO3 HB3
    obtain ⟨j, z, hj, hz, rfl, HO, HBW⟩ := hrel
    have hmB : m < wB.heap.size := heap_lt HH2.out
    have HHW : Aside0 (wr.heap[m]? = some (.cells (rowV B) 155 (0, 0))) := ⟨by rw [HBW.out.block m hmB]; exact HH2.out⟩
    by_cases hj16 : j = 16
    · subst hj16
      obtain rfl : z = -1 := by omega
      have HPL := Aside0.mk (pre6_len B 16 HBl.out)
      obtain ⟨F, hF⟩ : ∃ F, F = pre6 B 16 ++ bytesOf arpa6 := ⟨_, rfl⟩
      obtain ⟨nF, hnF⟩ : ∃ nF, F.length = nF := ⟨_, rfl⟩
      have hF0 : 0 < nF := by rw [← hnF, hF, List.length_append]; show 0 < _ + 9; omega
      have HF := Aside0.mk hF
      have HFE := Aside0.mk hF.symm
      have HNF := Aside0.mk hnF
      generalize pre6 B 16 = xs at HO HPL HF
      clear hF hnF hj hz
      go_wp2_with (first | ((with_reducible refine gate_builtin (b := .append) (xs := #[.tmp 67, .const (.string (⟨#[105, 112, 54, 46, 97, 114, 112, 97, 46]⟩ : ByteArray))]) rfl ?_); at_builtin; (refine wpList_app_str (w0 := wB) rfl (.tmp 67) (.const (.string (⟨#[105, 112, 54, 46, 97, 114, 112, 97, 46]⟩ : ByteArray))) rfl (⟨#[105, 112, 54, 46, 97, 114, 112, 97, 46]⟩ : ByteArray) _ xs rfl rfl HO.out HBW.out (by have := HPL.out; omega) (by show 9 ≤ 100000; omega) ?_; intro v7 w7 hR7 hb7; rw [show (⟨#[105, 112, 54, 46, 97, 114, 112, 97, 46]⟩ : ByteArray) = arpa6 from rfl, ← HF.out] at hR7; obtain ⟨g7, c7, rfl, hc7, hrow7⟩ := rowQ_of hR7 nF HNF.out hF0; (have hcv := run_convert_bytes_arg (P := Tryd.prog) w7 22 5 Tryd.underlying22 Tryd.underlying5 g7 0 nF c7 F HNF.out (fun i hi => by rw [Nat.zero_add]; exact hrow7 i (by have := HNF.out; omega)) 9 Tryd.underlying9); (have HB7 := Aside0.mk hb7); clear hR7 hrow7 hb7)))
      go_ret2
      exact ⟨by rw [HFE.out]; rfl, HB2.out.trans (below_mono HB7.out HB2.out.size)⟩
    · obtain ⟨k, hk, hkz⟩ : ∃ k : Nat, k = 15 - j ∧ (k : Int) = z := ⟨15 - j, rfl, by omega⟩
      subst hkz
      have hk16 : k < 16 := by omega
      have hks : k < B.length := by rw [HBl.out]; exact hk16
      have hk0 : (0 : Int) ≤ (k : Int) := by omega
      have hk0' : ¬ ((k : Int) < 0) := by omega
      have hki : (k : Int) < 16 := by omega
      obtain ⟨v, hv⟩ : ∃ v, v = B[k]'hks := ⟨_, rfl⟩
      have kc : wr.cell? ⟨m, k, none⟩ = some (.int .u8 v) := by rw [hv]; exact (row_cell HHW.out hks).1
      have bv : 0 ≤ v ∧ v < 256 := by rw [hv]; exact HBB.out _ (List.getElem_mem _)
      obtain ⟨l, hl⟩ : ∃ l : Nat, (l : Int) = v % 16 := ⟨(v % 16).toNat, by omega⟩
      obtain ⟨u, hu⟩ : ∃ u : Nat, (u : Int) = v / 16 := ⟨(v / 16).toNat, by omega⟩
      have hl16 : l < 16 := by omega
      have hu16 : u < 16 := by omega
      have el : Go.bits .and .u8 v 15 = (l : Int) := by rw [low4 v bv.1 bv.2, hl]
      have el1 : v % 16 = (l : Int) := hl.symm
      have eu1 : v / 16 = (u : Int) := hu.symm
      have dl := hex_at l hl16
      have du := hex_at u hu16
      have HNX : Aside0 (pre6 B (j + 1) = pre6 B j ++ [hexN l, 46, hexN u, 46]) := ⟨by
        rw [pre6_succ B j HBl.out (by omega)]
        subst hk
        rw [← hv]
        unfold dig6
        rw [el1, eu1]
        rfl⟩
      have HPL := Aside0.mk (pre6_len B j HBl.out)
      have HPL6 : ((pre6 B j).length + 4) * 1 ≤ 140737488355328 := by have := HPL.out; omega
      have hzk : (k : Int) = 15 - (j : Int) := hz
      have hw1 : IntKind.i64.wrap ((k : Int) - 1) = (k : Int) - 1 := IntWalk.i64_in _ (by omega)
      clear hz hv hl hu
      have HJ := Aside0.mk (And.intro hj (And.intro hj16 hzk))
      clear hj hj16 hzk hk
      go_wp2
      go_region_held3 (fun _ => True) (trivial) (first | (refine Kd.R_append_rows_step (Kd.int .u8) (w0 := wB) wB.heap.size ?aW (.tmp 58) (.tmp 65) 22 5 (.int .u8 0) 1 ?aO Tryd.underlying22 info5 rfl (by decide) (by omega) u8 (pre6 B j) [hexN l, 46, hexN u, 46] _ 4 4 (fun _ => True) (fun _ => False) ?aP ?aQ (Kd.R_below HO.out (hb6 _ _)) (lit4d _ _ _ _ _ _) (fun _ _ h => h) (fun _ h => h.elim) (fun _ _ => trivial) (below_step HBW.out (hb6 _ _)) (below_step HBW.out (hb6 _ _)).size HPL6 ?_; (case aW => rfl); (case aO => rfl); (case aP => rfl); (case aQ => rfl); intro v7 w7 hR7 hb7 hg7 hn7; clear hg7 hn7))
      all_goals
        have HR7 : Aside0 (Kd.R (Kd.int .u8) 5 w7 wB.heap.size (fun _ => True) v7 (pre6 B (j + 1))) := ⟨by rw [HNX.out]; exact hR7⟩
        have HB7 := Aside0.mk hb7
        clear hR7 hb7
        go_wp2
        obtain ⟨a1, a2, a3⟩ := HJ.out
        exact ⟨⟨j + 1, (k : Int) - 1, by omega, by omega, rfl, HR7, HB7⟩, by simp [intOf]⟩

end Go.Proofs.YtiilihafcdmccaaDoor.P
/- netip.AddrFrom16: sixteen octets as two numbers. -/
namespace Go.Proofs.YtiilihafcdmccaaDoor.P
open Go.RowKit Go.Proofs.YtiilihafcdmccaaDoorW.PrintWords Go.Proofs.YtiilihafcdmccaaDoorW.PrintLast Go.Proofs.YtiilihafcdmccaaDoorW.PrintMore
set_option linter.unusedVariables false
set_option linter.unusedSimpArgs false

/-- Eight octets as a number. -/
def num8 (l : List Int) : Int := l.foldl (fun a c => a * 256 + c) 0
theorem be8_num8 (l : List Int) (h : l.length = 8) (hB : IsB l) : be8 (num8 l) = l := by
  match l, h with
  | [a, b, c, d, e, f, g, i], _ =>
    have ha := hB a (by simp)
    have hb := hB b (by simp)
    have hc := hB c (by simp)
    have hd := hB d (by simp)
    have he := hB e (by simp)
    have hf := hB f (by simp)
    have hg := hB g (by simp)
    have hi := hB i (by simp)
    obtain ⟨x, hx⟩ : ∃ x, x = num8 [a, b, c, d, e, f, g, i] := ⟨_, rfl⟩
    have hx2 : x = ((((((a * 256 + b) * 256 + c) * 256 + d) * 256 + e) * 256 + f) * 256 + g) * 256 + i := by rw [hx]; simp [num8]
    rw [← hx]
    unfold be8
    have q0 : x / 72057594037927936 % 256 = a := by omega
    have q1 : x / 281474976710656 % 256 = b := by omega
    have q2 : x / 1099511627776 % 256 = c := by omega
    have q3 : x / 4294967296 % 256 = d := by omega
    have q4 : x / 16777216 % 256 = e := by omega
    have q5 : x / 65536 % 256 = f := by omega
    have q6 : x / 256 % 256 = g := by omega
    have q7 : x % 256 = i := by omega
    rw [q0, q1, q2, q3, q4, q5, q6, q7]
theorem bits_swap (k : IntKind) (x y : Int) : Go.bits .or k x y = Go.bits .or k y x := by simp only [bits, BitVec.or_comm]
theorem or_low {x y z : Int} (i : Nat) (hi : i ≤ 63) (p : Int) (hp : p = 2 ^ i) (hx0 : 0 ≤ x) (hx : x < p) (hy0 : 0 ≤ y) (hz : z = y * p) (hz1 : z < 18446744073709551616) (hxu : x < 18446744073709551616) : Go.bits .or .u64 x z = z + x := by
  rw [bits_swap]
  subst hp
  refine bits_join .u64 64 (by decide) (fun n a b => IntWalk.u64_in _ (by omega)) i z x ?_ ?_ ?_ hx0 hx ?_
  · rw [hz]; exact Int.mul_nonneg hy0 (by omega)
  · rw [hz]; exact Int.mul_emod_left _ _
  · omega
  · omega
theorem num8_eq {b0 b1 b2 b3 b4 b5 b6 b7 : Int} (h0 : 0 ≤ b0 ∧ b0 < 256) (h1 : 0 ≤ b1 ∧ b1 < 256) (h2 : 0 ≤ b2 ∧ b2 < 256) (h3 : 0 ≤ b3 ∧ b3 < 256) (h4 : 0 ≤ b4 ∧ b4 < 256) (h5 : 0 ≤ b5 ∧ b5 < 256) (h6 : 0 ≤ b6 ∧ b6 < 256) (h7 : 0 ≤ b7 ∧ b7 < 256) :
    Go.bits .or .u64 (Go.bits .or .u64 (Go.bits .or .u64 (Go.bits .or .u64 (Go.bits .or .u64 (Go.bits .or .u64 (Go.bits .or .u64 b7 (b6 * 256)) (b5 * 65536)) (b4 * 16777216)) (b3 * 4294967296)) (b2 * 1099511627776)) (b1 * 281474976710656)) (b0 * 72057594037927936) = num8 [b0, b1, b2, b3, b4, b5, b6, b7] := by
  rw [or_low 8 (by omega) 256 rfl h7.1 (by omega) h6.1 rfl (by omega) (by omega)]
  rw [or_low 16 (by omega) 65536 rfl (by omega) (by omega) h5.1 rfl (by omega) (by omega)]
  rw [or_low 24 (by omega) 16777216 rfl (by omega) (by omega) h4.1 rfl (by omega) (by omega)]
  rw [or_low 32 (by omega) 4294967296 rfl (by omega) (by omega) h3.1 rfl (by omega) (by omega)]
  rw [or_low 40 (by omega) 1099511627776 rfl (by omega) (by omega) h2.1 rfl (by omega) (by omega)]
  rw [or_low 48 (by omega) 281474976710656 rfl (by omega) (by omega) h1.1 rfl (by omega) (by omega)]
  rw [or_low 56 (by omega) 72057594037927936 rfl (by omega) (by omega) h0.1 rfl (by omega) (by omega)]
  simp [num8]
  omega
set_option maxRecDepth 100000 in
set_option maxHeartbeats 2000000 in
theorem get64 (b0 b1 b2 b3 b4 b5 b6 b7 : Int) (m o n cp e : Nat) (A C : List Int) (w : World) (hB : IsB [b0, b1, b2, b3, b4, b5, b6, b7]) (hn : 8 ≤ n) (hA : A.length = o) (ho : o = 0 ∨ o = 8) (hm : w.heap[m]? = some (.cells (rowV (A ++ ([b0, b1, b2, b3, b4, b5, b6, b7] ++ C))) e (0, 0))) :
    Calls Tryd.prog 170 #[.slice (some ⟨m, o, none⟩) n cp] w fun e' w' => e' = .returned (.int .u64 (num8 [b0, b1, b2, b3, b4, b5, b6, b7])) ∧ Drawn0 w w' := by
  have hn8i : (8 : Int) ≤ (n : Int) := by omega
  have hl : (A ++ ([b0, b1, b2, b3, b4, b5, b6, b7] ++ C)).length = o + 8 + C.length := by simp; omega
  have k0 : w.cell? ⟨m, o + 0, none⟩ = some (.int .u8 b0) := by rw [(row_cell hm (i := o + 0) (by omega)).1, List.getElem_append_right (by omega)]; simp [hA]
  have k1 : w.cell? ⟨m, o + 1, none⟩ = some (.int .u8 b1) := by rw [(row_cell hm (i := o + 1) (by omega)).1, List.getElem_append_right (by omega)]; simp [hA]
  have k2 : w.cell? ⟨m, o + 2, none⟩ = some (.int .u8 b2) := by rw [(row_cell hm (i := o + 2) (by omega)).1, List.getElem_append_right (by omega)]; simp [hA]
  have k3 : w.cell? ⟨m, o + 3, none⟩ = some (.int .u8 b3) := by rw [(row_cell hm (i := o + 3) (by omega)).1, List.getElem_append_right (by omega)]; simp [hA]
  have k4 : w.cell? ⟨m, o + 4, none⟩ = some (.int .u8 b4) := by rw [(row_cell hm (i := o + 4) (by omega)).1, List.getElem_append_right (by omega)]; simp [hA]
  have k5 : w.cell? ⟨m, o + 5, none⟩ = some (.int .u8 b5) := by rw [(row_cell hm (i := o + 5) (by omega)).1, List.getElem_append_right (by omega)]; simp [hA]
  have k6 : w.cell? ⟨m, o + 6, none⟩ = some (.int .u8 b6) := by rw [(row_cell hm (i := o + 6) (by omega)).1, List.getElem_append_right (by omega)]; simp [hA]
  have k7 : w.cell? ⟨m, o + 7, none⟩ = some (.int .u8 b7) := by rw [(row_cell hm (i := o + 7) (by omega)).1, List.getElem_append_right (by omega)]; simp [hA]
  have w0 : IntKind.u64.wrap b0 = b0 := IntWalk.u64_in _ (by have := hB b0 (by simp); omega)
  have w1 : IntKind.u64.wrap b1 = b1 := IntWalk.u64_in _ (by have := hB b1 (by simp); omega)
  have w2 : IntKind.u64.wrap b2 = b2 := IntWalk.u64_in _ (by have := hB b2 (by simp); omega)
  have w3 : IntKind.u64.wrap b3 = b3 := IntWalk.u64_in _ (by have := hB b3 (by simp); omega)
  have w4 : IntKind.u64.wrap b4 = b4 := IntWalk.u64_in _ (by have := hB b4 (by simp); omega)
  have w5 : IntKind.u64.wrap b5 = b5 := IntWalk.u64_in _ (by have := hB b5 (by simp); omega)
  have w6 : IntKind.u64.wrap b6 = b6 := IntWalk.u64_in _ (by have := hB b6 (by simp); omega)
  have w7 : IntKind.u64.wrap b7 = b7 := IntWalk.u64_in _ (by have := hB b7 (by simp); omega)
  have v6 : IntKind.u64.wrap (b6 * 256) = b6 * 256 := IntWalk.u64_in _ (by have := hB b6 (by simp); omega)
  have v5 : IntKind.u64.wrap (b5 * 65536) = b5 * 65536 := IntWalk.u64_in _ (by have := hB b5 (by simp); omega)
  have v4 : IntKind.u64.wrap (b4 * 16777216) = b4 * 16777216 := IntWalk.u64_in _ (by have := hB b4 (by simp); omega)
  have v3 : IntKind.u64.wrap (b3 * 4294967296) = b3 * 4294967296 := IntWalk.u64_in _ (by have := hB b3 (by simp); omega)
  have v2 : IntKind.u64.wrap (b2 * 1099511627776) = b2 * 1099511627776 := IntWalk.u64_in _ (by have := hB b2 (by simp); omega)
  have v1 : IntKind.u64.wrap (b1 * 281474976710656) = b1 * 281474976710656 := IntWalk.u64_in _ (by have := hB b1 (by simp); omega)
  have v0 : IntKind.u64.wrap (b0 * 72057594037927936) = b0 * 72057594037927936 := IntWalk.u64_in _ (by have := hB b0 (by simp); omega)
  have HE := Aside0.mk (num8_eq (hB b0 (by simp)) (hB b1 (by simp)) (hB b2 (by simp)) (hB b3 (by simp)) (hB b4 (by simp)) (hB b5 (by simp)) (hB b6 (by simp)) (hB b7 (by simp)))
  clear hm hB hl hA
  rcases ho with rfl | rfl
  · simp only [Nat.zero_add] at k0 k1 k2 k3 k4 k5 k6 k7
    go_enter Tryd.func170, Tryd.ntmps170
    go_wp2
    go_quiet (fail)
    rw [HE.out]
    go_wp2
    go_ret
    exact ⟨rfl, ⟨nq, rfl⟩⟩
  · simp only [Nat.reduceAdd, Nat.add_zero] at k0 k1 k2 k3 k4 k5 k6 k7
    go_enter Tryd.func170, Tryd.ntmps170
    go_wp2
    go_quiet (fail)
    rw [HE.out]
    go_wp2
    go_ret
    exact ⟨rfl, ⟨nq, rfl⟩⟩
set_option maxRecDepth 100000 in
set_option maxHeartbeats 2000000 in
/-- AddrFrom16. -/
theorem adr16 (b0 b1 b2 b3 b4 b5 b6 b7 c0 c1 c2 c3 c4 c5 c6 c7 : Int) (p4 p6 : Addr) (w : World) (hB : IsB [b0, b1, b2, b3, b4, b5, b6, b7]) (hC : IsB [c0, c1, c2, c3, c4, c5, c6, c7]) (hZ : ZZ p4 p6 w) :
    Calls Tryd.prog 160 #[.agg (rowV [b0, b1, b2, b3, b4, b5, b6, b7, c0, c1, c2, c3, c4, c5, c6, c7])] w fun e w' => e = .returned (adr (num8 [b0, b1, b2, b3, b4, b5, b6, b7]) (num8 [c0, c1, c2, c3, c4, c5, c6, c7]) p6) ∧ Below w.heap.size w w' := by
  have z6 := hZ.z6
  have hl4 : 14 < w.heap.size := World.block_lt_of_cell? w _ z6
  clear hZ
  go_enter Tryd.func160, Tryd.ntmps160
  go_wp2
  have hrow : ∀ (n : Nat) (X : Obj), (((w.alloc (Obj.cells (rowV ([b0, b1, b2, b3, b4, b5, b6, b7] ++ [c0, c1, c2, c3, c4, c5, c6, c7])) 155)).alloc X).drewN n).heap[w.heap.size]? = some (.cells (rowV ([b0, b1, b2, b3, b4, b5, b6, b7] ++ [c0, c1, c2, c3, c4, c5, c6, c7])) 155 (0, 0)) := fun n X => heap_alloc2_old w _ X
  refine wp_region_quiet_tail 7 (by kernel_rfl) (by kernel_rfl) ?_
  simp only [List.take_succ_cons, List.take_zero, List.drop_succ_cons, List.drop_zero]
  repeat (go_big_quiet_step (fail))
  go_big_quiet_want
  go_big_quiet_op
  apply Exists.intro
  refine ⟨fun _ => ?hcall, ?hgo⟩
  case hcall =>
    go_at_call 170
    refine (get64 b0 b1 b2 b3 b4 b5 b6 b7 w.heap.size 0 8 16 155 [] [c0, c1, c2, c3, c4, c5, c6, c7] _ hB (by omega) rfl (.inl rfl) (hrow _ _)).mono ?_
    rintro e w' ⟨rfl, ⟨nd, rfl⟩⟩
    exact ⟨rfl, _, World.drewN_drewN _ _ _⟩
  case hgo =>
  go_big_quiet_on
  repeat (go_big_quiet_step (fail))
  go_big_quiet_want
  go_big_quiet_op
  apply Exists.intro
  refine ⟨fun _ => ?hcall, ?hgo⟩
  case hcall =>
    go_at_call 170
    refine (get64 c0 c1 c2 c3 c4 c5 c6 c7 w.heap.size 8 8 8 155 [b0, b1, b2, b3, b4, b5, b6, b7] [] _ hC (by omega) rfl (.inr rfl) (hrow _ _)).mono ?_
    rintro e w' ⟨rfl, ⟨nd, rfl⟩⟩
    exact ⟨rfl, _, World.drewN_drewN _ _ _⟩
  case hgo =>
  go_big_quiet_on
  repeat (go_big_quiet_step (fail))
  refine wpQuiet_nil ?_
  intro w2 hw2
  obtain ⟨nq, rfl⟩ := hw2
  have hq : ∀ (A : Obj), (((w.alloc A).alloc (Obj.cells (adrV 0 0 none) 152)).drewN nq).heap[w.heap.size + 1]? = some (.cells (adrV 0 0 none) 152 (0, 0)) := fun A => heap_alloc2_new w A _
  go_wp2
  refine bodyPost_ret (results_cell_row rfl _ _ (w.heap.size + 1) 152 (adrV (num8 [b0, b1, b2, b3, b4, b5, b6, b7]) (num8 [c0, c1, c2, c3, c4, c5, c6, c7]) (some p6)) (0, 0) _ rfl (adrV_set3 (hq _) _ _ _) Tryd.underlying152 rfl (by kernel_rfl)) rfl ?_
  exact ⟨rfl, set3_below _ _ _ (by omega) (pw_below_drewN (below_alloc (below_alloc (Below.refl _ _) _) _) _)⟩

end Go.Proofs.YtiilihafcdmccaaDoor.P
/- The text of an address of sixteen bytes, and its reader's loop of digits. -/
namespace Go.Proofs.YtiilihafcdmccaaDoor.P
open Go.RowKit Go.Proofs.YtiilihafcdmccaaDoorW.PrintWords Go.Proofs.YtiilihafcdmccaaDoorW.PrintLast Go.Proofs.YtiilihafcdmccaaDoorW.PrintMore
set_option linter.unusedVariables false
set_option linter.unusedSimpArgs false

def hexv (c : Int) : Int := if c ≤ 57 then c - 48 else c - 87
def isHx (c : Int) : Prop := (48 ≤ c ∧ c ≤ 57) ∨ (97 ≤ c ∧ c ≤ 102)
def valH (g : List Int) : Int := g.foldl (fun a c => a * 16 + hexv c) 0
def GoodG (g : List Int) : Prop := 1 ≤ g.length ∧ g.length ≤ 4 ∧ ∀ c ∈ g, isHx c
/-- The text from the group k on; f: the two colons stand ahead of the group f. -/
def restT (f : Int) : Nat → List (List Int) → List Int
  | _, [] => []
  | k, g :: gs => g ++ ((if (k : Int) + 1 = f then [58, 58] else if gs = [] then [] else [58]) ++ restT f (k + 1) gs)
def txt6 (f : Int) (gs : List (List Int)) : List Int := (if f = 0 then [58, 58] else []) ++ restT f 0 gs
def eAt (f : Int) (k : Nat) : Int := if 0 ≤ f ∧ f ≤ k then 2 * f else -1
def bys (gs : List (List Int)) : List Int := gs.flatMap fun g => [valH g / 256, valH g % 256]
def mem6 (gs : List (List Int)) (k : Nat) : List Int := bys (gs.take k) ++ List.replicate (16 - 2 * k) 0
theorem hexv_range {c : Int} (h : isHx c) : 0 ≤ hexv c ∧ hexv c < 16 := by unfold isHx at h; unfold hexv; split <;> omega
theorem valH_snoc (g : List Int) (c : Int) : valH (g ++ [c]) = valH g * 16 + hexv c := by unfold valH; rw [List.foldl_append]; rfl
theorem valH_take {g : List Int} {j : Nat} (h : j < g.length) : valH (g.take (j + 1)) = valH (g.take j) * 16 + hexv g[j] := by rw [List.take_succ_eq_append_getElem h, valH_snoc]
theorem valH_range (g : List Int) (h : ∀ c ∈ g, isHx c) : ∀ j, j ≤ g.length → 0 ≤ valH (g.take j) ∧ valH (g.take j) < 16 ^ j := by
  intro j
  induction j with
  | zero => intro _; simp [valH]
  | succ j ih =>
    intro hj
    obtain ⟨a, b⟩ := ih (by omega)
    rw [valH_take (by omega)]
    obtain ⟨c, d⟩ := hexv_range (h _ (List.getElem_mem (show j < g.length by omega)))
    rw [Int.pow_succ]
    omega
theorem restT_hex (f : Int) (k : Nat) (g : List Int) (gs : List (List Int)) (hg : GoodG g) : ∃ c R, isHx c ∧ restT f k (g :: gs) = c :: R := by
  obtain ⟨h1, h2, h3⟩ := hg
  cases g with
  | nil => simp at h1
  | cons c g => exact ⟨c, _, h3 c (by simp), rfl⟩
theorem bys_len (gs : List (List Int)) : (bys gs).length = 2 * gs.length := by
  unfold bys
  induction gs with
  | nil => rfl
  | cons g gs ih => rw [List.flatMap_cons, List.length_append, ih]; simp; omega
theorem mem6_len {gs : List (List Int)} {k : Nat} (hk : k ≤ gs.length) (h8 : gs.length ≤ 8) : (mem6 gs k).length = 16 := by
  unfold mem6
  rw [List.length_append, bys_len, List.length_take, List.length_replicate]
  omega
theorem mem6_step {gs : List (List Int)} {k : Nat} (hk : k < gs.length) (h8 : gs.length ≤ 8) : ((mem6 gs k).set (2 * k) (valH gs[k] / 256)).set (2 * k + 1) (valH gs[k] % 256) = mem6 gs (k + 1) := by
  have hl : (bys (gs.take k)).length = 2 * k := by rw [bys_len, List.length_take]; omega
  obtain ⟨r, hr⟩ : ∃ r, 16 - 2 * k = r + 2 := ⟨16 - 2 * k - 2, by omega⟩
  have hr2 : 16 - 2 * (k + 1) = r := by omega
  unfold mem6
  rw [hr, hr2, List.take_succ_eq_append_getElem hk]
  have hb : bys (gs.take k ++ [gs[k]]) = bys (gs.take k) ++ [valH gs[k] / 256, valH gs[k] % 256] := by unfold bys; rw [List.flatMap_append, List.flatMap_singleton]
  rw [hb, List.set_append_right _ _ (by omega), List.set_append_right _ _ (by omega), hl]
  simp [List.replicate_succ]
theorem idx_none (s : ByteArray) (h : ∀ c ∈ bytesOf s, c ≠ 37) : Lib.indexByte s.data.toList (37 : Int).toNat.toUInt8 = -1 := by
  have : ∀ l : List UInt8, (∀ c ∈ l, c ≠ 37) → Lib.indexByte l (37 : Int).toNat.toUInt8 = -1 := by
    intro l
    induction l with
    | nil => intro _; rfl
    | cons b l ih =>
      intro hl
      have hb : b ≠ 37 := hl b (by simp)
      have : (b == (37 : Int).toNat.toUInt8) = false := by
        rw [show ((37 : Int).toNat.toUInt8 : UInt8) = 37 from rfl]
        exact beq_eq_false_iff_ne.mpr hb
      unfold Lib.indexByte
      rw [this, ih (fun c hc => hl c (by simp [hc]))]
      rfl
  refine this _ fun c hc => ?_
  intro hc37
  subst hc37
  exact h 37 (List.mem_map.2 ⟨37, hc, rfl⟩) rfl
theorem restT_len (f : Int) (gs : List (List Int)) (hG : ∀ g ∈ gs, GoodG g) : ∀ k, (restT f k gs).length ≤ 6 * gs.length := by
  induction gs with
  | nil => intro k; simp [restT]
  | cons g gs ih =>
    intro k
    have h := ih (fun g' hg' => hG g' (by simp [hg'])) (k + 1)
    have hg := (hG g (by simp)).2.1
    have hs : (if (k : Int) + 1 = f then [58, 58] else if gs = [] then [] else [58] : List Int).length ≤ 2 := by split; simp; split <;> simp
    simp only [restT, List.length_append, List.length_cons]
    omega
/-- What the reader knows of the world: its result's cells, the sixteen octets. -/
structure M6 (w W : World) (L : List Int) : Prop where
  r : W.heap[w.heap.size]? = some (.cells (adrV 0 0 none) 152 (0, 0))
  o : W.heap[w.heap.size + 1]? = some (.cells (rowV L) 155 (0, 0))
  b : Below w.heap.size w W
theorem M6.start (w : World) : M6 w ((w.alloc (Obj.cells #[Value.int IntKind.u64 0, Value.int IntKind.u64 0, Value.pointer none] 152)).alloc (Obj.cells #[Value.int IntKind.u8 0, Value.int IntKind.u8 0, Value.int IntKind.u8 0, Value.int IntKind.u8 0, Value.int IntKind.u8 0, Value.int IntKind.u8 0, Value.int IntKind.u8 0, Value.int IntKind.u8 0, Value.int IntKind.u8 0, Value.int IntKind.u8 0, Value.int IntKind.u8 0, Value.int IntKind.u8 0, Value.int IntKind.u8 0, Value.int IntKind.u8 0, Value.int IntKind.u8 0, Value.int IntKind.u8 0] 155)) (List.replicate 16 0) :=
  ⟨heap_alloc2_old w _ _, heap_alloc2_new w _ _, below_alloc (below_alloc (Below.refl _ _) _) _⟩
theorem bytesOf_all (s : ByteArray) : bytesOf (s.extract 0 s.size) = bytesOf s := by rw [bytesOf_extract, List.drop_zero, List.take_of_length_le (by rw [bytesOf_length]; exact Nat.le_refl _)]
theorem bytesOf_from {s : ByteArray} {X Y : List Int} {n : Nat} (h : bytesOf s = X ++ Y) (hn : n = X.length) : bytesOf (s.extract n s.size) = Y := by
  rw [bytesOf_extract, List.take_of_length_le (by rw [bytesOf_length]; exact Nat.le_refl _), h, hn, List.drop_left]

theorem M6.set {w W : World} {L : List Int} (h : M6 w W L) {i : Nat} (hi : i < L.length) (v : Int) : M6 w (W.setCell ⟨w.heap.size + 1, i, none⟩ (.int .u8 v)) (L.set i v) :=
  ⟨(heap_setCell_other W ⟨w.heap.size + 1, i, none⟩ _ _ (by show w.heap.size ≠ w.heap.size + 1; omega)).trans h.r, row_set h.o hi v, h.b.setCell (p := ⟨w.heap.size + 1, i, none⟩) (by show w.heap.size ≤ w.heap.size + 1; omega) _⟩
theorem M6.step {w W : World} {gs : List (List Int)} {k i : Nat} (h : M6 w W (mem6 gs k)) (hk : k < gs.length) (h8 : gs.length ≤ 8) (hi : i = 2 * k) :
    M6 w ((W.setCell ⟨w.heap.size + 1, i, none⟩ (.int .u8 (valH gs[k] / 256))).setCell ⟨w.heap.size + 1, i + 1, none⟩ (.int .u8 (valH gs[k] % 256))) (mem6 gs (k + 1)) := by
  subst hi
  have hl := mem6_len (Nat.le_of_lt hk) h8
  have h2 := (h.set (i := 2 * k) (by omega) (valH gs[k] / 256)).set (i := 2 * k + 1) (by rw [List.length_set]; omega) (valH gs[k] % 256)
  rwa [mem6_step hk h8] at h2
theorem drop_nil {gs : List (List Int)} {k : Nat} (h : k = gs.length) : gs.drop k = [] := by rw [h]; exact List.drop_length
theorem drop_hex (f : Int) {gs : List (List Int)} {k : Nat} (h : k < gs.length) (hG : ∀ g ∈ gs, GoodG g) : gs.drop k ≠ [] ∧ ∃ c R, isHx c ∧ restT f k (gs.drop k) = c :: R := by
  rw [List.drop_eq_getElem_cons h]
  exact ⟨List.cons_ne_nil _ _, restT_hex f k _ _ (hG _ (List.getElem_mem h))⟩

/-- The octets that the text stands for. -/
def fin6 (f : Int) (gs : List (List Int)) : List Int := if f < 0 then bys gs else bys (gs.take f.toNat) ++ (List.replicate (16 - 2 * gs.length) 0 ++ bys (gs.drop f.toNat))
/-- The octets while they are moved: t of them stand at the end. -/
def shiftS (X : List Int) (N t : Nat) : List Int := X.take (16 - t) ++ (X.take N).drop (N - t)
theorem shiftS_zero (X : List Int) (N : Nat) (hX : X.length = 16) (hN : N ≤ 16) : shiftS X N 0 = X := by
  unfold shiftS
  rw [Nat.sub_zero, Nat.sub_zero, List.take_of_length_le (by omega), List.drop_eq_nil_of_le (by rw [List.length_take]; omega), List.append_nil]
theorem shiftS_len (X : List Int) (N t : Nat) (hX : X.length = 16) (hN : N ≤ 16) (ht : t ≤ N) : (shiftS X N t).length = 16 := by
  unfold shiftS
  rw [List.length_append, List.length_take, List.length_drop, List.length_take]
  omega
theorem shiftS_at (X : List Int) (N t : Nat) (hX : X.length = 16) (hN : N ≤ 16) (ht : t < N) : (shiftS X N t)[N - 1 - t]? = some (X[N - 1 - t]'(by omega)) := by
  unfold shiftS
  rw [List.getElem?_append_left (by rw [List.length_take]; omega), List.getElem?_take_of_lt (by omega), List.getElem?_eq_getElem (by omega)]
theorem shiftS_succ (X : List Int) (N t : Nat) (hX : X.length = 16) (hN : N ≤ 16) (ht : t < N) : (shiftS X N t).set (15 - t) (X[N - 1 - t]'(by omega)) = shiftS X N (t + 1) := by
  unfold shiftS
  have e1 : 16 - t = (15 - t) + 1 := by omega
  have e2 : 16 - (t + 1) = 15 - t := by omega
  have e3 : N - (t + 1) = N - 1 - t := by omega
  have hl : (X.take (15 - t)).length = 15 - t := by rw [List.length_take]; omega
  rw [e1, e2, e3, List.take_succ_eq_append_getElem (by omega), List.append_assoc, List.set_append_right _ _ (by omega), hl, Nat.sub_self]
  have hd : (X.take N).drop (N - 1 - t) = X[N - 1 - t]'(by omega) :: (X.take N).drop (N - t) := by
    rw [List.drop_eq_getElem_cons (by rw [List.length_take]; omega), List.getElem_take]
    congr 2
    omega
  rw [hd]
  rfl
theorem bys_append (a b : List (List Int)) : bys (a ++ b) = bys a ++ bys b := by unfold bys; rw [List.flatMap_append]
theorem fin6_shift (F : Nat) (gs : List (List Int)) (h7 : gs.length ≤ 8) (hF : F ≤ gs.length) :
    (shiftS (mem6 gs gs.length) (2 * gs.length) (2 * gs.length - 2 * F)).take (2 * F) ++ (List.replicate (16 - 2 * gs.length) 0 ++ (shiftS (mem6 gs gs.length) (2 * gs.length) (2 * gs.length - 2 * F)).drop (2 * F + (16 - 2 * gs.length))) = fin6 (F : Int) gs := by
  have hX : mem6 gs gs.length = bys gs ++ List.replicate (16 - 2 * gs.length) 0 := by unfold mem6; rw [List.take_length]
  have hb : bys gs = bys (gs.take F) ++ bys (gs.drop F) := by rw [← bys_append, List.take_append_drop]
  have h1 : (bys (gs.take F)).length = 2 * F := by rw [bys_len, List.length_take]; omega
  have h2 : (bys (gs.drop F)).length = 2 * gs.length - 2 * F := by rw [bys_len, List.length_drop]; omega
  have h3 : (bys gs).length = 2 * gs.length := bys_len gs
  have hS : shiftS (mem6 gs gs.length) (2 * gs.length) (2 * gs.length - 2 * F) = (mem6 gs gs.length).take (2 * F + (16 - 2 * gs.length)) ++ bys (gs.drop F) := by
    unfold shiftS
    have e1 : 16 - (2 * gs.length - 2 * F) = 2 * F + (16 - 2 * gs.length) := by omega
    have e2 : 2 * gs.length - (2 * gs.length - 2 * F) = 2 * F := by omega
    rw [e1, e2]
    congr 1
    rw [hX, List.take_append_of_le_length (by omega), List.take_of_length_le (by omega), hb, ← h1, List.drop_left]
  have hl : ((mem6 gs gs.length).take (2 * F + (16 - 2 * gs.length))).length = 2 * F + (16 - 2 * gs.length) := by
    rw [List.length_take, mem6_len (Nat.le_refl _) h7]; omega
  rw [hS]
  have ht : ((mem6 gs gs.length).take (2 * F + (16 - 2 * gs.length)) ++ bys (gs.drop F)).take (2 * F) = bys (gs.take F) := by
    rw [List.take_append_of_le_length (by omega), List.take_take, Nat.min_eq_left (by omega), hX, hb, List.append_assoc, ← h1, List.take_left]
  have hd : ((mem6 gs gs.length).take (2 * F + (16 - 2 * gs.length)) ++ bys (gs.drop F)).drop (2 * F + (16 - 2 * gs.length)) = bys (gs.drop F) := List.drop_left' hl
  rw [ht, hd]
  unfold fin6
  rw [if_neg (by omega), Int.toNat_natCast]
theorem fin6_len (f : Int) (gs : List (List Int)) (h : (f = -1 ∧ gs.length = 8) ∨ (0 ≤ f ∧ f ≤ gs.length ∧ gs.length ≤ 7)) : (fin6 f gs).length = 16 := by
  unfold fin6
  rcases h with ⟨rfl, h8⟩ | ⟨h0, h1, h7⟩
  · rw [if_pos (by omega), bys_len]; omega
  · rw [if_neg (by omega), List.length_append, List.length_append, bys_len, bys_len, List.length_take, List.length_drop, List.length_replicate]
    omega
theorem M6.sets {w : World} : ∀ (vs : List Int) (o : Nat) {W : World} {L : List Int}, M6 w W L → o + vs.length ≤ L.length → M6 w (W.setCells (w.heap.size + 1) o (vs.map fun x => Value.int .u8 x)) (L.take o ++ (vs ++ L.drop (o + vs.length)))
  | [], o, W, L, h, _ => by
    simp only [List.map_nil, World.setCells, List.nil_append, List.length_nil, Nat.add_zero, List.take_append_drop]
    exact h
  | v :: vs, o, W, L, h, hl => by
    rw [List.length_cons] at hl
    have ih := M6.sets vs (o + 1) (h.set (i := o) (by omega) v) (by rw [List.length_set]; omega)
    simp only [List.map_cons, World.setCells]
    have e : (L.set o v).take (o + 1) ++ (vs ++ (L.set o v).drop (o + 1 + vs.length)) = L.take o ++ (v :: vs ++ L.drop (o + (v :: vs).length)) := by
      rw [List.drop_set_of_lt (by omega), List.length_cons, show o + (vs.length + 1) = o + 1 + vs.length by omega]
      rw [List.take_succ_eq_append_getElem (by rw [List.length_set]; omega), List.take_set_of_le (by omega), List.getElem_set_self]
      simp
    rwa [e] at ih

theorem isB_of_val {v : Int} (h0 : 0 ≤ v) (h1 : v < 65536) : (0 ≤ v / 256 ∧ v / 256 < 256) ∧ (0 ≤ v % 256 ∧ v % 256 < 256) := by omega
theorem valH_good {g : List Int} (h : GoodG g) : 0 ≤ valH g ∧ valH g < 65536 := by
  have hv := valH_range g h.2.2 g.length (Nat.le_refl _)
  rw [List.take_length] at hv
  have hl := h.1
  have hl4 := h.2.1
  have hp : (16 : Int) ^ g.length ≤ 65536 := by rcases (show g.length = 1 ∨ g.length = 2 ∨ g.length = 3 ∨ g.length = 4 by omega) with e | e | e | e <;> rw [e] <;> decide
  exact ⟨hv.1, Int.lt_of_lt_of_le hv.2 hp⟩
theorem bys_isB {gs : List (List Int)} (h : ∀ g ∈ gs, GoodG g) : IsB (bys gs) := by
  intro x hx
  unfold bys at hx
  obtain ⟨g, hg, hxg⟩ := List.mem_flatMap.1 hx
  obtain ⟨a, b⟩ := valH_good (h g hg)
  obtain ⟨c, d⟩ := isB_of_val a b
  simp only [List.mem_cons, List.not_mem_nil, or_false] at hxg
  rcases hxg with rfl | rfl
  · exact c
  · exact d
theorem fin6_isB {f : Int} {gs : List (List Int)} (h : ∀ g ∈ gs, GoodG g) : IsB (fin6 f gs) := by
  unfold fin6
  split
  · exact bys_isB h
  · intro x hx
    simp only [List.mem_append] at hx
    rcases hx with hx | hx | hx
    · exact bys_isB (fun g hg => h g (List.mem_of_mem_take hg)) x hx
    · rw [List.eq_of_mem_replicate hx]; decide
    · exact bys_isB (fun g hg => h g (List.mem_of_mem_drop hg)) x hx
theorem adr16r (R : List Int) (hR : R.length = 16) (hB : IsB R) (p4 p6 : Addr) (w : World) (hZ : ZZ p4 p6 w) :
    Calls Tryd.prog 160 #[.agg (rowV R)] w fun e w' => e = .returned (adr (num8 (R.take 8)) (num8 (R.drop 8)) p6) ∧ Below w.heap.size w w' := by
  match R, hR with
  | [b0, b1, b2, b3, b4, b5, b6, b7, c0, c1, c2, c3, c4, c5, c6, c7], _ =>
    exact adr16 b0 b1 b2 b3 b4 b5 b6 b7 c0 c1 c2 c3 c4 c5 c6 c7 p4 p6 w (fun x hx => hB x (List.mem_append_left [c0, c1, c2, c3, c4, c5, c6, c7] hx)) (fun x hx => hB x (List.mem_append_right [b0, b1, b2, b3, b4, b5, b6, b7] hx)) hZ
theorem be16 (R : List Int) (hR : R.length = 16) (hB : IsB R) : be8 (num8 (R.take 8)) ++ be8 (num8 (R.drop 8)) = R := by
  rw [be8_num8 _ (by rw [List.length_take]; omega) (fun x hx => hB x (List.mem_of_mem_take hx)), be8_num8 _ (by rw [List.length_drop]; omega) (fun x hx => hB x (List.mem_of_mem_drop hx)), List.take_append_drop]

end Go.Proofs.YtiilihafcdmccaaDoor.P
/- The text of an address of sixteen bytes, written from the front on: each group behind a colon, where none stands there. -/
namespace Go.Proofs.YtiilihafcdmccaaDoor.P
open Go.RowKit
set_option linter.unusedVariables false
set_option linter.unusedSimpArgs false

/-- A group behind what is written. -/
def emit (s g : List Int) : List Int := (if s = [] ∨ s.getLast? = some 58 then s else s ++ [58]) ++ g
def joinC : List (List Int) → List Int
  | [] => []
  | g :: gs => g ++ gs.flatMap fun h => 58 :: h
theorem last_good {g : List Int} (h : GoodG g) (s : List Int) : (s ++ g) ≠ [] ∧ (s ++ g).getLast? ≠ some 58 := by
  obtain ⟨h1, _, h3⟩ := h
  have hne : g ≠ [] := by intro e; rw [e] at h1; simp at h1
  refine ⟨by simp [hne], fun he => ?_⟩
  rw [List.getLast?_append, List.getLast?_eq_some_getLast hne, Option.some_or] at he
  have := h3 58 (by rw [← Option.some.inj he]; exact List.getLast_mem hne)
  unfold isHx at this
  omega
theorem fold_on (gs : List (List Int)) : ∀ (s : List Int), (∀ g ∈ gs, GoodG g) → s ≠ [] → s.getLast? ≠ some 58 → gs.foldl emit s = s ++ gs.flatMap fun h => 58 :: h := by
  induction gs with
  | nil => intro s _ _ _; simp
  | cons g gs ih =>
    intro s hG hs h58
    have hg := hG g (by simp)
    obtain ⟨h1, h2⟩ := last_good hg (s ++ [58])
    have he : emit s g = s ++ [58] ++ g := by unfold emit; rw [if_neg (by simp [hs, h58])]
    rw [List.foldl_cons, he, ih _ (fun x hx => hG x (by simp [hx])) h1 h2]
    simp
theorem fold_at (gs : List (List Int)) (s : List Int) (hG : ∀ g ∈ gs, GoodG g) (hs : s = [] ∨ s.getLast? = some 58) : gs.foldl emit s = s ++ joinC gs := by
  cases gs with
  | nil => simp [joinC]
  | cons g gs =>
    have hg := hG g (by simp)
    obtain ⟨h1, h2⟩ := last_good hg s
    have he : emit s g = s ++ g := by unfold emit; rw [if_pos hs]
    rw [List.foldl_cons, he, fold_on gs _ (fun x hx => hG x (by simp [hx])) h1 h2]
    simp [joinC]
theorem joinC_cons (g : List Int) (gs : List (List Int)) : joinC (g :: gs) = g ++ ((if gs = [] then [] else [58]) ++ joinC gs) := by
  cases gs with
  | nil => simp [joinC]
  | cons h gs => simp [joinC]
theorem restT_done (f : Int) (gs : List (List Int)) : ∀ (k : Nat), f ≤ k → restT f k gs = joinC gs := by
  induction gs with
  | nil => intro k _; rfl
  | cons g gs ih =>
    intro k hk
    rw [joinC_cons]
    unfold restT
    rw [if_neg (by omega), ih (k + 1) (by omega)]
theorem restT_split (f : Nat) (gs : List (List Int)) : ∀ (k : Nat), k < f → f ≤ k + gs.length → restT (f : Int) k gs = joinC (gs.take (f - k)) ++ (58 :: 58 :: joinC (gs.drop (f - k))) := by
  induction gs with
  | nil => intro k h1 h2; simp at h2; omega
  | cons g gs ih =>
    intro k h1 h2
    rw [List.length_cons] at h2
    obtain ⟨d, hd⟩ : ∃ d, f - k = d + 1 := ⟨f - k - 1, by omega⟩
    rw [hd, List.take_succ_cons, List.drop_succ_cons, joinC_cons]
    unfold restT
    by_cases e : k + 1 = f
    · obtain rfl : d = 0 := by omega
      rw [if_pos (by omega), restT_done _ _ _ (by omega)]
      simp [joinC]
    · rw [if_neg (by omega), ih (k + 1) (by omega) (by omega)]
      have hne : gs ≠ [] := by intro h; rw [h] at h2; simp at h2; omega
      have hne2 : gs.take d ≠ [] := by intro h; have := congrArg List.length h; rw [List.length_take, List.length_nil] at this; have := List.length_pos_iff.2 hne; omega
      rw [if_neg hne, if_neg hne2, show f - (k + 1) = d by omega]
      simp
/-- Without a gap. -/
theorem text_all (gs : List (List Int)) (hG : ∀ g ∈ gs, GoodG g) : gs.foldl emit [] = txt6 (-1) gs := by
  rw [fold_at gs [] hG (.inl rfl)]
  unfold txt6
  rw [if_neg (by omega), restT_done _ _ _ (by omega)]
/-- With a gap. -/
theorem text_gap (A B : List (List Int)) (hA : ∀ g ∈ A, GoodG g) (hB : ∀ g ∈ B, GoodG g) : B.foldl emit (A.foldl emit [] ++ [58, 58]) = txt6 (A.length : Nat) (A ++ B) := by
  rw [fold_at B _ hB (.inr (by simp)), fold_at A [] hA (.inl rfl)]
  unfold txt6
  cases A with
  | nil =>
    rw [List.length_nil, if_pos (by rfl), restT_done _ _ _ (by omega)]
    simp [joinC]
  | cons a A =>
    rw [if_neg (by simp; omega), restT_split _ _ 0 (by simp) (by simp), Nat.sub_zero, List.take_left, List.drop_left]
    simp
/-- The octets of groups. -/
def bysN (G : List Int) : List Int := G.flatMap fun v => [v / 256, v % 256]
theorem bys_val (gs : List (List Int)) : bys gs = bysN (gs.map valH) := by unfold bys bysN; rw [List.flatMap_map]
theorem bysN_append (a b : List Int) : bysN (a ++ b) = bysN a ++ bysN b := by unfold bysN; rw [List.flatMap_append]
theorem bysN_zero (n : Nat) : bysN (List.replicate n 0) = List.replicate (2 * n) 0 := by
  induction n with
  | zero => rfl
  | succ n ih =>
    rw [List.replicate_succ, show 2 * (n + 1) = 2 * n + 1 + 1 by omega, List.replicate_succ, List.replicate_succ, ← ih]
    rfl
theorem octets_all (gs : List (List Int)) (G : List Int) (h : gs.map valH = G) : fin6 (-1) gs = bysN G := by
  unfold fin6
  rw [if_pos (by omega), bys_val, h]
theorem octets_gap (A B : List (List Int)) (G : List Int) (p q : Nat) (hG : G.length = 8) (hpq : p ≤ q) (hq : q ≤ 8) (hz : ∀ j (h : j < G.length), p ≤ j → j < q → G[j] = 0) (hA : A.map valH = G.take p) (hB : B.map valH = G.drop q) : fin6 (A.length : Nat) (A ++ B) = bysN G := by
  have lA : A.length = p := by have := congrArg List.length hA; rw [List.length_map, List.length_take] at this; omega
  have lB : B.length = 8 - q := by have := congrArg List.length hB; rw [List.length_map, List.length_drop] at this; omega
  have hm : (G.drop p).take (q - p) = List.replicate (q - p) 0 := by
    rw [List.eq_replicate_iff]
    refine ⟨by rw [List.length_take, List.length_drop]; omega, fun x hx => ?_⟩
    obtain ⟨j, hj, rfl⟩ := List.getElem_of_mem hx
    rw [List.length_take, List.length_drop] at hj
    rw [List.getElem_take, List.getElem_drop]
    exact hz _ _ (by omega) (by omega)
  have hs : G = G.take p ++ (List.replicate (q - p) 0 ++ G.drop q) := by
    rw [← hm]
    have h1 : G.drop q = (G.drop p).drop (q - p) := by rw [List.drop_drop]; congr 1; omega
    rw [h1, List.take_append_drop, List.take_append_drop]
  unfold fin6
  rw [if_neg (by omega), Int.toNat_natCast, List.take_left, List.drop_left, bys_val, bys_val, hA, hB]
  conv => rhs; rw [hs]
  rw [bysN_append, bysN_append, bysN_zero, List.length_append, lA, lB]
  congr 2
  congr 1
  omega
/-- Where the first colon stands. -/
theorem txt6_colon (f : Int) (gs : List (List Int)) (hG : ∀ g ∈ gs, GoodG g) (hf : (f = -1 ∧ gs.length = 8) ∨ (0 ≤ f ∧ f ≤ gs.length)) : ∃ h R, txt6 f gs = h ++ 58 :: R ∧ (∀ c ∈ h, isHx c) ∧ h.length ≤ 4 := by
  unfold txt6
  by_cases h0 : f = 0
  · exact ⟨[], 58 :: restT f 0 gs, by rw [if_pos h0]; rfl, by simp, by simp⟩
  · rw [if_neg h0]
    cases gs with
    | nil => simp at hf; omega
    | cons g gs =>
      have hg := hG g (by simp)
      unfold restT
      by_cases e : ((0 : Nat) : Int) + 1 = f
      · rw [if_pos e]
        exact ⟨g, 58 :: restT f 1 gs, by simp, hg.2.2, hg.2.1⟩
      · rw [if_neg e]
        have hne : gs ≠ [] := by
          intro h
          rw [h] at hf
          simp at hf
          omega
        rw [if_neg hne]
        exact ⟨g, restT f 1 gs, by simp, hg.2.2, hg.2.1⟩
theorem restT_chars (f : Int) (gs : List (List Int)) (hG : ∀ g ∈ gs, GoodG g) : ∀ k, ∀ c ∈ restT f k gs, c = 58 ∨ isHx c := by
  induction gs with
  | nil => intro k c hc; simp [restT] at hc
  | cons g gs ih =>
    intro k c hc
    unfold restT at hc
    rw [List.mem_append, List.mem_append] at hc
    rcases hc with hc | hc | hc
    · exact .inr ((hG g (by simp)).2.2 c hc)
    · split at hc
      · simp at hc; exact .inl hc
      · split at hc
        · simp at hc
        · simp at hc; exact .inl hc
    · exact ih (fun x hx => hG x (by simp [hx])) (k + 1) c hc
theorem txt6_no37 (f : Int) (gs : List (List Int)) (hG : ∀ g ∈ gs, GoodG g) : ∀ c ∈ txt6 f gs, c ≠ 37 := by
  intro c hc
  unfold txt6 at hc
  rw [List.mem_append] at hc
  have : c = 58 ∨ isHx c := by
    rcases hc with hc | hc
    · split at hc
      · simp at hc; exact .inl hc
      · simp at hc
    · exact restT_chars f gs hG 0 c hc
  rcases this with h | h
  · omega
  · unfold isHx at h; omega

end Go.Proofs.YtiilihafcdmccaaDoor.P
-- Written by a program of this session (wip/tools/pprint.py) out of the translation: it goes by the kit's print and by the contracts of YtiilihafcdmccaaDoorHand. Not trusted: Lean checks it.
namespace Go.Proofs.YtiilihafcdmccaaDoor.P
open Go.RowKit Go.Proofs.YtiilihafcdmccaaDoorW.PrintWords Go.Proofs.YtiilihafcdmccaaDoorW.PrintLast Go.Proofs.YtiilihafcdmccaaDoorW.PrintMore
attribute [local go_sem] max2_int min2_int max_two min_two max_three min_three max_four min_four   -- for this text's walks alone
set_option linter.unusedVariables false
set_option linter.unusedSimpArgs false

/-! ### spec_decimal: function 71 -/
def spec_decimal.l0 : Nat → Int → ByteArray → Option (ByteArray)
  | 0, _, _ => none
  | k + 1, x0, x3 => (some (([(48 + ((Int.tmod x0 10) % 256)) % 256] : List Int) : List Int)).bind fun y519 => (if (strOfNums y519).size + x3.size ≤ 9223372036854775807 then (if (wrap64 (Int.tdiv x0 10)) = 0 then (some ((strOfNums y519) ++ x3)) else (spec_decimal.l0 k (wrap64 (Int.tdiv x0 10)) ((strOfNums y519) ++ x3))) else (none))
def spec_decimal.f (k : Nat) (a0 : Int) : Option (ByteArray) := spec_decimal.l0 k a0 (⟨#[]⟩ : ByteArray)
theorem spec_decimal.mono_l : ∀ k, (∀ y0 y1, LeO (spec_decimal.l0 k y0 y1) (spec_decimal.l0 (k + 1) y0 y1))
  | 0 => fun _ _ r h => by simp [spec_decimal.l0] at h
  | k + 1 => by
    have ih0 := spec_decimal.mono_l k
    · intro y0 y1
      unfold spec_decimal.l0
      repeat' first
      | (with_reducible exact ih0 _ _)
      | (with_reducible exact LeO.refl _)
      | (with_reducible exact LeO.none _)
      | (with_reducible refine LeO.ite ?_ ?_)
      | (with_reducible refine LeO.bind ?_ (fun _ => ?_))
      | exact ih0 _ _
      | exact LeO.none _
      | refine LeO.ite ?_ ?_
      | refine LeO.bind ?_ (fun _ => ?_)
theorem spec_decimal.mono : ∀ a0 k, LeO (spec_decimal.f k a0) (spec_decimal.f (k + 1) a0) := by
  intro a0 k
  have ih0 := spec_decimal.mono_l k
  unfold spec_decimal.f
  repeat' first
      | (with_reducible exact ih0 _ _)
      | (with_reducible exact LeO.refl _)
      | (with_reducible exact LeO.none _)
      | (with_reducible refine LeO.ite ?_ ?_)
      | (with_reducible refine LeO.bind ?_ (fun _ => ?_))
      | exact ih0 _ _
      | exact LeO.none _
      | refine LeO.ite ?_ ?_
      | refine LeO.bind ?_ (fun _ => ?_)
set_option maxHeartbeats 8000000 in
set_option maxRecDepth 100000 in
theorem spec_decimal.calls (k : Nat) (a0 : Int) (r : ByteArray) (w : World) (h : spec_decimal.f k a0 = some r) :
    Calls Tryd.prog 71 #[.int .i64 a0] w fun e w' => e = .returned (.string r) ∧ Below w.heap.size w w' := by
  have HB := Aside0.mk (Below.refl w.heap.size w)
  have H : (spec_decimal.l0 k a0 (⟨#[]⟩ : ByteArray)) = some r := h
  clear h
  have H' := Aside0.mk H
  clear H
  go_enter Tryd.func71, Tryd.ntmps71
  go_wp2
  go_loopg [0, 3] k (fun kq v0 v3 w' => ∃ (x0_1 : Int) (x3_1 : ByteArray), v0 = .int .i64 x0_1 ∧ v3 = .string x3_1 ∧ Aside0 (spec_decimal.l0 kq x0_1 x3_1 = some r) ∧ Aside0 (kq ≤ k) ∧ Aside0 (Below w.heap.size w w'))
  case atStart => exact ⟨(a0), ((⟨#[]⟩ : ByteArray)), (by first | rfl | (simp; done) | (simp [*]; done) | (simp [wrap64]; done)), (by first | rfl | (simp; done) | (simp [*]; done) | (simp [wrap64]; done)), H', ⟨Nat.le_refl _⟩, ⟨by repeat (first | (with_reducible first | exact HB.out | apply below_alloc | apply pw_below_drewN | apply below_drew1) | exact HB.out)⟩⟩
  case round =>
    clear H'
    obtain ⟨x0_1, x3_1, rfl, rfl, HA, HK1, HB⟩ := hrel
    cases gk with
    | zero => exact absurd HA.out (by simp [spec_decimal.l0])
    | succ k1 =>
      have H := HA.out
      clear HA
      simp only [spec_decimal.l0] at H
      obtain ⟨y519, hy519⟩ : ∃ y_ : List Int, y_ = (([(48 + ((Int.tmod x0_1 10) % 256)) % 256] : List Int)) := ⟨_, rfl⟩
      replace H : (if (strOfNums y519).size + x3_1.size ≤ 9223372036854775807 then (if (wrap64 (Int.tdiv x0_1 10)) = 0 then (some ((strOfNums y519) ++ x3_1)) else (spec_decimal.l0 k1 (wrap64 (Int.tdiv x0_1 10)) ((strOfNums y519) ++ x3_1))) else (none)) = some r := by first | (rw [hy519]; with_reducible exact H) | (have H2_ := (Option.bind_some _ _).symm.trans H; rw [hy519]; with_reducible exact H2_) | (have H2_ := (Option.bind_some _ _).symm.trans H; with_reducible exact H2_) | with_reducible exact H | (rw [hy519]; exact H) | exact H
      have Ny519 := Aside0.mk hy519
      clear hy519
      by_cases c2 : (strOfNums y519).size + x3_1.size ≤ 9223372036854775807
      · rw [if_pos c2] at H
        have c2b0 := eq_true c2
        have c2b1 : decide ((strOfNums y519).size + x3_1.size ≤ 9223372036854775807) = true := decide_eq_true c2
        try have c2b2 : (9223372036854775807 < (strOfNums y519).size + x3_1.size) = False := eq_false (Nat.not_lt.2 c2)
        by_cases c3 : (wrap64 (Int.tdiv x0_1 10)) = 0
        · rw [if_pos c3] at H
          have c3b0 : ((wrap64 (Int.tdiv x0_1 10)) == 0) = true := beq_iff_eq.mpr c3
          have c3b1 : ((wrap64 (Int.tdiv x0_1 10)) != 0) = false := bne_eq_false_iff_eq.mpr c3
          clear c3
          obtain rfl := Option.some.inj H
          go_wp2_with (first | ((with_reducible refine gate_dst (N := 8) rfl ?_); refine Kd.R_lit (Kd.int .u8) _ 5 ?hg (N := 8) ?hd (xs := ([(48 + ((Int.tmod x0_1 10) % 256)) % 256] : List Int)) (inner := [.int .u8 ((48 + ((Int.tmod x0_1 10) % 256)) % 256)]) (ok := fun _ => True) (okp := fun _ => True) ?hr ?hp (fun _ hk => hk) trivial (Below.refl _ _) (Nat.le_refl _) (by simp) ?_; (case hd => rfl); (case hg => rfl); (case hr => first | (go_simp; done) | (go_simp; rfl)); (case hp => exact (Reps.one (show Kd.M (Kd.int .u8) _ _ _ ((48 + ((Int.tmod x0_1 10) % 256)) % 256) [.int .u8 ((48 + ((Int.tmod x0_1 10) % 256)) % 256)] from rfl) (Reps.none _ _))); intro v520 w4 ho5 hb hg_ hnew_; clear hg_ hnew_; (first | rw [← Ny519.out] at ho5 | (simp only [Int.reduceToNat] at ho5; rw [← Ny519.out] at ho5)); have n0_ := Aside0.mk (Kd.R_lower ho5 (below_size (by repeat (first | (with_reducible first | exact HB.out | apply below_alloc | apply pw_below_drewN | apply below_drew1) | exact HB.out)))); have n1_ := Aside0.mk (below_step (by repeat (first | (with_reducible first | exact HB.out | apply below_alloc | apply pw_below_drewN | apply below_drew1) | exact HB.out)) hb); clear HB; have HO521 := n0_; have HB := n1_; clear n0_ n1_; clear hb ho5; have hcv6 := own_string (P := Tryd.prog) Tryd.underlying22 Tryd.underlying5 Tryd.underlying9 (Kd.own_of_R HO521.out)))
          go_ret
          exact ⟨by first | rfl | (simp [errW_none, errW_some] <;> rfl) | (simp [*, errW_none, errW_some] <;> rfl), by repeat (first | (with_reducible first | exact HB.out | apply below_alloc | apply pw_below_drewN | apply below_drew1) | exact HB.out)⟩
        · rw [if_neg c3] at H
          have c3b0 : ((wrap64 (Int.tdiv x0_1 10)) == 0) = false := beq_eq_false_iff_ne.mpr c3
          have c3b1 : ((wrap64 (Int.tdiv x0_1 10)) != 0) = true := bne_iff_ne.mpr c3
          have H' := Aside0.mk H
          clear H
          go_wp2_with (first | ((with_reducible refine gate_dst (N := 8) rfl ?_); refine Kd.R_lit (Kd.int .u8) _ 5 ?hg (N := 8) ?hd (xs := ([(48 + ((Int.tmod x0_1 10) % 256)) % 256] : List Int)) (inner := [.int .u8 ((48 + ((Int.tmod x0_1 10) % 256)) % 256)]) (ok := fun _ => True) (okp := fun _ => True) ?hr ?hp (fun _ hk => hk) trivial (Below.refl _ _) (Nat.le_refl _) (by simp) ?_; (case hd => rfl); (case hg => rfl); (case hr => first | (go_simp; done) | (go_simp; rfl)); (case hp => exact (Reps.one (show Kd.M (Kd.int .u8) _ _ _ ((48 + ((Int.tmod x0_1 10) % 256)) % 256) [.int .u8 ((48 + ((Int.tmod x0_1 10) % 256)) % 256)] from rfl) (Reps.none _ _))); intro v520 w7 ho8 hb hg_ hnew_; clear hg_ hnew_; (first | rw [← Ny519.out] at ho8 | (simp only [Int.reduceToNat] at ho8; rw [← Ny519.out] at ho8)); have n0_ := Aside0.mk (Kd.R_lower ho8 (below_size (by repeat (first | (with_reducible first | exact HB.out | apply below_alloc | apply pw_below_drewN | apply below_drew1) | exact HB.out)))); have n1_ := Aside0.mk (below_step (by repeat (first | (with_reducible first | exact HB.out | apply below_alloc | apply pw_below_drewN | apply below_drew1) | exact HB.out)) hb); clear HB; have HO521 := n0_; have HB := n1_; clear n0_ n1_; clear hb ho8; have hcv9 := own_string (P := Tryd.prog) Tryd.underlying22 Tryd.underlying5 Tryd.underlying9 (Kd.own_of_R HO521.out)))
          go_roundg k1
          case measure => have := HK1.out; omega
          case rel => exact ⟨(wrap64 (Int.tdiv x0_1 10)), ((strOfNums y519) ++ x3_1), (by first | rfl | (simp; done) | (simp [*]; done) | (simp [wrap64]; done)), (by first | rfl | (simp; done) | (simp [*]; done) | (simp [wrap64]; done)), H', ⟨by have := HK1.out; omega⟩, ⟨by repeat (first | (with_reducible first | exact HB.out | apply below_alloc | apply pw_below_drewN | apply below_drew1) | exact HB.out)⟩⟩
      · rw [if_neg c2] at H
        exact absurd H (by simp)

end Go.Proofs.YtiilihafcdmccaaDoor.P
-- Written by a program of this session (wip/tools/pprint.py) out of the translation: it goes by the kit's print and by the contracts of YtiilihafcdmccaaDoorHand. Not trusted: Lean checks it.
namespace Go.Proofs.YtiilihafcdmccaaDoor.P
open Go.RowKit Go.Proofs.YtiilihafcdmccaaDoorW.PrintWords Go.Proofs.YtiilihafcdmccaaDoorW.PrintLast Go.Proofs.YtiilihafcdmccaaDoorW.PrintMore
attribute [local go_sem] max2_int min2_int max_two min_two max_three min_three max_four min_four   -- for this text's walks alone
set_option linter.unusedVariables false
set_option linter.unusedSimpArgs false

/-! ### spec_hex16: function 96 -/
mutual
def spec_hex16.l0 : Nat → Int → Int → ByteArray → Option (ByteArray)
  | 0, _, _, _ => none
  | k + 1, x0, x1, x5 => if x0 > 0 then (if 0 ≤ (Go.bits .and .i64 x0 15) then (if (Go.bits .and .i64 x0 15) ≤ (wrap64 ((Go.bits .and .i64 x0 15) + 1)) then (if (wrap64 ((Go.bits .and .i64 x0 15) + 1)) ≤ 16 then (if ((⟨#[48, 49, 50, 51, 52, 53, 54, 55, 56, 57, 97, 98, 99, 100, 101, 102]⟩ : ByteArray).extract ((Go.bits .and .i64 x0 15) : Int).toNat ((wrap64 ((Go.bits .and .i64 x0 15) + 1)) : Int).toNat).size + x5.size ≤ 9223372036854775807 then (spec_hex16.l0 k (x0 / 16) x1 (((⟨#[48, 49, 50, 51, 52, 53, 54, 55, 56, 57, 97, 98, 99, 100, 101, 102]⟩ : ByteArray).extract ((Go.bits .and .i64 x0 15) : Int).toNat ((wrap64 ((Go.bits .and .i64 x0 15) + 1)) : Int).toNat) ++ x5)) else (none)) else (none)) else (none)) else (none)) else (if x5.toList = ([] : List UInt8) then (if 0 ≤ (Go.bits .and .i64 x0 15) then (if (Go.bits .and .i64 x0 15) ≤ (wrap64 ((Go.bits .and .i64 x0 15) + 1)) then (if (wrap64 ((Go.bits .and .i64 x0 15) + 1)) ≤ 16 then (if ((⟨#[48, 49, 50, 51, 52, 53, 54, 55, 56, 57, 97, 98, 99, 100, 101, 102]⟩ : ByteArray).extract ((Go.bits .and .i64 x0 15) : Int).toNat ((wrap64 ((Go.bits .and .i64 x0 15) + 1)) : Int).toNat).size + x5.size ≤ 9223372036854775807 then (spec_hex16.l0 k (x0 / 16) x1 (((⟨#[48, 49, 50, 51, 52, 53, 54, 55, 56, 57, 97, 98, 99, 100, 101, 102]⟩ : ByteArray).extract ((Go.bits .and .i64 x0 15) : Int).toNat ((wrap64 ((Go.bits .and .i64 x0 15) + 1)) : Int).toNat) ++ x5)) else (none)) else (none)) else (none)) else (none)) else (spec_hex16.l1 k x1 x5))
def spec_hex16.l1 : Nat → Int → ByteArray → Option (ByteArray)
  | 0, _, _ => none
  | k + 1, x1, x5 => if (x5.size : Int) < x1 then (if 1 + x5.size ≤ 9223372036854775807 then (spec_hex16.l1 k x1 ((⟨#[48]⟩ : ByteArray) ++ x5)) else (none)) else (some x5)
end
def spec_hex16.f (k : Nat) (a0 : Int) (a1 : Int) : Option (ByteArray) := spec_hex16.l0 k a0 a1 (⟨#[]⟩ : ByteArray)
theorem spec_hex16.mono_l : ∀ k, (∀ y0 y1 y2, LeO (spec_hex16.l0 k y0 y1 y2) (spec_hex16.l0 (k + 1) y0 y1 y2)) ∧ (∀ y0 y1, LeO (spec_hex16.l1 k y0 y1) (spec_hex16.l1 (k + 1) y0 y1))
  | 0 => ⟨fun _ _ _ r h => by simp [spec_hex16.l0] at h, fun _ _ r h => by simp [spec_hex16.l1] at h⟩
  | k + 1 => by
    obtain ⟨ih0, ih1⟩ := spec_hex16.mono_l k
    refine ⟨?_, ?_⟩
    · intro y0 y1 y2
      unfold spec_hex16.l0
      repeat' first
      | (with_reducible exact ih0 _ _ _)
      | (with_reducible exact ih1 _ _)
      | (with_reducible exact LeO.refl _)
      | (with_reducible exact LeO.none _)
      | (with_reducible refine LeO.ite ?_ ?_)
      | (with_reducible refine LeO.bind ?_ (fun _ => ?_))
      | exact ih0 _ _ _
      | exact ih1 _ _
      | exact LeO.none _
      | refine LeO.ite ?_ ?_
      | refine LeO.bind ?_ (fun _ => ?_)
    · intro y0 y1
      unfold spec_hex16.l1
      repeat' first
      | (with_reducible exact ih0 _ _ _)
      | (with_reducible exact ih1 _ _)
      | (with_reducible exact LeO.refl _)
      | (with_reducible exact LeO.none _)
      | (with_reducible refine LeO.ite ?_ ?_)
      | (with_reducible refine LeO.bind ?_ (fun _ => ?_))
      | exact ih0 _ _ _
      | exact ih1 _ _
      | exact LeO.none _
      | refine LeO.ite ?_ ?_
      | refine LeO.bind ?_ (fun _ => ?_)
theorem spec_hex16.mono : ∀ a0 a1 k, LeO (spec_hex16.f k a0 a1) (spec_hex16.f (k + 1) a0 a1) := by
  intro a0 a1 k
  obtain ⟨ih0, ih1⟩ := spec_hex16.mono_l k
  unfold spec_hex16.f
  repeat' first
      | (with_reducible exact ih0 _ _ _)
      | (with_reducible exact ih1 _ _)
      | (with_reducible exact LeO.refl _)
      | (with_reducible exact LeO.none _)
      | (with_reducible refine LeO.ite ?_ ?_)
      | (with_reducible refine LeO.bind ?_ (fun _ => ?_))
      | exact ih0 _ _ _
      | exact ih1 _ _
      | exact LeO.none _
      | refine LeO.ite ?_ ?_
      | refine LeO.bind ?_ (fun _ => ?_)
set_option maxHeartbeats 8000000 in
set_option maxRecDepth 100000 in
theorem spec_hex16.calls (k : Nat) (a0 : Int) (a1 : Int) (r : ByteArray) (w : World) (h : spec_hex16.f k a0 a1 = some r) :
    Calls Tryd.prog 96 #[.int .i64 a0, .int .i64 a1] w fun e w' => e = .returned (.string r) ∧ Drawn0 w w' := by
  have H : (spec_hex16.l0 k a0 a1 (⟨#[]⟩ : ByteArray)) = some r := h
  clear h
  have H' := Aside0.mk H
  clear H
  go_enter Tryd.func96, Tryd.ntmps96
  go_wp2
  go_loopg [0, 5] k (fun kq v0 v5 w' => ∃ (x0_1 : Int) (x5_1 : ByteArray), v0 = .int .i64 x0_1 ∧ v5 = .string x5_1 ∧ Aside0 (spec_hex16.l0 kq x0_1 a1 x5_1 = some r) ∧ Aside0 (kq ≤ k) ∧ Drawn0 w w')
  case atStart => exact ⟨(a0), ((⟨#[]⟩ : ByteArray)), (by first | rfl | (simp; done) | (simp [*]; done) | (simp [wrap64]; done)), (by first | rfl | (simp; done) | (simp [*]; done) | (simp [wrap64]; done)), H', ⟨Nat.le_refl _⟩, by repeat (first | exact Drawn0.refl _ | apply Drawn0.step)⟩
  case round =>
    clear H'
    try clear p2
    obtain ⟨x0_1, x5_1, rfl, rfl, HA, HK1, ⟨m1, rfl⟩⟩ := hrel
    cases gk with
    | zero => exact absurd HA.out (by simp [spec_hex16.l0])
    | succ k1 =>
      have H := HA.out
      clear HA
      simp only [spec_hex16.l0] at H
      by_cases c3 : x0_1 > 0
      · rw [if_pos c3] at H
        have c3b0 : decide (0 < x0_1) = true := decide_eq_true c3
        clear c3
        by_cases c4 : 0 ≤ (Go.bits .and .i64 x0_1 15)
        · rw [if_pos c4] at H
          have c4b0 := eq_true c4
          have c4b1 : decide (0 ≤ (Go.bits .and .i64 x0_1 15)) = true := decide_eq_true c4
          clear c4
          by_cases c5 : (Go.bits .and .i64 x0_1 15) ≤ (wrap64 ((Go.bits .and .i64 x0_1 15) + 1))
          · rw [if_pos c5] at H
            have c5b0 := eq_true c5
            have c5b1 : decide ((Go.bits .and .i64 x0_1 15) ≤ (wrap64 ((Go.bits .and .i64 x0_1 15) + 1))) = true := decide_eq_true c5
            by_cases c6 : (wrap64 ((Go.bits .and .i64 x0_1 15) + 1)) ≤ 16
            · rw [if_pos c6] at H
              have c6b0 := eq_true c6
              have c6b1 : decide ((wrap64 ((Go.bits .and .i64 x0_1 15) + 1)) ≤ 16) = true := decide_eq_true c6
              by_cases c7 : ((⟨#[48, 49, 50, 51, 52, 53, 54, 55, 56, 57, 97, 98, 99, 100, 101, 102]⟩ : ByteArray).extract ((Go.bits .and .i64 x0_1 15) : Int).toNat ((wrap64 ((Go.bits .and .i64 x0_1 15) + 1)) : Int).toNat).size + x5_1.size ≤ 9223372036854775807
              · rw [if_pos c7] at H
                have c7b0 := eq_true c7
                have c7b1 : decide (((⟨#[48, 49, 50, 51, 52, 53, 54, 55, 56, 57, 97, 98, 99, 100, 101, 102]⟩ : ByteArray).extract ((Go.bits .and .i64 x0_1 15) : Int).toNat ((wrap64 ((Go.bits .and .i64 x0_1 15) + 1)) : Int).toNat).size + x5_1.size ≤ 9223372036854775807) = true := decide_eq_true c7
                try have c7b2 : (9223372036854775807 < ((⟨#[48, 49, 50, 51, 52, 53, 54, 55, 56, 57, 97, 98, 99, 100, 101, 102]⟩ : ByteArray).extract ((Go.bits .and .i64 x0_1 15) : Int).toNat ((wrap64 ((Go.bits .and .i64 x0_1 15) + 1)) : Int).toNat).size + x5_1.size) = False := eq_false (Nat.not_lt.2 c7)
                have H' := Aside0.mk H
                clear H
                go_wp2
                go_roundg k1
                case measure => have := HK1.out; omega
                case rel => exact ⟨(x0_1 / 16), (((⟨#[48, 49, 50, 51, 52, 53, 54, 55, 56, 57, 97, 98, 99, 100, 101, 102]⟩ : ByteArray).extract ((Go.bits .and .i64 x0_1 15) : Int).toNat ((wrap64 ((Go.bits .and .i64 x0_1 15) + 1)) : Int).toNat) ++ x5_1), (by first | rfl | (simp; done) | (simp [*]; done) | (simp [wrap64]; done)), (by first | rfl | (simp; done) | (simp [*]; done) | (simp [wrap64]; done)), H', ⟨by have := HK1.out; omega⟩, by repeat (first | exact Drawn0.refl _ | apply Drawn0.step)⟩
              · rw [if_neg c7] at H
                exact absurd H (by simp)
            · rw [if_neg c6] at H
              exact absurd H (by simp)
          · rw [if_neg c5] at H
            exact absurd H (by simp)
        · rw [if_neg c4] at H
          exact absurd H (by simp)
      · rw [if_neg c3] at H
        have c3b0 : decide (0 < x0_1) = false := decide_eq_false c3
        clear c3
        by_cases c8 : x5_1.toList = ([] : List UInt8)
        · rw [if_pos c8] at H
          have c8b0 : (x5_1.toList == ([] : List UInt8)) = true := beq_iff_eq.mpr c8
          have c8b1 : (x5_1.toList != ([] : List UInt8)) = false := bne_eq_false_iff_eq.mpr c8
          clear c8
          by_cases c9 : 0 ≤ (Go.bits .and .i64 x0_1 15)
          · rw [if_pos c9] at H
            have c9b0 := eq_true c9
            have c9b1 : decide (0 ≤ (Go.bits .and .i64 x0_1 15)) = true := decide_eq_true c9
            clear c9
            by_cases c10 : (Go.bits .and .i64 x0_1 15) ≤ (wrap64 ((Go.bits .and .i64 x0_1 15) + 1))
            · rw [if_pos c10] at H
              have c10b0 := eq_true c10
              have c10b1 : decide ((Go.bits .and .i64 x0_1 15) ≤ (wrap64 ((Go.bits .and .i64 x0_1 15) + 1))) = true := decide_eq_true c10
              by_cases c11 : (wrap64 ((Go.bits .and .i64 x0_1 15) + 1)) ≤ 16
              · rw [if_pos c11] at H
                have c11b0 := eq_true c11
                have c11b1 : decide ((wrap64 ((Go.bits .and .i64 x0_1 15) + 1)) ≤ 16) = true := decide_eq_true c11
                by_cases c12 : ((⟨#[48, 49, 50, 51, 52, 53, 54, 55, 56, 57, 97, 98, 99, 100, 101, 102]⟩ : ByteArray).extract ((Go.bits .and .i64 x0_1 15) : Int).toNat ((wrap64 ((Go.bits .and .i64 x0_1 15) + 1)) : Int).toNat).size + x5_1.size ≤ 9223372036854775807
                · rw [if_pos c12] at H
                  have c12b0 := eq_true c12
                  have c12b1 : decide (((⟨#[48, 49, 50, 51, 52, 53, 54, 55, 56, 57, 97, 98, 99, 100, 101, 102]⟩ : ByteArray).extract ((Go.bits .and .i64 x0_1 15) : Int).toNat ((wrap64 ((Go.bits .and .i64 x0_1 15) + 1)) : Int).toNat).size + x5_1.size ≤ 9223372036854775807) = true := decide_eq_true c12
                  try have c12b2 : (9223372036854775807 < ((⟨#[48, 49, 50, 51, 52, 53, 54, 55, 56, 57, 97, 98, 99, 100, 101, 102]⟩ : ByteArray).extract ((Go.bits .and .i64 x0_1 15) : Int).toNat ((wrap64 ((Go.bits .and .i64 x0_1 15) + 1)) : Int).toNat).size + x5_1.size) = False := eq_false (Nat.not_lt.2 c12)
                  have H' := Aside0.mk H
                  clear H
                  go_wp2
                  go_roundg k1
                  case measure => have := HK1.out; omega
                  case rel => exact ⟨(x0_1 / 16), (((⟨#[48, 49, 50, 51, 52, 53, 54, 55, 56, 57, 97, 98, 99, 100, 101, 102]⟩ : ByteArray).extract ((Go.bits .and .i64 x0_1 15) : Int).toNat ((wrap64 ((Go.bits .and .i64 x0_1 15) + 1)) : Int).toNat) ++ x5_1), (by first | rfl | (simp; done) | (simp [*]; done) | (simp [wrap64]; done)), (by first | rfl | (simp; done) | (simp [*]; done) | (simp [wrap64]; done)), H', ⟨by have := HK1.out; omega⟩, by repeat (first | exact Drawn0.refl _ | apply Drawn0.step)⟩
                · rw [if_neg c12] at H
                  exact absurd H (by simp)
              · rw [if_neg c11] at H
                exact absurd H (by simp)
            · rw [if_neg c10] at H
              exact absurd H (by simp)
          · rw [if_neg c9] at H
            exact absurd H (by simp)
        · rw [if_neg c8] at H
          have c8b0 : (x5_1.toList == ([] : List UInt8)) = false := beq_eq_false_iff_ne.mpr c8
          have c8b1 : (x5_1.toList != ([] : List UInt8)) = true := bne_iff_ne.mpr c8
          have H' := Aside0.mk H
          clear H
          go_wp2
          go_loopg [5] k1 (fun kq v5 w' => ∃ (x5_2 : ByteArray), v5 = .string x5_2 ∧ Aside0 (spec_hex16.l1 kq a1 x5_2 = some r) ∧ Aside0 (kq ≤ k1) ∧ Drawn0 w w')
          case atStart => exact ⟨(x5_1), (by first | rfl | (simp; done) | (simp [*]; done) | (simp [wrap64]; done)), H', ⟨Nat.le_refl _⟩, by repeat (first | exact Drawn0.refl _ | apply Drawn0.step)⟩
          case round =>
            clear H'
            try clear c1
            try clear p2
            try clear c3
            try clear c3b0
            try clear c4
            try clear c4b0
            try clear c4b1
            try clear c5
            try clear c5b0
            try clear c5b1
            try clear c6
            try clear c6b0
            try clear c6b1
            try clear p6
            try clear c7
            try clear c7b0
            try clear c7b1
            try clear c7b2
            try clear c8
            try clear c8b0
            try clear c8b1
            try clear c9
            try clear c9b0
            try clear c9b1
            try clear c10
            try clear c10b0
            try clear c10b1
            try clear c11
            try clear c11b0
            try clear c11b1
            try clear c12
            try clear c12b0
            try clear c12b1
            try clear c12b2
            try clear p2
            obtain ⟨x5_2, rfl, HA, HK2, ⟨m2, rfl⟩⟩ := hrel
            cases gk with
            | zero => exact absurd HA.out (by simp [spec_hex16.l1])
            | succ k2 =>
              have H := HA.out
              clear HA
              simp only [spec_hex16.l1] at H
              by_cases c13 : (x5_2.size : Int) < a1
              · rw [if_pos c13] at H
                have c13b0 : decide ((x5_2.size : Int) < a1) = true := decide_eq_true c13
                clear c13
                by_cases c14 : 1 + x5_2.size ≤ 9223372036854775807
                · rw [if_pos c14] at H
                  have c14b0 := eq_true c14
                  have c14b1 : decide (1 + x5_2.size ≤ 9223372036854775807) = true := decide_eq_true c14
                  try have c14b2 : (9223372036854775807 < 1 + x5_2.size) = False := eq_false (Nat.not_lt.2 c14)
                  have H' := Aside0.mk H
                  clear H
                  go_wp2
                  go_roundg k2
                  case measure => have := HK1.out; have := HK2.out; omega
                  case rel => exact ⟨((⟨#[48]⟩ : ByteArray) ++ x5_2), (by first | rfl | (simp; done) | (simp [*]; done) | (simp [wrap64]; done)), H', ⟨by have := HK1.out; have := HK2.out; omega⟩, by repeat (first | exact Drawn0.refl _ | apply Drawn0.step)⟩
                · rw [if_neg c14] at H
                  exact absurd H (by simp)
              · rw [if_neg c13] at H
                have c13b0 : decide ((x5_2.size : Int) < a1) = false := decide_eq_false c13
                clear c13
                obtain rfl := Option.some.inj H
                go_wp2
                go_ret
                exact ⟨by first | rfl | (simp; done) | (simp [*]; done) | (simp [wrap64]; done), by repeat (first | exact Drawn0.refl _ | apply Drawn0.step)⟩

end Go.Proofs.YtiilihafcdmccaaDoor.P
-- Written by a program of this session (wip/tools/pprint.py) out of the translation: it goes by the kit's print and by the contracts of YtiilihafcdmccaaDoorHand. Not trusted: Lean checks it.
namespace Go.Proofs.YtiilihafcdmccaaDoor.P
open Go.RowKit Go.Proofs.YtiilihafcdmccaaDoorW.PrintWords Go.Proofs.YtiilihafcdmccaaDoorW.PrintLast Go.Proofs.YtiilihafcdmccaaDoorW.PrintMore
attribute [local go_sem] max2_int min2_int max_two min_two max_three min_three max_four min_four   -- for this text's walks alone
set_option linter.unusedVariables false
set_option linter.unusedSimpArgs false

/-! ### spec_number: function 93 -/
def spec_number.l0 : Nat → Int → List Int → Int → Int → Option (Int)
  | 0, _, _, _, _ => none
  | k + 1, x3, x6, x7, x8 => if x8 < x7 then (if 0 ≤ x8 then (if x8 < (x6.length : Int) then (spec_number.l0 k (Go.bits .or .i64 (wrap64 (x3 * 256)) (wrap64 (rd x6 x8))) x6 x7 (wrap64 (x8 + 1))) else (none)) else (none)) else (some x3)
def spec_number.f (k : Nat) (l0 : List Int) : Option (Int) := spec_number.l0 k 0 l0 (l0.length : Int) 0
theorem spec_number.mono_l : ∀ k, (∀ y0 y1 y2 y3, LeO (spec_number.l0 k y0 y1 y2 y3) (spec_number.l0 (k + 1) y0 y1 y2 y3))
  | 0 => fun _ _ _ _ r h => by simp [spec_number.l0] at h
  | k + 1 => by
    have ih0 := spec_number.mono_l k
    · intro y0 y1 y2 y3
      unfold spec_number.l0
      repeat' first
      | (with_reducible exact ih0 _ _ _ _)
      | (with_reducible exact LeO.refl _)
      | (with_reducible exact LeO.none _)
      | (with_reducible refine LeO.ite ?_ ?_)
      | (with_reducible refine LeO.bind ?_ (fun _ => ?_))
      | exact ih0 _ _ _ _
      | exact LeO.none _
      | refine LeO.ite ?_ ?_
      | refine LeO.bind ?_ (fun _ => ?_)
theorem spec_number.mono : ∀ a0 k, LeO (spec_number.f k a0) (spec_number.f (k + 1) a0) := by
  intro a0 k
  have ih0 := spec_number.mono_l k
  unfold spec_number.f
  repeat' first
      | (with_reducible exact ih0 _ _ _ _)
      | (with_reducible exact LeO.refl _)
      | (with_reducible exact LeO.none _)
      | (with_reducible refine LeO.ite ?_ ?_)
      | (with_reducible refine LeO.bind ?_ (fun _ => ?_))
      | exact ih0 _ _ _ _
      | exact LeO.none _
      | refine LeO.ite ?_ ?_
      | refine LeO.bind ?_ (fun _ => ?_)
set_option maxHeartbeats 8000000 in
set_option maxRecDepth 100000 in
theorem spec_number.calls (k : Nat) (A0 : Option Addr) (c0 : Nat) (l0 : List Int) (r : Int) (w : World) (hr0 : Kd.C (Kd.int .u8) w A0 l0.length l0) (hc0 : l0.length ≤ c0) (h : spec_number.f k l0 = some r) :
    Calls Tryd.prog 93 #[.slice A0 l0.length c0] w fun e w' => e = .returned (.int .i64 r) ∧ Drawn0 w w' := by
  have HR0 := Aside0.mk hr0
  have HC0 := Aside0.mk hc0
  clear hr0 hc0
  have H : (spec_number.l0 k 0 l0 (l0.length : Int) 0) = some r := h
  clear h
  have H' := Aside0.mk H
  clear H
  go_enter Tryd.func93, Tryd.ntmps93
  go_wp2
  go_loopg [3, 8] k (fun kq v3 v8 w' => ∃ (x3_1 : Int) (x8_1 : Int), v3 = .int .i64 x3_1 ∧ v8 = .int .i64 x8_1 ∧ Aside0 (spec_number.l0 kq x3_1 l0 (l0.length : Int) x8_1 = some r) ∧ Aside0 (kq ≤ k) ∧ Drawn0 w w')
  case atStart => exact ⟨(0), (0), (by first | rfl | (simp; done) | (simp [*]; done) | (simp [wrap64]; done)), (by first | rfl | (simp; done) | (simp [*]; done) | (simp [wrap64]; done)), H', ⟨Nat.le_refl _⟩, by repeat (first | exact Drawn0.refl _ | apply Drawn0.step)⟩
  case round =>
    clear H'
    obtain ⟨x3_1, x8_1, rfl, rfl, HA, HK1, ⟨m1, rfl⟩⟩ := hrel
    cases gk with
    | zero => exact absurd HA.out (by simp [spec_number.l0])
    | succ k1 =>
      have H := HA.out
      clear HA
      simp only [spec_number.l0] at H
      by_cases c2 : x8_1 < (l0.length : Int)
      · rw [if_pos c2] at H
        have c2b0 : decide (x8_1 < (l0.length : Int)) = true := decide_eq_true c2
        clear c2
        by_cases c3 : 0 ≤ x8_1
        · rw [if_pos c3] at H
          have c3b0 : decide (0 ≤ x8_1) = true := decide_eq_true c3
          clear c3
          by_cases c4 : x8_1 < (l0.length : Int)
          · rw [if_pos c4] at H
            have c4b0 : decide (x8_1 < (l0.length : Int)) = true := decide_eq_true c4
            clear c4
            have H' := Aside0.mk H
            clear H
            have p507 : 0 ≤ (x8_1 : Int) := of_decide_eq_true (by first | (with_reducible assumption) | assumption)
            have q507 : x8_1 < (l0.length : Int) := of_decide_eq_true (by first | (with_reducible assumption) | assumption)
            obtain ⟨ad507, e507, hx507_0⟩ := Kd.at_int HR0.out x8_1 p507 q507
            cases e507
            replace p507 := eq_true p507
            replace q507 := eq_true q507
            go_wp2
            go_roundg k1
            case measure => have := HK1.out; omega
            case rel => exact ⟨(Go.bits .or .i64 (wrap64 (x3_1 * 256)) (wrap64 (rd l0 x8_1))), (wrap64 (x8_1 + 1)), (by first | rfl | (simp; done) | (simp [*]; done) | (simp [wrap64]; done)), (by first | rfl | (simp; done) | (simp [*]; done) | (simp [wrap64]; done)), H', ⟨by have := HK1.out; omega⟩, by repeat (first | exact Drawn0.refl _ | apply Drawn0.step)⟩
          · rw [if_neg c4] at H
            exact absurd H (by simp)
        · rw [if_neg c3] at H
          exact absurd H (by simp)
      · rw [if_neg c2] at H
        have c2b0 : decide (x8_1 < (l0.length : Int)) = false := decide_eq_false c2
        clear c2
        obtain rfl := Option.some.inj H
        go_wp2
        go_ret
        exact ⟨by first | rfl | (simp; done) | (simp [*]; done) | (simp [wrap64]; done), by repeat (first | exact Drawn0.refl _ | apply Drawn0.step)⟩

end Go.Proofs.YtiilihafcdmccaaDoor.P
/- What the reference's small functions answer: 'decimal', 'number', 'hex16'. -/
namespace Go.Proofs.YtiilihafcdmccaaDoor.P
open Go.RowKit Go.Proofs.YtiilihafcdmccaaDoorW.PrintWords
set_option linter.unusedVariables false
set_option linter.unusedSimpArgs false

theorem wr64 {x : Int} (h0 : -9223372036854775808 ≤ x) (h1 : x ≤ 9223372036854775807) : wrap64 x = x := by unfold wrap64; omega

/-! ### decimal -/
theorem dec_step (k : Nat) (x : Int) (s : List Int) (h0 : 0 ≤ x) (h1 : x < 1000) (hs : s.length ≤ 100) :
    spec_decimal.l0 (k + 1) x (strOfNums s) = if x / 10 = 0 then some (strOfNums ((48 + x % 10) :: s)) else spec_decimal.l0 k (x / 10) (strOfNums ((48 + x % 10) :: s)) := by
  have e1 : (48 + ((Int.tmod x 10) % 256)) % 256 = 48 + x % 10 := by rw [Int.tmod_eq_emod_of_nonneg h0]; omega
  have e2 : wrap64 (Int.tdiv x 10) = x / 10 := by rw [Int.tdiv_eq_ediv_of_nonneg h0, wr64 (by omega) (by omega)]
  rw [spec_decimal.l0, Option.bind_some, e1, e2, if_pos (by rw [strOfNums_size, strOfNums_size]; simp; omega), strOfNums_append]
  rfl
theorem dec_f (v : Int) (h0 : 0 ≤ v) (h1 : v < 256) : spec_decimal.f 3 v = some (strOfNums (dec3 v)) := by
  unfold spec_decimal.f dec3
  rw [show (⟨#[]⟩ : ByteArray) = strOfNums [] from rfl, dec_step 2 v [] h0 (by omega) (by simp)]
  by_cases c1 : v < 10
  · rw [if_pos (by omega), if_pos c1, show v % 10 = v by omega]
  · rw [if_neg (by omega), if_neg c1, dec_step 1 _ _ (by omega) (by omega) (by simp)]
    by_cases c2 : v < 100
    · rw [if_pos (by omega), if_pos c2, show v / 10 % 10 = v / 10 by omega]
    · rw [if_neg (by omega), if_neg c2, dec_step 0 _ _ (by omega) (by omega) (by simp), if_pos (by omega), show v / 10 / 10 % 10 = v / 100 by omega]

/-! ### number -/
theorem num_or {n x : Int} (hn : 0 ≤ n) (hn2 : n < 1099511627776) (hx : 0 ≤ x ∧ x < 256) : Go.bits .or .i64 (wrap64 (n * 256)) (wrap64 x) = n * 256 + x := by
  have e1 : wrap64 (n * 256) = n * 256 := by unfold wrap64; omega
  have e2 : wrap64 x = x := by unfold wrap64; omega
  rw [e1, e2]
  refine bits_join .i64 62 (by decide) (fun n h0 h1 => ?_) 8 _ _ (by omega) (by omega) (by omega) hx.1 (by omega) (by omega)
  rw [IntKind.wrap_i64]
  omega
theorem num_f (x y : Int) (hx : 0 ≤ x ∧ x < 256) (hy : 0 ≤ y ∧ y < 256) : spec_number.f 3 [x, y] = some (x * 256 + y) := by
  unfold spec_number.f
  have r0 : rd [x, y] 0 = x := rfl
  have w1 : wrap64 (0 + 1) = 1 := by unfold wrap64; omega
  have w2 : wrap64 (wrap64 (0 + 1) + 1) = 2 := by unfold wrap64; omega
  have r1 : rd [x, y] (wrap64 (0 + 1)) = y := by rw [w1]; rfl
  simp only [spec_number.l0]
  rw [if_pos (by simp), if_pos (by omega), if_pos (by simp), r0, num_or (by omega) (by omega) hx]
  rw [if_pos (by rw [w1]; simp), if_pos (by rw [w1]; omega), if_pos (by rw [w1]; simp), r1, num_or (by omega) (by omega) hy]
  rw [if_neg (by rw [w2]; simp)]
  congr 2
  omega

/-! ### hex16 -/
theorem valH_from (s : List Int) : ∀ a : Int, s.foldl (fun a c => a * 16 + hexv c) a = a * 16 ^ s.length + valH s := by
  unfold valH
  induction s with
  | nil => intro a; simp
  | cons c s ih =>
    intro a
    rw [List.foldl_cons, List.foldl_cons, ih, ih (0 * 16 + hexv c), List.length_cons, Int.pow_succ, Int.zero_mul, Int.zero_add, Int.add_mul]
    have : a * 16 * 16 ^ s.length = a * (16 ^ s.length * 16) := by rw [Int.mul_assoc, Int.mul_comm 16]
    omega
theorem valH_cons (c : Int) (s : List Int) : valH (c :: s) = hexv c * 16 ^ s.length + valH s := by
  unfold valH
  rw [List.foldl_cons, valH_from s, Int.zero_mul, Int.zero_add]
  rfl
def hxD (v : Int) : Int := if v < 10 then 48 + v else 87 + v
theorem hxD_hx {v : Int} (h0 : 0 ≤ v) (h1 : v < 16) : isHx (hxD v) ∧ hexv (hxD v) = v := by unfold hxD isHx hexv; split <;> split <;> omega
theorem hx_cut (v : Int) (h0 : 0 ≤ v) (h1 : v < 16) : (⟨#[48, 49, 50, 51, 52, 53, 54, 55, 56, 57, 97, 98, 99, 100, 101, 102]⟩ : ByteArray).extract v.toNat (v + 1).toNat = strOfNums [hxD v] := by
  obtain ⟨m, rfl⟩ := Int.eq_ofNat_of_zero_le h0
  have hm : m < 16 := by omega
  rw [Int.toNat_natCast, show ((m : Int) + 1).toNat = m + 1 by omega]
  rcases (show m = 0 ∨ m = 1 ∨ m = 2 ∨ m = 3 ∨ m = 4 ∨ m = 5 ∨ m = 6 ∨ m = 7 ∨ m = 8 ∨ m = 9 ∨ m = 10 ∨ m = 11 ∨ m = 12 ∨ m = 13 ∨ m = 14 ∨ m = 15 by omega) with rfl | rfl | rfl | rfl | rfl | rfl | rfl | rfl | rfl | rfl | rfl | rfl | rfl | rfl | rfl | rfl <;> rfl
theorem hex_dig (k : Nat) (n w : Int) (s : List Int) (h0 : 0 ≤ n) (h1 : n < 65536) (hs : s.length ≤ 100) (hc : 0 < n ∨ s = []) :
    spec_hex16.l0 (k + 1) n w (strOfNums s) = spec_hex16.l0 k (n / 16) w (strOfNums (hxD (n % 16) :: s)) := by
  have e5 : Go.bits .and .i64 n 15 = n % 16 := bits_mask .i64 62 (by decide) (fun n h0 h1 => by rw [IntKind.wrap_i64]; omega) 4 (by omega) n h0 (by omega)
  have e6 : wrap64 (n % 16 + 1) = n % 16 + 1 := wr64 (by omega) (by omega)
  have hz : (strOfNums [hxD (n % 16)]).size + (strOfNums s).size ≤ 9223372036854775807 := by rw [strOfNums_size, strOfNums_size]; simp; omega
  rw [spec_hex16.l0, e5, e6, hx_cut (n % 16) (by omega) (by omega), strOfNums_append]
  by_cases hp : n > 0
  · rw [if_pos hp, if_pos (by omega), if_pos (by omega), if_pos (by omega), if_pos hz]
    rfl
  · have hsn : s = [] := by rcases hc with h | h; omega; exact h
    subst hsn
    rw [if_neg hp, if_pos ((toList_nil _).2 (by decide)), if_pos (by omega), if_pos (by omega), if_pos (by omega), if_pos hz]
    rfl
theorem hex_pad (n w : Int) (hw : w ≤ 4) : ∀ (d k : Nat) (s : List Int), s.length + d = 4 → 1 ≤ s.length → (∀ c ∈ s, isHx c) → valH s = n → ∃ L, spec_hex16.l1 (k + 1 + d) w (strOfNums s) = some (strOfNums L) ∧ GoodG L ∧ valH L = n := by
  intro d
  induction d with
  | zero =>
    intro k s hl h1 hx hv
    refine ⟨s, ?_, ⟨h1, by omega, hx⟩, hv⟩
    rw [spec_hex16.l1, if_neg (by rw [strOfNums_size]; omega)]
  | succ d ih =>
    intro k s hl h1 hx hv
    rw [show k + 1 + (d + 1) = (k + 1 + d) + 1 from rfl, spec_hex16.l1]
    by_cases c : ((strOfNums s).size : Int) < w
    · rw [if_pos c, if_pos (by rw [strOfNums_size]; omega), show (⟨#[48]⟩ : ByteArray) = strOfNums [48] from rfl, strOfNums_append]
      refine ih k (48 :: s) (by rw [List.length_cons]; omega) (by simp) (fun x hx2 => ?_) ?_
      · rcases List.mem_cons.1 hx2 with rfl | h
        · unfold isHx; omega
        · exact hx x h
      · rw [valH_cons, hv, show hexv 48 = 0 from rfl]
        omega
    · rw [if_neg c]
      exact ⟨s, rfl, ⟨h1, by omega, hx⟩, hv⟩
theorem hex_more (N w : Int) (hw : w ≤ 4) : ∀ (d k : Nat) (n : Int) (s : List Int), s.length + d = 4 → 0 ≤ n → n < 16 ^ d → (0 < n ∨ 1 ≤ s.length) → (∀ c ∈ s, isHx c) → n * 16 ^ s.length + valH s = N → ∃ L, spec_hex16.l0 (k + 6 + d) n w (strOfNums s) = some (strOfNums L) ∧ GoodG L ∧ valH L = N := by
  intro d
  induction d with
  | zero =>
    intro k n s hl h0 h1 hc hx hv
    obtain rfl : n = 0 := by rw [Int.pow_zero] at h1; omega
    have h := hex_pad N w hw 0 (k + 4) s hl (by omega) hx (by rw [← hv]; omega)
    obtain ⟨L, h1, h2⟩ := h
    refine ⟨L, ?_, h2⟩
    rw [Nat.add_zero] at h1
    rw [show k + 6 + 0 = (k + 5) + 1 from rfl, spec_hex16.l0, if_neg (by omega), if_neg, h1]
    intro he
    have : (strOfNums s).size = 0 := by
      rw [size_eq_len, (toList_nil _).1 he]; rfl
    rw [strOfNums_size] at this
    omega
  | succ d ih =>
    intro k n s hl h0 h1 hc hx hv
    by_cases hn : 0 < n
    · have hp : (16 : Int) ^ (d + 1) = 16 ^ d * 16 := Int.pow_succ 16 d
      have hle : (16 : Int) ^ d ≤ 4096 := by
        rcases (show d = 0 ∨ d = 1 ∨ d = 2 ∨ d = 3 by omega) with rfl | rfl | rfl | rfl <;> decide
      rw [show k + 6 + (d + 1) = (k + 6 + d) + 1 from rfl, hex_dig _ n w s h0 (by omega) (by omega) (.inl hn)]
      refine ih k (n / 16) (hxD (n % 16) :: s) (by rw [List.length_cons]; omega) (by omega) (by omega) (.inr (by simp)) (fun x hx2 => ?_) ?_
      · rcases List.mem_cons.1 hx2 with rfl | h
        · exact (hxD_hx (by omega) (by omega)).1
        · exact hx x h
      · rw [valH_cons, (hxD_hx (v := n % 16) (by omega) (by omega)).2, List.length_cons, Int.pow_succ, ← hv]
        have e : n = n / 16 * 16 + n % 16 := by omega
        generalize hq : n / 16 = q at *
        generalize hr : n % 16 = r at *
        generalize (16 : Int) ^ s.length = p
        rw [e, Int.add_mul, Int.mul_assoc q 16 p, Int.mul_comm 16 p]
        omega
    · obtain rfl : n = 0 := by omega
      obtain ⟨L, h1, h2⟩ := hex_pad N w hw (d + 1) (k + 4) s hl (by omega) hx (by rw [← hv]; omega)
      refine ⟨L, ?_, h2⟩
      rw [show k + 4 + 1 + (d + 1) = k + 6 + d by omega] at h1
      rw [show k + 6 + (d + 1) = (k + 6 + d) + 1 from rfl, spec_hex16.l0, if_neg (by omega), if_neg, h1]
      intro he
      have : (strOfNums s).size = 0 := by
        rw [size_eq_len, (toList_nil _).1 he]; rfl
      rw [strOfNums_size] at this
      omega
theorem hex_f (n w : Int) (h0 : 0 ≤ n) (h1 : n < 65536) (hw : w ≤ 4) : ∃ L, spec_hex16.f 11 n w = some (strOfNums L) ∧ GoodG L ∧ valH L = n := by
  unfold spec_hex16.f
  rw [show (⟨#[]⟩ : ByteArray) = strOfNums [] from rfl]
  by_cases hn : 0 < n
  · exact hex_more n w hw 4 1 n [] rfl h0 (by rw [show (16 : Int) ^ 4 = 65536 from rfl]; exact h1) (.inl hn) (by simp) (by simp [valH])
  · obtain rfl : n = 0 := by omega
    rw [hex_dig 10 0 w [] (by omega) (by omega) (by simp) (.inr rfl)]
    refine hex_more 0 w hw 3 1 0 [hxD 0] rfl (by omega) (by rw [show (16 : Int) ^ 3 = 4096 from rfl]; omega) (.inr (by simp)) ?_ ?_
    · intro c hc
      simp at hc
      subst hc
      exact (hxD_hx (by omega) (by omega)).1
    · rfl

end Go.Proofs.YtiilihafcdmccaaDoor.P
/- How far the text of an address is written: plain law of the reference's last loop. -/
namespace Go.Proofs.YtiilihafcdmccaaDoor.P
open Go.RowKit
set_option linter.unusedVariables false
set_option linter.unusedSimpArgs false

/-- The eight groups of sixteen octets. -/
def Gs (B : List Int) : List Int := (List.range 8).map fun i => B.getD (2 * i) 0 * 256 + B.getD (2 * i + 1) 0
theorem Gs_len (B : List Int) : (Gs B).length = 8 := by simp [Gs]
theorem Gs_at (B : List Int) {i : Nat} (hi : i < 8) : (Gs B).getD i 0 = B.getD (2 * i) 0 * 256 + B.getD (2 * i + 1) 0 := by
  unfold Gs
  rw [List.getD_eq_getElem?_getD, List.getElem?_map, List.getElem?_range hi]
  rfl
theorem two_of {x y : Int} (hx : 0 ≤ x ∧ x < 256) (hy : 0 ≤ y ∧ y < 256) : (x * 256 + y) / 256 = x ∧ (x * 256 + y) % 256 = y := by omega
theorem Gs_bys {B : List Int} (hB : B.length = 16) (hBB : IsB B) : bysN (Gs B) = B := by
  match B, hB with
  | [b0, b1, b2, b3, b4, b5, b6, b7, b8, b9, b10, b11, b12, b13, b14, b15], _ =>
    have e : Gs [b0, b1, b2, b3, b4, b5, b6, b7, b8, b9, b10, b11, b12, b13, b14, b15] = [b0 * 256 + b1, b2 * 256 + b3, b4 * 256 + b5, b6 * 256 + b7, b8 * 256 + b9, b10 * 256 + b11, b12 * 256 + b13, b14 * 256 + b15] := rfl
    obtain ⟨c0, c1⟩ := two_of (hBB b0 (by simp)) (hBB b1 (by simp))
    obtain ⟨c2, c3⟩ := two_of (hBB b2 (by simp)) (hBB b3 (by simp))
    obtain ⟨c4, c5⟩ := two_of (hBB b4 (by simp)) (hBB b5 (by simp))
    obtain ⟨c6, c7⟩ := two_of (hBB b6 (by simp)) (hBB b7 (by simp))
    obtain ⟨c8, c9⟩ := two_of (hBB b8 (by simp)) (hBB b9 (by simp))
    obtain ⟨c10, c11⟩ := two_of (hBB b10 (by simp)) (hBB b11 (by simp))
    obtain ⟨c12, c13⟩ := two_of (hBB b12 (by simp)) (hBB b13 (by simp))
    obtain ⟨c14, c15⟩ := two_of (hBB b14 (by simp)) (hBB b15 (by simp))
    rw [e]
    simp only [bysN, List.flatMap_cons, List.flatMap_nil, List.cons_append, List.nil_append, c0, c1, c2, c3, c4, c5, c6, c7, c8, c9, c10, c11, c12, c13, c14, c15]
theorem Gs_range {B : List Int} (hBB : IsB B) {i : Nat} (hi : i < 8) : 0 ≤ (Gs B).getD i 0 ∧ (Gs B).getD i 0 < 65536 := by
  have h : ∀ j, 0 ≤ B.getD j 0 ∧ B.getD j 0 < 256 := fun j => by
    rw [List.getD_eq_getElem?_getD]
    cases hj : B[j]? with
    | none => simp
    | some x => exact hBB x (List.mem_of_getElem? hj)
  rw [Gs_at B hi]
  have h0 := h (2 * i)
  have h1 := h (2 * i + 1)
  omega
/-- How far the text is: i groups are passed, of which those from p to q are left out. -/
inductive St (G : List Int) (p q : Nat) : Nat → List Int → Prop
  | head (A : List (List Int)) (i : Nat) : (q ≤ p ∨ i ≤ p) → (∀ g ∈ A, GoodG g) → A.map valH = G.take i → St G p q i (A.foldl emit [])
  | tail (A C : List (List Int)) (i : Nat) : p < q → q ≤ i → (∀ g ∈ A, GoodG g) → (∀ g ∈ C, GoodG g) → A.map valH = G.take p → C.map valH = (G.drop q).take (i - q) → St G p q i (C.foldl emit (A.foldl emit [] ++ [58, 58]))
theorem St.start (G : List Int) (p q : Nat) : St G p q 0 [] := .head [] 0 (.inr (Nat.zero_le _)) (by simp) (by simp)
theorem St.gap {G : List Int} {p q : Nat} {X : List Int} (hpq : p < q) (h : St G p q p X) : St G p q q (X ++ [58, 58]) := by
  cases h with
  | head A _ h1 h2 h3 => exact .tail A [] q hpq (Nat.le_refl _) h2 (by simp) h3 (by simp)
  | tail A C _ h1 h2 => omega
theorem St.step {G : List Int} {p q i : Nat} {X L : List Int} (hi : i < G.length) (hn : ¬ (i = p ∧ p < q)) (h : St G p q i X) (hL : GoodG L) (hv : valH L = G.getD i 0) : St G p q (i + 1) (emit X L) := by
  rw [List.getD_eq_getElem?_getD, List.getElem?_eq_getElem hi, Option.getD_some] at hv
  cases h with
  | head A _ h1 h2 h3 =>
    have e : emit (A.foldl emit []) L = (A ++ [L]).foldl emit [] := by rw [List.foldl_append]; rfl
    rw [e]
    refine .head _ _ (by omega) (fun g hg => ?_) ?_
    · rcases List.mem_append.1 hg with hg | hg
      · exact h2 g hg
      · simp at hg; subst hg; exact hL
    · rw [List.map_append, h3, List.take_succ_eq_append_getElem hi, List.map_singleton, hv]
  | tail A C _ h1 h2 h3 h4 h5 h6 =>
    have e : emit (C.foldl emit (A.foldl emit [] ++ [58, 58])) L = (C ++ [L]).foldl emit (A.foldl emit [] ++ [58, 58]) := by rw [List.foldl_append]; rfl
    rw [e]
    refine .tail A (C ++ [L]) _ h1 (by omega) h3 (fun g hg => ?_) h5 ?_
    · rcases List.mem_append.1 hg with hg | hg
      · exact h4 g hg
      · simp at hg; subst hg; exact hL
    · rw [List.map_append, h6, show i + 1 - q = (i - q) + 1 by omega, List.take_succ_eq_append_getElem (by rw [List.length_drop]; omega), List.map_singleton, hv, List.getElem_drop]
      congr 3
      simp only [show q + (i - q) = i by omega]
theorem St.done {G : List Int} {p q : Nat} {X : List Int} (hG : G.length = 8) (hq : q ≤ 8) (hz : ∀ j, p ≤ j → j < q → G.getD j 0 = 0) (h : St G p q 8 X) :
    ∃ (f : Int) (gs : List (List Int)), X = txt6 f gs ∧ (∀ g ∈ gs, GoodG g) ∧ ((f = -1 ∧ gs.length = 8) ∨ (0 ≤ f ∧ f ≤ gs.length ∧ gs.length ≤ 7)) ∧ fin6 f gs = bysN G := by
  cases h with
  | head A _ h1 h2 h3 =>
    rw [List.take_of_length_le (by omega)] at h3
    have hl : A.length = 8 := by have := congrArg List.length h3; rw [List.length_map] at this; omega
    exact ⟨-1, A, text_all A h2, h2, .inl ⟨rfl, hl⟩, octets_all A G h3⟩
  | tail A C _ h1 h2 h3 h4 h5 h6 =>
    rw [List.take_of_length_le (by rw [List.length_drop]; omega)] at h6
    have lA : A.length = p := by have := congrArg List.length h5; rw [List.length_map, List.length_take] at this; omega
    have lC : C.length = 8 - q := by have := congrArg List.length h6; rw [List.length_map, List.length_drop] at this; omega
    refine ⟨(A.length : Nat), A ++ C, text_gap A C h3 h4, fun g hg => ?_, .inr ⟨by omega, by rw [List.length_append]; omega, by rw [List.length_append]; omega⟩, ?_⟩
    · rcases List.mem_append.1 hg with hg | hg
      · exact h3 g hg
      · exact h4 g hg
    · refine octets_gap A C G p q hG (by omega) hq (fun j hj h7 h8 => ?_) h5 h6
      have := hz j h7 h8
      rwa [List.getD_eq_getElem?_getD, List.getElem?_eq_getElem hj, Option.getD_some] at this
/-- What stands before the next group. -/
def emitP (s : List Int) : List Int := if s = [] ∨ s.getLast? = some 58 then s else s ++ [58]
theorem emit_P (s g : List Int) : emit s g = emitP s ++ g := rfl
theorem emitP_cases (s : List Int) : (s = [] ∧ emitP s = s) ∨ (∃ r, s = r ++ [58] ∧ emitP s = s) ∨ (∃ r c, s = r ++ [c] ∧ c ≠ 58 ∧ emitP s = s ++ [58]) := by
  by_cases h : s = []
  · exact .inl ⟨h, by unfold emitP; rw [if_pos (.inl h)]⟩
  · have hs := (List.dropLast_concat_getLast h).symm
    by_cases h2 : s.getLast h = 58
    · refine .inr (.inl ⟨s.dropLast, by rw [← h2]; exact hs, ?_⟩)
      unfold emitP
      rw [if_pos (.inr (by rw [List.getLast?_eq_some_getLast h, h2]))]
    · refine .inr (.inr ⟨s.dropLast, s.getLast h, hs, h2, ?_⟩)
      unfold emitP
      rw [if_neg]
      rintro (h3 | h3)
      · exact h h3
      · rw [List.getLast?_eq_some_getLast h] at h3
        exact h2 (Option.some.inj h3)
theorem emitP_len (s : List Int) : (emitP s).length ≤ s.length + 1 := by unfold emitP; split <;> simp

end Go.Proofs.YtiilihafcdmccaaDoor.P
/- 'spec.mapped': sixteen octets that stand for four. -/
namespace Go.Proofs.YtiilihafcdmccaaDoor.P
open Go.RowKit Go.Proofs.YtiilihafcdmccaaDoorW.PrintWords Go.Proofs.YtiilihafcdmccaaDoorW.PrintLast Go.Proofs.YtiilihafcdmccaaDoorW.PrintMore
set_option linter.unusedVariables false
set_option linter.unusedSimpArgs false

/-- From the place ad on stand these octets. -/
def Row8 (w : World) (ad : Addr) (B : List Int) : Prop := ∀ i, i < B.length → w.cell? (ad.add i) = some (.int .u8 (B.getD i 0))
theorem Row8.of_C {w : World} {A : Option Addr} {B : List Int} (h : Kd.C (Kd.int .u8) w A B.length B) (hp : 0 < B.length) : ∃ ad, A = some ad ∧ Row8 w ad B := by
  obtain ⟨ad, rfl, _⟩ := Kd.at_int h 0 (by omega) (by omega)
  refine ⟨ad, rfl, fun i hi => ?_⟩
  obtain ⟨ad2, h2, h3⟩ := Kd.at_int h i (by omega) (by omega)
  cases h2
  rw [Int.toNat_natCast] at h3
  rw [h3]
  unfold rd
  rw [Int.toNat_natCast]
theorem Row8.below {w w' : World} {ad : Addr} {B : List Int} (h : Row8 w ad B) (hb : Below w.heap.size w w') : Row8 w' ad B := fun i hi => (hb.cell (World.block_lt_of_cell? w _ (h i hi))).trans (h i hi)
theorem mapd_false {R : List Int} (hR : R.length = 16) {i : Nat} (hi : i < 12) (h : if i < 10 then R.getD i 0 ≠ 0 else R.getD i 0 ≠ 255) : mapd R = false := by
  match R, hR with
  | [b0, b1, b2, b3, b4, b5, b6, b7, b8, b9, b10, b11, b12, b13, b14, b15], _ =>
    rcases (show i = 0 ∨ i = 1 ∨ i = 2 ∨ i = 3 ∨ i = 4 ∨ i = 5 ∨ i = 6 ∨ i = 7 ∨ i = 8 ∨ i = 9 ∨ i = 10 ∨ i = 11 by omega) with rfl | rfl | rfl | rfl | rfl | rfl | rfl | rfl | rfl | rfl | rfl | rfl <;> simp at h <;> simp [mapd, h]
theorem mapd_true {R : List Int} (hR : R.length = 16) (h : ∀ i, i < 12 → if i < 10 then R.getD i 0 = 0 else R.getD i 0 = 255) : mapd R = true := by
  match R, hR with
  | [b0, b1, b2, b3, b4, b5, b6, b7, b8, b9, b10, b11, b12, b13, b14, b15], _ =>
    have h0 := h 0 (by omega)
    have h1 := h 1 (by omega)
    have h2 := h 2 (by omega)
    have h3 := h 3 (by omega)
    have h4 := h 4 (by omega)
    have h5 := h 5 (by omega)
    have h6 := h 6 (by omega)
    have h7 := h 7 (by omega)
    have h8 := h 8 (by omega)
    have h9 := h 9 (by omega)
    have h10 := h 10 (by omega)
    have h11 := h 11 (by omega)
    simp at h0 h1 h2 h3 h4 h5 h6 h7 h8 h9 h10 h11
    simp [mapd, h0, h1, h2, h3, h4, h5, h6, h7, h8, h9, h10, h11]
set_option maxRecDepth 100000 in
set_option maxHeartbeats 2000000 in
theorem mapped16 (B : List Int) (ad : Addr) (c0 : Nat) (w : World) (hB : B.length = 16) (hc : 16 ≤ c0) (hr : Row8 w ad B) :
    Calls Tryd.prog 70 #[.slice (some ad) 16 c0] w fun e w' => e = .returned (.bool (mapd B)) ∧ w' = w := by
  have HR := Aside0.mk hr
  have HB := Aside0.mk hB
  have hc1 : (12 : Int) ≤ (c0 : Int) := by omega
  clear hr hB
  go_enter Tryd.func70, Tryd.ntmps70
  go_wp2
  go_loopw [8] (fun v8 W => ∃ i : Nat, v8 = .int .i64 i ∧ i ≤ 12 ∧ Aside0 (∀ j, j < i → if j < 10 then B.getD j 0 = 0 else B.getD j 0 = 255) ∧ W = w) (fun v8 _ => (12 - intOf v8).toNat)
  case atStart => exact ⟨0, rfl, Nat.zero_le _, ⟨fun j hj => by omega⟩, rfl⟩
  case round =>
    obtain ⟨i, rfl, hi, hz, rfl⟩ := hrel
    by_cases hlt : i < 12
    · have ki : wr.cell? (ad.add i) = some (.int .u8 (B.getD i 0)) := HR.out i (by have := HB.out; omega)
      obtain ⟨y, hy⟩ : ∃ y, y = B.getD i 0 := ⟨_, rfl⟩
      rw [← hy] at ki
      have HY := Aside0.mk hy
      clear hy
      have d0 : decide ((i : Int) < 12) = true := decide_eq_true (by omega)
      have i0 : (0 : Int) ≤ (i : Int) := by omega
      by_cases ht : i < 10
      · have d1 : decide ((i : Int) < 10) = true := decide_eq_true (by omega)
        have d2 : decide ((10 : Int) ≤ (i : Int)) = false := decide_eq_false (by omega)
        by_cases hy0 : y = 0
        · have Y0 := Aside0.mk hy0
          have f0 : (y != 0) = false := bne_eq_false_iff_eq.mpr hy0
          go_wp2
          go_roundw
          case rel => exact ⟨i + 1, by go_num, by omega, ⟨fun j hj => by
            rcases Nat.lt_or_ge j i with h | h
            · exact hz.out j h
            · rw [show j = i by omega, if_pos ht, ← HY.out, Y0.out]⟩, by simp⟩
          case measure => simp [intOf]; omega
        · have f0 : (y != 0) = true := bne_iff_ne.mpr hy0
          have Y0 := Aside0.mk (mapd_false HB.out hlt (by rw [if_pos ht, ← HY.out]; exact hy0))
          go_wp2
          go_ret
          exact ⟨by rw [Y0.out]; rfl, rfl⟩
      · have d1 : decide ((i : Int) < 10) = false := decide_eq_false (by omega)
        have d2 : decide ((10 : Int) ≤ (i : Int)) = true := decide_eq_true (by omega)
        by_cases hy0 : y = 255
        · have Y0 := Aside0.mk hy0
          have f0 : (y != 255) = false := bne_eq_false_iff_eq.mpr hy0
          go_wp2
          go_roundw
          case rel => exact ⟨i + 1, by go_num, by omega, ⟨fun j hj => by
            rcases Nat.lt_or_ge j i with h | h
            · exact hz.out j h
            · rw [show j = i by omega, if_neg ht, ← HY.out, Y0.out]⟩, by simp⟩
          case measure => simp [intOf]; omega
        · have f0 : (y != 255) = true := bne_iff_ne.mpr hy0
          have Y0 := Aside0.mk (mapd_false HB.out hlt (by rw [if_neg ht, ← HY.out]; exact hy0))
          go_wp2
          go_ret
          exact ⟨by rw [Y0.out]; rfl, rfl⟩
    · obtain rfl : i = 12 := by omega
      have Y0 := Aside0.mk (mapd_true HB.out hz.out)
      go_wp2
      go_ret
      exact ⟨by rw [Y0.out]; rfl, rfl⟩

end Go.Proofs.YtiilihafcdmccaaDoor.P
