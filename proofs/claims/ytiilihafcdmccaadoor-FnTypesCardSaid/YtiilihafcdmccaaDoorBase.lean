/- Lemmas of this seat's hand-made contracts: a row of bytes that '[]byte(s)' made, a make with a capacity of its own. -/
import Derived.Test.YtiilihafcdmccaaDoorProg
import Derived.Below
import Derived.Deep.Draws
import Derived.Deep.AppendLies
import Derived.Maps.AppendAt
import Derived.OwnWalk
import Derived.Laws.BytesArg
import Derived.Laws.MakeOwn
import Derived.Laws.OwnMore
import Derived.Deep.OwnRows
import Derived.Tactics
import Derived.Lib.ConvBytes
import Derived.Lib.Hide
import Derived.Laws.Slices
import Derived.WalkKit
import Derived.KernelRfl
import Derived.RowKit3
import Derived.Deep.LoopGhost
import Derived.Deep.QuietTactic
import Derived.BigQuiet
import Derived.WideLaws
import Derived.Deep.DeepCutAuto
import Derived.Deep.CutBlock
import Derived.Deep.RegionHeld3
import Derived.Laws.Rows
import Derived.Lib.AppendStr
import Derived.ArgAppend
import Derived.Laws.IdiomCopy
import Derived.OrdersHeld
import Derived.Laws.BitsLemmas
import Derived.RowKit
import Derived.Test.YtiilihafcdmccaaDoorWWords
import Derived.Test.YtiilihafcdmccaaDoorWLast
import Derived.Test.YtiilihafcdmccaaDoorWTab
import Derived.Test.YtiilihafcdmccaaDoorWFour
import Derived.Test.YtiilihafcdmccaaDoorWMore
namespace Go.Proofs.YtiilihafcdmccaaDoor.P
open Go.RowKit Go.Proofs.YtiilihafcdmccaaDoorW.PrintWords Go.Proofs.YtiilihafcdmccaaDoorW.PrintLast Go.Proofs.YtiilihafcdmccaaDoorW.PrintMore
set_option linter.unusedVariables false
set_option linter.unusedSimpArgs false

/-- Block b holds, from its head on, these bytes, and they may be written. -/
def RowB (wr : World) (b : Nat) (xs : List Int) : Prop :=
  ∀ j, j < xs.length → wr.cell? ⟨b, j, none⟩ = some (.int .u8 (xs.getD j 0)) ∧ wr.frozen? ⟨b, j, none⟩ = false

theorem RowB.cell {wr : World} {b : Nat} {xs : List Int} (h : RowB wr b xs) {j : Nat} (hj : j < xs.length) :
    wr.cell? ⟨b, j, none⟩ = some (.int .u8 (xs.getD j 0)) := (h j hj).1
theorem RowB.free {wr : World} {b : Nat} {xs : List Int} (h : RowB wr b xs) {j : Nat} (hj : j < xs.length) :
    wr.frozen? ⟨b, j, none⟩ = false := (h j hj).2

theorem RowB.set {wr : World} {b : Nat} {xs : List Int} (h : RowB wr b xs) (i : Nat) (x : Int) :
    RowB (wr.setCell ⟨b, i, none⟩ (.int .u8 x)) b (xs.set i x) := by
  intro j hj
  rw [List.length_set] at hj
  obtain ⟨h1, h2⟩ := h j hj
  refine ⟨?_, by rw [World.frozen?_setCell]; exact h2⟩
  by_cases e : i = j
  · subst e
    rw [World.cell?_setCell_same _ _ _ h1]
    simp [List.getD_eq_getElem?_getD, List.getElem?_set, hj]
  · rw [World.cell?_setCell_other _ _ _ _ (by intro he; injection he with _ he; exact e he), h1]
    simp [List.getD_eq_getElem?_getD, List.getElem?_set, e]

theorem RowB_bytes (w : World) (e : TypeId) (s : ByteArray) : RowB (Lib.bytesWorld w e s) w.heap.size (bytesOf s) := by
  intro j hj
  rw [bytesOf_length] at hj
  refine ⟨?_, ?_⟩
  · rw [Lib.bytesWorld_cell w e s j hj]
    have h' : j < s.data.toList.length := by rw [data_length]; exact hj
    simp [bytesOf, List.getD_eq_getElem?_getD, List.getElem?_eq_getElem h']
  · have hc : (Lib.bytesCells w e s).size ≥ s.size := by
      unfold Lib.bytesCells
      simp
    simp only [World.frozen?, Lib.bytesWorld_at_new]
    simp
    intro h
    omega

section
variable {α : Type} {P : Program} {ops : Array Oper} {rest : List Oper} {o : Oper} {a : Act} {Q : Exit → Act → World → Prop}
/-- make([]T, n, m): a length and a capacity of its own. -/
theorem R_makec (d : Kd α) {w0 W : World} (base e : Nat) (hgd : o.guard = none) {N : Tmp} (hd : o.dst = some N) (t : TypeId) (x y : Operand) (ho : o.op = .makeSlice t x y) (n m : Int) (hx : a.eval x = .int .i64 n) (hy : a.eval y = .int .i64 m) (hnm : n ≤ m)
    (ht : P.underlying t = some (.slice e)) (z : Value) (bytes : Nat) (hinfo : (P.info? e).map (fun i => (i.zero, i.size, i.bytes)) = some (some z, d.sz, bytes)) (hz : z.cells.size = d.sz) (hs0 : 0 < d.sz) (hb0 : 0 < bytes)
    (z0 : α) {ok okp : Nat → Prop} (hzero : d.M W base okp z0 z.cells.toList) (hok : ∀ k, okp k → ok k) (hfresh : ok W.heap.size) (h0 : 0 ≤ n) (hl : m.toNat * bytes ≤ 281474976710656) (HB : Below base w0 W) (hbase : base ≤ W.heap.size)
    (h : ∀ v1 w1, d.R e w1 base ok v1 (List.replicate n.toNat z0) → Below base w0 w1 → W.grownBy w1 none → (∃ b, v1.ownBlock = some b ∧ W.heap.size ≤ b) → wpList P ops Q rest (a.put o.dst v1) w1) : wpList P ops Q (o :: rest) a W := by
  obtain ⟨m, rfl⟩ := Int.eq_ofNat_of_zero_le (Int.le_trans h0 hnm)
  obtain ⟨n, rfl⟩ := Int.eq_ofNat_of_zero_le h0
  simp only [Int.toNat_natCast] at hl h
  obtain ⟨i0, hi, hzz⟩ := Option.map_eq_some_iff.1 hinfo
  simp only [Prod.mk.injEq] at hzz
  obtain ⟨hz0, hz1, hz2⟩ := hzz
  have hm : m ≤ 281474976710656 := Nat.le_trans (Nat.le_mul_of_pos_right _ hb0) hl
  have hr := run_make (P := P) W t e i0 z ht hi hz0 .i64 .i64 (n : Int) (m : Int) (by omega) hnm
    (by
      have h3 : ((i0.bytes * m : Nat) : Int) ≤ 281474976710656 := by rw [hz2, Nat.mul_comm]; omega
      rwa [Int.natCast_mul] at h3) (by omega)
  simp only [Int.toNat_natCast] at hr
  rw [hz1] at hr
  have hrep := Kd.reps_made hz hs0 hzero m
  have hR : d.R e (W.alloc (.cells (madeCells z.cells (m * d.sz)) e)) base ok (.slice (some ⟨W.heap.size, 0, none⟩) m m) (List.replicate m z0) := by
    refine ⟨fun k hk => ?_, (madeCells z.cells (m * d.sz)).toList, ?_, ?_⟩
    · have : W.heap.size = k := by simpa [Value.ownBlock] using hk
      subst this
      exact hfresh
    · have h2 := World.ownsRow_lit (base := base) (e := e) (size := d.sz) W (madeCells z.cells (m * d.sz)) m hbase (by simp [maxLen]; omega) (by simp [size_madeCells])
      simpa using h2
    · refine hrep.imp_ (fun p c hp => d.M_mono (fun k hk => ⟨hok k hk.1, fun he => ?_⟩) (Kd.M_below (d.M_bound hp) (below_alloc (Below.refl _ _) _)))
      have h3 : k = W.heap.size := by simpa [Value.ownBlock] using he
      have := hk.2.2.1
      omega
  have hR' := Kd.R_take (m := n) hR (by rw [List.length_replicate]; omega)
  rw [List.take_replicate, Nat.min_eq_left (by omega)] at hR'
  refine Kd.event_run hgd (w1 := W.alloc (.cells (madeCells z.cells (m * d.sz)) e)) (v := .slice (some ⟨W.heap.size, 0, none⟩) n m) ?_ (h _ _ hR' (HB.alloc hbase _) (World.grownBy_alloc W _ none) ⟨W.heap.size, by simp [Value.ownBlock], Nat.le_refl _⟩)
  simp [execOp, ho, hx, hy, hr]
end

end Go.Proofs.YtiilihafcdmccaaDoor.P
