/- The row of the law FnHash and its tied card, out of the printed walk and the plain law Pure.FnHash. Written by a program of this session (wip/tools/rowd.py). -/
import Derived.Test.YtiilihafcdmccaaDoorRows
import Derived.Test.YtiilihafcdmccaaDoorCards
import Derived.Test.YtiilihafcdmccaaDoorTie
import Derived.Test.YtiilihafcdmccaaDoorXHa4
import Derived.Test.YtiilihafcdmccaaDoorWSized
import Derived.WalkKit
import Derived.ProofKit
import Derived.OpenShut
import Derived.ShutString
import Derived.ChangeOld
import Derived.Below
import Derived.SizedLaws
import Derived.LaidMore
import Derived.Lay
import Derived.SevenTiedAt
import Derived.Stop.Joined
import Derived.LaidLaws
import Derived.Lib.LaidU8
namespace Go.Proofs.YtiilihafcdmccaaDoor.fnHash
open Go.ChangeShapes Go.WideShapes Go.ChangeAt Go.RowKit
open Go.ChangeMaps (open_string shut_string)
open Go.Proofs.YtiilihafcdmccaaDoorW.PrintWords Go.Proofs.YtiilihafcdmccaaDoorW.PrintLast
set_option linter.unusedVariables false
theorem own : ownKnob Tryd.prog.godebug = none := by kernel_rfl
theorem laidOut : laidOutB Tryd.prog = true := by kernel_rfl
theorem cells5 : Tryd.prog.cellsOf 5 = 1 := by kernel_rfl
theorem cells3 : Tryd.prog.cellsOf 3 = 1 := by kernel_rfl
theorem cells22 : Tryd.prog.cellsOf 22 = 1 := by kernel_rfl
def IsRow (k : IntKind) (w : World) (a : Option Addr) (len cap : Nat) (zs : List Int) : Prop :=
  (a = none ∧ len = 0 ∧ cap = 0 ∧ zs = []) ∨
  ∃ x, a = some x ∧ len ≤ cap ∧ cap ≤ maxLen ∧ zs.length = cap ∧ (∀ i, i < zs.length → w.cell? (x.add i) = some (.int k (zs.getD i 0))) ∧ ∀ n ∈ zs, (Lit.int k n).wf = true
theorem cell_of {W : World} {n : String} {g : Nat} {nm : String} {d : DataW Unit} (hg : Tryd.prog.globalNamed n = some g) (ht : (Tryd.prog.globals[g]?).map (·.type) = some 72) (h : Lib.VarReads Tryd.prog W n (.iface nm d)) : ∃ t x, W.cell? ⟨g, 0, none⟩ = some (.iface t x) := by
  obtain ⟨g', t, cs, fuel, p, h1, h2, h3, h4⟩ := h
  obtain rfl := Option.some.inj (hg.symm.trans h1)
  obtain rfl := Option.some.inj (ht.symm.trans h2)
  obtain ⟨f', u, v, e, _, _⟩ := iface_of_trod Tryd.underlying72 h4
  have h5 := World.var?_cell hg h3 0
  rw [Array.eq_one_of_toList e] at h5
  exact ⟨u, v, by simpa using h5⟩
theorem good_of {W : World} (h : laidMetH Tryd.prog Rows.fnHashRow.laid W) : P.GoodH W := by
  rw [MakeChecks.laidMetH_plain _ _ _ (by kernel_rfl)] at h
  obtain ⟨t0, x0, e0⟩ := cell_of (g := 0) (show Tryd.prog.globalNamed "domainrecords/pub/dns.ErrBuf" = some 0 by kernel_rfl) (by kernel_rfl) (Lib.laidMet.reads h (d := Rows.laid_domainrecords_pub_dns_ErrBuf) (by unfold Rows.fnHashRow; repeat (first | exact List.Mem.head _ | apply List.Mem.tail)))
  obtain ⟨t1, x1, e1⟩ := cell_of (g := 2) (show Tryd.prog.globalNamed "domainrecords/pub/dns.ErrRdata" = some 2 by kernel_rfl) (by kernel_rfl) (Lib.laidMet.reads h (d := Rows.laid_domainrecords_pub_dns_ErrRdata) (by unfold Rows.fnHashRow; repeat (first | exact List.Mem.head _ | apply List.Mem.tail)))
  obtain ⟨t2, x2, e2⟩ := cell_of (g := 9) (show Tryd.prog.globalNamed "encoding/hex.ErrLength" = some 9 by kernel_rfl) (by kernel_rfl) (Lib.laidMet.reads h (d := Rows.laid_encoding_hex_ErrLength) (by unfold Rows.fnHashRow; repeat (first | exact List.Mem.head _ | apply List.Mem.tail)))
  exact ⟨⟨t0, x0, t1, x1, e0, e1⟩, ⟨_, e2⟩⟩
set_option maxRecDepth 100000 in
theorem lifted (os : Os) (started : os.Started) (H : Type) (enc : TypeId × Value → H) :
    ReturnsInHanded {} Tryd.checked os 12 .any (fun w args => (Rows.fnHashSpec.pre enc Tryd.prog Tryd.f12 Rows.fnHashRow.domain false w args ∧ laidMetH Tryd.prog Rows.fnHashRow.laid w) ∧ sizedMet enc Tryd.prog Tryd.f12 (OpenSpec.ofChange Rows.fnHashSpec) false w args)
      (Rows.fnHashSpec.post enc Tryd.prog Tryd.f12 false true false false) := by
  refine returnsInHanded_of_change_and (C := Tryd.checked) (X := fun w _ => laidMetH Tryd.prog Rows.fnHashRow.laid w) (fun _ _ _ hh h => h.of_heap hh) own started (by kernel_rfl) Tryd.func12
    (ChangeSpec.witness_shaped (enc := enc) (C := Tryd.checked) (os := os) (X := fun w _ => laidMetH Tryd.prog Rows.fnHashRow.laid w) false (World.laidAll Tryd.prog os Rows.fnHashRow.laid) #[.slice none 0 0, .int .i64 0, .slice none 0 0] 8 (World.laidAll_os _ _ _)
      (World.shaped_of_ZipB (by kernel_rfl) (by kernel_rfl)) (by kernel_rfl) (by kernel_rfl) (by kernel_rfl)
      (by rw [MakeChecks.laidMetH_plain _ _ _ (by kernel_rfl)]; exact laidMet_laidAll _ (by kernel_rfl) (by kernel_rfl))) ?_
  intro W base args ds gs before hval0 hW hcnd hsz0 hL _
  have hsz : (DataW.weightsEach Tryd.prog (Tryd.f12.params.toList ++ Rows.fnHashSpec.plain.varTypes Tryd.prog) (ds ++ gs)).all (· ≤ reachBytes) = true := hsz0
  have hval : ∀ (j : Nat) t v, Tryd.f12.params[j]? = some t → args[j]? = some v → Value.okWide Tryd.prog W .any base t v := hval0
  have hW' := hW
  obtain ⟨p, q, hA0, hV, rfl, hfz, hnd⟩ := hW
  have hA : DataW.TrodAll enc Tryd.prog W 0 (fun _ => true) true Tryd.f12.params.toList args.toList ds p := hA0
  rw [Tryd.params12] at hA hval hsz
  obtain ⟨v0, vs0, d0, ds0, p0, q0, hargs, rfl, rfl, h0, r0⟩ := trodAll_cons hA
  obtain ⟨v1, vs1, d1, ds1, p1, q1, rfl, rfl, rfl, h1, r1⟩ := trodAll_cons r0
  obtain ⟨v2, vs2, d2, ds2, p2, q2, rfl, rfl, rfl, h2, r2⟩ := trodAll_cons r1
  obtain ⟨rfl, rfl, rfl⟩ := trodAll_nil r2
  obtain rfl : args = #[v0, v1, v2] := by cases args; simp_all
  obtain ⟨rfl, rfl⟩ := trodVars_none hV
  obtain ⟨a0, len0, cap0, rfl⟩ := okWide_slice Tryd.underlying44 (hval 0 44 v0 rfl rfl)
  have k0 := h0
  have lt0 : ∀ x ∈ p0, x.block < W.heap.size := by obtain ⟨m, hm⟩ := k0; exact DataW.trod_lt m _ _ _ hm
  obtain ⟨l0, el0, hr0, hc0, b0⟩ : ∃ n : List (List Int), n.length = len0 ∧ Kd.C (Kd.slice 5 (Kd.int .u8)) W a0 len0 n ∧ len0 ≤ cap0 ∧ ∀ l ∈ n, P.IsB l := by
    obtain ⟨fuel, hf⟩ := h0
    exact P.rows_C Tryd.underlying44 Tryd.underlying22 Tryd.underlying5 cells22 cells5 hf
  subst el0
  obtain ⟨a1, rfl, rfl, rfl, w1⟩ := open_int Tryd.underlying3 (hval 1 3 v1 rfl rfl) h1
  obtain ⟨a2, len2, cap2, rfl⟩ := okWide_slice Tryd.underlying22 (hval 2 22 v2 rfl rfl)
  have k2 := h2
  have lt2 : ∀ x ∈ p2, x.block < W.heap.size := by obtain ⟨m, hm⟩ := k2; exact DataW.trod_lt m _ _ _ hm
  obtain ⟨z2, w2⟩ : ∃ zs, IsRow .u8 W a2 len2 cap2 zs := by
    obtain ⟨fuel, hf⟩ := h2
    rcases open_ints Tryd.underlying22 Tryd.underlying5 (by kernel_rfl) hf with ⟨hcs, _⟩ | ⟨x, l, c, zs, hcs, _, hl, hm, hz, _, hcell, hwz⟩
    · simp [Value.cells] at hcs
      obtain ⟨rfl, rfl, rfl⟩ := hcs
      exact ⟨[], .inl ⟨rfl, rfl, rfl, rfl⟩⟩
    · simp [Value.cells] at hcs
      obtain ⟨rfl, rfl, rfl⟩ := hcs
      exact ⟨zs, .inr ⟨_, rfl, hl, hm, by simpa using hz, hcell, hwz⟩⟩
  have y2 : len2 * 1 ≤ 140737488351232 := Go.Proofs.YtiilihafcdmccaaDoorW.PrintWords.sized_ints hsz (j := 2) (t := 22) rfl rfl Tryd.underlying22 Tryd.underlying5 (by kernel_rfl) (by kernel_rfl) h2
  obtain ⟨l2, rfl, hr2, hm2, hw2, hc2⟩ := ReadsInt.ofRowC w2
  have b2 : P.IsB l2 := fun y hy => by
    have h : IntKind.u8.min ≤ y ∧ y ≤ IntKind.u8.max := by simpa [Lit.wf] using hw2 y hy
    rw [show IntKind.u8.min = 0 by decide, show IntKind.u8.max = 255 by decide] at h
    exact ⟨h.1, by omega⟩
  obtain ⟨kk, hkk⟩ := Pure.FnHash l0 a1 l2 b0 b2
  clear hA0 hval0 hsz0 hsz
  refine (P.laws_FnHash.calls kk a0 cap0 l0 a1 a2 cap2 l2 true W hr0 hc0 (Kd.C_of_reads (d := (0 : Int)) (h1 := fun _ => rfl) hr2) hc2 (good_of hL) hkk).mono fun e W' ⟨he, bel⟩ => ?_
  subst he
  exact ⟨_, rfl, _, _, _, [], _, [], hW', trodAll_mk1 (shut_bool Tryd.underlying4 _), (trodAll_cons_mk (Below.trod laidOut (by kernel_rfl) (of_decide_eq_true (by kernel_rfl)) k0 bel lt0) (trodAll_cons_mk (shut_int Tryd.underlying3 w1) (trodAll_cons_mk (Below.trod laidOut (by kernel_rfl) (of_decide_eq_true (by kernel_rfl)) k2 bel lt2) trodAll_mk0))), rfl, bel.frame _, fun h => by cases h⟩
theorem over : Rows.FnHashSaid :=
  OpenClaim.holds_of_wide 12 Tryd.f12 rfl rfl rfl rfl rfl rfl rfl ⟨rfl, rfl, rfl, rfl, rfl⟩ rfl rfl rfl rfl rfl (by kernel_rfl) Tryd.func12 (by kernel_rfl)
    (of_decide_eq_true (by kernel_rfl)) (by unfold Func.isWrapper; first | (rw [if_pos (by decide +kernel)]; kernel_rfl) | (rw [if_neg (by decide +kernel)]; exact ⟨rfl, rfl⟩))
    (fun os started H enc _ => lifted os started H enc)
theorem proved : Rows.FnHashCardSaid :=
  Claim7.holds_tied_plain_at .later [] [.data, .sentinel, .sentinel, .sentinel, .sentinel, .pinned, .pinned] true (true, "e765f3aa522eba91951ef68ab83fed23f2090f331153f13dddaf9a737011503c") false over (fun _ h => by cases h) (by kernel_rfl) (fun _ h => by cases h) fnHash_row_tie rfl ⟨rfl, rfl⟩ (by kernel_rfl) rfl
    (fun f fn hf hfn => by
      obtain rfl : f = 12 := Option.some.inj ((show Tryd.prog.funcNamed "domainrecords/laws.FnHash" = some 12 by kernel_rfl).symm.trans hf) |>.symm
      obtain rfl : fn = Tryd.f12 := (Option.some.inj (Tryd.func12.symm.trans hfn)).symm
      exact ⟨by kernel_rfl, fun j t ht => by
        rw [Tryd.params12] at ht
        have hm : t ∈ [44, 3, 22] := by simpa using Array.mem_of_getElem? ht
        have hall : ([44, 3, 22].all fun u => !Tryd.prog.wantsStandIn u) = true := by kernel_rfl
        exact (show Tryd.prog.wantsStandIn t = false by simpa using List.all_eq_true.1 hall t hm)⟩)
    (by kernel_rfl)
#print axioms proved
end Go.Proofs.YtiilihafcdmccaaDoor.fnHash
namespace Go.Proofs.YtiilihafcdmccaaDoor
/-- The card, under a short name, for the claim. -/
theorem fnHash_holds : Rows.FnHashCardSaid := fnHash.proved
end Go.Proofs.YtiilihafcdmccaaDoor
