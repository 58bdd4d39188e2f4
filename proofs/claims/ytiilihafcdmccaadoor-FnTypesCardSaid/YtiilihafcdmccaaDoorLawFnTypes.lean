/- The row of the law FnTypes and its tied card, out of the printed walk and the plain law Pure.FnTypes. Written by a program of this session (wip/tools/rowd.py). -/
import Derived.Test.YtiilihafcdmccaaDoorRows
import Derived.Test.YtiilihafcdmccaaDoorCards
import Derived.Test.YtiilihafcdmccaaDoorTie
import Derived.Test.YtiilihafcdmccaaDoorTypes
import Derived.WalkKit
import Derived.ProofKit
import Derived.OpenShut
import Derived.ShutString
import Derived.ChangeOld
import Derived.Below
import Derived.SizedLaws
import Derived.LaidMore
import Derived.Lay
import Derived.SevenTiedAt
import Derived.Stop.Joined
import Derived.LaidLaws
import Derived.Lib.LaidU8
import Derived.WideKeyElems2
import Derived.Maps.OwnSet
import Derived.Maps.StringElems
import Derived.ProofKit
import Derived.LaidMore
namespace Go.Proofs.YtiilihafcdmccaaDoor.fnTypes
open Go.ChangeShapes Go.WideShapes Go.ChangeAt Go.RowKit
open Go.ChangeMaps (open_string shut_string)
set_option linter.unusedVariables false
theorem own : ownKnob Tryd.prog.godebug = none := by kernel_rfl
theorem good_of {W : World} (h : laidMetH Tryd.prog Rows.fnTypesRow.laid W) : P.GoodM W := by
  rw [MakeChecks.laidMetH_plain _ _ _ (by kernel_rfl)] at h
  obtain ⟨g, t, cs, fuel, p, h1, h2, h3, h4⟩ := Lib.laidMet.reads h (n := "domainrecords/pub/dns.TypeToString") (d := Rows.laid_domainrecords_pub_dns_TypeToString) (by unfold Rows.fnTypesRow; repeat (first | exact List.Mem.head _ | apply List.Mem.tail))
  have hg := (show Tryd.prog.globalNamed "domainrecords/pub/dns.TypeToString" = some 3 by kernel_rfl)
  obtain rfl := Option.some.inj (hg.symm.trans h1)
  obtain rfl := Option.some.inj ((show (Tryd.prog.globals[3]?).map (·.type) = some 110 by kernel_rfl).symm.trans h2)
  rcases Go.WideElems.open_map Tryd.underlying110 h4 with ⟨_, h5⟩ | ⟨b, es, clock, n, _, hcs, hb, _, F, hx⟩
  · exact absurd (congrArg Prod.fst h5) (by unfold Rows.laid_domainrecords_pub_dns_TypeToString; intro h; cases h)
  · have h5 := World.var?_cell hg h3 0
    rw [Array.eq_one_of_toList hcs] at h5
    have hown := World.ownsMap_of_fit (R := plainElem Tryd.prog 9) hb F (fun x _ z hz => elemAt_plainElem_string Tryd.underlying9 hz)
    have hd := congrArg Prod.fst hx
    simp only [] at hd
    rw [← hd] at hown
    exact ⟨b, es.size, by simpa using h5, hown⟩
/-- The map of the types' names as the memory holds it: for the witness. -/
def witV : Lit → Value
  | .int k n => .int k n
  | .string bs => .string ⟨bs.toArray⟩
  | _ => .bool false
def witD : DataW Unit → Value
  | .lit l => witV l
  | _ => .bool false
def witE : Array MapEntry :=
  match (Rows.laid_domainrecords_pub_dns_TypeToString : DataW Unit) with
  | .map es => ((es.zip (List.range es.length)).map fun p => { key := witV p.1.1, val := witD p.1.2, born := p.2 }).toArray
  | _ => #[]
noncomputable def witW (os : Os) : World :=
  let w := World.holding Tryd.prog os ⟨#[], #[], []⟩
  ({ w with heap := (w.heap.push (.map witE 1000)).setIfInBounds 3 (.cells #[.map (some w.heap.size)] 110 (0, 0)) } : World).layVars Tryd.prog (Rows.fnTypesRow.laid.filter fun x => x.1 != "domainrecords/pub/dns.TypeToString")
set_option maxRecDepth 100000 in
theorem wit_met (os : Os) (args : Array Value) : laidMetH Tryd.prog Rows.fnTypesRow.laid ((witW os).forCall (fun _ _ => 0) ⟨#[], args, []⟩).memory :=
  laidMetH_of_parts3 (fuel := 8) (laidMet_of_run' 8 (by kernel_rfl) (by kernel_rfl)) (by kernel_rfl) (by kernel_rfl)
set_option maxRecDepth 100000 in
theorem lifted (os : Os) (started : os.Started) (H : Type) (enc : TypeId × Value → H) :
    ReturnsInHanded {} Tryd.checked os 10 .any (fun w args => (Rows.fnTypesSpec.pre enc Tryd.prog Tryd.f10 Rows.fnTypesRow.domain false w args ∧ laidMetH Tryd.prog Rows.fnTypesRow.laid w) ∧ sizedMet enc Tryd.prog Tryd.f10 (OpenSpec.ofChange Rows.fnTypesSpec) false w args)
      (Rows.fnTypesSpec.post enc Tryd.prog Tryd.f10 false true false false) := by
  refine returnsInHanded_of_change_and (C := Tryd.checked) (X := fun w _ => laidMetH Tryd.prog Rows.fnTypesRow.laid w) (fun _ _ _ hh h => h.of_heap hh) own started (by kernel_rfl) Tryd.func10
    (ChangeSpec.witness_shaped (enc := enc) (C := Tryd.checked) (os := os) (X := fun w _ => laidMetH Tryd.prog Rows.fnTypesRow.laid w) false (witW os) #[.int .i64 0] 8 (World.layVars_os _ _ _)
      (World.shaped_of_ZipB (by kernel_rfl) (by kernel_rfl)) (by kernel_rfl) (by kernel_rfl) (by kernel_rfl) (wit_met os _)) ?_
  intro W base args ds gs before hval0 hW hcnd hsz0 hL _
  have hsz : (DataW.weightsEach Tryd.prog (Tryd.f10.params.toList ++ Rows.fnTypesSpec.plain.varTypes Tryd.prog) (ds ++ gs)).all (· ≤ reachBytes) = true := hsz0
  have hval : ∀ (j : Nat) t v, Tryd.f10.params[j]? = some t → args[j]? = some v → Value.okWide Tryd.prog W .any base t v := hval0
  have hW' := hW
  obtain ⟨p, q, hA0, hV, rfl, hfz, hnd⟩ := hW
  have hA : DataW.TrodAll enc Tryd.prog W 0 (fun _ => true) true Tryd.f10.params.toList args.toList ds p := hA0
  rw [Tryd.params10] at hA hval hsz
  obtain ⟨v0, vs0, d0, ds0, p0, q0, hargs, rfl, rfl, h0, r0⟩ := trodAll_cons hA
  obtain ⟨rfl, rfl, rfl⟩ := trodAll_nil r0
  obtain rfl : args = #[v0] := by cases args; simp_all
  obtain ⟨rfl, rfl⟩ := trodVars_none hV
  obtain ⟨a0, rfl, rfl, rfl, w0⟩ := open_int Tryd.underlying3 (hval 0 3 v0 rfl rfl) h0
  clear hA0 hval0 hsz0 hsz
  refine (P.laws_FnTypes.walk a0 W w0 (good_of hL)).mono fun e W' ⟨he, bel⟩ => ?_
  subst he
  exact ⟨_, rfl, _, _, _, [], _, [], hW', trodAll_mk1 (shut_bool Tryd.underlying4 _), (trodAll_cons_mk (shut_int Tryd.underlying3 w0) trodAll_mk0), rfl, bel.frame _, fun h => by cases h⟩
theorem over : Rows.FnTypesSaid :=
  OpenClaim.holds_of_wide 10 Tryd.f10 rfl rfl rfl rfl rfl rfl rfl ⟨rfl, rfl, rfl, rfl, rfl⟩ rfl rfl rfl rfl rfl (by kernel_rfl) Tryd.func10 (by kernel_rfl)
    (of_decide_eq_true (by kernel_rfl)) (by unfold Func.isWrapper; first | (rw [if_pos (by decide +kernel)]; kernel_rfl) | (rw [if_neg (by decide +kernel)]; exact ⟨rfl, rfl⟩))
    (fun os started H enc _ => lifted os started H enc)
theorem proved : Rows.FnTypesCardSaid :=
  Claim7.holds_tied_plain_at .later [] [.data, .data, .data, .mapped] true (true, "e765f3aa522eba91951ef68ab83fed23f2090f331153f13dddaf9a737011503c") false over (fun _ h => by cases h) (by kernel_rfl) (fun _ h => by cases h) fnTypes_row_tie rfl ⟨rfl, rfl⟩ (by kernel_rfl) rfl
    (fun f fn hf hfn => by
      obtain rfl : f = 10 := Option.some.inj ((show Tryd.prog.funcNamed "domainrecords/laws.FnTypes" = some 10 by kernel_rfl).symm.trans hf) |>.symm
      obtain rfl : fn = Tryd.f10 := (Option.some.inj (Tryd.func10.symm.trans hfn)).symm
      exact ⟨by kernel_rfl, fun j t ht => by
        rw [Tryd.params10] at ht
        have hm : t ∈ [3] := by simpa using Array.mem_of_getElem? ht
        have hall : ([3].all fun u => !Tryd.prog.wantsStandIn u) = true := by kernel_rfl
        exact (show Tryd.prog.wantsStandIn t = false by simpa using List.all_eq_true.1 hall t hm)⟩)
    (by kernel_rfl)
#print axioms proved
end Go.Proofs.YtiilihafcdmccaaDoor.fnTypes
namespace Go.Proofs.YtiilihafcdmccaaDoor
/-- The card, under a short name, for the claim. -/
theorem fnTypes_holds : Rows.FnTypesCardSaid := fnTypes.proved
end Go.Proofs.YtiilihafcdmccaaDoor
