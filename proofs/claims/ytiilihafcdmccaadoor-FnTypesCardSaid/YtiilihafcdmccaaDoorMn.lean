/- 'spec.mnemonics': the types' names, a slice of a literal. -/
import Derived.Test.YtiilihafcdmccaaDoorBase
namespace Go.Proofs.YtiilihafcdmccaaDoor.P
open Go.RowKit Go.Proofs.YtiilihafcdmccaaDoorW.PrintWords Go.Proofs.YtiilihafcdmccaaDoorW.PrintLast Go.Proofs.YtiilihafcdmccaaDoorW.PrintMore
set_option linter.unusedVariables false
set_option linter.unusedSimpArgs false

def mnT : List (Int × ByteArray) := [(1, ⟨#[65]⟩), (2, ⟨#[78, 83]⟩), (5, ⟨#[67, 78, 65, 77, 69]⟩), (6, ⟨#[83, 79, 65]⟩), (7, ⟨#[77, 66]⟩), (8, ⟨#[77, 71]⟩), (9, ⟨#[77, 82]⟩), (12, ⟨#[80, 84, 82]⟩), (13, ⟨#[72, 73, 78, 70, 79]⟩), (14, ⟨#[77, 73, 78, 70, 79]⟩), (15, ⟨#[77, 88]⟩), (16, ⟨#[84, 88, 84]⟩), (17, ⟨#[82, 80]⟩), (18, ⟨#[65, 70, 83, 68, 66]⟩), (21, ⟨#[82, 84]⟩), (28, ⟨#[65, 65, 65, 65]⟩), (33, ⟨#[83, 82, 86]⟩), (35, ⟨#[78, 65, 80, 84, 82]⟩), (36, ⟨#[75, 88]⟩), (39, ⟨#[68, 78, 65, 77, 69]⟩), (43, ⟨#[68, 83]⟩), (44, ⟨#[83, 83, 72, 70, 80]⟩), (46, ⟨#[82, 82, 83, 73, 71]⟩), (47, ⟨#[78, 83, 69, 67]⟩), (48, ⟨#[68, 78, 83, 75, 69, 89]⟩), (49, ⟨#[68, 72, 67, 73, 68]⟩), (50, ⟨#[78, 83, 69, 67, 51]⟩), (51, ⟨#[78, 83, 69, 67, 51, 80, 65, 82, 65, 77]⟩), (52, ⟨#[84, 76, 83, 65]⟩), (53, ⟨#[83, 77, 73, 77, 69, 65]⟩), (59, ⟨#[67, 68, 83]⟩), (60, ⟨#[67, 68, 78, 83, 75, 69, 89]⟩), (61, ⟨#[79, 80, 69, 78, 80, 71, 80, 75, 69, 89]⟩), (62, ⟨#[67, 83, 89, 78, 67]⟩), (63, ⟨#[90, 79, 78, 69, 77, 68]⟩), (99, ⟨#[83, 80, 70]⟩), (104, ⟨#[78, 73, 68]⟩), (105, ⟨#[76, 51, 50]⟩), (106, ⟨#[76, 54, 52]⟩), (107, ⟨#[76, 80]⟩), (108, ⟨#[69, 85, 73, 52, 56]⟩), (109, ⟨#[69, 85, 73, 54, 52]⟩), (256, ⟨#[85, 82, 73]⟩), (257, ⟨#[67, 65, 65]⟩), (258, ⟨#[65, 86, 67]⟩), (32768, ⟨#[84, 65]⟩), (32769, ⟨#[68, 76, 86]⟩), (3, ⟨#[77, 68]⟩), (4, ⟨#[77, 70]⟩), (23, ⟨#[78, 83, 65, 80, 45, 80, 84, 82]⟩), (24, ⟨#[83, 73, 71]⟩), (25, ⟨#[75, 69, 89]⟩), (26, ⟨#[80, 88]⟩), (29, ⟨#[76, 79, 67]⟩), (42, ⟨#[65, 80, 76]⟩), (45, ⟨#[73, 80, 83, 69, 67, 75, 69, 89]⟩), (56, ⟨#[78, 73, 78, 70, 79]⟩), (57, ⟨#[82, 75, 69, 89]⟩), (58, ⟨#[84, 65, 76, 73, 78, 75]⟩), (64, ⟨#[83, 86, 67, 66]⟩), (65, ⟨#[72, 84, 84, 80, 83]⟩), (100, ⟨#[85, 73, 78, 70, 79]⟩), (101, ⟨#[85, 73, 68]⟩), (102, ⟨#[71, 73, 68]⟩), (261, ⟨#[82, 69, 83, 73, 78, 70, 79]⟩)]
def mnCells : Array Value := (mnT.flatMap fun p => [Value.int .i64 p.1, Value.string p.2]).toArray
theorem wp_of_run {P : Program} {o : Oper} {a : Act} {w : World} {K : Act → World → Prop} {Q : Exit → Act → World → Prop} {v : Value} {w1 : World} (h : (execOp a.eval o).run P w = .ok (.value v) w1) (hk : K (a.put o.dst v) w1) : Oper.wp P o a w K Q := by
  unfold Oper.wp
  rw [h]
  exact hk
set_option maxRecDepth 100000
set_option maxHeartbeats 8000000
theorem mn_any (w : World) : Calls Tryd.prog 63 #[] w fun e w' => e = .returned (.slice (some ⟨w.heap.size, 0, none⟩) 65 65) ∧ w' = w.alloc (.cells mnCells 85) := by
  go_enter Tryd.func63, Tryd.ntmps63
  go_wp2
  rename_i K1 h1 K hK
  refine wp_of_run (v := .slice (some ⟨w.heap.size, 0, none⟩) 65 65) (w1 := w.alloc (.cells mnCells 85)) (by kernel_rfl) ?_
  refine hK _ _ ?_
  clear hK K
  go_wp2
  go_ret
  exact ⟨rfl, rfl⟩

end Go.Proofs.YtiilihafcdmccaaDoor.P
