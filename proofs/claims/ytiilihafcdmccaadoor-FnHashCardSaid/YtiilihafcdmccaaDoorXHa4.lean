/- Texts of this session merged by program (wip/tools/merge.py): Sha2, PF33, Nsec, HName, ImplH, PF43, PF12, PureFnHash, RowsIn. -/
import Derived.Test.YtiilihafcdmccaaDoorXHa3
import Derived.Test.YtiilihafcdmccaaDoorXHa1
import Derived.Test.YtiilihafcdmccaaDoorXHa2
import Derived.Deep.Matrix
import Derived.Test.YtiilihafcdmccaaDoorWLast
/- spec.SHA1: the same sum, given the contract of its padding. -/
namespace Go.Proofs.YtiilihafcdmccaaDoor.P
open Go.RowKit Go.Proofs.YtiilihafcdmccaaDoorW.PrintWords Go.Proofs.YtiilihafcdmccaaDoorW.PrintLast Go.Proofs.YtiilihafcdmccaaDoorW.PrintMore
set_option linter.unusedVariables false
set_option linter.unusedSimpArgs false

theorem c4_of_row {w : World} {b : Nat} {P : List Int} (h : RowR w b P) (s : Nat) (hs : s + 4 ≤ P.length) : Kd.C (Kd.int .u8) w (some ⟨b, s, none⟩) 4 [P.getD s 0, P.getD (s + 1) 0, P.getD (s + 2) 0, P.getD (s + 3) 0] := by
  have ha : ∀ j, j < 4 → (⟨b, s, none⟩ : Addr).add (j * (Kd.int IntKind.u8).sz + 0) = ⟨b, s + j, none⟩ := by
    intro j hj
    show (⟨b, s, none⟩ : Addr).add (j * 1 + 0) = ⟨b, s + j, none⟩
    rw [Nat.mul_one, Nat.add_zero]
    simp only [Addr.add]
    split <;> simp_all
  refine ⟨rfl, by omega, fun _ => ⟨_, rfl, fun j p hj => ⟨[.int .u8 p], rfl, rfl, fun i u hu => ?_⟩⟩⟩
  obtain ⟨hjl, hjp⟩ := List.getElem?_eq_some_iff.1 hj
  have hj4 : j < 4 := hjl
  have hi : i = 0 := by
    have := (List.getElem?_eq_some_iff.1 hu).1
    simp at this
    exact this
  subst hi
  have hu2 : u = .int .u8 p := by simpa using hu.symm
  rw [hu2, ha j hj4, h (s + j) (by omega)]
  have : p = P.getD (s + j) 0 := by
    rw [← hjp]
    match j, hj4 with
    | 0, _ => rfl
    | 1, _ => rfl
    | 2, _ => rfl
    | 3, _ => rfl
  rw [this]

theorem by4_wrap (g : Int) : by4 (wrap64 g) = by4 g := by
  unfold by4 wrap64
  congr 1
  · omega
  · congr 1
    · omega
    · congr 1
      · omega
      · congr 1
        omega
theorem app_4 (x4 : List Int) (g : Int) (hl : x4.length < 10000) : spec_appended.f 6 x4 (wrap64 g) 4 = some (x4 ++ by4 g) := by
  have w : ∀ a b : Int, 0 ≤ a → a < 100 → a = b → wrap64 a = b := fun a b h h1 e => by unfold wrap64; omega
  have e3 := w (8 * 3) 24 (by omega) (by omega) (by omega)
  have e2 := w (8 * 2) 16 (by omega) (by omega) (by omega)
  have e1 := w (8 * 1) 8 (by omega) (by omega) (by omega)
  have e0 := w (8 * 0) 0 (by omega) (by omega) (by omega)
  have d4 := w (4 - 1) 3 (by omega) (by omega) (by omega)
  have d3 := w (3 - 1) 2 (by omega) (by omega) (by omega)
  have d2 := w (2 - 1) 1 (by omega) (by omega) (by omega)
  have d1 := w (1 - 1) 0 (by omega) (by omega) (by omega)
  have d0 : wrap64 (0 - 1) = -1 := by unfold wrap64; omega
  have s24 : shr .i64 (wrap64 g) 24 = wrap64 g / 16777216 := rfl
  have s16 : shr .i64 (wrap64 g) 16 = wrap64 g / 65536 := rfl
  have s8 : shr .i64 (wrap64 g) 8 = wrap64 g / 256 := rfl
  have s0 : shr .i64 (wrap64 g) 0 = wrap64 g := Int.ediv_one _
  rw [← by4_wrap]
  unfold spec_appended.f
  rw [d4]
  rw [spec_appended.l0, if_pos (by omega), e3, if_pos (by omega), if_pos (by omega), d3, s24]
  rw [spec_appended.l0, if_pos (by omega), e2, if_pos (by omega), if_pos (by simp only [List.length_append, List.length_cons, List.length_nil]; omega), d2, s16]
  rw [spec_appended.l0, if_pos (by omega), e1, if_pos (by omega), if_pos (by simp only [List.length_append, List.length_cons, List.length_nil]; omega), d1, s8]
  rw [spec_appended.l0, if_pos (by omega), e0, if_pos (by omega), if_pos (by simp only [List.length_append, List.length_cons, List.length_nil]; omega), d0, s0]
  rw [spec_appended.l0, if_neg (by omega)]
  simp [by4]
theorem u32V_size (xs : List Int) : (u32V xs).size = xs.length := by simp [u32V]
theorem run_index_u32 {P : Program} (t e n : Nat) (ht : P.underlying t = some (.array n e)) (he : P.underlying e = some (.int .u32)) (hinf : (P.info? e).map (·.size) = some 1) (L : List Int) (hL : L.length = n) (i : Nat) (hi : i < n) (W : World) :
    (Instr.index t (.agg (u32V L)) (.int .i64 i)).run P W = .ok (.int .u32 (L.getD i 0)) W := by
  have h0 : (0 : Int) ≤ (i : Int) ∧ (i : Int) < (n : Int) := by omega
  have hk : (u32V L)[i]? = some (.int .u32 (L.getD i 0)) := by simp [u32V, List.getD_eq_getElem?_getD, hL, hi]
  have hs : (sizeOf e).run P W = .ok 1 W := by
    obtain ⟨inf, h1, h2⟩ := Option.map_eq_some_iff.1 hinf
    simp [sizeOf, typeInfo, h1, h2, Sem.run_bind]
  have ha : (isAgg e).run P W = .ok false W := by simp [isAgg, run_underlying he, Sem.run_bind]
  simp [Instr.index, run_underlying ht, asIntOf, h0, hs, part, ha, hk, Sem.run_bind]
  omega

set_option maxHeartbeats 8000000 in
set_option maxRecDepth 100000 in
theorem sha_sp (P : List Int) (l0 : List Int) (A0 : Option Addr) (c0 : Nat) (w : World) (hPl : P.length ≤ 1000000) (hP64 : P.length % 64 = 0) (hPB : ∀ x ∈ P, 0 ≤ x ∧ x < 256)
    (hpad : ∀ W, Below w.heap.size w W → Calls Tryd.prog 92 #[.slice A0 l0.length c0] W fun e w' => ∃ v, e = .returned v ∧ IsP w' v P ∧ Below W.heap.size W w') : Calls Tryd.prog 68 #[.slice A0 l0.length c0] w fun e w' => ∃ v, e = .returned v ∧ Kd.R (Kd.int .u8) 5 w' w.heap.size (fun _ => True) v (shaOf P) ∧ Below w.heap.size w w' := by
  have hpad1 := Aside0.mk hpad
  clear hpad
  go_enter Tryd.func68, Tryd.ntmps68
  go_wp2_with (first | (go_at_call 92; (with_reducible refine (hpad1.out _ ?hb).mono ?_); (case hb => exact below_alloc (Below.refl _ _) _); rintro e w' ⟨v, rfl, ⟨b, cap, rfl, hcap, hrow⟩, hb⟩; (have hrow0 := Aside0.mk hrow); (have hh0 := Aside0.mk (show w'.heap[w.heap.size]? = some (.cells (u32V [1732584193, 4023233417, 2562383102, 271733878, 3285377520]) 113 (0, 0)) by rw [hb.block _ (by simp)]; exact heap_alloc_new w _)); (have hbel0 := Aside0.mk ((below_alloc (Below.refl _ _) _).trans (hb.mono (by simp)) : Below w.heap.size w w')); clear hb hrow))
  go_loopw [4] (fun v4 wr => ∃ (k aN n c : Nat) (A : Option Addr) (hs : List Int), v4 = .slice A n c ∧ aN = 64 * k ∧ aN + n = P.length ∧ n ≤ c ∧ (0 < n → A = some ⟨b, aN, none⟩) ∧ hs.length = 5 ∧ Aside0 (hs = s5L (blks P k)) ∧ Aside0 (wr.heap[w.heap.size]? = some (.cells (u32V hs) 113 (0, 0))) ∧ Aside0 (RowR wr b P) ∧ Aside0 (Below w.heap.size w wr)) (fun v4 _ => match v4 with | .slice _ n _ => n | _ => 0)
  case atStart => exact ⟨0, 0, P.length, cap, _, _, rfl, rfl, by omega, hcap, fun _ => rfl, by rfl, ⟨rfl⟩, hh0, hrow0, hbel0⟩
  case round =>
    clear hh0 hrow0 hbel0 hpad1
    obtain ⟨k, aN, n, c, A, hs, rfl, haN, hk, hnc, hA, hsl, hst0, hh, hrow, hbel⟩ := hrel
    have hlw : w.heap.size < wr.heap.size := World.block_lt_of_cell? wr _ (u32_cell hh.out (i := 0) (by omega)).1
    obtain ⟨w1, hw1⟩ : ∃ w1, w1 = wr := ⟨_, rfl⟩
    subst hw1
    obtain ⟨g0, g1, g2, g3, g4, rfl⟩ := five hs hsl
    have haN1 := Aside0.mk haN
    clear haN
    by_cases hlt : 0 < n
    · obtain rfl := hA hlt
      clear hA
      have c0 : decide ((0 : Int) < (n : Int)) = true := decide_eq_true (by omega)
      have c1 : decide (0 < n) = true := decide_eq_true hlt
      have hat : 64 ≤ n := by have := haN1.out; omega
      have hbw : b < w1.heap.size := World.block_lt_of_cell? w1 _ (hrow.out 0 (by omega))
      go_wp2
      go_loopw [27] (fun v27 W => ∃ j : Nat, v27 = .int .i64 j ∧ j ≤ 80 ∧ Aside0 (W.heap[w1.heap.size]? = some (.cells (u32V (fillZ (schL P aN j) 80)) 114 (0, 0))) ∧ Aside0 (W.heap[w.heap.size]? = some (.cells (u32V [g0, g1, g2, g3, g4]) 113 (0, 0))) ∧ Aside0 (RowR W b P) ∧ Aside0 (Below w.heap.size w W)) (fun v27 _ => (80 - intOf v27).toNat)
      case atStart =>
        refine ⟨0, rfl, by omega, ⟨?_⟩, ⟨?_⟩, ⟨?_⟩, ⟨?_⟩⟩
        · show (w1.heap.push _)[w1.heap.size]? = _
          simp
          rfl
        · show (w1.heap.push _)[w.heap.size]? = _
          rw [Array.getElem?_push_lt hlw, ← Array.getElem?_eq_getElem hlw, hh.out]
        · exact hrow.out.kept (by show (w1.heap.push _)[b]? = _; rw [Array.getElem?_push_lt hbw, ← Array.getElem?_eq_getElem hbw])
        · exact below_alloc hbel.out _
      case round =>
        obtain ⟨j, rfl, hj, hwj, hhj, hrj, hbj⟩ := hrel
        by_cases hj80 : j < 80
        · have d0 : decide ((j : Int) < 80) = true := decide_eq_true (by omega)
          by_cases hj16 : j < 16
          · have d1 : decide ((j : Int) < 16) = true := decide_eq_true (by omega)
            obtain ⟨m, hm⟩ : ∃ m, m = 4 * j := ⟨_, rfl⟩
            obtain ⟨m4, hm4⟩ : ∃ m4, m4 = 4 * j + 4 := ⟨_, rfl⟩
            have e0 : IntKind.i64.wrap (4 * (j : Int)) = (m : Int) := by rw [IntWalk.i64_in _ (by omega)]; omega
            have e1 : IntKind.i64.wrap ((m : Int) + 4) = (m4 : Int) := by rw [IntWalk.i64_in _ (by omega)]; omega
            have s1 : (0 : Int) ≤ (m : Int) := by omega
            have s2 : (m : Int) ≤ (m4 : Int) := by omega
            have s3 : (m4 : Int) ≤ (c : Int) := by omega
            have s4 : m ≤ m4 := by omega
            have s5 : m4 ≤ c := by omega
            have s6 : ¬ c = m := by omega
            have hP4 : ∀ i, i < P.length → 0 ≤ P.getD i 0 ∧ P.getD i 0 < 256 := fun i hi => hPB _ (by rw [List.getD_eq_getElem?_getD, List.getElem?_eq_getElem hi]; exact List.getElem_mem hi)
            have hr4 := Aside0.mk (c4_of_row hrj.out (aN + m) (by omega))
            have hn4 := Aside0.mk (num4 (hP4 (aN + m) (by omega)) (hP4 (aN + m + 1) (by omega)) (hP4 (aN + m + 2) (by omega)) (hP4 (aN + m + 3) (by omega)))
            have hd4 := Aside0.mk (num_wd (hP4 (aN + m) (by omega)) (hP4 (aN + m + 1) (by omega)) (hP4 (aN + m + 2) (by omega)) (hP4 (aN + m + 3) (by omega)))
            clear hP4
            have hL : (fillZ (schL P aN j) 80).length = 80 := fillZ_len _ _ (by rw [schL_len]; omega)
            have hcw := u32_cell hwj.out (i := j) (by rw [hL]; omega)
            obtain ⟨hcw1, hcw2⟩ := hcw
            have j80' : (j : Int) < 80 := by omega
            have hLa := Aside0.mk hL
            clear hL
            have hmm := Aside0.mk (show m4 - m = 4 by omega)
            have hcm := Aside0.mk (show 4 ≤ c - m by omega)
            have hma := Aside0.mk hm
            clear hm hm4
            go_wp2_with (first | (go_at_call 93; (rw [hmm.out]; (refine (spec_number.calls 5 (some ⟨b, aN + m, none⟩) (c - m) [P.getD (aN + m) 0, P.getD (aN + m + 1) 0, P.getD (aN + m + 2) 0, P.getD (aN + m + 3) 0] _ _ ?hc ?hl hn4.out).mono ?_); (case hc => (repeat (first | exact hr4.out | (with_reducible refine Kd.C_drewN ?_ _) | (with_reducible refine Kd.C_drew ?_)))); (case hl => exact hcm.out); rintro e w' ⟨rfl, ⟨nd, rfl⟩⟩)))
            go_roundw
            case rel =>
              have hset := u32_set hwj.out j (wd P (aN + m))
              have hs1 := fillZ_set (schL P aN j) 80 (wd P (aN + m)) (by rw [schL_len]; omega)
              rw [schL_len] at hs1
              rw [hs1] at hset
              have hsc : schL P aN (j + 1) = schL P aN j ++ [wd P (aN + m)] := by rw [schL, if_pos hj16, hma.out]
              have n1 : w.heap.size ≠ w1.heap.size := by omega
              have n2 : b ≠ w1.heap.size := by omega
              have hd5 : (P.getD (aN + m) 0 * 16777216 + P.getD (aN + m + 1) 0 * 65536 + P.getD (aN + m + 2) 0 * 256 + P.getD (aN + m + 3) 0) % 4294967296 = wd P (aN + m) := hd4.out
              simp only [List.getD_eq_getElem?_getD] at hd5
              refine ⟨j + 1, by simp, by omega, ⟨?_⟩, ⟨?_⟩, ⟨?_⟩, ⟨?_⟩⟩
              · rw [hsc]
                simp only [List.getD_eq_getElem?_getD, hd5]
                exact hset
              · exact (Below.heap_setCell _ _ _ _ n1).trans hhj.out
              · exact hrj.out.kept (Below.heap_setCell _ _ _ _ n2)
              · exact (pw_below_drewN hbj.out nd).setCell (p := ⟨w1.heap.size, j, none⟩) (by show w.heap.size ≤ w1.heap.size; omega) _
            case measure => simp [intOf]; omega
          · have d1 : decide ((j : Int) < 16) = false := decide_eq_false (by omega)
            have hj0 : 16 ≤ j := by omega
            have hL : (fillZ (schL P aN j) 80).length = 80 := fillZ_len _ _ (by rw [schL_len]; omega)
            obtain ⟨hcw1, hcw2⟩ := u32_cell hwj.out (i := j) (by rw [hL]; omega)
            have j80' : (j : Int) < 80 := by omega
            obtain ⟨m3, hm3⟩ : ∃ m, m = j - 3 := ⟨_, rfl⟩
            have e3 : IntKind.i64.wrap ((j : Int) - 3) = (m3 : Int) := by rw [IntWalk.i64_in _ (by omega)]; omega
            have e3' : (j : Int) - 3 = (m3 : Int) := by omega
            have e3'' : IntKind.i64.wrap (m3 : Int) = (m3 : Int) := IntWalk.i64_in _ (by omega)
            have l3 : m3 < 80 := by omega
            have l3' : (m3 : Int) < 80 := by omega
            have b3 := (u32_cell hwj.out (i := m3) (by rw [hL]; omega)).1
            generalize hy3 : (fillZ (schL P aN j) 80).getD m3 0 = y3 at b3
            have hy3a := Aside0.mk (show (schL P aN j).getD (j - 3) 0 = y3 by rw [← hy3, hm3, fillZ_getD _ _ _ (by rw [schL_len]; omega)])
            clear hm3 hy3
            obtain ⟨m8, hm8⟩ : ∃ m, m = j - 8 := ⟨_, rfl⟩
            have e8 : IntKind.i64.wrap ((j : Int) - 8) = (m8 : Int) := by rw [IntWalk.i64_in _ (by omega)]; omega
            have e8' : (j : Int) - 8 = (m8 : Int) := by omega
            have e8'' : IntKind.i64.wrap (m8 : Int) = (m8 : Int) := IntWalk.i64_in _ (by omega)
            have l8 : m8 < 80 := by omega
            have l8' : (m8 : Int) < 80 := by omega
            have b8 := (u32_cell hwj.out (i := m8) (by rw [hL]; omega)).1
            generalize hy8 : (fillZ (schL P aN j) 80).getD m8 0 = y8 at b8
            have hy8a := Aside0.mk (show (schL P aN j).getD (j - 8) 0 = y8 by rw [← hy8, hm8, fillZ_getD _ _ _ (by rw [schL_len]; omega)])
            clear hm8 hy8
            obtain ⟨m14, hm14⟩ : ∃ m, m = j - 14 := ⟨_, rfl⟩
            have e14 : IntKind.i64.wrap ((j : Int) - 14) = (m14 : Int) := by rw [IntWalk.i64_in _ (by omega)]; omega
            have e14' : (j : Int) - 14 = (m14 : Int) := by omega
            have e14'' : IntKind.i64.wrap (m14 : Int) = (m14 : Int) := IntWalk.i64_in _ (by omega)
            have l14 : m14 < 80 := by omega
            have l14' : (m14 : Int) < 80 := by omega
            have b14 := (u32_cell hwj.out (i := m14) (by rw [hL]; omega)).1
            generalize hy14 : (fillZ (schL P aN j) 80).getD m14 0 = y14 at b14
            have hy14a := Aside0.mk (show (schL P aN j).getD (j - 14) 0 = y14 by rw [← hy14, hm14, fillZ_getD _ _ _ (by rw [schL_len]; omega)])
            clear hm14 hy14
            obtain ⟨m16, hm16⟩ : ∃ m, m = j - 16 := ⟨_, rfl⟩
            have e16 : IntKind.i64.wrap ((j : Int) - 16) = (m16 : Int) := by rw [IntWalk.i64_in _ (by omega)]; omega
            have e16' : (j : Int) - 16 = (m16 : Int) := by omega
            have e16'' : IntKind.i64.wrap (m16 : Int) = (m16 : Int) := IntWalk.i64_in _ (by omega)
            have l16 : m16 < 80 := by omega
            have l16' : (m16 : Int) < 80 := by omega
            have b16 := (u32_cell hwj.out (i := m16) (by rw [hL]; omega)).1
            generalize hy16 : (fillZ (schL P aN j) 80).getD m16 0 = y16 at b16
            have hy16a := Aside0.mk (show (schL P aN j).getD (j - 16) 0 = y16 by rw [← hy16, hm16, fillZ_getD _ _ _ (by rw [schL_len]; omega)])
            clear hm16 hy16
            generalize (fillZ (schL P aN j) 80).getD j 0 = y0 at hcw1
            clear hL
            go_wp2
            refine wp_region_quiet_tail 22 (by kernel_rfl) (by kernel_rfl) ?_
            simp only [List.take_succ_cons, List.take_zero, List.drop_succ_cons, List.drop_zero]
            repeat (go_big_quiet_step (fail))
            go_big_quiet_want
            go_big_quiet_op
            apply Exists.intro
            refine ⟨fun _ => ?hcall, ?hgo⟩
            case hcall =>
              go_at_call 94
              refine (rolled_any _ 1 _ (by omega) (by omega)).mono ?_
              rintro e w' ⟨rfl, ⟨nd, rfl⟩⟩
              exact ⟨rfl, _, World.drewN_drewN _ _ _⟩
            case hgo =>
            go_big_quiet_on
            repeat (go_big_quiet_step (fail))
            refine wpQuiet_nil ?_
            intro w2 hw2
            obtain ⟨nq, rfl⟩ := hw2
            go_wp2
            go_roundw
            case rel =>
              have hset := u32_set hwj.out j (rol (Go.bits .xor .u32 (Go.bits .xor .u32 (Go.bits .xor .u32 y3 y8) y14) y16) 1)
              have hs1 := fillZ_set (schL P aN j) 80 (rol (Go.bits .xor .u32 (Go.bits .xor .u32 (Go.bits .xor .u32 y3 y8) y14) y16) 1) (by rw [schL_len]; omega)
              rw [schL_len] at hs1
              rw [hs1] at hset
              have hsc : schL P aN (j + 1) = schL P aN j ++ [rol (Go.bits .xor .u32 (Go.bits .xor .u32 (Go.bits .xor .u32 y3 y8) y14) y16) 1] := by
                rw [schL, if_neg (by omega)]
                unfold nxt
                rw [hy3a.out, hy8a.out, hy14a.out, hy16a.out]
              have n1 : w.heap.size ≠ w1.heap.size := by omega
              have n2 : b ≠ w1.heap.size := by omega
              refine ⟨j + 1, by simp, by omega, ⟨?_⟩, ⟨?_⟩, ⟨?_⟩, ⟨?_⟩⟩
              · rw [hsc]
                exact hset
              · exact (Below.heap_setCell _ _ _ _ n1).trans hhj.out
              · exact hrj.out.kept (Below.heap_setCell _ _ _ _ n2)
              · exact (pw_below_drewN hbj.out nq).setCell (p := ⟨w1.heap.size, j, none⟩) (by show w.heap.size ≤ w1.heap.size; omega) _
            case measure => simp [intOf]; omega
        · obtain rfl : j = 80 := by omega
          have k0 : wr.cell? ⟨w.heap.size, 0, none⟩ = some (.int .u32 g0) := (u32_cell hhj.out (i := 0) (by simp)).1
          have k1 : wr.cell? ⟨w.heap.size, 1, none⟩ = some (.int .u32 g1) := (u32_cell hhj.out (i := 1) (by simp)).1
          have k2 : wr.cell? ⟨w.heap.size, 2, none⟩ = some (.int .u32 g2) := (u32_cell hhj.out (i := 2) (by simp)).1
          have k3 : wr.cell? ⟨w.heap.size, 3, none⟩ = some (.int .u32 g3) := (u32_cell hhj.out (i := 3) (by simp)).1
          have k4 : wr.cell? ⟨w.heap.size, 4, none⟩ = some (.int .u32 g4) := (u32_cell hhj.out (i := 4) (by simp)).1
          have hL80 : (fillZ (schL P aN 80) 80).length = 80 := fillZ_len _ _ (by rw [schL_len]; omega)
          have hL80a := Aside0.mk hL80
          clear hL80
          go_wp2
          go_quiet (fail)
          go_wp2
          refine wp_load_row 114 (.tmp 5) rfl w1.heap.size rfl 114 (u32V (fillZ (schL P aN 80) 80)) (0, 0) (.array 80 112) hwj.out Tryd.underlying114 rfl (by rw [u32V_size, hL80a.out]; kernel_rfl) ?_
          go_wp2
          have hwj2 : Aside0 ((wr.drewN nq).heap[w1.heap.size]? = some (.cells (u32V (fillZ (schL P aN 80) 80)) 114 (0, 0))) := hwj
          have hhj2 : Aside0 ((wr.drewN nq).heap[w.heap.size]? = some (.cells (u32V [g0, g1, g2, g3, g4]) 113 (0, 0))) := hhj
          have hrj2 : Aside0 (RowR (wr.drewN nq) b P) := hrj
          have hbj2 := Aside0.mk (pw_below_drewN hbj.out nq)
          clear hwj hhj hrj hbj
          go_loopw [7, 8, 9, 10, 11, 77] (fun v7 v8 v9 v10 v11 v77 W => ∃ (i : Nat) (s0 s1 s2 s3 s4 : Int), v77 = .int .i64 i ∧ i ≤ 80 ∧ v7 = .int .u32 s0 ∧ v8 = .int .u32 s1 ∧ v9 = .int .u32 s2 ∧ v10 = .int .u32 s3 ∧ v11 = .int .u32 s4 ∧ Aside0 (rnds (schL P aN 80) (g0, g1, g2, g3, g4) i = (s0, s1, s2, s3, s4)) ∧ Aside0 (W.heap[w1.heap.size]? = some (.cells (u32V (fillZ (schL P aN 80) 80)) 114 (0, 0))) ∧ Aside0 (W.heap[w.heap.size]? = some (.cells (u32V [g0, g1, g2, g3, g4]) 113 (0, 0))) ∧ Aside0 (RowR W b P) ∧ Aside0 (Below w.heap.size w W)) (fun v7 v8 v9 v10 v11 v77 _ => (80 - intOf v77).toNat)
          case atStart => exact ⟨0, _, _, _, _, _, rfl, by omega, rfl, rfl, rfl, rfl, rfl, ⟨rfl⟩, hwj2, hhj2, hrj2, hbj2⟩
          case round =>
            clear hwj2 hhj2 hrj2 hbj2 k0 k1 k2 k3 k4
            obtain ⟨i, s0, s1, s2, s3, s4, rfl, hi, rfl, rfl, rfl, rfl, rfl, hst, hwj, hhj, hrj, hbj⟩ := hrel
            by_cases hi80 : i < 80
            · have d0 : decide ((i : Int) < 80) = true := decide_eq_true (by omega)
              have d1 : (i : Int) < 80 := by omega
              have ix := fun W => run_index_u32 114 112 80 (P := Tryd.prog) Tryd.underlying114 Tryd.underlying112 (by kernel_rfl) (fillZ (schL P aN 80) 80) hL80a.out i hi80 W
              generalize hx : (fillZ (schL P aN 80) 80).getD i 0 = x at ix
              have hst1 := Aside0.mk (show rnds (schL P aN 80) (g0, g1, g2, g3, g4) (i + 1) = rnd i x (s0, s1, s2, s3, s4) by rw [rnds, hst.out, ← hx, fillZ_getD _ _ _ (by rw [schL_len]; omega)])
              clear hx hst
              by_cases c60 : 60 ≤ i
              · have hq : Int.tdiv (i : Int) 20 = 3 := by rw [Int.tdiv_eq_ediv_of_nonneg (by omega)]; omega
                repeat go_step
                refine (rolled_any _ 5 _ (by omega) (by omega)).mono ?_
                rintro e w' ⟨rfl, ⟨nd, rfl⟩⟩
                dsimp only []
                repeat go_step
                refine (rolled_any _ 30 _ (by omega) (by omega)).mono ?_
                rintro e w' ⟨rfl, ⟨nd2, rfl⟩⟩
                dsimp only []
                repeat go_step
                go_roundw
                case rel => exact ⟨i + 1, _, _, _, _, _, by simp, by omega, rfl, rfl, rfl, rfl, rfl, ⟨by rw [hst1.out]; unfold rnd fI kI notI; simp only [c60, if_true, if_false]; refine Prod.ext ?_ rfl; simp only []; omega⟩, hwj, hhj, hrj, ⟨pw_below_drewN hbj.out _⟩⟩
                case measure => simp [intOf]; omega
              · by_cases c40 : 40 ≤ i
                · have hq : Int.tdiv (i : Int) 20 = 2 := by rw [Int.tdiv_eq_ediv_of_nonneg (by omega)]; omega
                  repeat go_step
                  refine (rolled_any _ 5 _ (by omega) (by omega)).mono ?_
                  rintro e w' ⟨rfl, ⟨nd, rfl⟩⟩
                  dsimp only []
                  repeat go_step
                  refine (rolled_any _ 30 _ (by omega) (by omega)).mono ?_
                  rintro e w' ⟨rfl, ⟨nd2, rfl⟩⟩
                  dsimp only []
                  repeat go_step
                  go_roundw
                  case rel => exact ⟨i + 1, _, _, _, _, _, by simp, by omega, rfl, rfl, rfl, rfl, rfl, ⟨by rw [hst1.out]; unfold rnd fI kI notI; simp only [c60, c40, if_true, if_false]; refine Prod.ext ?_ rfl; simp only []; omega⟩, hwj, hhj, hrj, ⟨pw_below_drewN hbj.out _⟩⟩
                  case measure => simp [intOf]; omega
                · by_cases c20 : 20 ≤ i
                  · have hq : Int.tdiv (i : Int) 20 = 1 := by rw [Int.tdiv_eq_ediv_of_nonneg (by omega)]; omega
                    repeat go_step
                    refine (rolled_any _ 5 _ (by omega) (by omega)).mono ?_
                    rintro e w' ⟨rfl, ⟨nd, rfl⟩⟩
                    dsimp only []
                    repeat go_step
                    refine (rolled_any _ 30 _ (by omega) (by omega)).mono ?_
                    rintro e w' ⟨rfl, ⟨nd2, rfl⟩⟩
                    dsimp only []
                    repeat go_step
                    go_roundw
                    case rel => exact ⟨i + 1, _, _, _, _, _, by simp, by omega, rfl, rfl, rfl, rfl, rfl, ⟨by rw [hst1.out]; unfold rnd fI kI notI; simp only [c60, c40, c20, if_true, if_false]; refine Prod.ext ?_ rfl; simp only []; omega⟩, hwj, hhj, hrj, ⟨pw_below_drewN hbj.out _⟩⟩
                    case measure => simp [intOf]; omega
                  · have hq : Int.tdiv (i : Int) 20 = 0 := by rw [Int.tdiv_eq_ediv_of_nonneg (by omega)]; omega
                    repeat go_step
                    refine (rolled_any _ 5 _ (by omega) (by omega)).mono ?_
                    rintro e w' ⟨rfl, ⟨nd, rfl⟩⟩
                    dsimp only []
                    repeat go_step
                    refine (rolled_any _ 30 _ (by omega) (by omega)).mono ?_
                    rintro e w' ⟨rfl, ⟨nd2, rfl⟩⟩
                    dsimp only []
                    repeat go_step
                    go_roundw
                    case rel => exact ⟨i + 1, _, _, _, _, _, by simp, by omega, rfl, rfl, rfl, rfl, rfl, ⟨by rw [hst1.out]; unfold rnd fI kI notI; simp only [c60, c40, c20, if_true, if_false]; refine Prod.ext ?_ rfl; simp only []; omega⟩, hwj, hhj, hrj, ⟨pw_below_drewN hbj.out _⟩⟩
                    case measure => simp [intOf]; omega
            · obtain rfl : i = 80 := by omega
              have k0 : wr.cell? ⟨w.heap.size, 0, none⟩ = some (.int .u32 g0) := (u32_cell hhj.out (i := 0) (by simp)).1
              have k1 : wr.cell? ⟨w.heap.size, 1, none⟩ = some (.int .u32 g1) := (u32_cell hhj.out (i := 1) (by simp)).1
              have k2 : wr.cell? ⟨w.heap.size, 2, none⟩ = some (.int .u32 g2) := (u32_cell hhj.out (i := 2) (by simp)).1
              have k3 : wr.cell? ⟨w.heap.size, 3, none⟩ = some (.int .u32 g3) := (u32_cell hhj.out (i := 3) (by simp)).1
              have k4 : wr.cell? ⟨w.heap.size, 4, none⟩ = some (.int .u32 g4) := (u32_cell hhj.out (i := 4) (by simp)).1
              have z0 := (u32_cell hhj.out (i := 0) (by simp)).2
              have z1 := (u32_cell hhj.out (i := 1) (by simp)).2
              have z2 := (u32_cell hhj.out (i := 2) (by simp)).2
              have z3 := (u32_cell hhj.out (i := 3) (by simp)).2
              have z4 := (u32_cell hhj.out (i := 4) (by simp)).2
              have t1 : (64 : Int) ≤ (n : Int) := by omega
              have t2 : (64 : Int) ≤ (c : Int) := by omega
              have t3 : 64 ≤ c := by omega
              have q0 := u32_set hhj.out 0 ((g0 + s0) % 4294967296)
              have q1 := u32_set q0 1 ((g1 + s1) % 4294967296)
              have q2 := u32_set q1 2 ((g2 + s2) % 4294967296)
              have q3 := u32_set q2 3 ((g3 + s3) % 4294967296)
              have q4 := Aside0.mk (u32_set q3 4 ((g4 + s4) % 4294967296))
              clear q0 q1 q2 q3
              have n2 : b ≠ w.heap.size := fun e => by
                have h5 := hrj.out 0 (by omega)
                rw [e, k0] at h5
                cases h5
              have hrow9 := Aside0.mk (hrj.out.kept (w2 := ((((wr.setCell ⟨w.heap.size, 0, none⟩ (.int .u32 ((g0 + s0) % 4294967296))).setCell ⟨w.heap.size, 1, none⟩ (.int .u32 ((g1 + s1) % 4294967296))).setCell ⟨w.heap.size, 2, none⟩ (.int .u32 ((g2 + s2) % 4294967296))).setCell ⟨w.heap.size, 3, none⟩ (.int .u32 ((g3 + s3) % 4294967296))).setCell ⟨w.heap.size, 4, none⟩ (.int .u32 ((g4 + s4) % 4294967296))) ((Below.heap_setCell _ _ _ _ n2).trans ((Below.heap_setCell _ _ _ _ n2).trans ((Below.heap_setCell _ _ _ _ n2).trans ((Below.heap_setCell _ _ _ _ n2).trans (Below.heap_setCell _ _ _ _ n2))))))
              have hbel9 := Aside0.mk (((((hbj.out.setCell (p := ⟨w.heap.size, 0, none⟩) (Nat.le_refl _) (.int .u32 ((g0 + s0) % 4294967296))).setCell (p := ⟨w.heap.size, 1, none⟩) (Nat.le_refl _) (.int .u32 ((g1 + s1) % 4294967296))).setCell (p := ⟨w.heap.size, 2, none⟩) (Nat.le_refl _) (.int .u32 ((g2 + s2) % 4294967296))).setCell (p := ⟨w.heap.size, 3, none⟩) (Nat.le_refl _) (.int .u32 ((g3 + s3) % 4294967296))).setCell (p := ⟨w.heap.size, 4, none⟩) (Nat.le_refl _) (.int .u32 ((g4 + s4) % 4294967296)))
              have hbk : blks P k = (g0, g1, g2, g3, g4) := by
                have h5 := hst0.out
                unfold s5L at h5
                generalize blks P k = B at h5
                obtain ⟨B0, B1, B2, B3, B4⟩ := B
                simp only [List.cons.injEq, and_true] at h5
                obtain ⟨rfl, rfl, rfl, rfl, rfl⟩ := h5
                rfl
              have hnx := Aside0.mk (show s5L (blks P (k + 1)) = [(g0 + s0) % 4294967296, (g1 + s1) % 4294967296, (g2 + s2) % 4294967296, (g3 + s3) % 4294967296, (g4 + s4) % 4294967296] by
                rw [blks, ← haN1.out, hbk]
                unfold blk s5L
                rw [hst.out])
              clear hbk hst
              by_cases t4 : c = 64
              · subst t4
                obtain rfl : n = 64 := by omega
                repeat go_step
                go_roundw
                case rel => exact ⟨k + 1, aN + 64, 0, _, _, _, rfl, by have := haN1.out; omega, by omega, Nat.zero_le _, fun h => absurd h (by omega), rfl, ⟨hnx.out.symm⟩, q4, hrow9, hbel9⟩
                case measure => simp
              · repeat go_step
                go_roundw
                case rel => exact ⟨k + 1, aN + 64, n - 64, c - 64, _, _, rfl, by have := haN1.out; omega, by omega, by omega, fun h => rfl, rfl, ⟨hnx.out.symm⟩, q4, hrow9, hbel9⟩
                case measure => simp; omega
    · obtain rfl : n = 0 := by omega
      have k0 : w1.cell? ⟨w.heap.size, 0, none⟩ = some (.int .u32 g0) := (u32_cell hh.out (i := 0) (by simp)).1
      have k1 : w1.cell? ⟨w.heap.size, 1, none⟩ = some (.int .u32 g1) := (u32_cell hh.out (i := 1) (by simp)).1
      have k2 : w1.cell? ⟨w.heap.size, 2, none⟩ = some (.int .u32 g2) := (u32_cell hh.out (i := 2) (by simp)).1
      have k3 : w1.cell? ⟨w.heap.size, 3, none⟩ = some (.int .u32 g3) := (u32_cell hh.out (i := 3) (by simp)).1
      have k4 : w1.cell? ⟨w.heap.size, 4, none⟩ = some (.int .u32 g4) := (u32_cell hh.out (i := 4) (by simp)).1
      have hs4 := Aside0.mk (show [g0, g1, g2, g3, g4] = s5L (blks P (P.length / 64)) by have h5 := hst0.out; rwa [show k = P.length / 64 by have := haN1.out; omega] at h5)
      go_wp2
      go_loopw [16, 160] (fun v16 v160 W => ∃ i : Nat, v160 = .int .i64 i ∧ i ≤ 5 ∧ Aside0 (Kd.R (Kd.int .u8) 5 W w.heap.size (fun _ => True) v16 (([g0, g1, g2, g3, g4].take i).flatMap by4)) ∧ Aside0 (Below w.heap.size w W)) (fun v16 v160 _ => (5 - intOf v160).toNat)
      case atStart => exact ⟨0, rfl, by omega, ⟨Kd.R_nil _ _ _ _ _⟩, hbel⟩
      case round =>
        obtain ⟨i, rfl, hi, hO, hB⟩ := hrel
        clear k0 k1 k2 k3 k4 hh hrow hbel hst0
        rcases (show i = 0 ∨ i = 1 ∨ i = 2 ∨ i = 3 ∨ i = 4 ∨ i = 5 by omega) with rfl | rfl | rfl | rfl | rfl | rfl
        · have ix : ∀ W : World, (Instr.index 113 (.agg #[.int .u32 g0, .int .u32 g1, .int .u32 g2, .int .u32 g3, .int .u32 g4]) (.int .i64 0)).run Tryd.prog W = .ok (.int .u32 g0) W := fun _ => by kernel_rfl
          generalize hprev : ([g0, g1, g2, g3, g4].take 0).flatMap by4 = xs0 at hO
          have hpl : xs0.length = 0 := by rw [← hprev]; rfl
          have hprev1 := Aside0.mk hprev
          clear hprev
          have h4 := Aside0.mk (app_4 xs0 g0 (by omega))
          clear hpl
          obtain ⟨Ao, co, rfl⟩ := Kd.R_slice hO.out
          go_wp2_with (first | (go_at_call 95; (refine (spec_appended.calls 6 (fun _ => True) _ xs0 _ 4 _ w _ ?hB4 ?hO4 h4.out).mono ?_); (case hB4 => exact hB.out); (case hO4 => exact hO.out); rintro e w9 ⟨vv, rfl, ho0, hb0, hkp⟩; (have HO2 := Aside0.mk (Kd.R_mono (ok' := fun _ => True) ho0 (fun _ _ => trivial))); (have hB2 := Aside0.mk hb0); clear ho0 hb0 hkp))
          go_roundw
          case rel => exact ⟨1, by simp, by omega, ⟨by have h5 := HO2.out; rw [← hprev1.out] at h5; simpa using h5⟩, hB2⟩
          case measure => simp [intOf]
        · have ix : ∀ W : World, (Instr.index 113 (.agg #[.int .u32 g0, .int .u32 g1, .int .u32 g2, .int .u32 g3, .int .u32 g4]) (.int .i64 1)).run Tryd.prog W = .ok (.int .u32 g1) W := fun _ => by kernel_rfl
          generalize hprev : ([g0, g1, g2, g3, g4].take 1).flatMap by4 = xs0 at hO
          have hpl : xs0.length = 4 := by rw [← hprev]; rfl
          have hprev1 := Aside0.mk hprev
          clear hprev
          have h4 := Aside0.mk (app_4 xs0 g1 (by omega))
          clear hpl
          obtain ⟨Ao, co, rfl⟩ := Kd.R_slice hO.out
          go_wp2_with (first | (go_at_call 95; (refine (spec_appended.calls 6 (fun _ => True) _ xs0 _ 4 _ w _ ?hB4 ?hO4 h4.out).mono ?_); (case hB4 => exact hB.out); (case hO4 => exact hO.out); rintro e w9 ⟨vv, rfl, ho0, hb0, hkp⟩; (have HO2 := Aside0.mk (Kd.R_mono (ok' := fun _ => True) ho0 (fun _ _ => trivial))); (have hB2 := Aside0.mk hb0); clear ho0 hb0 hkp))
          go_roundw
          case rel => exact ⟨2, by simp, by omega, ⟨by have h5 := HO2.out; rw [← hprev1.out] at h5; simpa using h5⟩, hB2⟩
          case measure => simp [intOf]
        · have ix : ∀ W : World, (Instr.index 113 (.agg #[.int .u32 g0, .int .u32 g1, .int .u32 g2, .int .u32 g3, .int .u32 g4]) (.int .i64 2)).run Tryd.prog W = .ok (.int .u32 g2) W := fun _ => by kernel_rfl
          generalize hprev : ([g0, g1, g2, g3, g4].take 2).flatMap by4 = xs0 at hO
          have hpl : xs0.length = 8 := by rw [← hprev]; rfl
          have hprev1 := Aside0.mk hprev
          clear hprev
          have h4 := Aside0.mk (app_4 xs0 g2 (by omega))
          clear hpl
          obtain ⟨Ao, co, rfl⟩ := Kd.R_slice hO.out
          go_wp2_with (first | (go_at_call 95; (refine (spec_appended.calls 6 (fun _ => True) _ xs0 _ 4 _ w _ ?hB4 ?hO4 h4.out).mono ?_); (case hB4 => exact hB.out); (case hO4 => exact hO.out); rintro e w9 ⟨vv, rfl, ho0, hb0, hkp⟩; (have HO2 := Aside0.mk (Kd.R_mono (ok' := fun _ => True) ho0 (fun _ _ => trivial))); (have hB2 := Aside0.mk hb0); clear ho0 hb0 hkp))
          go_roundw
          case rel => exact ⟨3, by simp, by omega, ⟨by have h5 := HO2.out; rw [← hprev1.out] at h5; simpa using h5⟩, hB2⟩
          case measure => simp [intOf]
        · have ix : ∀ W : World, (Instr.index 113 (.agg #[.int .u32 g0, .int .u32 g1, .int .u32 g2, .int .u32 g3, .int .u32 g4]) (.int .i64 3)).run Tryd.prog W = .ok (.int .u32 g3) W := fun _ => by kernel_rfl
          generalize hprev : ([g0, g1, g2, g3, g4].take 3).flatMap by4 = xs0 at hO
          have hpl : xs0.length = 12 := by rw [← hprev]; rfl
          have hprev1 := Aside0.mk hprev
          clear hprev
          have h4 := Aside0.mk (app_4 xs0 g3 (by omega))
          clear hpl
          obtain ⟨Ao, co, rfl⟩ := Kd.R_slice hO.out
          go_wp2_with (first | (go_at_call 95; (refine (spec_appended.calls 6 (fun _ => True) _ xs0 _ 4 _ w _ ?hB4 ?hO4 h4.out).mono ?_); (case hB4 => exact hB.out); (case hO4 => exact hO.out); rintro e w9 ⟨vv, rfl, ho0, hb0, hkp⟩; (have HO2 := Aside0.mk (Kd.R_mono (ok' := fun _ => True) ho0 (fun _ _ => trivial))); (have hB2 := Aside0.mk hb0); clear ho0 hb0 hkp))
          go_roundw
          case rel => exact ⟨4, by simp, by omega, ⟨by have h5 := HO2.out; rw [← hprev1.out] at h5; simpa using h5⟩, hB2⟩
          case measure => simp [intOf]
        · have ix : ∀ W : World, (Instr.index 113 (.agg #[.int .u32 g0, .int .u32 g1, .int .u32 g2, .int .u32 g3, .int .u32 g4]) (.int .i64 4)).run Tryd.prog W = .ok (.int .u32 g4) W := fun _ => by kernel_rfl
          generalize hprev : ([g0, g1, g2, g3, g4].take 4).flatMap by4 = xs0 at hO
          have hpl : xs0.length = 16 := by rw [← hprev]; rfl
          have hprev1 := Aside0.mk hprev
          clear hprev
          have h4 := Aside0.mk (app_4 xs0 g4 (by omega))
          clear hpl
          obtain ⟨Ao, co, rfl⟩ := Kd.R_slice hO.out
          go_wp2_with (first | (go_at_call 95; (refine (spec_appended.calls 6 (fun _ => True) _ xs0 _ 4 _ w _ ?hB4 ?hO4 h4.out).mono ?_); (case hB4 => exact hB.out); (case hO4 => exact hO.out); rintro e w9 ⟨vv, rfl, ho0, hb0, hkp⟩; (have HO2 := Aside0.mk (Kd.R_mono (ok' := fun _ => True) ho0 (fun _ _ => trivial))); (have hB2 := Aside0.mk hb0); clear ho0 hb0 hkp))
          go_roundw
          case rel => exact ⟨5, by simp, by omega, ⟨by have h5 := HO2.out; rw [← hprev1.out] at h5; simpa using h5⟩, hB2⟩
          case measure => simp [intOf]
        · go_wp2
          go_ret
          exact ⟨_, rfl, by have h5 := hO.out; rw [List.take_of_length_le (by simp), hs4.out] at h5; exact h5, hB.out⟩

end Go.Proofs.YtiilihafcdmccaaDoor.P
-- Written by a program of this session (wip/tools/pprint.py) out of the translation: it goes by the kit's print and by the contracts of YtiilihafcdmccaaDoorHand. Not trusted: Lean checks it.
namespace Go.Proofs.YtiilihafcdmccaaDoor.P
open Go.RowKit Go.Proofs.YtiilihafcdmccaaDoorW.PrintWords Go.Proofs.YtiilihafcdmccaaDoorW.PrintLast Go.Proofs.YtiilihafcdmccaaDoorW.PrintMore
attribute [local go_sem] max2_int min2_int max_two min_two max_three min_three max_four min_four   -- for this text's walks alone
set_option linter.unusedVariables false
set_option linter.unusedSimpArgs false

/-! ### spec_Name_Lower: function 33 -/
def spec_Name_Lower.l0 : Nat → List ByteArray → List ByteArray → Int → Int → Option (List ByteArray)
  | 0, _, _, _, _ => none
  | k + 1, x3, x6, x7, x8 => if x8 < x7 then (if 0 ≤ x8 then (if x8 < (x6.length : Int) then ((spec_lower.f (rdOf ByteArray.empty x6 x8)).bind fun t317 => (if x3.length < 8796093022208 then (spec_Name_Lower.l0 k (x3 ++ [t317]) x6 x7 (wrap64 (x8 + 1))) else (none))) else (none)) else (none)) else (some x3)
def spec_Name_Lower.f (k : Nat) (l0 : List ByteArray) : Option (List ByteArray) := spec_Name_Lower.l0 k ([] : List ByteArray) l0 (l0.length : Int) 0
theorem spec_Name_Lower.mono_l : ∀ k, (∀ y0 y1 y2 y3, LeO (spec_Name_Lower.l0 k y0 y1 y2 y3) (spec_Name_Lower.l0 (k + 1) y0 y1 y2 y3))
  | 0 => fun _ _ _ _ r h => by simp [spec_Name_Lower.l0] at h
  | k + 1 => by
    have ih0 := spec_Name_Lower.mono_l k
    · intro y0 y1 y2 y3
      unfold spec_Name_Lower.l0
      repeat' first
      | (with_reducible exact ih0 _ _ _ _)
      | (with_reducible exact LeO.refl _)
      | (with_reducible exact LeO.none _)
      | (with_reducible refine LeO.ite ?_ ?_)
      | (with_reducible refine LeO.bind ?_ (fun _ => ?_))
      | exact ih0 _ _ _ _
      | exact LeO.none _
      | refine LeO.ite ?_ ?_
      | refine LeO.bind ?_ (fun _ => ?_)
theorem spec_Name_Lower.mono : ∀ a0 k, LeO (spec_Name_Lower.f k a0) (spec_Name_Lower.f (k + 1) a0) := by
  intro a0 k
  have ih0 := spec_Name_Lower.mono_l k
  unfold spec_Name_Lower.f
  repeat' first
      | (with_reducible exact ih0 _ _ _ _)
      | (with_reducible exact LeO.refl _)
      | (with_reducible exact LeO.none _)
      | (with_reducible refine LeO.ite ?_ ?_)
      | (with_reducible refine LeO.bind ?_ (fun _ => ?_))
      | exact ih0 _ _ _ _
      | exact LeO.none _
      | refine LeO.ite ?_ ?_
      | refine LeO.bind ?_ (fun _ => ?_)
set_option maxHeartbeats 8000000 in
set_option maxRecDepth 100000 in
theorem spec_Name_Lower.calls (k : Nat) (A0 : Option Addr) (c0 : Nat) (l0 : List ByteArray) (r : List ByteArray) (w : World) (hr0 : Kd.C Kd.string w A0 l0.length l0) (hc0 : l0.length ≤ c0) (h : spec_Name_Lower.f k l0 = some r) :
    Calls Tryd.prog 33 #[.slice A0 l0.length c0] w fun e w' => ∃ v0_ : Value, e = .returned (v0_) ∧ Kd.R Kd.string 9 w' w.heap.size (fun _ => True) v0_ r ∧ Below w.heap.size w w' := by
  have HR0 := Aside0.mk hr0
  have HC0 := Aside0.mk hc0
  clear hr0 hc0
  have HB := Aside0.mk (Below.refl w.heap.size w)
  have H : (spec_Name_Lower.l0 k ([] : List ByteArray) l0 (l0.length : Int) 0) = some r := h
  clear h
  have H' := Aside0.mk H
  clear H
  go_enter Tryd.func33, Tryd.ntmps33
  go_wp2
  go_loopg [3, 8] k (fun kq v3 v8 w' => ∃ (x3_1 : List ByteArray) (x8_1 : Int), v8 = .int .i64 x8_1 ∧ Aside0 (spec_Name_Lower.l0 kq x3_1 l0 (l0.length : Int) x8_1 = some r) ∧ Aside0 (kq ≤ k) ∧ Aside0 (Kd.R Kd.string 9 w' w.heap.size (fun _ => True) v3 x3_1) ∧ Aside0 (Below w.heap.size w w'))
  case atStart => exact ⟨(([] : List ByteArray)), (0), (by first | rfl | (simp; done) | (simp [*]; done) | (simp [wrap64]; done)), H', ⟨Nat.le_refl _⟩, ⟨by first | exact Kd.R_nil _ _ _ _ _ | exact Kd.N_nil _ _ _ _ _ | exact Kd.V_nil _ _ _ _ _ | exact Kd.Q_nil _ _ _ _ _ | exact Kd.S_nil _ _ _ _ _⟩, ⟨by repeat (first | (with_reducible first | exact HB.out | apply below_alloc | apply pw_below_drewN | apply below_drew1) | exact HB.out)⟩⟩
  case round =>
    clear H'
    obtain ⟨x3_1, x8_1, rfl, HA, HK1, HO_3, HB⟩ := hrel
    cases gk with
    | zero => exact absurd HA.out (by simp [spec_Name_Lower.l0])
    | succ k1 =>
      have H := HA.out
      clear HA
      simp only [spec_Name_Lower.l0] at H
      by_cases c2 : x8_1 < (l0.length : Int)
      · rw [if_pos c2] at H
        have c2b0 : decide (x8_1 < (l0.length : Int)) = true := decide_eq_true c2
        clear c2
        by_cases c3 : 0 ≤ x8_1
        · rw [if_pos c3] at H
          have c3b0 : decide (0 ≤ x8_1) = true := decide_eq_true c3
          clear c3
          by_cases c4 : x8_1 < (l0.length : Int)
          · rw [if_pos c4] at H
            have c4b0 : decide (x8_1 < (l0.length : Int)) = true := decide_eq_true c4
            clear c4
            replace H := Option.bind_eq_some_iff.mp H
            obtain ⟨t317, A50, H⟩ := H
            replace H : (if x3_1.length < 8796093022208 then (spec_Name_Lower.l0 k1 (x3_1 ++ [t317]) l0 (l0.length : Int) (wrap64 (x8_1 + 1))) else (none)) = some r := H
            have A5 := Aside0.mk A50
            clear A50
            by_cases c6 : x3_1.length < 8796093022208
            · rw [if_pos c6] at H
              have LMc6 := Aside0.mk c6
              clear c6
              obtain ⟨y318, hy318⟩ : ∃ y_ : List ByteArray, y_ = (x3_1 ++ [t317]) := ⟨_, rfl⟩
              replace H : (spec_Name_Lower.l0 k1 y318 l0 (l0.length : Int) (wrap64 (x8_1 + 1))) = some r := by first | (rw [hy318]; with_reducible exact H) | (have H2_ := (Option.bind_some _ _).symm.trans H; rw [hy318]; with_reducible exact H2_) | (have H2_ := (Option.bind_some _ _).symm.trans H; with_reducible exact H2_) | with_reducible exact H | (rw [hy318]; exact H) | exact H
              have Ny318 := Aside0.mk hy318
              clear hy318
              have H' := Aside0.mk H
              clear H
              have p316 : 0 ≤ (x8_1 : Int) := of_decide_eq_true (by first | (with_reducible assumption) | assumption)
              have q316 : x8_1 < (l0.length : Int) := of_decide_eq_true (by first | (with_reducible assumption) | assumption)
              obtain ⟨ad316, e316, hx316_0⟩ := Kd.at_string HR0.out x8_1 p316 q316
              cases e316
              replace hx316_0 := (HB.out.cell (World.block_lt_of_cell? w _ hx316_0)).trans hx316_0
              replace p316 := eq_true p316
              replace q316 := eq_true q316
              go_wp2_with (first | ((with_reducible refine gate_callee (f := 60) rfl ?_); refine goesL_ (some 14) rfl rfl Tryd.func60 (by kernel_rfl) rfl #[.string (rdOf ByteArray.empty l0 x8_1)] rfl (by (try simp only [List.map_toArray, List.map_cons, List.map_nil]); first | done | rfl | (simp only [List.length_drop, List.length_take]; rfl)) ?_; (with_reducible refine (spec_lower.calls (rdOf ByteArray.empty l0 x8_1) t317 _ A5.out).mono ?_); rintro e w7 ⟨rfl, hb⟩; refine ⟨_, rfl, ?_⟩; have n0_ := Aside0.mk (Kd.R_below (by (with_reducible repeat (first | apply Kd.R_alloc | apply Kd.R_drewN | apply Kd.R_drew)); exact HO_3.out) hb); have n1_ := Aside0.mk (below_step (by repeat (first | (with_reducible first | exact HB.out | apply below_alloc | apply pw_below_drewN | apply below_drew1) | exact HB.out)) hb); clear HO_3; clear HB; have HO_3 := n0_; have HB := n1_; clear n0_ n1_; (try clear hb); (try clear hb2); (try clear hk); (try clear hi)) | ((with_reducible refine gate_builtin (b := .append) (xs := #[.tmp 12, .tmp 15]) rfl ?_); at_builtin; refine Kd.R_append Kd.string (w0 := w) w.heap.size rfl (.tmp 12) (.tmp 15) 25 9 (.string ⟨#[]⟩) 16 rfl Tryd.underlying25 info9 rfl (by decide) (by omega) u3 x3_1 t317 [.string t317] (fun _ => True) (fun _ => False) rfl rfl ?aP (fun _ hk => hk.elim) ?aF ?aO ?aB ?aS ?aL ?_; (case aP => exact rfl); (case aB => exact (by repeat (first | (with_reducible first | exact HB.out | apply below_alloc | apply pw_below_drewN | apply below_drew1) | exact HB.out))); (case aF => exact (fun _ _ => trivial)); (case aO => exact (by (with_reducible repeat (first | apply Kd.R_alloc | apply Kd.R_drewN | apply Kd.R_drew)); exact HO_3.out)); (case aS => exact (below_size (by repeat (first | (with_reducible first | exact HB.out | apply below_alloc | apply pw_below_drewN | apply below_drew1) | exact HB.out)))); (case aL => have := LMc6.out; omega); intro v319 w8 ho hb hg hat; rw [← Ny318.out] at ho; have n0_ := Aside0.mk (hb); have n1_ := Aside0.mk (ho); clear HB; clear HO_3; have HB := n0_; have HO320 := n1_; clear n0_ n1_; clear ho hb hg hat))
              go_roundg k1
              case measure => have := HK1.out; omega
              case rel => exact ⟨(y318), (wrap64 (x8_1 + 1)), (by first | rfl | (simp; done) | (simp [*]; done) | (simp [wrap64]; done)), H', ⟨by have := HK1.out; omega⟩, ⟨by (with_reducible repeat (first | apply Kd.R_alloc | apply Kd.R_drewN | apply Kd.R_drew)); exact HO320.out⟩, ⟨by repeat (first | (with_reducible first | exact HB.out | apply below_alloc | apply pw_below_drewN | apply below_drew1) | exact HB.out)⟩⟩
            · rw [if_neg c6] at H
              exact absurd H (by simp)
          · rw [if_neg c4] at H
            exact absurd H (by simp)
        · rw [if_neg c3] at H
          exact absurd H (by simp)
      · rw [if_neg c2] at H
        have c2b0 : decide (x8_1 < (l0.length : Int)) = false := decide_eq_false c2
        clear c2
        obtain rfl := Option.some.inj H
        go_wp2
        go_ret
        exact ⟨_, by first | rfl | (simp [errW_none, errW_some] <;> rfl) | (simp [*, errW_none, errW_some] <;> rfl), by (with_reducible repeat (first | apply Kd.R_alloc | apply Kd.R_drewN | apply Kd.R_drew)); exact HO_3.out, by repeat (first | (with_reducible first | exact HB.out | apply below_alloc | apply pw_below_drewN | apply below_drew1) | exact HB.out)⟩

end Go.Proofs.YtiilihafcdmccaaDoor.P
/- 'spec.SHA1' whole; 'spec.NSEC3Hash'. -/
namespace Go.Proofs.YtiilihafcdmccaaDoor.P
open Go.RowKit Go.Proofs.YtiilihafcdmccaaDoorW.PrintWords Go.Proofs.YtiilihafcdmccaaDoorW.PrintLast Go.Proofs.YtiilihafcdmccaaDoorW.PrintMore
set_option linter.unusedVariables false
set_option linter.unusedSimpArgs false

theorem sp_sha (l : List Int) (A0 : Option Addr) (c0 : Nat) (w : World) (hl : l.length ≤ 100000) (hr0 : Kd.C (Kd.int .u8) w A0 l.length l) (hc0 : l.length ≤ c0) (hb : IsB l) : Calls Tryd.prog 68 #[.slice A0 l.length c0] w fun e w' => ∃ v, e = .returned v ∧ Kd.R (Kd.int .u8) 5 w' w.heap.size (fun _ => True) v (shaOf (padOf l)) ∧ Below w.heap.size w w' := by
  have hL := padOf_len l
  refine sha_sp (padOf l) l A0 c0 w (by omega) hL.1 (padOf_bytes l hb) (fun W hW => ?_)
  refine (spec_padded.calls _ A0 c0 l (padOf l) W (Kd.C_below hr0 hW) hc0 (pad_sp l hl)).mono ?_
  rintro e w' ⟨v, rfl, hR, hB⟩
  exact ⟨v, rfl, isP_of_R hR (padOf_pos l), hB⟩

/-! ### the sums one upon the other -/
theorem by4_B (x : Int) : IsB (by4 x) := by
  intro y hy
  simp only [by4, List.mem_cons, List.not_mem_nil, or_false] at hy
  omega
theorem shaOf_B (P : List Int) : IsB (shaOf P) := by
  intro y hy
  obtain ⟨x, _, hx⟩ := List.mem_flatMap.1 hy
  exact by4_B x y hx
theorem shaOf_len (P : List Int) : (shaOf P).length = 20 := by simp [shaOf, s5L, by4]
def hshN (salt x : List Int) : Nat → List Int
  | 0 => x
  | n + 1 => shaOf (padOf (hshN salt x n ++ salt))
theorem hshN_B (salt x : List Int) (hx : IsB x) : ∀ n, IsB (hshN salt x n)
  | 0 => hx
  | n + 1 => shaOf_B _
theorem hshN_len (salt x : List Int) (hx : x.length ≤ 1000) : ∀ n, (hshN salt x n).length ≤ 1000
  | 0 => hx
  | n + 1 => by rw [hshN, shaOf_len]; omega
def okH (x salt : List Int) (it : Int) : Bool := x.all (fun y => decide (0 ≤ y ∧ y < 256)) && salt.all (fun y => decide (0 ≤ y ∧ y < 256)) && decide (x.length ≤ 1000) && decide (salt.length ≤ 1000) && decide (0 ≤ it ∧ it ≤ 1000)
theorem okH_inv {x salt : List Int} {it : Int} (h : okH x salt it = true) : IsB x ∧ IsB salt ∧ x.length ≤ 1000 ∧ salt.length ≤ 1000 ∧ 0 ≤ it ∧ it ≤ 1000 := by
  unfold okH at h
  simp only [Bool.and_eq_true, List.all_eq_true, decide_eq_true_eq] at h
  exact ⟨h.1.1.1.1, h.1.1.1.2, h.1.1.2, h.1.2, h.2⟩
theorem okH_of {x salt : List Int} {it : Int} (h1 : IsB x) (h2 : IsB salt) (h3 : x.length ≤ 1000) (h4 : salt.length ≤ 1000) (h5 : 0 ≤ it ∧ it ≤ 1000) : okH x salt it = true := by
  unfold okH
  simp only [Bool.and_eq_true, List.all_eq_true, decide_eq_true_eq]
  exact ⟨⟨⟨⟨h1, h2⟩, h3⟩, h4⟩, h5⟩
def spec_NSEC3Hash.f (k : Nat) (l0 : List ByteArray) (l1 : List Int) (it : Int) : Option ByteArray :=
  (spec_Name_Lower.f k l0).bind fun l => (spec_Name_Wire.f k l).bind fun x => if okH x l1 it = true then (spec_bits.f k (hshN l1 x (it + 1).toNat) d32 5).bind fun s => if s.size ≤ 9223372036854775807 then some (upperB s) else none else none
theorem spec_NSEC3Hash.mono : ∀ a0 a1 a2 k, LeO (spec_NSEC3Hash.f k a0 a1 a2) (spec_NSEC3Hash.f (k + 1) a0 a1 a2) := by
  intro a0 a1 a2 k
  unfold spec_NSEC3Hash.f
  refine LeO.bind (spec_Name_Lower.mono _ _) (fun _ => LeO.bind (spec_Name_Wire.mono _ _) (fun _ => LeO.ite (LeO.bind (spec_bits.mono _ _ _ _) (fun _ => LeO.refl _)) (LeO.refl _)))
set_option maxHeartbeats 4000000 in
set_option maxRecDepth 100000 in
theorem spec_NSEC3Hash.calls (k : Nat) (A0 : Option Addr) (c0 : Nat) (l0 : List ByteArray) (A1 : Option Addr) (c1 : Nat) (l1 : List Int) (it : Int) (r : ByteArray) (w : World) (hr0 : Kd.C Kd.string w A0 l0.length l0) (hc0 : l0.length ≤ c0) (hr1 : Kd.C (Kd.int .u8) w A1 l1.length l1) (hc1 : l1.length ≤ c1)
    (h : spec_NSEC3Hash.f k l0 l1 it = some r) : Calls Tryd.prog 44 #[.slice A0 l0.length c0, .slice A1 l1.length c1, .int .i64 it] w fun e w' => e = .returned (.string r) ∧ Below w.heap.size w w' := by
  obtain ⟨l, h1, h⟩ := Option.bind_eq_some_iff.mp h
  obtain ⟨x, h2, h⟩ := Option.bind_eq_some_iff.mp h
  split at h
  case isFalse => cases h
  case isTrue hok =>
  obtain ⟨s, h3, h⟩ := Option.bind_eq_some_iff.mp h
  split at h
  case isFalse => cases h
  case isTrue hs =>
  obtain rfl := Option.some.inj h
  obtain ⟨hxB, hsB, hxl, hsl, hi0, hi1⟩ := okH_inv hok
  obtain ⟨n, rfl⟩ := Int.eq_ofNat_of_zero_le hi0
  have e0 : IntKind.i64.wrap ((n : Int) + 1) = ((n + 1 : Nat) : Int) := by rw [IntWalk.i64_in _ (by omega)]; omega
  have e1 : ((n : Int) + 1).toNat = n + 1 := by omega
  rw [e1] at h3
  obtain ⟨N, hN⟩ : ∃ N, N = n + 1 := ⟨_, rfl⟩
  rw [← hN] at e0 h3
  have hN2 : N ≤ 1001 := by omega
  clear hN e1
  have HR0 := Aside0.mk hr0
  have HR1 := Aside0.mk hr1
  have H1 := Aside0.mk h1
  have H2 := Aside0.mk h2
  have H3 := Aside0.mk h3
  have HX := Aside0.mk hxB
  have HS := Aside0.mk hsB
  have HL := Aside0.mk hxl
  have HSL := Aside0.mk hsl
  clear hr0 hr1 h1 h2 h3 hok h hxB hsB hxl hsl
  go_enter Tryd.func44, Tryd.ntmps44
  go_wp2_with (first
    | (go_at_call 33; (with_reducible refine (spec_Name_Lower.calls k A0 c0 l0 l w HR0.out hc0 H1.out).mono ?_); rintro e w' ⟨v, rfl, hR, hb⟩; (have HO := Aside0.mk hR); (have HB := Aside0.mk hb); clear hR hb; obtain ⟨Al, cl, rfl⟩ := Kd.R_slice HO.out)
    | (go_at_call 38; (refine (spec_Name_Wire.calls k Al cl l x _ (Kd.R_reads' HO.out).2.2 (Kd.R_reads' HO.out).2.1 H2.out).mono ?_); rintro e w2 ⟨v2, rfl, hR, hb⟩; (have HO2 := Aside0.mk (Kd.R_lower hR HB.out.size)); (have HB2 := Aside0.mk (below_step HB.out hb)); clear hR hb))
  clear HO HB H1 H2
  go_loopw [7, 13] (fun v7 v13 W => ∃ i : Nat, v13 = .int .i64 i ∧ i ≤ N ∧ Aside0 (Kd.R (Kd.int .u8) 5 W w.heap.size (fun _ => True) v7 (hshN l1 x i)) ∧ Aside0 (Below w.heap.size w W)) (fun v7 v13 _ => (N - intOf v13).toNat)
  case atStart => exact ⟨0, rfl, by omega, HO2, HB2⟩
  case round =>
    clear HO2 HB2
    obtain ⟨i, rfl, hi, HO, HB⟩ := hrel
    by_cases hlt : i < N
    · have c0 : decide ((i : Int) < (N : Int)) = true := decide_eq_true (by omega)
      have ei : IntKind.i64.wrap ((i : Int) + 1) = ((i + 1 : Nat) : Int) := by rw [IntWalk.i64_in _ (by omega)]; omega
      have HYL := Aside0.mk (hshN_len l1 x HL.out i)
      have HYB := Aside0.mk (hshN_B l1 x HX.out i)
      have HNX := Aside0.mk (show hshN l1 x (i + 1) = shaOf (padOf (hshN l1 x i ++ l1)) from rfl)
      generalize hshN l1 x i = y at HO HYL HYB HNX
      obtain ⟨z, hz⟩ : ∃ z, z = y ++ l1 := ⟨_, rfl⟩
      have HZ := Aside0.mk hz.symm
      have HZL := Aside0.mk (show z.length ≤ 100000 by have := HYL.out; have := HSL.out; rw [hz, List.length_append]; omega)
      have HZB := Aside0.mk (show IsB z by rw [hz]; exact HYB.out.append HS.out)
      clear hz
      obtain ⟨Ay, cy, rfl⟩ := Kd.R_slice HO.out
      go_wp2_with (first
        | ((with_reducible refine gate_builtin (b := .append) (xs := #[.const (.slice none 0 0), .tmp 15]) rfl ?_); at_builtin; refine Kd.R_append_rows (Kd.int .u8) (w0 := w) w.heap.size rfl (.const (.slice none 0 0)) (.tmp 15) 22 5 (.int .u8 0) 1 rfl Tryd.underlying22 info5 rfl (by decide) (by omega) (.slice none 0 0) ([] : List Int) y _ _ _ (fun _ => True) (fun _ => False) rfl rfl ?aO ?aR (fun _ _ h => h) (fun _ h => h.elim) ?aF ?aB ?aS ?aL ?_; (case aR => exact (Kd.R_reads' HO.out).2.2); (case aB => exact HB.out); (case aF => exact (fun _ _ => trivial)); (case aO => exact (Kd.R_nil _ _ _ _ (fun _ => True))); (case aS => exact HB.out.size); (case aL => have := HYL.out; simp; omega); intro va wa hoa hba hga hna; rw [List.nil_append] at hoa; (have HO4 := Aside0.mk hoa); (have HB4 := Aside0.mk hba); clear hoa hba hga hna)
        | ((with_reducible refine gate_builtin (b := .append) (xs := #[.tmp 16, .tmp 17]) rfl ?_); at_builtin; refine Kd.R_append_rows (Kd.int .u8) (w0 := w) w.heap.size rfl (.tmp 16) (.tmp 17) 22 5 (.int .u8 0) 1 rfl Tryd.underlying22 info5 rfl (by decide) (by omega) va y l1 _ _ _ (fun _ => True) (fun _ => False) rfl rfl ?aO ?aR (fun _ _ h => h) (fun _ h => h.elim) ?aF ?aB ?aS ?aL ?_; (case aR => exact Kd.C_below HR1.out HB4.out); (case aB => exact HB4.out); (case aF => exact (fun _ _ => trivial)); (case aO => exact HO4.out); (case aS => exact HB4.out.size); (case aL => have := HYL.out; have := HSL.out; omega); intro vb wb hob hbb hgb hnb; rw [HZ.out] at hob; (have HO5 := Aside0.mk hob); (have HB5 := Aside0.mk hbb); clear hob hbb hgb hnb; obtain ⟨Az, cz, rfl⟩ := Kd.R_slice HO5.out)
        | (go_at_call 68; (refine (sp_sha z Az cz _ HZL.out (Kd.R_reads' HO5.out).2.2 (Kd.R_reads' HO5.out).2.1 HZB.out).mono ?_); rintro e w6 ⟨v6, rfl, hR, hb⟩; (have HO6 := Aside0.mk (Kd.R_lower hR HB5.out.size)); (have HB6 := Aside0.mk (below_step HB5.out hb)); clear hR hb))
      go_roundw
      case rel => exact ⟨i + 1, rfl, by omega, ⟨by rw [HNX.out, HZ.out]; exact HO6.out⟩, HB6⟩
      case measure => simp [intOf]; omega
    · obtain rfl : i = N := by omega
      have c0 : decide ((i : Int) < (i : Int)) = false := decide_eq_false (by omega)
      obtain ⟨y, hy⟩ : ∃ y, y = hshN l1 x i := ⟨_, rfl⟩
      rw [← hy] at HO H3
      have HYL := Aside0.mk (show y.length ≤ 1000 by rw [hy]; exact hshN_len l1 x HL.out i)
      clear hy
      obtain ⟨Ay, cy, rfl⟩ := Kd.R_slice HO.out
      go_wp2_with (first
        | (go_at_call 67; (refine (spec_bits.calls k Ay cy y d32 5 s _ (Kd.R_reads' HO.out).2.2 (Kd.R_reads' HO.out).2.1 H3.out).mono ?_); rintro e w' ⟨rfl, ⟨nd, rfl⟩⟩)
        | (go_at_call 69; (refine (upper_any s _ hs).mono ?_); rintro e w7 ⟨rfl, hb7⟩; (have HB7 := Aside0.mk (below_step (pw_below_drewN HB.out _) hb7)); clear hb7))
      go_ret
      exact ⟨rfl, HB7.out⟩

end Go.Proofs.YtiilihafcdmccaaDoor.P
/- 'dns.HashName'. -/
namespace Go.Proofs.YtiilihafcdmccaaDoor.P
open Go.RowKit Go.Proofs.YtiilihafcdmccaaDoorW.PrintWords Go.Proofs.YtiilihafcdmccaaDoorW.PrintLast Go.Proofs.YtiilihafcdmccaaDoorW.PrintMore
set_option linter.unusedVariables false
set_option linter.unusedSimpArgs false

theorem enc4_len (l : List Int) : (enc4 l).length = 2 * l.length := by
  unfold enc4
  induction l with
  | nil => rfl
  | cons a l ih => simp only [List.flatMap_cons, List.length_append, ih, List.length_cons, List.length_nil]; omega
theorem rowV_C {w : World} {m n room : Nat} {xs : List Int} (h : w.heap[m]? = some (.cells (rowV xs) 5 (0, 0))) (hx : xs.length = room) (hr : room ≤ 100000) (hn : n ≤ room) : Kd.C (Kd.int .u8) w (some ⟨m, 0, none⟩) n (xs.take n) := by
  have hR := rowV_own h (Nat.zero_le m) hx hr n hn
  have h2 := (Kd.R_reads' hR).2.2
  rwa [show (xs.take n).length = n by rw [List.length_take]; omega] at h2
theorem lower_ascii {s : ByteArray} (h : isAscii (bytesOf s) = true) : isAscii (bytesOf (lowerB s)) = true := by
  unfold isAscii at h ⊢
  rw [List.all_eq_true] at h ⊢
  unfold lowerB
  rw [bytesOf_strOfNums (by intro x hx; obtain ⟨y, hy, rfl⟩ := List.mem_map.1 hx; exact lowI_B (bytesOf_isB s y hy))]
  intro x hx
  obtain ⟨y, hy, rfl⟩ := List.mem_map.1 hx
  have h1 := of_decide_eq_true (h y hy)
  have h2 := bytesOf_isB s y hy
  refine decide_eq_true ?_
  unfold lowI
  split <;> omega
theorem lower_size (s : ByteArray) : (lowerB s).size = s.size := by
  unfold lowerB
  rw [strOfNums_size, List.length_map, bytesOf_length]
theorem ascii_nat {s : ByteArray} (h : isAscii (bytesOf s) = true) : ∀ (j : Nat) (b : UInt8), s.data.toList[j]? = some b → b.toNat < 128 := by
  intro j b hj
  unfold isAscii at h
  rw [List.all_eq_true] at h
  have := of_decide_eq_true (h (b.toNat : Int) (List.mem_map.2 ⟨b, List.mem_of_getElem? hj, rfl⟩))
  omega
theorem low_call (s : ByteArray) (w : World) (hsz : s.size ≤ 2000) (h : isAscii (bytesOf s) = true) : Calls Tryd.prog 89 #[.string s] w fun e w' => e = .returned (.string (lowerB s)) ∧ Below w.heap.size w w' := by
  have := Tryd.strings_ToLower_ascii s w (by omega) (ascii_nat h)
  rwa [toLowerA_low] at this
theorem wireL_isB (nm : List (List Int)) (h63 : ∀ l ∈ nm, l.length ≤ 63) (hB : ∀ l ∈ nm, IsB l) : IsB (wireL nm) := by
  induction nm with
  | nil => intro y hy; simp [wireL] at hy; omega
  | cons l ls ih =>
    have h1 := h63 l List.mem_cons_self
    exact IsB.cons (by omega) (IsB.append (hB l List.mem_cons_self) (ih (fun a h => h63 a (List.mem_cons_of_mem _ h)) (fun a h => hB a (List.mem_cons_of_mem _ h))))
theorem wire_take (nm : List (List Int)) (m : Nat) : (wpL nm ++ 0 :: List.replicate m 0).take ((wpL nm).length + 1) = wireL nm := by
  rw [wireL_eq, List.take_append, List.take_of_length_le (by omega), show (wpL nm).length + 1 - (wpL nm).length = 1 by omega]
  rfl
set_option maxHeartbeats 4000000 in
set_option maxRecDepth 100000 in
theorem hash_name (s t : ByteArray) (nm : List (List Int)) (salt : List Int) (it : Nat) (w : World) (hT : TextOf (lowerB s) nm) (h63 : ∀ l ∈ nm, l.length ≤ 63) (hnB : ∀ l ∈ nm, IsB l) (hsz : s.size ≤ 2000) (hasc : isAscii (bytesOf s) = true) (hK : (wpL nm).length + 1 ≤ 255)
    (hB : IsB salt) (hl : salt.length ≤ 1000) (ht : bytesOf t = (enc4 salt).map dgL) (hit : it ≤ 1000) (hG : GoodP w) (hX : GoodX w) :
    Calls Tryd.prog 66 #[.string s, .int .u8 1, .int .u16 it, .string t] w fun e w' => e = .returned (.string (strOfNums ((enc5 (hshN salt (wireL nm) (it + 1))).map dgU))) ∧ Below w.heap.size w w' := by
  have hts : t.size = 2 * salt.length := by rw [← bytesOf_length, ht, List.length_map, enc4_len]
  have hmk := fun W => run_make_row' (P := Tryd.prog) 22 5 (.int .u8 0) 1 Tryd.underlying22 (by kernel_rfl) rfl .i64 .i64 salt.length (by omega) (by omega) W
  rw [made_rowV] at hmk
  have hmq := fun W => run_make_row' (P := Tryd.prog) 22 5 (.int .u8 0) 1 Tryd.underlying22 (by kernel_rfl) rfl .i64 .i64 255 (by omega) (by omega) W
  rw [made_rowV] at hmq
  have hmr : ∀ W : World, (Instr.makeSlice 22 (.int .i64 255) (.int .i64 255)).run Tryd.prog W = .ok (.slice (some ⟨W.heap.size, 0, none⟩) 255 255) (W.alloc (.cells (rowV (List.replicate 255 0)) 5)) := hmq
  clear hmq
  obtain ⟨zz, hz0⟩ : ∃ zz, zz = List.replicate 255 (0 : Int) := ⟨_, rfl⟩
  rw [← hz0] at hmr
  have HZ := Aside0.mk hz0
  clear hz0
  have hdl : ∀ W : World, Calls Tryd.prog 87 #[.int .i64 (2 * (salt.length : Int))] W fun e w' => e = .returned (.int .i64 (salt.length : Int)) ∧ w' = W := fun W => by
    have := Tryd.hex_DecodedLen (2 * (salt.length : Int)) (by omega) (by omega) W
    rwa [show (2 * (salt.length : Int)) / 2 = (salt.length : Int) by omega] at this
  have HDL := Aside0.mk hdl
  obtain ⟨x, hx⟩ : ∃ x, x = wireL nm := ⟨_, rfl⟩
  have hxl : (wpL nm).length + 1 = x.length := by rw [hx, wireL_eq, List.length_append]; rfl
  have hx255 : x.length ≤ 255 := by omega
  have HXB := Aside0.mk (show IsB x by rw [hx]; exact wireL_isB nm h63 hnB)
  rw [← hx]
  obtain ⟨zx, hzx⟩ : ∃ zx, zx = x ++ salt := ⟨_, rfl⟩
  have HZX := Aside0.mk hzx.symm
  have HZXL := Aside0.mk (show zx.length ≤ 100000 by rw [hzx, List.length_append]; omega)
  have HZXB := Aside0.mk (show IsB zx by rw [hzx]; exact HXB.out.append hB)
  have HN1 := Aside0.mk (show hshN salt x (0 + 1) = shaOf (padOf zx) by rw [hzx]; rfl)
  clear hzx
  have HT := Aside0.mk hT
  have HH63 := Aside0.mk h63
  have HS' := Aside0.mk hB
  have HTT := Aside0.mk ht
  have HG := Aside0.mk hG
  have HX := Aside0.mk hX
  have HA := Aside0.mk hasc
  have HXL := Aside0.mk hxl
  have HXE := Aside0.mk hx
  have HKK := Aside0.mk hK
  have HSL := Aside0.mk hl
  have HQ : Aside0 (dns_IsFqdn.f (lowerB s) = some true) := ⟨by
    unfold dns_IsFqdn.f
    rw [if_pos (by rw [lower_size]; omega), if_pos (show ((bytesOf (lowerB s)).all fun x => decide (x < 128)) = true from lower_ascii hasc), hT.fq]⟩
  have HW := Aside0.mk (wire_take nm (255 - ((wpL nm).length + 1)))
  have e7 : (x.length : Int) ≤ 255 := by omega
  have e8 : (it : Int) ≤ 1000 := by omega
  clear hT h63 hB ht hG hX hasc hxl hx hK hdl hnB
  go_enter Tryd.func66, Tryd.ntmps66
  go_wp2_with (first
    | (go_at_call 87; (refine (HDL.out _).mono ?_); rintro e w' ⟨rfl, rfl⟩)
    | (go_at_call 88; ((refine (psh salt HS'.out salt.length rfl hl t HTT.out w'.heap.size w' _ (heap_alloc_new w' _) (Nat.le_refl _) (below_alloc (Below.refl _ _) _) (GoodX.below HX.out (below_alloc (Below.refl _ _) _))).mono ?_); rintro e w2 ⟨rfl, hh, hb⟩; (have HS2 := Aside0.mk hh); (have HB2 := Aside0.mk hb); (have HLT := Aside0.mk (heap_lt hh)); clear hh hb))
    | (go_at_call 89; ((refine (low_call s _ hsz HA.out).mono ?_); rintro e w4 ⟨rfl, hb⟩; (have HB4 := Aside0.mk hb); clear hb))
    | (go_at_call 61; ((refine (pdn (lowerB s) nm 255 w2.heap.size w2 w4 HT.out HH63.out (by rw [lower_size]; omega) (by omega) HQ.out ?hm (Nat.le_refl _) ?hB ?hG).mono ?_); (case hm => rw [HB4.out.block w2.heap.size (by simp), ← HZ.out]; exact heap_alloc_new w2 _); (case hB => exact (below_alloc (Below.refl _ _) _).trans (below_mono HB4.out (by simp))); (case hG => exact GoodP.below HG.out HB2.out); rintro e w5 ⟨hb, h⟩; rw [if_pos HKK.out] at h; obtain ⟨rfl, h9⟩ := h; rw [HXL.out]; (have HX5 := Aside0.mk (show Kd.C (Kd.int .u8) w5 (some ⟨w2.heap.size, 0, none⟩) x.length x by have h8 := rowV_C (n := x.length) h9 (room := 255) (by have := HKK.out; simp; omega) (by omega) hx255; rw [← HXL.out, HW.out, ← HXE.out] at h8; rw [HXL.out] at h8; exact h8)); (have HS5 := Aside0.mk (show Kd.C (Kd.int .u8) w5 (some ⟨w'.heap.size, 0, none⟩) salt.length salt by have h7 := rowV_C (n := salt.length) (show w5.heap[w'.heap.size]? = some (.cells (rowV salt) 5 (0, 0)) by rw [hb.block _ HLT.out]; exact HS2.out) rfl (by omega) (Nat.le_refl _); rw [List.take_length] at h7; exact h7)); (have HB5 := Aside0.mk (HB2.out.trans (below_mono hb HB2.out.size))); clear hb h9))
    | ((with_reducible refine gate_builtin (b := .append) (xs := #[.const (.slice none 0 0), .tmp 46]) rfl ?_); at_builtin; (refine Kd.R_append_rows (Kd.int .u8) (w0 := w5) w5.heap.size rfl (.const (.slice none 0 0)) (.tmp 46) 22 5 (.int .u8 0) 1 rfl Tryd.underlying22 info5 rfl (by decide) (by omega) (.slice none 0 0) ([] : List Int) x _ _ _ (fun _ => True) (fun _ => False) rfl rfl ?aO ?aR (fun _ _ h => h) (fun _ h => h.elim) ?aF ?aB ?aS ?aL ?_; (case aR => exact HX5.out); (case aB => exact Below.refl _ _); (case aF => exact (fun _ _ => trivial)); (case aO => exact (Kd.R_nil _ _ _ _ (fun _ => True))); (case aS => exact Nat.le_refl _); (case aL => skip; simp; omega); intro va wa hoa hba hga hna; rw [List.nil_append] at hoa; (have HO4 := Aside0.mk hoa); (have HB4' := Aside0.mk hba); clear hoa hba hga hna))
    | ((with_reducible refine gate_builtin (b := .append) (xs := #[.tmp 47, .tmp 48]) rfl ?_); at_builtin; (refine Kd.R_append_rows (Kd.int .u8) (w0 := w5) w5.heap.size rfl (.tmp 47) (.tmp 48) 22 5 (.int .u8 0) 1 rfl Tryd.underlying22 info5 rfl (by decide) (by omega) va x salt _ _ _ (fun _ => True) (fun _ => False) rfl rfl ?aO ?aR (fun _ _ h => h) (fun _ h => h.elim) ?aF ?aB ?aS ?aL ?_; (case aR => exact Kd.C_below HS5.out HB4'.out); (case aB => exact HB4'.out); (case aF => exact (fun _ _ => trivial)); (case aO => exact HO4.out); (case aS => exact HB4'.out.size); (case aL => skip; have := HSL.out; omega); intro vb wb hob hbb hgb hnb; rw [HZX.out] at hob; (have HO5 := Aside0.mk hob); (have HB5' := Aside0.mk hbb); clear hob hbb hgb hnb; obtain ⟨Az, cz, rfl⟩ := Kd.R_slice HO5.out))
    | (go_at_call 90; ((refine (zz_sha zx Az cz _ HZXL.out (Kd.R_reads' HO5.out).2.2 (Kd.R_reads' HO5.out).2.1 HZXB.out).mono ?_); rintro e w6 ⟨v6, rfl, hR, hb⟩; (have HO8 := Aside0.mk (Kd.R_lower hR HB5'.out.size)); (have HB8 := Aside0.mk (below_step HB5'.out hb)); clear hR hb)))
  go_loopw [14, 15] (fun v14 v15 W => ∃ i : Nat, v15 = .int .u16 i ∧ i ≤ it ∧ Aside0 (Kd.R (Kd.int .u8) 5 W w5.heap.size (fun _ => True) v14 (hshN salt x (i + 1))) ∧ Aside0 (Below w5.heap.size w5 W)) (fun v14 v15 _ => (it - intOf v15).toNat)
  case atStart => exact ⟨0, rfl, Nat.zero_le _, ⟨by rw [HN1.out]; exact HO8.out⟩, HB8⟩
  case round =>
    clear HO8 HB8
    obtain ⟨i, rfl, hi, HO, HB⟩ := hrel
    by_cases hlt : i < it
    · have c0 : decide ((i : Int) < (it : Int)) = true := decide_eq_true (by omega)
      have ei : IntKind.u16.wrap ((i : Int) + 1) = ((i + 1 : Nat) : Int) := by rw [IntWalk.u16_in _ (by omega)]; omega
      have ei2 : ((i : Int) + 1) % 65536 = ((i + 1 : Nat) : Int) := by omega
      have HYL := Aside0.mk (hshN_len salt x (by omega) (i + 1))
      have HYB := Aside0.mk (hshN_B salt x HXB.out (i + 1))
      have HNX := Aside0.mk (show hshN salt x (i + 1 + 1) = shaOf (padOf (hshN salt x (i + 1) ++ salt)) from rfl)
      generalize hshN salt x (i + 1) = y at HO HYL HYB HNX
      obtain ⟨z, hz⟩ : ∃ z, z = y ++ salt := ⟨_, rfl⟩
      have HZ1 := Aside0.mk hz.symm
      have HZL := Aside0.mk (show z.length ≤ 100000 by have := HYL.out; have := HSL.out; rw [hz, List.length_append]; omega)
      have HZB := Aside0.mk (show IsB z by rw [hz]; exact HYB.out.append HS'.out)
      clear hz
      obtain ⟨Ay, cy, rfl⟩ := Kd.R_slice HO.out
      go_wp2_with (first
        | ((with_reducible refine gate_builtin (b := .append) (xs := #[.const (.slice none 0 0), .tmp 56]) rfl ?_); at_builtin; (refine Kd.R_append_rows (Kd.int .u8) (w0 := w5) w5.heap.size rfl (.const (.slice none 0 0)) (.tmp 56) 22 5 (.int .u8 0) 1 rfl Tryd.underlying22 info5 rfl (by decide) (by omega) (.slice none 0 0) ([] : List Int) y _ _ _ (fun _ => True) (fun _ => False) rfl rfl ?aO ?aR (fun _ _ h => h) (fun _ h => h.elim) ?aF ?aB ?aS ?aL ?_; (case aR => exact (Kd.R_reads' HO.out).2.2); (case aB => exact HB.out); (case aF => exact (fun _ _ => trivial)); (case aO => exact (Kd.R_nil _ _ _ _ (fun _ => True))); (case aS => exact HB.out.size); (case aL => have := HYL.out; simp; omega); intro va wa hoa hba hga hna; rw [List.nil_append] at hoa; (have HO4 := Aside0.mk hoa); (have HB4' := Aside0.mk hba); clear hoa hba hga hna))
        | ((with_reducible refine gate_builtin (b := .append) (xs := #[.tmp 57, .tmp 58]) rfl ?_); at_builtin; (refine Kd.R_append_rows (Kd.int .u8) (w0 := w5) w5.heap.size rfl (.tmp 57) (.tmp 58) 22 5 (.int .u8 0) 1 rfl Tryd.underlying22 info5 rfl (by decide) (by omega) va y salt _ _ _ (fun _ => True) (fun _ => False) rfl rfl ?aO ?aR (fun _ _ h => h) (fun _ h => h.elim) ?aF ?aB ?aS ?aL ?_; (case aR => exact Kd.C_below HS5.out HB4'.out); (case aB => exact HB4'.out); (case aF => exact (fun _ _ => trivial)); (case aO => exact HO4.out); (case aS => exact HB4'.out.size); (case aL => have := HYL.out; have := HSL.out; omega); intro vb wb hob hbb hgb hnb; rw [HZ1.out] at hob; (have HO5 := Aside0.mk hob); (have HB5' := Aside0.mk hbb); clear hob hbb hgb hnb; obtain ⟨Az, cz, rfl⟩ := Kd.R_slice HO5.out))
        | (go_at_call 90; ((refine (zz_sha z Az cz _ HZL.out (Kd.R_reads' HO5.out).2.2 (Kd.R_reads' HO5.out).2.1 HZB.out).mono ?_); rintro e w6 ⟨v6, rfl, hR, hb⟩; (have HO6 := Aside0.mk (Kd.R_lower hR HB5'.out.size)); (have HB6 := Aside0.mk (below_step HB5'.out hb)); clear hR hb)))
      go_roundw
      case rel => exact ⟨i + 1, rfl, by omega, ⟨by rw [HNX.out, HZ1.out]; exact HO6.out⟩, HB6⟩
      case measure => simp [intOf]; omega
    · obtain rfl : i = it := by omega
      have c0 : decide ((i : Int) < (i : Int)) = false := decide_eq_false (by omega)
      obtain ⟨y, hy⟩ : ∃ y, y = hshN salt x (i + 1) := ⟨_, rfl⟩
      rw [← hy] at HO
      have HYE := Aside0.mk hy
      have hyl : y.length = 20 := by rw [hy, hshN]; exact shaOf_len _
      have HYB := Aside0.mk (show IsB y by rw [hy]; exact hshN_B salt x HXB.out (i + 1))
      clear hy
      obtain ⟨by_, cy, rfl, hcy, hrow⟩ := RowR_of_R HO.out 20 hyl (by omega)
      have HRow := Aside0.mk hrow
      clear hrow
      have HYL := Aside0.mk hyl
      clear hyl
      go_wp2_with (first | (go_at_call 91; ((refine (to_b32 y by_ cy _ HYL.out HYB.out HRow.out hcy).mono ?_); rintro e w9 ⟨rfl, hb9⟩; (have HB9 := Aside0.mk (below_step HB.out hb9)); clear hb9)))
      go_ret
      exact ⟨by rw [← HYE.out]; rfl, HB5.out.trans (below_mono HB9.out HB5.out.size)⟩

end Go.Proofs.YtiilihafcdmccaaDoor.P
/- 'impl.HashName': what it answers, where the package's errors and encoding/hex.ErrLength are laid. -/
namespace Go.Proofs.YtiilihafcdmccaaDoor.P
open Go.RowKit Go.Proofs.YtiilihafcdmccaaDoorW.PrintWords Go.Proofs.YtiilihafcdmccaaDoorW.PrintLast Go.Proofs.YtiilihafcdmccaaDoorW.PrintMore
set_option linter.unusedVariables false
set_option linter.unusedSimpArgs false

def GoodH (w : World) : Prop := GoodP w ∧ GoodX w
theorem GoodH.below {w w' : World} (h : GoodH w) (hb : Below w.heap.size w w') : GoodH w' := ⟨GoodP.below h.1 hb, GoodX.below h.2 hb⟩
/-- What the digits of base 16 say. -/
def unhex (t : ByteArray) : List Int := (Lib.Hx.decode t.data.toList).1.map fun b => (b.toNat : Int)
theorem unhex_B (t : ByteArray) : IsB (unhex t) := by
  intro x hx
  obtain ⟨b, _, rfl⟩ := List.mem_map.1 hx
  have := b.toNat_lt
  omega
theorem unhex_of {t : ByteArray} {l : List Int} (hB : IsB l) (h : bytesOf t = (enc4 l).map dgL) : unhex t = l := by
  unfold unhex
  rw [decode_hex hB h]
  exact toU8_nat hB
def okHN (s : ByteArray) (alg it : Int) (t : ByteArray) (n : List (List Int)) : Bool := isAscii (bytesOf s) && decide (s.size ≤ 2000) && decide (alg = 1) && decide (0 ≤ it ∧ it ≤ 1000) && decide (bytesOf t = (enc4 (unhex t)).map dgL) && decide ((unhex t).length ≤ 1000) && decide ((wpL n).length + 1 ≤ 255)
def impl_HashName.f (k : Nat) (s : ByteArray) (alg it : Int) (t : ByteArray) : Option ByteArray :=
  (spec_ParseName.f k (lowerB s)).bind fun x => if x.2.2 = true ∧ x.2.1 = true then (if okHN s alg it t (x.1.map bytesOf) = true then some (strOfNums ((enc5 (hshN (unhex t) (wireL (x.1.map bytesOf)) (it.toNat + 1))).map dgU)) else none) else none
theorem impl_HashName.mono : ∀ a0 a1 a2 a3 k, LeO (impl_HashName.f k a0 a1 a2 a3) (impl_HashName.f (k + 1) a0 a1 a2 a3) := by
  intro a0 a1 a2 a3 k
  unfold impl_HashName.f
  exact LeO.bind (spec_ParseName.mono _ _) (fun _ => LeO.refl _)
set_option maxHeartbeats 1000000 in
theorem impl_HashName.calls (k : Nat) (a0 : ByteArray) (a1 a2 : Int) (a3 : ByteArray) (r : ByteArray) (w : World) (hG : GoodH w) (h : impl_HashName.f k a0 a1 a2 a3 = some r) :
    Calls Tryd.prog 42 #[.string a0, .int .i64 a1, .int .i64 a2, .string a3] w fun e w' => e = .returned (.string r) ∧ Below w.heap.size w w' := by
  obtain ⟨x, hx, h⟩ := Option.bind_eq_some_iff.1 h
  split at h
  case isFalse => cases h
  case isTrue hok =>
  split at h
  case isFalse => cases h
  case isTrue hc =>
  obtain rfl := Option.some.inj h
  unfold okHN at hc
  simp only [Bool.and_eq_true, decide_eq_true_eq] at hc
  obtain ⟨⟨⟨⟨⟨⟨h1, h2⟩, rfl⟩, h3, h4⟩, h5⟩, h6⟩, h7⟩ := hc
  obtain ⟨it, rfl⟩ := Int.eq_ofNat_of_zero_le h3
  obtain ⟨n, hn, hB, h63, hT⟩ := text_of_parse hx hok.1 hok.2 (by rw [lower_size]; omega)
  rw [hn, map_bytes hB] at h7 ⊢
  have HC := Aside0.mk (hash_name a0 a3 n (unhex a3) it w hT h63 hB h2 h1 h7 (unhex_B a3) h6 h5 (by omega) hG.1 hG.2)
  rw [Int.toNat_natCast]
  clear hx hok h h1 h5 h6 h7 hn hB h63 hT hG
  have e1 : (it : Int) % 65536 = (it : Int) := by omega
  have e2 : IntKind.u16.wrap (it : Int) = (it : Int) := IntWalk.u16_in _ (by omega)
  have e3 : IntKind.u8.wrap (1 : Int) = 1 := IntWalk.u8_in _ (by omega)
  go_enter Tryd.func42, Tryd.ntmps42
  go_wp2_with (first | (go_at_call 66; ((refine HC.out.mono ?_); rintro e w' ⟨rfl, hb⟩; (have HB := Aside0.mk hb); clear hb)))
  go_ret
  exact ⟨rfl, HB.out⟩

end Go.Proofs.YtiilihafcdmccaaDoor.P
-- Written by a program of this session (wip/tools/pprint.py) out of the translation: it goes by the kit's print and by the contracts of YtiilihafcdmccaaDoorHand. Not trusted: Lean checks it.
namespace Go.Proofs.YtiilihafcdmccaaDoor.P
open Go.RowKit Go.Proofs.YtiilihafcdmccaaDoorW.PrintWords Go.Proofs.YtiilihafcdmccaaDoorW.PrintLast Go.Proofs.YtiilihafcdmccaaDoorW.PrintMore
attribute [local go_sem] max2_int min2_int max_two min_two max_three min_three max_four min_four   -- for this text's walks alone
set_option linter.unusedVariables false
set_option linter.unusedSimpArgs false

/-! ### spec_Digits16: function 43 -/
def spec_Digits16.f (k : Nat) (l0 : List Int) : Option (ByteArray) := (spec_bits.f k l0 (⟨#[48, 49, 50, 51, 52, 53, 54, 55, 56, 57, 97, 98, 99, 100, 101, 102]⟩ : ByteArray) 4).bind fun t491 => (some t491)
theorem spec_Digits16.mono : ∀ a0 k, LeO (spec_Digits16.f k a0) (spec_Digits16.f (k + 1) a0) := by
  intro a0 k
  unfold spec_Digits16.f
  repeat' first
      | (with_reducible exact spec_bits.mono _ _ _ _)
      | (with_reducible exact LeO.refl _)
      | (with_reducible exact LeO.none _)
      | (with_reducible refine LeO.ite ?_ ?_)
      | (with_reducible refine LeO.bind ?_ (fun _ => ?_))
      | exact spec_bits.mono _ _ _ _
      | exact LeO.none _
      | refine LeO.ite ?_ ?_
      | refine LeO.bind ?_ (fun _ => ?_)
set_option maxHeartbeats 8000000 in
set_option maxRecDepth 100000 in
theorem spec_Digits16.calls (k : Nat) (A0 : Option Addr) (c0 : Nat) (l0 : List Int) (r : ByteArray) (w : World) (hr0 : Kd.C (Kd.int .u8) w A0 l0.length l0) (hc0 : l0.length ≤ c0) (h : spec_Digits16.f k l0 = some r) :
    Calls Tryd.prog 43 #[.slice A0 l0.length c0] w fun e w' => e = .returned (.string r) ∧ Drawn0 w w' := by
  have HR0 := Aside0.mk hr0
  have HC0 := Aside0.mk hc0
  clear hr0 hc0
  have H : ((spec_bits.f k l0 (⟨#[48, 49, 50, 51, 52, 53, 54, 55, 56, 57, 97, 98, 99, 100, 101, 102]⟩ : ByteArray) 4).bind fun t491 => (some t491)) = some r := h
  clear h
  replace H := Option.bind_eq_some_iff.mp H
  obtain ⟨t491, A20, H⟩ := H
  replace H : (some t491) = some r := H
  have A2 := Aside0.mk A20
  clear A20
  obtain rfl := Option.some.inj H
  go_enter Tryd.func43, Tryd.ntmps43
  go_wp2_with (first | ((with_reducible refine gate_callee (f := 67) rfl ?_); refine goesL_ (some 4) rfl rfl Tryd.func67 (by kernel_rfl) rfl #[.slice A0 l0.length c0, .string (⟨#[48, 49, 50, 51, 52, 53, 54, 55, 56, 57, 97, 98, 99, 100, 101, 102]⟩ : ByteArray), .int .i64 4] rfl (by (try simp only [List.map_toArray, List.map_cons, List.map_nil]); first | done | rfl | (simp only [List.length_drop, List.length_take]; rfl)) ?_; (with_reducible refine (spec_bits.calls k _ _ l0 (⟨#[48, 49, 50, 51, 52, 53, 54, 55, 56, 57, 97, 98, 99, 100, 101, 102]⟩ : ByteArray) 4 t491 _ ?side1 ?side2 A2.out).mono ?_); (case side1 => repeat (first | exact HR0.out | (with_reducible refine Kd.C_alloc ?_ _) | (with_reducible refine Kd.C_drewN ?_ _) | (with_reducible refine Kd.C_drew ?_))); (case side2 => exact HC0.out); rintro e w' ⟨rfl, ⟨nd, rfl⟩⟩; refine ⟨_, rfl, ?_⟩))
  go_ret
  exact ⟨by first | rfl | (simp; done) | (simp [*]; done) | (simp [wrap64]; done), by repeat (first | exact Drawn0.refl _ | apply Drawn0.step)⟩

end Go.Proofs.YtiilihafcdmccaaDoor.P
-- Written by a program of this session (wip/tools/pprint.py) out of the translation: it goes by the kit's print and by the contracts of YtiilihafcdmccaaDoorHand. Not trusted: Lean checks it.
namespace Go.Proofs.YtiilihafcdmccaaDoor.P
open Go.RowKit Go.Proofs.YtiilihafcdmccaaDoorW.PrintWords Go.Proofs.YtiilihafcdmccaaDoorW.PrintLast Go.Proofs.YtiilihafcdmccaaDoorW.PrintMore
attribute [local go_sem] max2_int min2_int max_two min_two max_three min_three max_four min_four   -- for this text's walks alone
set_option linter.unusedVariables false
set_option linter.unusedSimpArgs false

/-! ### laws_FnHash: function 12 -/
mutual
def laws_FnHash.j0 : Nat → List (List Int) → Int → List Int → Bool → Option (Bool)
  | 0, _, _, _, _ => none
  | k + 1, x0, x1, x2, x16 => if x16 = true then (some true) else ((laws_name.f k x0).bind fun bt509 => (if bt509.2 = true then (if x1 < 0 then (laws_FnHash.j1 k x1 x2 bt509.1 true) else (if x1 > 20 then (laws_FnHash.j1 k x1 x2 bt509.1 true) else (laws_FnHash.j1 k x1 x2 bt509.1 (decide ((x2.length : Int) > 127))))) else (laws_FnHash.j1 k x1 x2 bt509.1 true)))
def laws_FnHash.j1 : Nat → Int → List Int → List ByteArray → Bool → Option (Bool)
  | 0, _, _, _, _ => none
  | k + 1, x1, x2, x7, x36 => if x36 = true then (some true) else ((spec_Name_Text.f k x7 ([] : List Int)).bind fun t513 => ((spec_Digits16.f k x2).bind fun t514 => ((impl_HashName.f k t513 1 x1 t514).bind fun t515 => ((spec_NSEC3Hash.f k x7 x2 x1).bind fun t516 => (some (t515.toList == t516.toList))))))
end
def laws_FnHash.f (k : Nat) (l0 : List (List Int)) (a1 : Int) (l2 : List Int) : Option (Bool) := (laws_zzFits9.f k l0).bind fun t508 => (if t508 = true then (laws_FnHash.j0 k l0 a1 l2 (decide ((l2.length : Int) > 2147483647))) else (laws_FnHash.j0 k l0 a1 l2 true))
theorem laws_FnHash.mono_l : ∀ k, (∀ y0 y1 y2 y3, LeO (laws_FnHash.j0 k y0 y1 y2 y3) (laws_FnHash.j0 (k + 1) y0 y1 y2 y3)) ∧ (∀ y0 y1 y2 y3, LeO (laws_FnHash.j1 k y0 y1 y2 y3) (laws_FnHash.j1 (k + 1) y0 y1 y2 y3))
  | 0 => ⟨fun _ _ _ _ r h => by simp [laws_FnHash.j0] at h, fun _ _ _ _ r h => by simp [laws_FnHash.j1] at h⟩
  | k + 1 => by
    obtain ⟨ih0, ih1⟩ := laws_FnHash.mono_l k
    refine ⟨?_, ?_⟩
    · intro y0 y1 y2 y3
      unfold laws_FnHash.j0
      repeat' first
      | (with_reducible exact ih0 _ _ _ _)
      | (with_reducible exact ih1 _ _ _ _)
      | (with_reducible exact impl_HashName.mono _ _ _ _ _)
      | (with_reducible exact laws_name.mono _ _)
      | (with_reducible exact laws_zzFits9.mono _ _)
      | (with_reducible exact spec_Digits16.mono _ _)
      | (with_reducible exact spec_NSEC3Hash.mono _ _ _ _)
      | (with_reducible exact spec_Name_Text.mono _ _ _)
      | (with_reducible exact LeO.refl _)
      | (with_reducible exact LeO.none _)
      | (with_reducible refine LeO.ite ?_ ?_)
      | (with_reducible refine LeO.bind ?_ (fun _ => ?_))
      | exact ih0 _ _ _ _
      | exact ih1 _ _ _ _
      | exact impl_HashName.mono _ _ _ _ _
      | exact laws_name.mono _ _
      | exact laws_zzFits9.mono _ _
      | exact spec_Digits16.mono _ _
      | exact spec_NSEC3Hash.mono _ _ _ _
      | exact spec_Name_Text.mono _ _ _
      | exact LeO.none _
      | refine LeO.ite ?_ ?_
      | refine LeO.bind ?_ (fun _ => ?_)
    · intro y0 y1 y2 y3
      unfold laws_FnHash.j1
      repeat' first
      | (with_reducible exact ih0 _ _ _ _)
      | (with_reducible exact ih1 _ _ _ _)
      | (with_reducible exact impl_HashName.mono _ _ _ _ _)
      | (with_reducible exact laws_name.mono _ _)
      | (with_reducible exact laws_zzFits9.mono _ _)
      | (with_reducible exact spec_Digits16.mono _ _)
      | (with_reducible exact spec_NSEC3Hash.mono _ _ _ _)
      | (with_reducible exact spec_Name_Text.mono _ _ _)
      | (with_reducible exact LeO.refl _)
      | (with_reducible exact LeO.none _)
      | (with_reducible refine LeO.ite ?_ ?_)
      | (with_reducible refine LeO.bind ?_ (fun _ => ?_))
      | exact ih0 _ _ _ _
      | exact ih1 _ _ _ _
      | exact impl_HashName.mono _ _ _ _ _
      | exact laws_name.mono _ _
      | exact laws_zzFits9.mono _ _
      | exact spec_Digits16.mono _ _
      | exact spec_NSEC3Hash.mono _ _ _ _
      | exact spec_Name_Text.mono _ _ _
      | exact LeO.none _
      | refine LeO.ite ?_ ?_
      | refine LeO.bind ?_ (fun _ => ?_)
theorem laws_FnHash.mono : ∀ a0 a1 a2 k, LeO (laws_FnHash.f k a0 a1 a2) (laws_FnHash.f (k + 1) a0 a1 a2) := by
  intro a0 a1 a2 k
  obtain ⟨ih0, ih1⟩ := laws_FnHash.mono_l k
  unfold laws_FnHash.f
  repeat' first
      | (with_reducible exact ih0 _ _ _ _)
      | (with_reducible exact ih1 _ _ _ _)
      | (with_reducible exact impl_HashName.mono _ _ _ _ _)
      | (with_reducible exact laws_name.mono _ _)
      | (with_reducible exact laws_zzFits9.mono _ _)
      | (with_reducible exact spec_Digits16.mono _ _)
      | (with_reducible exact spec_NSEC3Hash.mono _ _ _ _)
      | (with_reducible exact spec_Name_Text.mono _ _ _)
      | (with_reducible exact LeO.refl _)
      | (with_reducible exact LeO.none _)
      | (with_reducible refine LeO.ite ?_ ?_)
      | (with_reducible refine LeO.bind ?_ (fun _ => ?_))
      | exact ih0 _ _ _ _
      | exact ih1 _ _ _ _
      | exact impl_HashName.mono _ _ _ _ _
      | exact laws_name.mono _ _
      | exact laws_zzFits9.mono _ _
      | exact spec_Digits16.mono _ _
      | exact spec_NSEC3Hash.mono _ _ _ _
      | exact spec_Name_Text.mono _ _ _
      | exact LeO.none _
      | refine LeO.ite ?_ ?_
      | refine LeO.bind ?_ (fun _ => ?_)
set_option maxHeartbeats 8000000 in
set_option maxRecDepth 100000 in
theorem laws_FnHash.calls (k : Nat) (A0 : Option Addr) (c0 : Nat) (l0 : List (List Int)) (a1 : Int) (A2 : Option Addr) (c2 : Nat) (l2 : List Int) (r : Bool) (w : World) (hr0 : Kd.C (Kd.slice 5 (Kd.int .u8)) w A0 l0.length l0) (hc0 : l0.length ≤ c0) (hr2 : Kd.C (Kd.int .u8) w A2 l2.length l2) (hc2 : l2.length ≤ c2) (hG : GoodH w) (h : laws_FnHash.f k l0 a1 l2 = some r) :
    Calls Tryd.prog 12 #[.slice A0 l0.length c0, .int .i64 a1, .slice A2 l2.length c2] w fun e w' => e = .returned (.bool r) ∧ Below w.heap.size w w' := by
  have HG := Aside0.mk hG
  clear hG
  have HR0 := Aside0.mk hr0
  have HC0 := Aside0.mk hc0
  clear hr0 hc0
  have HR2 := Aside0.mk hr2
  have HC2 := Aside0.mk hc2
  clear hr2 hc2
  have HB := Aside0.mk (Below.refl w.heap.size w)
  have H : ((laws_zzFits9.f k l0).bind fun t508 => (if t508 = true then (laws_FnHash.j0 k l0 a1 l2 (decide ((l2.length : Int) > 2147483647))) else (laws_FnHash.j0 k l0 a1 l2 true))) = some r := h
  clear h
  have HC4 := Aside0.mk H
  clear H
  go_enter Tryd.func12, Tryd.ntmps12
  go_upto_region 1 with (fail)
  go_cut [16] (fun v16 wc => ∃ (kq : Nat) (x16_3 : Bool), v16 = .bool x16_3 ∧ Aside0 (laws_FnHash.j0 kq l0 a1 l2 x16_3 = some r) ∧ Aside0 (kq ≤ k) ∧ Aside0 (Below w.heap.size w wc))
  case first =>
    have H := HC4.out
    clear HC4
    replace H := Option.bind_eq_some_iff.mp H
    obtain ⟨t508, A50, H⟩ := H
    replace H : (if t508 = true then (laws_FnHash.j0 k l0 a1 l2 (decide ((l2.length : Int) > 2147483647))) else (laws_FnHash.j0 k l0 a1 l2 true)) = some r := H
    have A5 := Aside0.mk A50
    clear A50
    by_cases c6 : t508 = true
    · subst c6
      have H1 : (laws_FnHash.j0 k l0 a1 l2 (decide ((l2.length : Int) > 2147483647))) = some r := by rw [if_pos rfl] at H; exact H
      clear H
      have H := H1
      clear H1
      have H' := Aside0.mk H
      clear H
      go_wp2_with (first | ((with_reducible refine gate_callee (f := 34) rfl ?_); refine goesL_ (some 10) rfl rfl Tryd.func34 (by kernel_rfl) rfl #[.slice A0 l0.length c0] rfl (by (try simp only [List.map_toArray, List.map_cons, List.map_nil]); first | done | rfl | (simp only [List.length_drop, List.length_take]; rfl)) ?_; (with_reducible refine (laws_zzFits9.calls k _ _ l0 true _ ?side1 ?side2 A5.out).mono ?_); (case side1 => repeat (first | exact (Kd.C_below HR0.out HB.out) | (with_reducible refine Kd.C_alloc ?_ _) | (with_reducible refine Kd.C_drewN ?_ _) | (with_reducible refine Kd.C_drew ?_))); (case side2 => exact HC0.out); rintro e w' ⟨rfl, ⟨nd, rfl⟩⟩; refine ⟨_, rfl, ?_⟩))
      go_meet
      case rel => exact ⟨_, (decide ((l2.length : Int) > 2147483647)), (by first | rfl | (simp; done) | (simp [*]; done) | (simp [wrap64]; done)), H', ⟨by first | omega | exact Nat.le_refl _⟩, ⟨by repeat (first | (with_reducible first | exact HB.out | apply below_alloc | apply pw_below_drewN | apply below_drew1) | exact HB.out)⟩⟩
    · replace c6 := Bool.eq_false_iff.mpr c6
      subst c6
      have H1 : (laws_FnHash.j0 k l0 a1 l2 true) = some r := by rw [if_neg (show ¬ (false = true) by decide)] at H; exact H
      clear H
      have H := H1
      clear H1
      have H' := Aside0.mk H
      clear H
      go_wp2_with (first | ((with_reducible refine gate_callee (f := 34) rfl ?_); refine goesL_ (some 10) rfl rfl Tryd.func34 (by kernel_rfl) rfl #[.slice A0 l0.length c0] rfl (by (try simp only [List.map_toArray, List.map_cons, List.map_nil]); first | done | rfl | (simp only [List.length_drop, List.length_take]; rfl)) ?_; (with_reducible refine (laws_zzFits9.calls k _ _ l0 false _ ?side1 ?side2 A5.out).mono ?_); (case side1 => repeat (first | exact (Kd.C_below HR0.out HB.out) | (with_reducible refine Kd.C_alloc ?_ _) | (with_reducible refine Kd.C_drewN ?_ _) | (with_reducible refine Kd.C_drew ?_))); (case side2 => exact HC0.out); rintro e w' ⟨rfl, ⟨nd, rfl⟩⟩; refine ⟨_, rfl, ?_⟩))
      go_meet
      case rel => exact ⟨_, (true), (by first | rfl | (simp; done) | (simp [*]; done) | (simp [wrap64]; done)), H', ⟨by first | omega | exact Nat.le_refl _⟩, ⟨by repeat (first | (with_reducible first | exact HB.out | apply below_alloc | apply pw_below_drewN | apply below_drew1) | exact HB.out)⟩⟩
  case rest =>
    clear HC4
    try clear c1
    try clear c2
    try clear p2
    try clear c3
    try clear c6
    try clear p6
    obtain ⟨kq, x16_3, rfl, HA, HJ3, HB⟩ := hcut
    cases kq with
    | zero => exact absurd HA.out (by simp [laws_FnHash.j0])
    | succ kj3 =>
      have H := HA.out
      clear HA
      simp only [laws_FnHash.j0] at H
      by_cases c7 : x16_3 = true
      · subst c7
        have H1 : (some true) = some r := by rw [if_pos rfl] at H; exact H
        clear H
        have H := H1
        clear H1
        obtain rfl := Option.some.inj H
        go_wp2
        go_ret
        exact ⟨by first | rfl | (simp [errW_none, errW_some] <;> rfl) | (simp [*, errW_none, errW_some] <;> rfl), by repeat (first | (with_reducible first | exact HB.out | apply below_alloc | apply pw_below_drewN | apply below_drew1) | exact HB.out)⟩
      · replace c7 := Bool.eq_false_iff.mpr c7
        subst c7
        have H1 : ((laws_name.f kj3 l0).bind fun bt509 => (if bt509.2 = true then (if a1 < 0 then (laws_FnHash.j1 kj3 a1 l2 bt509.1 true) else (if a1 > 20 then (laws_FnHash.j1 kj3 a1 l2 bt509.1 true) else (laws_FnHash.j1 kj3 a1 l2 bt509.1 (decide ((l2.length : Int) > 127))))) else (laws_FnHash.j1 kj3 a1 l2 bt509.1 true))) = some r := by rw [if_neg (show ¬ (false = true) by decide)] at H; exact H
        clear H
        have H := H1
        clear H1
        replace H := Option.bind_eq_some_iff.mp H
        obtain ⟨⟨t509, t510⟩, A80, H⟩ := H
        replace H : (if t510 = true then (if a1 < 0 then (laws_FnHash.j1 kj3 a1 l2 t509 true) else (if a1 > 20 then (laws_FnHash.j1 kj3 a1 l2 t509 true) else (laws_FnHash.j1 kj3 a1 l2 t509 (decide ((l2.length : Int) > 127))))) else (laws_FnHash.j1 kj3 a1 l2 t509 true)) = some r := H
        have A8 := Aside0.mk A80
        clear A80
        have HC9 := Aside0.mk H
        clear H
        go_upto_region 4 with (first | ((with_reducible refine gate_callee (f := 35) rfl ?_); refine goesL_ (some 19) rfl rfl Tryd.func35 (by kernel_rfl) rfl #[.slice A0 l0.length c0] rfl (by (try simp only [List.map_toArray, List.map_cons, List.map_nil]); first | done | rfl | (simp only [List.length_drop, List.length_take]; rfl)) ?_; (with_reducible refine (laws_name.calls kj3 _ _ l0 t509 t510 _ ?side1 ?side2 A8.out).mono ?_); (case side1 => repeat (first | exact (Kd.C_below HR0.out HB.out) | (with_reducible refine Kd.C_alloc ?_ _) | (with_reducible refine Kd.C_drewN ?_ _) | (with_reducible refine Kd.C_drew ?_))); (case side2 => exact HC0.out); rintro e w10 ⟨v511, rfl, ho0, hb⟩; refine ⟨_, rfl, ?_⟩; have n0_ := Aside0.mk (Kd.R_lower ho0 (below_size (by repeat (first | (with_reducible first | exact HB.out | apply below_alloc | apply pw_below_drewN | apply below_drew1) | exact HB.out)))); have n1_ := Aside0.mk (below_step (by repeat (first | (with_reducible first | exact HB.out | apply below_alloc | apply pw_below_drewN | apply below_drew1) | exact HB.out)) hb); clear HB; have HO512 := n0_; have HB := n1_; clear n0_ n1_; (try clear hb); (try clear hb2); (try clear hk); (try clear hi); (try clear ho0)))
        (try simp only [Act.put, List.setIfInBounds_toArray, List.set_cons_zero, List.set_cons_succ])
        go_cut [36] (fun v36 wc => ∃ (kq : Nat) (x36_8 : Bool), v36 = .bool x36_8 ∧ Aside0 (laws_FnHash.j1 kq a1 l2 t509 x36_8 = some r) ∧ Aside0 (kq ≤ kj3) ∧ Aside0 (Kd.R Kd.string 9 wc w.heap.size (fun _ => True) v511 t509) ∧ Aside0 (Below w.heap.size w wc))
        case first =>
          have H := HC9.out
          clear HC9
          by_cases c11 : t510 = true
          · subst c11
            have H1 : (if a1 < 0 then (laws_FnHash.j1 kj3 a1 l2 t509 true) else (if a1 > 20 then (laws_FnHash.j1 kj3 a1 l2 t509 true) else (laws_FnHash.j1 kj3 a1 l2 t509 (decide ((l2.length : Int) > 127))))) = some r := by rw [if_pos rfl] at H; exact H
            clear H
            have H := H1
            clear H1
            by_cases c12 : a1 < 0
            · rw [if_pos c12] at H
              have c12b0 : decide (a1 < 0) = true := decide_eq_true c12
              clear c12
              (first | rw [c12b0] | (simp only [i64_w, i32_w]; rw [c12b0]) | skip)
              have H' := Aside0.mk H
              clear H
              go_wp2
              go_meet
              case rel => exact ⟨_, (true), (by first | rfl | (simp; done) | (simp [*]; done) | (simp [wrap64]; done)), H', ⟨by have := HJ3.out; first | omega | exact Nat.le_refl _⟩, ⟨by (with_reducible repeat (first | apply Kd.R_alloc | apply Kd.R_drewN | apply Kd.R_drew)); exact HO512.out⟩, ⟨by repeat (first | (with_reducible first | exact HB.out | apply below_alloc | apply pw_below_drewN | apply below_drew1) | exact HB.out)⟩⟩
            · rw [if_neg c12] at H
              have c12b0 : decide (a1 < 0) = false := decide_eq_false c12
              clear c12
              (first | rw [c12b0] | (simp only [i64_w, i32_w]; rw [c12b0]) | skip)
              by_cases c13 : a1 > 20
              · rw [if_pos c13] at H
                have c13b0 : decide (20 < a1) = true := decide_eq_true c13
                clear c13
                have H' := Aside0.mk H
                clear H
                go_wp2
                go_meet
                case rel => exact ⟨_, (true), (by first | rfl | (simp; done) | (simp [*]; done) | (simp [wrap64]; done)), H', ⟨by have := HJ3.out; first | omega | exact Nat.le_refl _⟩, ⟨by (with_reducible repeat (first | apply Kd.R_alloc | apply Kd.R_drewN | apply Kd.R_drew)); exact HO512.out⟩, ⟨by repeat (first | (with_reducible first | exact HB.out | apply below_alloc | apply pw_below_drewN | apply below_drew1) | exact HB.out)⟩⟩
              · rw [if_neg c13] at H
                have c13b0 : decide (20 < a1) = false := decide_eq_false c13
                clear c13
                have H' := Aside0.mk H
                clear H
                go_wp2
                go_meet
                case rel => exact ⟨_, (decide ((l2.length : Int) > 127)), (by first | rfl | (simp; done) | (simp [*]; done) | (simp [wrap64]; done)), H', ⟨by have := HJ3.out; first | omega | exact Nat.le_refl _⟩, ⟨by (with_reducible repeat (first | apply Kd.R_alloc | apply Kd.R_drewN | apply Kd.R_drew)); exact HO512.out⟩, ⟨by repeat (first | (with_reducible first | exact HB.out | apply below_alloc | apply pw_below_drewN | apply below_drew1) | exact HB.out)⟩⟩
          · replace c11 := Bool.eq_false_iff.mpr c11
            subst c11
            have H1 : (laws_FnHash.j1 kj3 a1 l2 t509 true) = some r := by rw [if_neg (show ¬ (false = true) by decide)] at H; exact H
            clear H
            have H := H1
            clear H1
            have H' := Aside0.mk H
            clear H
            go_wp2
            go_meet
            case rel => exact ⟨_, (true), (by first | rfl | (simp; done) | (simp [*]; done) | (simp [wrap64]; done)), H', ⟨by have := HJ3.out; first | omega | exact Nat.le_refl _⟩, ⟨by (with_reducible repeat (first | apply Kd.R_alloc | apply Kd.R_drewN | apply Kd.R_drew)); exact HO512.out⟩, ⟨by repeat (first | (with_reducible first | exact HB.out | apply below_alloc | apply pw_below_drewN | apply below_drew1) | exact HB.out)⟩⟩
        case rest =>
          clear HC9
          try clear c1
          try clear c2
          try clear p2
          try clear c3
          try clear c6
          try clear p6
          try clear c7
          try clear c11
          try clear c12
          try clear c12b0
          try clear c13
          try clear c13b0
          try clear p2
          try clear p6
          obtain ⟨kq, x36_8, rfl, HA, HJ8, HO_7, HB⟩ := hcut
          cases kq with
          | zero => exact absurd HA.out (by simp [laws_FnHash.j1])
          | succ kj8 =>
            have H := HA.out
            clear HA
            simp only [laws_FnHash.j1] at H
            by_cases c14 : x36_8 = true
            · subst c14
              have H1 : (some true) = some r := by rw [if_pos rfl] at H; exact H
              clear H
              have H := H1
              clear H1
              obtain rfl := Option.some.inj H
              go_wp2
              go_ret
              exact ⟨by first | rfl | (simp [errW_none, errW_some] <;> rfl) | (simp [*, errW_none, errW_some] <;> rfl), by repeat (first | (with_reducible first | exact HB.out | apply below_alloc | apply pw_below_drewN | apply below_drew1) | exact HB.out)⟩
            · replace c14 := Bool.eq_false_iff.mpr c14
              subst c14
              have H1 : ((spec_Name_Text.f kj8 t509 ([] : List Int)).bind fun t513 => ((spec_Digits16.f kj8 l2).bind fun t514 => ((impl_HashName.f kj8 t513 1 a1 t514).bind fun t515 => ((spec_NSEC3Hash.f kj8 t509 l2 a1).bind fun t516 => (some (t515.toList == t516.toList)))))) = some r := by rw [if_neg (show ¬ (false = true) by decide)] at H; exact H
              clear H
              have H := H1
              clear H1
              replace H := Option.bind_eq_some_iff.mp H
              obtain ⟨t513, A150, H⟩ := H
              replace H : ((spec_Digits16.f kj8 l2).bind fun t514 => ((impl_HashName.f kj8 t513 1 a1 t514).bind fun t515 => ((spec_NSEC3Hash.f kj8 t509 l2 a1).bind fun t516 => (some (t515.toList == t516.toList))))) = some r := H
              have A15 := Aside0.mk A150
              clear A150
              replace H := Option.bind_eq_some_iff.mp H
              obtain ⟨t514, A160, H⟩ := H
              replace H : ((impl_HashName.f kj8 t513 1 a1 t514).bind fun t515 => ((spec_NSEC3Hash.f kj8 t509 l2 a1).bind fun t516 => (some (t515.toList == t516.toList)))) = some r := H
              have A16 := Aside0.mk A160
              clear A160
              replace H := Option.bind_eq_some_iff.mp H
              obtain ⟨t515, A170, H⟩ := H
              replace H : ((spec_NSEC3Hash.f kj8 t509 l2 a1).bind fun t516 => (some (t515.toList == t516.toList))) = some r := H
              have A17 := Aside0.mk A170
              clear A170
              replace H := Option.bind_eq_some_iff.mp H
              obtain ⟨t516, A180, H⟩ := H
              replace H : (some (t515.toList == t516.toList)) = some r := H
              have A18 := Aside0.mk A180
              clear A180
              obtain rfl := Option.some.inj H
              obtain ⟨Ao19, co19, eo19⟩ := Kd.R_slice HO_7.out
              subst eo19
              go_wp2_with (first | ((with_reducible refine gate_callee (f := 37) rfl ?_); refine goesL_ (some 38) rfl rfl Tryd.func37 (by kernel_rfl) rfl #[.slice Ao19 t509.length co19, .slice none 0 0] rfl (by (try simp only [List.map_toArray, List.map_cons, List.map_nil]); first | done | rfl | (simp only [List.length_drop, List.length_take]; rfl)) ?_; (refine (spec_Name_Text.calls kj8 _ _ t509 _ _ ([] : List Int) t513 _ ?side1 ?side2 ?side3 ?side4 A15.out).mono ?_); (case side1 => repeat (first | exact (Kd.R_reads' HO_7.out).2.2 | (with_reducible refine Kd.C_alloc ?_ _) | (with_reducible refine Kd.C_drewN ?_ _) | (with_reducible refine Kd.C_drew ?_))); (case side2 => exact (Kd.R_reads' HO_7.out).2.1); (case side3 => exact Kd.C_nil _ _); (case side4 => exact Nat.le_refl _); rintro e w20 ⟨rfl, hb⟩; refine ⟨_, rfl, ?_⟩; have n0_ := Aside0.mk (Kd.R_below (by (with_reducible repeat (first | apply Kd.R_alloc | apply Kd.R_drewN | apply Kd.R_drew)); exact HO_7.out) hb); have n1_ := Aside0.mk (below_step (by repeat (first | (with_reducible first | exact HB.out | apply below_alloc | apply pw_below_drewN | apply below_drew1) | exact HB.out)) hb); clear HO_7; clear HB; have HO_7 := n0_; have HB := n1_; clear n0_ n1_; (try clear hb); (try clear hb2); (try clear hk); (try clear hi)) | ((with_reducible refine gate_callee (f := 43) rfl ?_); refine goesL_ (some 41) rfl rfl Tryd.func43 (by kernel_rfl) rfl #[.slice A2 l2.length c2] rfl (by (try simp only [List.map_toArray, List.map_cons, List.map_nil]); first | done | rfl | (simp only [List.length_drop, List.length_take]; rfl)) ?_; (with_reducible refine (spec_Digits16.calls kj8 _ _ l2 t514 _ ?side1 ?side2 A16.out).mono ?_); (case side1 => repeat (first | exact (Kd.C_below HR2.out HB.out) | (with_reducible refine Kd.C_alloc ?_ _) | (with_reducible refine Kd.C_drewN ?_ _) | (with_reducible refine Kd.C_drew ?_))); (case side2 => exact HC2.out); rintro e w' ⟨rfl, ⟨nd, rfl⟩⟩; refine ⟨_, rfl, ?_⟩) | ((with_reducible refine gate_callee (f := 42) rfl ?_); refine goesL_ (some 42) rfl rfl Tryd.func42 (by kernel_rfl) rfl #[.string t513, .int .i64 1, .int .i64 a1, .string t514] rfl (by (try simp only [List.map_toArray, List.map_cons, List.map_nil]); first | done | rfl | (simp only [List.length_drop, List.length_take]; rfl)) ?_; (with_reducible refine (impl_HashName.calls kj8 t513 1 a1 t514 t515 _ (GoodH.below (HG.out) (by repeat (first | (with_reducible first | exact HB.out | apply below_alloc | apply pw_below_drewN | apply below_drew1) | exact HB.out))) A17.out).mono ?_); rintro e w21 ⟨rfl, hb⟩; refine ⟨_, rfl, ?_⟩; have n0_ := Aside0.mk (Kd.R_below (by (with_reducible repeat (first | apply Kd.R_alloc | apply Kd.R_drewN | apply Kd.R_drew)); exact HO_7.out) hb); have n1_ := Aside0.mk (below_step (by repeat (first | (with_reducible first | exact HB.out | apply below_alloc | apply pw_below_drewN | apply below_drew1) | exact HB.out)) hb); clear HO_7; clear HB; have HO_7 := n0_; have HB := n1_; clear n0_ n1_; (try clear hb); (try clear hb2); (try clear hk); (try clear hi)) | ((with_reducible refine gate_callee (f := 44) rfl ?_); refine goesL_ (some 46) rfl rfl Tryd.func44 (by kernel_rfl) rfl #[.slice Ao19 t509.length co19, .slice A2 l2.length c2, .int .i64 a1] rfl (by (try simp only [List.map_toArray, List.map_cons, List.map_nil]); first | done | rfl | (simp only [List.length_drop, List.length_take]; rfl)) ?_; (with_reducible refine (spec_NSEC3Hash.calls kj8 _ _ t509 _ _ l2 a1 t516 _ ?side1 ?side2 ?side3 ?side4 A18.out).mono ?_); (case side1 => repeat (first | exact (Kd.R_reads' HO_7.out).2.2 | (with_reducible refine Kd.C_alloc ?_ _) | (with_reducible refine Kd.C_drewN ?_ _) | (with_reducible refine Kd.C_drew ?_))); (case side2 => exact (Kd.R_reads' HO_7.out).2.1); (case side3 => repeat (first | exact (Kd.C_below HR2.out HB.out) | (with_reducible refine Kd.C_alloc ?_ _) | (with_reducible refine Kd.C_drewN ?_ _) | (with_reducible refine Kd.C_drew ?_))); (case side4 => exact HC2.out); rintro e w22 ⟨rfl, hb⟩; refine ⟨_, rfl, ?_⟩; have n0_ := Aside0.mk (Kd.R_below (by (with_reducible repeat (first | apply Kd.R_alloc | apply Kd.R_drewN | apply Kd.R_drew)); exact HO_7.out) hb); have n1_ := Aside0.mk (below_step (by repeat (first | (with_reducible first | exact HB.out | apply below_alloc | apply pw_below_drewN | apply below_drew1) | exact HB.out)) hb); clear HO_7; clear HB; have HO_7 := n0_; have HB := n1_; clear n0_ n1_; (try clear hb); (try clear hb2); (try clear hk); (try clear hi)))
              go_ret
              exact ⟨by first | rfl | (simp [errW_none, errW_some] <;> rfl) | (simp [*, errW_none, errW_some] <;> rfl), by repeat (first | (with_reducible first | exact HB.out | apply below_alloc | apply pw_below_drewN | apply below_drew1) | exact HB.out)⟩

end Go.Proofs.YtiilihafcdmccaaDoor.P
/- What is proved: for all labels, iterations and salts the law FnHash answers true: the hash of a name for NSEC3 is SHA-1 of its small letters and the salt, again so many times, in base 32. Conditions: none beyond the row's own. -/
namespace Go.Proofs.YtiilihafcdmccaaDoor.Pure
open Go.RowKit Go.Proofs.YtiilihafcdmccaaDoor.P Go.Proofs.YtiilihafcdmccaaDoorW.PrintWords Go.Proofs.YtiilihafcdmccaaDoorW.PrintLast
set_option linter.unusedVariables false
set_option linter.unusedSimpArgs false

theorem hash_j1_true (it : Int) (salt : List Int) (names : List ByteArray) : Ev (fun k => laws_FnHash.j1 k it salt names true) true := by
  refine ⟨1, fun k hk => ?_⟩
  obtain ⟨m, rfl⟩ : ∃ m, k = m + 1 := ⟨k - 1, by omega⟩
  simp only [laws_FnHash.j1]
  rw [if_pos trivial]
theorem hash_j0_true (n : List (List Int)) (it : Int) (salt : List Int) : Ev (fun k => laws_FnHash.j0 k n it salt true) true := by
  refine ⟨1, fun k hk => ?_⟩
  obtain ⟨m, rfl⟩ : ∃ m, k = m + 1 := ⟨k - 1, by omega⟩
  simp only [laws_FnHash.j0]
  rw [if_pos trivial]
/-- The small letters of a name, as the reference makes them. -/
theorem low_from (n : List (List Int)) (hB : ∀ l ∈ n, IsB l) (h63 : ∀ l ∈ n, l.length ≤ 63) (hz : sizeL n ≤ 255) (d : Nat) : ∀ (i : Nat), i + d = n.length → Ev (fun k => spec_Name_Lower.l0 k (((lowN n).take i).map strOfNums) (n.map strOfNums) (n.length : Nat) (i : Nat)) ((lowN n).map strOfNums) := by
  have hll : (lowN n).length = n.length := by simp [lowN]
  have hn1 := len_le_size n
  induction d with
  | zero =>
    intro i hi
    rw [List.take_of_length_le (by omega)]
    refine ⟨1, fun k hk => ?_⟩
    obtain ⟨k, rfl⟩ : ∃ j, k = j + 1 := ⟨k - 1, by omega⟩
    simp only [spec_Name_Lower.l0]
    rw [if_neg (by omega)]
  | succ d ih =>
    intro i hi
    have hlt : i < n.length := by omega
    have hm := List.getElem_mem hlt
    refine Ev.step (fun k => ?_) (ih (i + 1) (by omega))
    have e1 : spec_lower.f (strOfNums n[i]) = some (strOfNums (n[i].map lowI)) := by
      unfold spec_lower.f lowerB
      rw [if_pos (by rw [strOfNums_size]; have := h63 _ hm; omega), bytesOf_strOfNums (hB _ hm)]
    have e2 : (lowN n)[i]'(by omega) = n[i].map lowI := by simp [lowN]
    simp only [spec_Name_Lower.l0]
    rw [if_pos (by omega), if_pos (by omega), if_pos (by rw [List.length_map]; omega), rdOf_map n i hlt, e1, Option.bind_some, if_pos (by rw [List.length_map, List.length_take]; omega), w64 (x := (i : Int) + 1) (by omega) (by omega), List.take_succ_eq_append_getElem (by omega : i < (lowN n).length), List.map_append, e2]
    rfl
theorem low_ev (n : List (List Int)) (hB : ∀ l ∈ n, IsB l) (hv : validB n = true) : Ev (fun k => spec_Name_Lower.f k (n.map strOfNums)) ((lowN n).map strOfNums) := by
  obtain ⟨_, h63, hz⟩ := validB_inv hv
  refine Ev.congr (fun k => ?_) (low_from n hB h63 hz n.length 0 (by omega))
  unfold spec_Name_Lower.f
  rw [List.length_map]
  rfl
theorem up_dgs {l : List Int} (h : ∀ v ∈ l, 0 ≤ v ∧ v < 32) : upperB (strOfNums (l.map dgL)) = strOfNums (l.map dgU) := by
  unfold upperB
  have hB : IsB (l.map dgL) := by
    intro x hx
    obtain ⟨v, hv, rfl⟩ := List.mem_map.1 hx
    have := h v hv
    unfold dgL
    split <;> omega
  rw [bytesOf_strOfNums hB, List.map_map]
  congr 1
  exact List.map_congr_left fun v hv => up_dgL (h v hv).1 (h v hv).2
theorem nsec_ev (n : List (List Int)) (hB : ∀ l ∈ n, IsB l) (hv : validB n = true) (salt : List Int) (hS : IsB salt) (hl : salt.length ≤ 127) (it : Nat) (hi : it ≤ 20) :
    Ev (fun k => spec_NSEC3Hash.f k (n.map strOfNums) salt it) (strOfNums ((enc5 (hshN salt (wireL (lowN n)) (it + 1))).map dgU)) := by
  have hlB := lowN_isB hB
  have hlv : validB (lowN n) = true := by rw [lowN_valid]; exact hv
  obtain ⟨_, h63, hz⟩ := validB_inv hlv
  refine Ev.bind (f := fun k l => (spec_Name_Wire.f k l).bind fun x => if okH x salt it = true then (spec_bits.f k (hshN salt x ((it : Int) + 1).toNat) d32 5).bind fun s => if s.size ≤ 9223372036854775807 then some (upperB s) else none else none) (low_ev n hB hv) ?_
  refine Ev.bind (f := fun k x => if okH x salt it = true then (spec_bits.f k (hshN salt x ((it : Int) + 1).toNat) d32 5).bind fun s => if s.size ≤ 9223372036854775807 then some (upperB s) else none else none) (wire_ev (lowN n) hlB hlv) ?_
  have hwB := wireL_isB (lowN n) h63 hlB
  have hwl := wireL_length (lowN n)
  have hok : okH (wireL (lowN n)) salt it = true := okH_of hwB hS (by omega) (by omega) (by omega)
  have e1 : ((it : Int) + 1).toNat = it + 1 := by omega
  refine Ev.congr (f := fun k => (spec_bits.f k (hshN salt (wireL (lowN n)) (it + 1)) d32 5).bind fun s => if s.size ≤ 9223372036854775807 then some (upperB s) else none) (fun k => ?_) ?_
  · rw [if_pos hok, e1]
  · have h20 : (hshN salt (wireL (lowN n)) (it + 1)).length = 20 := by rw [hshN]; exact shaOf_len _
    have hHB := hshN_B salt (wireL (lowN n)) hwB (it + 1)
    refine Ev.bind (f := fun k s => if s.size ≤ 9223372036854775807 then some (upperB s) else none) (bits5_ev _ 4 h20 (by omega) hHB) ⟨0, fun k _ => ?_⟩
    simp only []
    rw [if_pos (by rw [strOfNums_size, List.length_map, enc5_len _ h20]; omega), up_dgs (enc5_lt _ hHB)]
theorem hex_B (l : List Int) (hS : IsB l) : IsB ((enc4 l).map dgL) := by
  intro x hx
  obtain ⟨v, hv, rfl⟩ := List.mem_map.1 hx
  obtain ⟨b, hb, hv⟩ := List.mem_flatMap.1 hv
  have := hS b hb
  simp at hv
  unfold dgL
  split <;> omega
theorem impl_ev (n : List (List Int)) (hB : ∀ l ∈ n, IsB l) (hv : validB n = true) (salt : List Int) (hS : IsB salt) (hl : salt.length ≤ 127) (it : Nat) (hi : it ≤ 20) :
    Ev (fun k => impl_HashName.f k (txt n) 1 it (strOfNums ((enc4 salt).map dgL))) (strOfNums ((enc5 (hshN salt (wireL (lowN n)) (it + 1))).map dgU)) := by
  have hlB := lowN_isB hB
  have hlv : validB (lowN n) = true := by rw [lowN_valid]; exact hv
  obtain ⟨hT0, hasc, hz0⟩ := txt_text n hB hv
  obtain ⟨hT, _, hz1⟩ := txt_text (lowN n) hlB hlv
  rw [← txt_low n hB] at hT hz1
  have hbs : bytesOf (strOfNums ((enc4 salt).map dgL)) = (enc4 salt).map dgL := bytesOf_strOfNums (hex_B salt hS)
  have hun := unhex_of hS hbs
  obtain ⟨_, _, hz⟩ := validB_inv hlv
  have hwl := wireL_length (lowN n)
  rw [wireL_eq, List.length_append] at hwl
  refine Ev.bind (f := fun k (x : PnR) => if x.2.2 = true ∧ x.2.1 = true then (if okHN (txt n) 1 it (strOfNums ((enc4 salt).map dgL)) (x.1.map bytesOf) = true then some (strOfNums ((enc5 (hshN (unhex (strOfNums ((enc4 salt).map dgL))) (wireL (x.1.map bytesOf)) ((it : Int).toNat + 1))).map dgU)) else none) else none) (hT.parse (by omega)) ⟨0, fun k _ => ?_⟩
  have hok : okHN (txt n) 1 it (strOfNums ((enc4 salt).map dgL)) (lowN n) = true := by
    unfold okHN
    simp only [Bool.and_eq_true, decide_eq_true_eq]
    rw [hun, hbs]
    exact ⟨⟨⟨⟨⟨⟨hasc, hz0⟩, trivial⟩, by omega⟩, rfl⟩, by omega⟩, by simp at hwl; omega⟩
  simp only []
  rw [hlv, map_bytes hlB, if_pos ⟨rfl, trivial⟩, if_pos hok, hun, Int.toNat_natCast]
theorem hash_j0 (n : List (List Int)) (it : Int) (salt : List Int) (hB : ∀ l ∈ n, IsB l) (hS : IsB salt) (h1 : n.length ≤ 2147483647) (h2 : ∀ l ∈ n, l.length ≤ 2147483647) (fl : Bool) : Ev (fun k => laws_FnHash.j0 k n it salt fl) true := by
  cases fl with
  | true => exact hash_j0_true n it salt
  | false =>
    refine Ev.step (f := fun k => (laws_name.f k n).bind fun bt509 => (if bt509.2 = true then (if it < 0 then (laws_FnHash.j1 k it salt bt509.1 true) else (if it > 20 then (laws_FnHash.j1 k it salt bt509.1 true) else (laws_FnHash.j1 k it salt bt509.1 (decide ((salt.length : Int) > 127))))) else (laws_FnHash.j1 k it salt bt509.1 true))) (fun k => ?_) (Ev.bind (f := fun k (bt509 : List ByteArray × Bool) => (if bt509.2 = true then (if it < 0 then (laws_FnHash.j1 k it salt bt509.1 true) else (if it > 20 then (laws_FnHash.j1 k it salt bt509.1 true) else (laws_FnHash.j1 k it salt bt509.1 (decide ((salt.length : Int) > 127))))) else (laws_FnHash.j1 k it salt bt509.1 true))) (name_ev n h1 h2) ?_)
    · simp only [laws_FnHash.j0]
      rw [if_neg Bool.false_ne_true]
    · cases hv : validB n with
      | false => exact Ev.congr (fun k => if_neg Bool.false_ne_true) (hash_j1_true it salt (n.map strOfNums))
      | true =>
        by_cases h0 : it < 0
        · exact Ev.congr (fun k => (if_pos rfl).trans (if_pos h0)) (hash_j1_true it salt (n.map strOfNums))
        · by_cases h20 : it > 20
          · exact Ev.congr (fun k => (if_pos rfl).trans ((if_neg h0).trans (if_pos h20))) (hash_j1_true it salt (n.map strOfNums))
          · refine Ev.congr (fun k => (if_pos rfl).trans ((if_neg h0).trans (if_neg h20))) ?_
            by_cases hl : (salt.length : Int) > 127
            · rw [decide_eq_true hl]
              exact hash_j1_true it salt (n.map strOfNums)
            · rw [decide_eq_false hl]
              obtain ⟨i, rfl⟩ := Int.eq_ofNat_of_zero_le (by omega : 0 ≤ it)
              refine Ev.step (f := fun k => (spec_Name_Text.f k (n.map strOfNums) ([] : List Int)).bind fun t513 => ((spec_Digits16.f k salt).bind fun t514 => ((impl_HashName.f k t513 1 i t514).bind fun t515 => ((spec_NSEC3Hash.f k (n.map strOfNums) salt i).bind fun t516 => (some (t515.toList == t516.toList)))))) (fun k => ?_) ?_
              · simp only [laws_FnHash.j1]
                rw [if_neg Bool.false_ne_true]
              · refine Ev.bind (f := fun k t513 => ((spec_Digits16.f k salt).bind fun t514 => ((impl_HashName.f k t513 1 i t514).bind fun t515 => ((spec_NSEC3Hash.f k (n.map strOfNums) salt i).bind fun t516 => (some (t515.toList == t516.toList)))))) (txt_ev n hB hv) ?_
                have hd : Ev (fun k => spec_Digits16.f k salt) (strOfNums ((enc4 salt).map dgL)) := by
                  refine Ev.congr (fun k => ?_) (bits4_ev salt (by omega) hS)
                  show spec_Digits16.f k salt = _
                  unfold spec_Digits16.f
                  rw [show (⟨#[48, 49, 50, 51, 52, 53, 54, 55, 56, 57, 97, 98, 99, 100, 101, 102]⟩ : ByteArray) = d16 from rfl]
                  cases spec_bits.f k salt d16 4 <;> rfl
                refine Ev.bind (f := fun k t514 => ((impl_HashName.f k (txt n) 1 i t514).bind fun t515 => ((spec_NSEC3Hash.f k (n.map strOfNums) salt i).bind fun t516 => (some (t515.toList == t516.toList))))) hd ?_
                refine Ev.bind (f := fun k t515 => ((spec_NSEC3Hash.f k (n.map strOfNums) salt i).bind fun t516 => (some (t515.toList == t516.toList)))) (impl_ev n hB hv salt hS (by omega) i (by omega)) ?_
                refine Ev.bind (f := fun k t516 => (some ((strOfNums ((enc5 (hshN salt (wireL (lowN n)) (i + 1))).map dgU)).toList == t516.toList))) (nsec_ev n hB hv salt hS (by omega) i (by omega)) ⟨0, fun k _ => ?_⟩
                simp
theorem FnHash (n : List (List Int)) (it : Int) (salt : List Int) (hB : ∀ l ∈ n, IsB l) (hS : IsB salt) : ∃ k, laws_FnHash.f k n it salt = some true := by
  obtain ⟨b, h1, h2⟩ := fits_ev n
  refine Ev.rounds (g := fun k => laws_FnHash.f k n it salt) (Ev.bind (g := fun k => laws_zzFits9.f k n) (f := fun k t508 => (if t508 = true then (laws_FnHash.j0 k n it salt (decide ((salt.length : Int) > 2147483647))) else (laws_FnHash.j0 k n it salt true))) h1 ?_)
  cases b with
  | false => exact Ev.congr (fun k => if_neg Bool.false_ne_true) (hash_j0_true n it salt)
  | true => exact Ev.congr (fun k => if_pos rfl) (hash_j0 n it salt hB hS (h2 rfl).1 (h2 rfl).2 _)

end Go.Proofs.YtiilihafcdmccaaDoor.Pure
/- A slice of slices of bytes that came in, as the walks want it. -/
namespace Go.Proofs.YtiilihafcdmccaaDoor.P
open Go.RowKit Go.Proofs.YtiilihafcdmccaaDoorW.PrintWords Go.Proofs.YtiilihafcdmccaaDoorW.PrintLast Go.ChangeShapes Go.WideShapes Go.Deep
set_option linter.unusedVariables false
set_option linter.unusedSimpArgs false

theorem rows_C {H : Type} {enc : TypeId × Value → H} {P : Program} {w : World} {base : Nat} {held : Bool} {t e q : TypeId} {fuel : Nat} {a : Option Addr} {len cap : Nat} {x : DataW H × List MemPlace}
    (ht : P.underlying t = some (.slice e)) (he : P.underlying e = some (.slice q)) (hq : P.underlying q = some (.int .u8)) (ce : P.cellsOf e = 1) (cq : P.cellsOf q = 1)
    (h : DataW.trod enc P w base (fun _ => true) held fuel t [.slice a len cap] = some x) :
    ∃ n : List (List Int), n.length = len ∧ Kd.C (Kd.slice q (Kd.int .u8)) w a len n ∧ len ≤ cap ∧ ∀ l ∈ n, IsB l := by
  rcases open_int_rows ht he hq ce cq h with ⟨h1, _⟩ | ⟨b, l, c, A, L, C, Z, h1, hb, hl, hm, hx, hr⟩
  · simp at h1
    obtain ⟨rfl, rfl, rfl⟩ := h1
    exact ⟨[], rfl, Kd.C_nil _ _, Nat.le_refl _, fun l hl => by cases hl⟩
  · simp at h1
    obtain ⟨rfl, rfl, rfl⟩ := h1
    refine ⟨(List.range len).map fun r => (Z r).take (L r), by simp, ⟨by simp, by simp [maxLen] at hm; omega, fun hp => ⟨b, rfl, fun j p hj => ?_⟩⟩, hl, fun l0 hl0 => ?_⟩
    · obtain ⟨hjl, rfl⟩ := List.getElem?_eq_some_iff.1 hj
      rw [List.length_map, List.length_range] at hjl
      obtain ⟨k1, k2, k3, k4, k5, k6, k7⟩ := hr j (by omega)
      rw [List.getElem_map, List.getElem_range]
      have hlen : ((Z j).take (L j)).length = L j := by rw [List.length_take]; omega
      refine ⟨[.slice (A j) (L j) (C j)], rfl, ⟨A j, C j, by rw [hlen], by rw [hlen]; exact k2, ?_⟩, fun i u hu => ?_⟩
      · rw [hlen]
        refine Kd.C_of_reads (d := (0 : Int)) ⟨hlen, by simp [maxLen] at k3; omega, fun hp2 => ?_⟩
        cases hA : A j with
        | none => have := k6 hA; omega
        | some a' =>
          refine ⟨a', rfl, fun i hi => ?_⟩
          rw [(k7 a' hA).2 i (by omega)]
          congr 2
          rw [List.getD_eq_getElem?_getD, List.getD_eq_getElem?_getD, List.getElem?_take_of_lt hi]
      · cases i with
        | zero =>
          obtain rfl : (Value.slice (A j) (L j) (C j)) = u := by simpa using hu
          show w.cell? (b.add (j * 1 + 0)) = _
          rw [Nat.mul_one, Nat.add_zero]
          exact k1
        | succ i => simp at hu
    · obtain ⟨r, hr1, rfl⟩ := List.mem_map.1 hl0
      have hr2 := List.mem_range.1 hr1
      obtain ⟨k1, k2, k3, k4, k5, k6, k7⟩ := hr r (by omega)
      intro y hy
      have h2 := k5 y (List.mem_of_mem_take hy)
      have h3 : IntKind.u8.min ≤ y ∧ y ≤ IntKind.u8.max := by simpa [Lit.wf] using h2
      rw [show IntKind.u8.min = 0 from rfl, show IntKind.u8.max = 255 from rfl] at h3
      omega

end Go.Proofs.YtiilihafcdmccaaDoor.P
