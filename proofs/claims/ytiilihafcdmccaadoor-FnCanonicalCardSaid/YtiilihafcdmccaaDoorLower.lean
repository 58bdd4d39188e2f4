/- 'spec.lower': a string with its letters of ASCII as small ones. -/
import Derived.Test.YtiilihafcdmccaaDoorBase
namespace Go.Proofs.YtiilihafcdmccaaDoor.P
open Go.RowKit Go.Proofs.YtiilihafcdmccaaDoorW.PrintWords Go.Proofs.YtiilihafcdmccaaDoorW.PrintLast Go.Proofs.YtiilihafcdmccaaDoorW.PrintMore
set_option linter.unusedVariables false
set_option linter.unusedSimpArgs false

def lowI (c : Int) : Int := if 65 ≤ c ∧ c ≤ 90 then c + 32 else c
def lowTo (s : ByteArray) (k : Nat) : List Int := ((bytesOf s).take k).map lowI ++ (bytesOf s).drop k
def lowerB (s : ByteArray) : ByteArray := strOfNums ((bytesOf s).map lowI)

theorem lowTo_length (s : ByteArray) (k : Nat) : (lowTo s k).length = s.size := by
  unfold lowTo
  rw [List.length_append, List.length_map, List.length_take, List.length_drop, bytesOf_length]
  omega
theorem lowTo_zero (s : ByteArray) : lowTo s 0 = bytesOf s := by simp [lowTo]
theorem lowTo_all (s : ByteArray) : lowTo s s.size = (bytesOf s).map lowI := by
  unfold lowTo
  rw [List.take_of_length_le (by rw [bytesOf_length]; exact Nat.le_refl _), List.drop_of_length_le (by rw [bytesOf_length]; exact Nat.le_refl _), List.append_nil]
theorem lowTo_at (s : ByteArray) (k : Nat) (h : k < s.size) : (lowTo s k).getD k 0 = bt s k := by
  have hl : k < (bytesOf s).length := by rw [bytesOf_length]; exact h
  have := rd_bytesOf s (k : Int)
  unfold rd at this
  rw [Int.toNat_natCast] at this
  rw [← this]
  unfold lowTo
  have h1 : (((bytesOf s).take k).map lowI).length = k := by rw [List.length_map, List.length_take]; omega
  rw [List.getD_eq_getElem?_getD, List.getElem?_append_right (by omega), h1, Nat.sub_self, List.getElem?_drop, List.getD_eq_getElem?_getD]
  simp
theorem lowTo_succ (s : ByteArray) (k : Nat) (h : k < s.size) : lowTo s (k + 1) = (lowTo s k).set k (lowI (bt s k)) := by
  have hl : k < (bytesOf s).length := by rw [bytesOf_length]; exact h
  have := rd_bytesOf s (k : Int)
  unfold rd at this
  rw [Int.toNat_natCast, List.getD_eq_getElem?_getD, List.getElem?_eq_getElem hl, Option.getD_some] at this
  have h1 : (((bytesOf s).take k).map lowI).length = k := by rw [List.length_map, List.length_take]; omega
  unfold lowTo
  rw [← this, List.take_succ_eq_append_getElem hl, List.map_append, List.append_assoc, List.set_append_right _ _ (by omega), h1, Nat.sub_self, List.drop_eq_getElem_cons hl, List.set_cons_zero]
  rfl
theorem lowTo_same (s : ByteArray) (k : Nat) (h : k < s.size) (hb : lowI (bt s k) = bt s k) : lowTo s (k + 1) = lowTo s k := by
  rw [lowTo_succ s k h, hb, ← lowTo_at s k h]
  have hl : k < (lowTo s k).length := by rw [lowTo_length]; exact h
  rw [List.getD_eq_getElem?_getD, List.getElem?_eq_getElem hl, Option.getD_some]
  exact List.set_getElem_self hl

theorem bt_lt (s : ByteArray) (i : Int) : 0 ≤ bt s i ∧ bt s i < 256 := by
  unfold bt
  split
  · exact ⟨by omega, by have := UInt8.toNat_lt (s[i.toNat]'‹_›); omega⟩
  · omega

theorem lower_conv {wr : World} {b e : Nat} {s : ByteArray} {P : Program} {src dst cap : Nat} (hs : P.underlying src = some (.slice e)) (he : P.underlying e = some (.int .u8)) (hd : P.underlying dst = some .string)
    (h : RowB wr b (lowTo s s.size)) : (convert src dst (.slice (some ⟨b, 0, none⟩) s.size cap)).run P wr = .ok (.string (lowerB s)) wr := by
  rw [lowTo_all] at h
  have hl : ((bytesOf s).map lowI).length = s.size := by rw [List.length_map, bytesOf_length]
  exact run_convert_bytes_arg wr src e hs he b 0 s.size cap _ hl (fun i hi => by rw [Nat.zero_add]; exact h.cell (by omega)) dst hd

set_option maxHeartbeats 1000000 in
set_option maxRecDepth 100000 in
theorem lower_any (s : ByteArray) (w : World) (hs : s.size ≤ 9223372036854775807) :
    Calls Tryd.prog 60 #[.string s] w fun e w' => e = .returned (.string (lowerB s)) ∧ Below w.heap.size w w' := by
  have kb := fun W => print_bytes (P := Tryd.prog) 9 22 5 Tryd.underlying9 Tryd.underlying22 Tryd.underlying5 s W
  have HB0 := Aside0.mk (bytes_below (Below.refl w.heap.size w) (Nat.le_refl _) 5 s)
  have HR0 : RowB (Lib.bytesWorld w 5 s) w.heap.size (lowTo s 0) := by rw [lowTo_zero]; exact RowB_bytes w 5 s
  have HR := Aside0.mk HR0
  clear HR0
  go_enter Tryd.func60, Tryd.ntmps60
  go_wp2
  generalize Lib.bytesWorld w 5 s = w1 at *
  go_loopw [10] (fun i wr => ∃ k : Nat, i = .int .i64 k ∧ k ≤ s.size ∧ RowB wr w.heap.size (lowTo s k) ∧ Below w.heap.size w wr) (fun i _ => s.size - (intOf i).toNat)
  case atStart => exact ⟨0, rfl, Nat.zero_le _, HR.out, HB0.out⟩
  case round =>
    clear HR HB0
    obtain ⟨k, rfl, hk, hrow0, hb0⟩ := hrel
    have hrow := Aside0.mk hrow0
    have hb := Aside0.mk hb0
    clear hrow0 hb0
    by_cases hlt : k < s.size
    · have hc1 := hrow.out.cell (j := k) (by rw [lowTo_length]; exact hlt)
      have hc2 := hrow.out.free (j := k) (by rw [lowTo_length]; exact hlt)
      rw [lowTo_at s k hlt] at hc1
      obtain ⟨c0, c1⟩ := bt_lt s k
      have hlow : bt s k ≤ 90 → 65 ≤ bt s k → lowI (bt s k) = bt s k + 32 := fun h1 h2 => if_pos ⟨h2, h1⟩
      have hlow2 : ¬ (65 ≤ bt s k ∧ bt s k ≤ 90) → lowI (bt s k) = bt s k := fun h1 => if_neg h1
      have hl1 := Aside0.mk hlow
      have hl2 := Aside0.mk hlow2
      clear hlow hlow2
      have hs1 := Aside0.mk (lowTo_succ s k hlt)
      have hs2 := Aside0.mk (lowTo_same s k hlt)
      have hset := Aside0.mk (fun x => RowB.set hrow.out k x)
      have hbel := Aside0.mk (fun x => Below.setCell hb.out (p := ⟨w.heap.size, k, none⟩) (Nat.le_refl _) x)
      generalize bt s k = c at *
      by_cases h65 : 65 ≤ c
      · by_cases h90 : c ≤ 90
        · go_wp2
          go_roundw
          case rel => exact ⟨k + 1, by go_num, by omega, by rw [hs1.out, hl1.out h90 h65]; exact hset.out _, hbel.out _⟩
          case measure => simp [intOf]; omega
        · go_wp2
          go_roundw
          case rel => exact ⟨k + 1, by go_num, by omega, by rw [hs2.out (hl2.out (by omega))]; exact hrow.out, hb.out⟩
          case measure => simp [intOf]; omega
      · go_wp2
        go_roundw
        case rel => exact ⟨k + 1, by go_num, by omega, by rw [hs2.out (hl2.out (by omega))]; exact hrow.out, hb.out⟩
        case measure => simp [intOf]; omega
    · obtain rfl : k = s.size := by omega
      have kc := lower_conv (cap := grownCap w s.size 0 5) (P := Tryd.prog) (src := 22) (dst := 9) Tryd.underlying22 Tryd.underlying5 Tryd.underlying9 hrow.out
      go_wp2
      go_ret
      exact ⟨rfl, hb.out⟩

def spec_lower.f (a0 : ByteArray) : Option (ByteArray) := if a0.size ≤ 9223372036854775807 then some (lowerB a0) else none
theorem spec_lower.calls (a0 : ByteArray) (r : ByteArray) (w : World) (h : spec_lower.f a0 = some r) :
    Calls Tryd.prog 60 #[.string a0] w fun e w' => e = .returned (.string r) ∧ Below w.heap.size w w' := by
  unfold spec_lower.f at h
  split at h
  · obtain rfl := Option.some.inj h
    exact lower_any a0 w ‹_›
  · cases h

end Go.Proofs.YtiilihafcdmccaaDoor.P
