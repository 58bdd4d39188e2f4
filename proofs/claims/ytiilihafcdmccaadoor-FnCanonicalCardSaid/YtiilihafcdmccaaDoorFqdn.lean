/- 'dns.IsFqdn' for texts of ASCII: whether a text ends with a point behind an even number of backslashes. -/
import Derived.Test.YtiilihafcdmccaaDoorBase
namespace Go.Proofs.YtiilihafcdmccaaDoor.P
open Go.RowKit Go.Proofs.YtiilihafcdmccaaDoorW.PrintWords Go.Proofs.YtiilihafcdmccaaDoorW.PrintLast Go.Proofs.YtiilihafcdmccaaDoorW.PrintMore
set_option linter.unusedVariables false
set_option linter.unusedSimpArgs false

/-- The last byte of a text's first i bytes that is no backslash: its place, or -1. -/
def lastNB (s : ByteArray) : Nat → Int
  | 0 => -1
  | i + 1 => if bt s i = 92 then lastNB s i else i

theorem bt_extract (s : ByteArray) (i : Nat) (j : Nat) (hj : j < i) (hi : i ≤ s.size) : bt (s.extract 0 i) (j : Int) = bt s (j : Int) := by
  unfold bt
  rw [Int.toNat_natCast]
  have h1 : j < (s.extract 0 i).size := by rw [ByteArray.size_extract]; omega
  have h2 : j < s.size := by omega
  rw [dif_pos h1, dif_pos h2]
  congr 2
  simp [ByteArray.getElem_extract]

theorem bt_at_nat (s : ByteArray) (i : Nat) : ∀ h : i < s.size, ((s[i]'h).toNat : Int) = bt s (i : Int) := fun h => by simp [bt, h]

set_option maxHeartbeats 1000000 in
theorem dlr_ascii (s : ByteArray) (w : World) (n : Nat) (c : Int) (hn : s.size = n + 1) (hs : s.size ≤ 9223372036854775807) (hc : bt s (n : Int) = c) (hb : c < 128) :
    Calls Tryd.prog 129 #[.string s] w fun e w' => e = .returned (.tuple #[.int .i32 c, .int .i64 1]) ∧ w = w' := by
  have hx : ∀ h : n < s.size, ((s[n]'h).toNat : Int) = c := fun h => by rw [bt_at_nat, hc]
  have h0 : 0 ≤ c := by have := bt_range s (n : Int); omega
  clear hc
  go_enter Tryd.func129, Tryd.ntmps129
  go_wp2_with fail
  go_ret2
  exact ⟨rfl, rfl⟩

set_option maxHeartbeats 1000000 in
theorem ifq1 (c : Int) (w : World) :
    Calls Tryd.prog 78 #[.int .i32 c] w fun e w' => e = .returned (.bool (c != 92)) ∧ w = w' := by
  go_enter Tryd.func78, Tryd.ntmps78
  go_wp2
  go_ret
  exact ⟨rfl, rfl⟩
set_option maxHeartbeats 2000000 in
set_option maxRecDepth 100000 in
theorem lif_ascii (s : ByteArray) (w : World) (hs : s.size ≤ 9223372036854775807) (hb : ∀ i : Nat, bt s (i : Int) < 128) :
    Calls Tryd.prog 100 #[.string s, .func (.func 78) #[] #[], .bool true] w fun e w' => e = .returned (.int .i64 (lastNB s s.size)) ∧ w = w' := by
  have HB := Aside0.mk hb
  clear hb
  go_enter Tryd.func100, Tryd.ntmps100
  go_wp2_with fail
  go_loop [7] (fun i => ∃ k : Nat, i = .int .i64 k ∧ k ≤ s.size ∧ Aside0 (lastNB s s.size = lastNB s k)) (fun i => (intOf i).toNat)
  case atStart => exact ⟨s.size, rfl, Nat.le_refl _, ⟨rfl⟩⟩
  case round =>
    obtain ⟨k, rfl, hk, hl⟩ := hrel
    cases k with
    | zero =>
      go_wp2
      go_ret
      exact ⟨by rw [hl.out]; rfl, rfl⟩
    | succ k =>
      have hbk := HB.out k
      have he := bt_extract s (k + 1) k (by omega) hk
      have hsz : (s.extract 0 (k + 1)).size = k + 1 := by rw [ByteArray.size_extract]; omega
      have hstep : lastNB s (k + 1) = if bt s (k : Int) = 92 then lastNB s k else (k : Int) := rfl
      generalize hc : bt s (k : Int) = c at *
      have He := Aside0.mk he
      have Hsz := Aside0.mk hsz
      have Hst := Aside0.mk hstep
      clear he hsz hstep hc
      have hk1 : (k : Int) + 1 ≤ (s.size : Int) := by omega
      have hk0 : (0 : Int) ≤ (k : Int) + 1 := by omega
      by_cases h92 : c = 92
      · subst h92
        go_wp2_with (first | (go_at_call 129; refine (dlr_ascii _ _ k 92 Hsz.out (by rw [Hsz.out]; omega) He.out hbk).mono ?_; rintro e w' ⟨rfl, rfl⟩) | (go_at_call 78; refine (ifq1 _ _).mono ?_; rintro e w' ⟨rfl, rfl⟩))
        go_round
        case rel => exact ⟨k, by go_num, by omega, ⟨by rw [hl.out, Hst.out, if_pos trivial]⟩⟩
        case measure => simp [intOf]
      · have h92b : (c != 92) = true := by simpa using h92
        go_wp2_with (first | (go_at_call 129; refine (dlr_ascii _ _ k c Hsz.out (by rw [Hsz.out]; omega) He.out hbk).mono ?_; rintro e w' ⟨rfl, rfl⟩) | (go_at_call 78; refine (ifq1 _ _).mono ?_; rintro e w' ⟨rfl, rfl⟩))
        go_ret
        exact ⟨by rw [hl.out, Hst.out, if_neg h92]; go_num, rfl⟩

set_option maxHeartbeats 1000000 in
theorem li_ascii (s : ByteArray) (w : World) (hs : s.size ≤ 9223372036854775807) (hb : ∀ i : Nat, bt s (i : Int) < 128) :
    Calls Tryd.prog 77 #[.string s, .func (.func 78) #[] #[]] w fun e w' => e = .returned (.int .i64 (lastNB s s.size)) ∧ w = w' := by
  go_enter Tryd.func77, Tryd.ntmps77
  go_wp2_with (go_at_call 100; refine (lif_ascii _ _ hs hb).mono ?_; rintro e w' ⟨rfl, rfl⟩)
  go_ret
  exact ⟨rfl, rfl⟩

theorem lastNB_bd (s : ByteArray) : ∀ n : Nat, -1 ≤ lastNB s n ∧ lastNB s n < n
  | 0 => by unfold lastNB; omega
  | n + 1 => by
    unfold lastNB
    have := lastNB_bd s n
    split <;> omega
theorem bt_extract' (s : ByteArray) (i : Nat) (hi : i ≤ s.size) (j : Nat) : bt (s.extract 0 i) (j : Int) = if j < i then bt s (j : Int) else 0 := by
  split
  · exact bt_extract s i j ‹_› hi
  · unfold bt
    rw [dif_neg]
    rw [ByteArray.size_extract]
    omega
/-- Does a text end with a point behind an even number of backslashes? -/
def fqB (s : ByteArray) : Bool :=
  if s.size = 0 then false
  else if bt s ((s.size - 1 : Nat) : Int) ≠ 46 then false
  else if s.size = 1 then true
  else if bt s ((s.size - 2 : Nat) : Int) ≠ 92 then true
  else (((s.size - 1 : Nat) : Int) - lastNB (s.extract 0 (s.size - 1)) (s.size - 1)) % 2 != 0

theorem toList_ne (s : ByteArray) (h : s.size ≠ 0) : (s.toList == ([] : List UInt8)) = false := by
  rw [beq_eq_false_iff_ne]
  intro e
  rw [ByteArray.toList_eq] at e
  exact h (by have := congrArg List.length e; simpa using this)
set_option maxHeartbeats 2000000 in
set_option maxRecDepth 100000 in
theorem isfqdn_any (s : ByteArray) (w : World) (hs : s.size ≤ 9223372036854775807) (hb : ∀ i : Nat, bt s (i : Int) < 128) :
    Calls Tryd.prog 51 #[.string s] w fun e w' => e = .returned (.bool (fqB s)) ∧ w = w' := by
  rcases hn : s.size with _ | n
  · have hnil : s.toList = [] := by rw [ByteArray.toList_eq]; exact List.eq_nil_of_length_eq_zero hn
    have hnb : (s.toList == ([] : List UInt8)) = true := beq_iff_eq.mpr hnil
    have hf := Aside0.mk (show fqB s = false by unfold fqB; rw [if_pos hn])
    clear hn
    go_enter Tryd.func51, Tryd.ntmps51
    go_wp2
    go_ret
    exact ⟨by rw [hf.out]; rfl, rfl⟩
  · have hnb := toList_ne s (by omega)
    have hnb' : (!(s.toList.isEmpty)) = true := by
      cases h : s.toList with
      | nil => rw [h] at hnb; cases hnb
      | cons _ _ => rfl
    have hx : ∀ h : n < s.size, ((s[n]'h).toNat : Int) = bt s (n : Int) := bt_at_nat s n
    have hF := Aside0.mk (show fqB s = if bt s ((n : Nat) : Int) ≠ 46 then false
      else if n = 0 then true
      else if bt s ((n - 1 : Nat) : Int) ≠ 92 then true
      else ((n : Int) - lastNB (s.extract 0 n) n) % 2 != 0 by
        unfold fqB
        rw [hn, if_neg (by omega), show n + 1 - 1 = n by omega, show n + 1 - 2 = n - 1 by omega]
        by_cases h0 : n = 0
        · subst h0; rfl
        · rw [if_neg (show ¬ n + 1 = 1 by omega), if_neg h0])
    have hle := Aside0.mk (bt_extract' s n (by omega))
    have hsz : (s.extract 0 n).size = n := by rw [ByteArray.size_extract]; omega
    have hn1 : n ≤ s.size := by omega
    have hn2 : (n : Int) ≤ (s.size : Int) := by omega
    have Hn := Aside0.mk hn
    generalize hc : bt s (n : Int) = c at *
    have HB := Aside0.mk hb
    clear hb hc
    by_cases h46 : c = 46
    · have h46b : (c != 46) = false := by simpa using h46
      rw [hn] at hs
      cases n with
      | zero =>
        have hnil : (s.extract 0 0).toList = [] := by rw [ByteArray.toList_eq]; exact List.eq_nil_of_length_eq_zero hsz
        have hnb2 : ((s.extract 0 0).toList == ([] : List UInt8)) = true := beq_iff_eq.mpr hnil
        clear hsz hnil
        subst h46
        go_enter Tryd.func51, Tryd.ntmps51
        go_wp2_with fail
        go_ret
        exact ⟨by rw [hF.out]; rfl, rfl⟩
      | succ n =>
        have hnb2 := toList_ne (s.extract 0 (n + 1)) (by omega)
        have hnb2' : (!((s.extract 0 (n + 1)).toList.isEmpty)) = true := by
          cases h : (s.extract 0 (n + 1)).toList with
          | nil => rw [h] at hnb2; cases hnb2
          | cons _ _ => rfl
        have hd := hle.out n
        rw [if_pos (by omega)] at hd
        have hx2 : ∀ h : n < (s.extract 0 (n + 1)).size, (((s.extract 0 (n + 1))[n]'h).toNat : Int) = bt s (n : Int) := fun h => by rw [← hd]; exact bt_at_nat _ n h
        clear hd
        have hb2 := Aside0.mk (fun j : Nat => show bt (s.extract 0 (n + 1)) (j : Int) < 128 by
          rw [hle.out j]
          split
          · exact HB.out j
          · decide)
        clear hle
        have hFF := hF.out
        rw [if_neg (by rw [h46]; decide), if_neg (by omega), Nat.add_sub_cancel] at hFF
        clear hF
        have hF := Aside0.mk hFF
        clear hFF
        subst h46
        have HL0 := li_ascii (s.extract 0 (n + 1)) w (by rw [hsz]; omega) hb2.out
        rw [hsz] at HL0
        have HL := Aside0.mk HL0
        clear HL0
        have Hbd := lastNB_bd (s.extract 0 (n + 1)) (n + 1)
        generalize lastNB (s.extract 0 (n + 1)) (n + 1) = z at *
        generalize bt s (n : Int) = d at *
        clear hb2 HB
        have hw : IntKind.i64.wrap ((n : Int) + 1 - z) = (n : Int) + 1 - z := IntWalk.i64_in _ (by omega)
        by_cases h92 : d = 92
        · have h92b : (d != 92) = false := by simpa using h92
          have hFF := hF.out
          rw [if_neg (by rw [h92]; decide)] at hFF
          clear hF h92
          have hF := Aside0.mk hFF
          clear hFF
          go_enter Tryd.func51, Tryd.ntmps51
          go_wp2_with (go_at_call 77; refine HL.out.mono ?_; rintro e w' ⟨rfl, rfl⟩)
          go_ret
          exact ⟨by rw [hF.out, Int.natCast_add]; rfl, rfl⟩
        · have h92b : (d != 92) = true := by simpa using h92
          have hf := Aside0.mk (hF.out.trans (if_pos h92))
          clear hF h92
          go_enter Tryd.func51, Tryd.ntmps51
          go_wp2_with fail
          go_ret
          exact ⟨by rw [hf.out]; rfl, rfl⟩
    · have h46b : (c != 46) = true := by simpa using h46
      have hf := Aside0.mk (hF.out.trans (if_pos h46))
      clear hF hle h46 Hn HB
      go_enter Tryd.func51, Tryd.ntmps51
      go_wp2
      go_ret
      exact ⟨by rw [hf.out]; rfl, rfl⟩

def dns_IsFqdn.f (a0 : ByteArray) : Option (Bool) := if a0.size ≤ 9223372036854775807 then (if (bytesOf a0).all (fun x => decide (x < 128)) = true then some (fqB a0) else none) else none
theorem dns_IsFqdn.calls (a0 : ByteArray) (r : Bool) (w : World) (h : dns_IsFqdn.f a0 = some r) :
    Calls Tryd.prog 51 #[.string a0] w fun e w' => e = .returned (.bool r) ∧ Drawn0 w w' := by
  unfold dns_IsFqdn.f at h
  split at h
  · split at h
    · obtain rfl := Option.some.inj h
      rename_i h1 h2
      rw [List.all_eq_true] at h2
      refine (isfqdn_any a0 w h1 (fun i => ?_)).mono ?_
      · by_cases hi : i < a0.size
        · have hl : i < (bytesOf a0).length := by rw [bytesOf_length]; exact hi
          have hb := rd_bytesOf a0 (i : Int)
          unfold rd at hb
          rw [Int.toNat_natCast, List.getD_eq_getElem?_getD, List.getElem?_eq_getElem hl, Option.getD_some] at hb
          rw [← hb]
          exact of_decide_eq_true (h2 _ (List.getElem_mem hl))
        · unfold bt
          rw [dif_neg (by rw [Int.toNat_natCast]; exact hi)]
          decide
      · rintro e w' ⟨rfl, rfl⟩
        exact ⟨rfl, Drawn0.refl _⟩
    · cases h
  · cases h

end Go.Proofs.YtiilihafcdmccaaDoor.P
