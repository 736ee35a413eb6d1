/-
  THE WALK OF 'FnCopyRangeArrayFreshAndEqual'.
-/
import Derived.Test.YoefawDoorCopy
namespace Go.Proofs.YoefawDoor
open Go.RowKit

theorem len_one (a0 a1 : Int) : (rangeLen a0 a1 1 : Int) = dist a0 a1 := by
  rw [len_int a0 a1 1 (by omega)]
  omega

/-- The ways on which the law asks nothing. -/
theorem copy_out (a0 a1 : Int) (w : World)
    (h : a0 < -1152921504606846976 ∨ 1152921504606846976 < a0 ∨ a1 < -1152921504606846976 ∨ 1152921504606846976 < a1) :
    Calls Efag.prog 3 #[.int .i64 a0, .int .i64 a1] w fun e w' => e = .returned (.bool true) ∧ Below w.heap.size w w' := by
  by_cases h0 : a0 < -1152921504606846976
  · go_enter Efag.func3, Efag.ntmps3
    go_wp2
    go_ret
    exact ⟨rfl, Below.refl _ _⟩
  by_cases h1 : 1152921504606846976 < a0
  · go_enter Efag.func3, Efag.ntmps3
    go_wp2
    go_ret
    exact ⟨rfl, Below.refl _ _⟩
  by_cases h2 : a1 < -1152921504606846976
  · go_enter Efag.func3, Efag.ntmps3
    go_wp2
    go_ret
    exact ⟨rfl, Below.refl _ _⟩
  have h3 : 1152921504606846976 < a1 := by omega
  clear h
  go_enter Efag.func3, Efag.ntmps3
  go_wp2
  go_ret
  exact ⟨rfl, Below.refl _ _⟩

/-- Too many numbers: the law asks nothing. -/
theorem copy_many (a0 a1 : Int) (w : World) (h0 : -1152921504606846976 ≤ a0) (h0' : a0 ≤ 1152921504606846976) (h1 : -1152921504606846976 ≤ a1) (h1' : a1 ≤ 1152921504606846976)
    (hN : 65536 < dist a0 a1) : Calls Efag.prog 3 #[.int .i64 a0, .int .i64 a1] w fun e w' => e = .returned (.bool true) ∧ Below w.heap.size w w' := by
  by_cases hle : a0 ≤ a1
  · rw [dist_up hle] at hN
    go_enter Efag.func3, Efag.ntmps3
    go_wp2
    go_ret
    exact ⟨rfl, Below.refl _ _⟩
  · rw [dist_down hle] at hN
    have hlt : a1 - a0 < 0 := by omega
    have hN' : 65536 < -(a1 - a0) := by omega
    go_enter Efag.func3, Efag.ntmps3
    go_wp2
    go_ret
    exact ⟨rfl, Below.refl _ _⟩

set_option maxHeartbeats 1000000 in
theorem copy_up (a0 a1 : Int) (w : World) (h0 : -1152921504606846976 ≤ a0) (h0' : a0 ≤ 1152921504606846976) (h1 : -1152921504606846976 ≤ a1) (h1' : a1 ≤ 1152921504606846976)
    (hN : dist a0 a1 ≤ 65536) (hle : a0 ≤ a1) : Calls Efag.prog 3 #[.int .i64 a0, .int .i64 a1] w fun e w' => e = .returned (.bool true) ∧ Below w.heap.size w w' := by
  have hL := len_one a0 a1
  have hN1 : rangeLen a0 a1 1 ≤ 65536 := by omega
  rw [dist_up hle] at hN hL
  have HL : Hid ((rangeLen a0 a1 1 : Int) = a1 - a0) := hL
  clear hL
  have hlt : 0 ≤ a1 - a0 := by omega
  go_enter Efag.func3, Efag.ntmps3
  go_wp2_with fail
  refine (zz_build a0 a1 1 w h0 h0' h1 h1' (by omega) (by omega) hN1).mono ?_
  rintro e w1 ⟨rfl, va, bs, hbl, hra, hba⟩
  have hbn : bs.length ≤ 65536 := by rw [hbl]; exact hN1
  have HA : Hid (bs.length = rangeLen a0 a1 1) := hbl
  clear hbl
  go_wp2_with fail
  refine (zz_copy _ va bs _ w1 hra hbn).mono ?_
  rintro e w2 ⟨g', vc, cs, rfl, hg', hac, hcl, hfr, hbb⟩
  have HC : Hid (cs.length = bs.length) := hcl
  clear hcl
  have hra2 := hra.mono hbb
  have hbel : Below w.heap.size w w2 := hba.trans (hbb.mono hba.size)
  have hgne : g' ≠ w.heap.size := by have := hra.lt; omega
  have hq := ne_array g' w.heap.size _ _ w2 hgne hac hra2.arr
  have hcc := cell_of_heap _ _ _ _ hac
  obtain ⟨sa, sc, hv⟩ := hra2.slice
  have hca := hra2.cell
  rw [hv] at hca
  obtain ⟨ta, tc, hu⟩ := hfr.slice
  have hcb := hcc
  rw [hu, HC.out] at hcb
  have hd : a1 - a0 = (bs.length : Int) := by rw [HA.out]; exact HL.out.symm
  have Hf : Hid (∀ k : Nat, rangeAt a0 a1 1 k = a0 + k) := fun k => by unfold rangeAt; rw [if_pos hle, Int.mul_one]
  clear hv hu hba hbb HL hN1 hcc
  go_wp2_with fail
  refine (len_any _ _ _ _ _ hca).mono ?_
  rintro e w3 ⟨rfl, rfl⟩
  go_wp2_with fail
  refine (len_any _ _ _ _ _ hcb).mono ?_
  rintro e w4 ⟨rfl, rfl⟩
  go_wp2
  go_loop [11] (fun i => ∃ k : Nat, k ≤ bs.length ∧ i = .int .i64 k) (fun i => bs.length - (intOf i).toNat)
  case atStart => exact ⟨0, Nat.zero_le _, rfl⟩
  case round =>
    obtain ⟨k, hk, rfl⟩ := hrel
    by_cases hlt : k < bs.length
    · have hkc : k < cs.length := by rw [HC.out]; exact hlt
      obtain ⟨r, c, hv, he, hx⟩ := hra2.get k hlt
      obtain ⟨r', c', hv', he', hx', hg2⟩ := hfr.get k hkc
      rw [Hf.out k] at hx hx'
      have hca2 := hra2.cell
      rw [hv] at hca2
      have hcb2 := cell_of_heap _ _ _ _ hac
      rw [hv'] at hcb2
      have hi1 := (hra2.int k bs[k] (List.getElem?_eq_getElem hlt)).2
      have hi2 := (hfr.int k cs[k] (List.getElem?_eq_getElem hkc)).2
      have hlt1 := heap_lt (hra.int k bs[k] (List.getElem?_eq_getElem hlt)).2
      have hbc : bs[k] ≠ cs[k] := by omega
      clear hca hcb hv hv'
      go_wp2_with fail
      refine (at_any _ _ _ _ _ _ _ _ hca2 hlt he hx).mono ?_
      rintro e w5 ⟨rfl, rfl⟩
      go_wp2_with fail
      refine (at_any _ _ _ _ _ _ _ _ hcb2 hkc he' hx').mono ?_
      rintro e w6 ⟨rfl, rfl⟩
      go_wp2_with fail
      refine (same_elem _ _ _ _ _ _ _ _ _ _ _ _ _ _ hlt hkc hbc hca2 he hcb2 he' hi1 hi2).mono ?_
      rintro e w7 ⟨rfl, rfl⟩
      go_wp2
      go_round
      case rel => exact ⟨k + 1, by omega, by go_num⟩
      case measure => simp [intOf]; omega
    · go_wp2
      go_ret
      exact ⟨rfl, hbel⟩

set_option maxHeartbeats 1000000 in
theorem copy_down (a0 a1 : Int) (w : World) (h0 : -1152921504606846976 ≤ a0) (h0' : a0 ≤ 1152921504606846976) (h1 : -1152921504606846976 ≤ a1) (h1' : a1 ≤ 1152921504606846976)
    (hN : dist a0 a1 ≤ 65536) (hle : a1 < a0) : Calls Efag.prog 3 #[.int .i64 a0, .int .i64 a1] w fun e w' => e = .returned (.bool true) ∧ Below w.heap.size w w' := by
  have hL := len_one a0 a1
  have hN1 : rangeLen a0 a1 1 ≤ 65536 := by omega
  have e : a0 - a1 = -(a1 - a0) := by omega
  rw [dist_down (by omega), e] at hN hL
  have HL : Hid ((rangeLen a0 a1 1 : Int) = -(a1 - a0)) := hL
  clear hL e
  have hlt : a1 - a0 < 0 := by omega
  go_enter Efag.func3, Efag.ntmps3
  go_wp2_with fail
  refine (zz_build a0 a1 1 w h0 h0' h1 h1' (by omega) (by omega) hN1).mono ?_
  rintro e w1 ⟨rfl, va, bs, hbl, hra, hba⟩
  have hbn : bs.length ≤ 65536 := by rw [hbl]; exact hN1
  have HA : Hid (bs.length = rangeLen a0 a1 1) := hbl
  clear hbl
  go_wp2_with fail
  refine (zz_copy _ va bs _ w1 hra hbn).mono ?_
  rintro e w2 ⟨g', vc, cs, rfl, hg', hac, hcl, hfr, hbb⟩
  have HC : Hid (cs.length = bs.length) := hcl
  clear hcl
  have hra2 := hra.mono hbb
  have hbel : Below w.heap.size w w2 := hba.trans (hbb.mono hba.size)
  have hgne : g' ≠ w.heap.size := by have := hra.lt; omega
  have hq := ne_array g' w.heap.size _ _ w2 hgne hac hra2.arr
  have hcc := cell_of_heap _ _ _ _ hac
  obtain ⟨sa, sc, hv⟩ := hra2.slice
  have hca := hra2.cell
  rw [hv] at hca
  obtain ⟨ta, tc, hu⟩ := hfr.slice
  have hcb := hcc
  rw [hu, HC.out] at hcb
  have hd : -(a1 - a0) = (bs.length : Int) := by rw [HA.out]; exact HL.out.symm
  have Hf : Hid (∀ k : Nat, rangeAt a0 a1 1 k = a0 - k) := fun k => by unfold rangeAt; rw [if_neg (by omega), Int.mul_one]
  clear hv hu hba hbb HL hN1 hcc
  go_wp2_with fail
  refine (len_any _ _ _ _ _ hca).mono ?_
  rintro e w3 ⟨rfl, rfl⟩
  go_wp2_with fail
  refine (len_any _ _ _ _ _ hcb).mono ?_
  rintro e w4 ⟨rfl, rfl⟩
  go_wp2
  go_loop [11] (fun i => ∃ k : Nat, k ≤ bs.length ∧ i = .int .i64 k) (fun i => bs.length - (intOf i).toNat)
  case atStart => exact ⟨0, Nat.zero_le _, rfl⟩
  case round =>
    obtain ⟨k, hk, rfl⟩ := hrel
    by_cases hlt : k < bs.length
    · have hkc : k < cs.length := by rw [HC.out]; exact hlt
      obtain ⟨r, c, hv, he, hx⟩ := hra2.get k hlt
      obtain ⟨r', c', hv', he', hx', hg2⟩ := hfr.get k hkc
      rw [Hf.out k] at hx hx'
      have hca2 := hra2.cell
      rw [hv] at hca2
      have hcb2 := cell_of_heap _ _ _ _ hac
      rw [hv'] at hcb2
      have hi1 := (hra2.int k bs[k] (List.getElem?_eq_getElem hlt)).2
      have hi2 := (hfr.int k cs[k] (List.getElem?_eq_getElem hkc)).2
      have hlt1 := heap_lt (hra.int k bs[k] (List.getElem?_eq_getElem hlt)).2
      have hbc : bs[k] ≠ cs[k] := by omega
      clear hca hcb hv hv'
      go_wp2_with fail
      refine (at_any _ _ _ _ _ _ _ _ hca2 hlt he hx).mono ?_
      rintro e w5 ⟨rfl, rfl⟩
      go_wp2_with fail
      refine (at_any _ _ _ _ _ _ _ _ hcb2 hkc he' hx').mono ?_
      rintro e w6 ⟨rfl, rfl⟩
      go_wp2_with fail
      refine (same_elem _ _ _ _ _ _ _ _ _ _ _ _ _ _ hlt hkc hbc hca2 he hcb2 he' hi1 hi2).mono ?_
      rintro e w7 ⟨rfl, rfl⟩
      go_wp2
      go_round
      case rel => exact ⟨k + 1, by omega, by go_num⟩
      case measure => simp [intOf]; omega
    · go_wp2
      go_ret
      exact ⟨rfl, hbel⟩

theorem copy_any (a0 a1 : Int) (w : World) : Calls Efag.prog 3 #[.int .i64 a0, .int .i64 a1] w fun e w' => e = .returned (.bool true) ∧ Below w.heap.size w w' := by
  by_cases h : a0 < -1152921504606846976 ∨ 1152921504606846976 < a0 ∨ a1 < -1152921504606846976 ∨ 1152921504606846976 < a1
  · exact copy_out a0 a1 w h
  · by_cases hN : dist a0 a1 ≤ 65536
    · by_cases hle : a0 ≤ a1
      · exact copy_up a0 a1 w (by omega) (by omega) (by omega) (by omega) hN hle
      · exact copy_down a0 a1 w (by omega) (by omega) (by omega) (by omega) hN (by omega)
    · exact copy_many a0 a1 w (by omega) (by omega) (by omega) (by omega) (by omega)

end Go.Proofs.YoefawDoor
