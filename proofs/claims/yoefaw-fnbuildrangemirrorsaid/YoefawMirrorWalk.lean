/-
  THE WALK OF 'FnBuildRangeMirror'.
-/
import Derived.Test.YoefawBuild
namespace Go.Proofs.Yoefaw
open Go.RowKit

/-- The ways on which the law asks nothing. -/
theorem mirror_out (a0 a1 a2 : Int) (w : World)
    (h : a0 < -1152921504606846976 ∨ 1152921504606846976 < a0 ∨ a1 < -1152921504606846976 ∨ 1152921504606846976 < a1 ∨ a2 < 1 ∨ 1152921504606846976 < a2) :
    Calls Efag.prog 4 #[.int .i64 a0, .int .i64 a1, .int .i64 a2] w fun e w' => e = .returned (.bool true) ∧ Below w.heap.size w w' := by
  by_cases h0 : a0 < -1152921504606846976
  · go_enter Efag.func4, Efag.ntmps4
    go_wp2
    go_ret
    exact ⟨rfl, Below.refl _ _⟩
  by_cases h1 : 1152921504606846976 < a0
  · go_enter Efag.func4, Efag.ntmps4
    go_wp2
    go_ret
    exact ⟨rfl, Below.refl _ _⟩
  by_cases h2 : a1 < -1152921504606846976
  · go_enter Efag.func4, Efag.ntmps4
    go_wp2
    go_ret
    exact ⟨rfl, Below.refl _ _⟩
  by_cases h3 : 1152921504606846976 < a1
  · go_enter Efag.func4, Efag.ntmps4
    go_wp2
    go_ret
    exact ⟨rfl, Below.refl _ _⟩
  by_cases h4 : a2 < 1
  · clear h
    go_enter Efag.func4, Efag.ntmps4
    go_wp2
    go_ret
    exact ⟨rfl, Below.refl _ _⟩
  have h5 : 1152921504606846976 < a2 := by omega
  clear h
  go_enter Efag.func4, Efag.ntmps4
  go_wp2
  go_ret
  exact ⟨rfl, Below.refl _ _⟩

/-- Too many numbers: the law asks nothing. -/
theorem mirror_many (a0 a1 a2 : Int) (w : World) (h0 : -1152921504606846976 ≤ a0) (h0' : a0 ≤ 1152921504606846976) (h1 : -1152921504606846976 ≤ a1) (h1' : a1 ≤ 1152921504606846976) (h2 : 1 ≤ a2) (h3 : a2 ≤ 1152921504606846976)
    (hN : 65536 < rangeLen a0 a1 a2) : Calls Efag.prog 4 #[.int .i64 a0, .int .i64 a1, .int .i64 a2] w fun e w' => e = .returned (.bool true) ∧ Below w.heap.size w w' := by
  have hL := len_int a0 a1 a2 h2
  by_cases hle : a0 ≤ a1
  · rw [dist_up hle] at hL
    have hN' : 65536 < (a1 - a0 + a2 - 1) / a2 := by rw [← hL]; omega
    clear hL hN
    go_enter Efag.func4, Efag.ntmps4
    go_wp2
    go_ret
    exact ⟨rfl, Below.refl _ _⟩
  · have e : a0 - a1 = -(a1 - a0) := by omega
    rw [dist_down hle, e] at hL
    have hlt : a1 - a0 < 0 := by omega
    have hN' : 65536 < (-(a1 - a0) + a2 - 1) / a2 := by rw [← hL]; omega
    clear hL hN e hle
    go_enter Efag.func4, Efag.ntmps4
    go_wp2
    go_ret
    exact ⟨rfl, Below.refl _ _⟩

set_option maxHeartbeats 1000000 in
theorem mirror_up (a0 a1 a2 : Int) (w : World) (h0 : -1152921504606846976 ≤ a0) (h0' : a0 ≤ 1152921504606846976) (h1 : -1152921504606846976 ≤ a1) (h1' : a1 ≤ 1152921504606846976) (h2 : 1 ≤ a2) (h3 : a2 ≤ 1152921504606846976)
    (hN : rangeLen a0 a1 a2 ≤ 65536) (hle : a0 ≤ a1) : Calls Efag.prog 4 #[.int .i64 a0, .int .i64 a1, .int .i64 a2] w fun e w' => e = .returned (.bool true) ∧ Below w.heap.size w w' := by
  have hL := len_int a0 a1 a2 h2
  rw [dist_up hle] at hL
  have hN' : (a1 - a0 + a2 - 1) / a2 ≤ 65536 := by rw [← hL]; omega
  have hlt : 0 ≤ a1 - a0 := by omega
  clear hL hle
  go_enter Efag.func4, Efag.ntmps4
  go_wp2_with fail
  refine (zz_build a0 a1 a2 w h0 h0' h1 h1' h2 h3 hN).mono ?_
  rintro e w1 ⟨rfl, va, bs, hbl, hra, hba⟩
  have HA : Hid (bs.length = rangeLen a0 a1 a2) := hbl
  clear hbl
  go_wp2_with fail
  refine (zz_build (-a0) (-a1) a2 w1 (by omega) (by omega) (by omega) (by omega) h2 h3 (by rw [len_neg]; exact hN)).mono ?_
  rintro e w2 ⟨rfl, vb, cs, hcl, hrb, hbb⟩
  rw [len_neg, ← HA.out] at hcl
  have HC : Hid (cs.length = bs.length) := hcl
  clear hcl
  have hra2 := hra.mono hbb
  have hbel : Below w.heap.size w w2 := hba.trans (hbb.mono hba.size)
  obtain ⟨sa, sc, hv⟩ := hra2.slice
  have hca := hra2.cell
  rw [hv] at hca
  obtain ⟨ta, tc, hu⟩ := hrb.slice
  have hcb := hrb.cell
  rw [hu, HC.out] at hcb
  clear hv hu hra hba hbb
  have hbl : bs.length ≤ 65536 := by rw [HA.out]; exact hN
  go_wp2_with fail
  refine (len_any _ _ _ _ _ hca).mono ?_
  rintro e w3 ⟨rfl, rfl⟩
  go_wp2_with fail
  refine (len_any _ _ _ _ _ hcb).mono ?_
  rintro e w4 ⟨rfl, rfl⟩
  go_wp2
  go_loop [11] (fun i => ∃ k : Nat, k ≤ bs.length ∧ i = .int .i64 k) (fun i => bs.length - (intOf i).toNat)
  case atStart => exact ⟨0, Nat.zero_le _, rfl⟩
  case round =>
    obtain ⟨k, hk, rfl⟩ := hrel
    by_cases hlt : k < bs.length
    · have hkc : k < cs.length := by rw [HC.out]; exact hlt
      obtain ⟨r, c, hv, he, hx⟩ := hra2.get k hlt
      obtain ⟨r', c', hv', he', hx'⟩ := hrb.get k hkc
      have hca2 := hra2.cell
      rw [hv] at hca2
      have hcb2 := hrb.cell
      rw [hv'] at hcb2
      have hkN : k < rangeLen a0 a1 a2 := by rw [← HA.out]; exact hlt
      have hxy := at_neg a0 a1 a2 h2 k hkN
      have hby := at_bounds (-a0) (-a1) a2 h2 k (by rw [len_neg]; exact hkN) (by omega) (by omega) (by omega) (by omega)
      obtain ⟨x, Ex⟩ : ∃ x, x = rangeAt a0 a1 a2 k := ⟨_, rfl⟩
      obtain ⟨y, Ey⟩ : ∃ y, y = rangeAt (-a0) (-a1) a2 k := ⟨_, rfl⟩
      rw [← Ex] at hx hxy
      rw [← Ey] at hx' hxy hby
      have hxy' : x = -y := by omega
      subst hxy'
      clear Ex Ey hxy hca hcb hv hv' hN' hkN
      go_wp2_with fail
      refine (at_any _ _ _ _ _ _ _ _ hca2 hlt he hx).mono ?_
      rintro e w5 ⟨rfl, rfl⟩
      go_wp2_with fail
      refine (at_any _ _ _ _ _ _ _ _ hcb2 hkc he' hx').mono ?_
      rintro e w6 ⟨rfl, rfl⟩
      go_wp2
      go_round
      case rel => exact ⟨k + 1, by omega, by go_num⟩
      case measure => simp [intOf]; omega
    · go_wp2
      go_ret
      exact ⟨rfl, hbel⟩

set_option maxHeartbeats 1000000 in
theorem mirror_down (a0 a1 a2 : Int) (w : World) (h0 : -1152921504606846976 ≤ a0) (h0' : a0 ≤ 1152921504606846976) (h1 : -1152921504606846976 ≤ a1) (h1' : a1 ≤ 1152921504606846976) (h2 : 1 ≤ a2) (h3 : a2 ≤ 1152921504606846976)
    (hN : rangeLen a0 a1 a2 ≤ 65536) (hle : a1 < a0) : Calls Efag.prog 4 #[.int .i64 a0, .int .i64 a1, .int .i64 a2] w fun e w' => e = .returned (.bool true) ∧ Below w.heap.size w w' := by
  have hL := len_int a0 a1 a2 h2
  have e : a0 - a1 = -(a1 - a0) := by omega
  rw [dist_down (by omega), e] at hL
  have hN' : (-(a1 - a0) + a2 - 1) / a2 ≤ 65536 := by rw [← hL]; omega
  have hlt : a1 - a0 < 0 := by omega
  clear hL hle e
  go_enter Efag.func4, Efag.ntmps4
  go_wp2_with fail
  refine (zz_build a0 a1 a2 w h0 h0' h1 h1' h2 h3 hN).mono ?_
  rintro e w1 ⟨rfl, va, bs, hbl, hra, hba⟩
  have HA : Hid (bs.length = rangeLen a0 a1 a2) := hbl
  clear hbl
  go_wp2_with fail
  refine (zz_build (-a0) (-a1) a2 w1 (by omega) (by omega) (by omega) (by omega) h2 h3 (by rw [len_neg]; exact hN)).mono ?_
  rintro e w2 ⟨rfl, vb, cs, hcl, hrb, hbb⟩
  rw [len_neg, ← HA.out] at hcl
  have HC : Hid (cs.length = bs.length) := hcl
  clear hcl
  have hra2 := hra.mono hbb
  have hbel : Below w.heap.size w w2 := hba.trans (hbb.mono hba.size)
  obtain ⟨sa, sc, hv⟩ := hra2.slice
  have hca := hra2.cell
  rw [hv] at hca
  obtain ⟨ta, tc, hu⟩ := hrb.slice
  have hcb := hrb.cell
  rw [hu, HC.out] at hcb
  clear hv hu hra hba hbb
  have hbl : bs.length ≤ 65536 := by rw [HA.out]; exact hN
  go_wp2_with fail
  refine (len_any _ _ _ _ _ hca).mono ?_
  rintro e w3 ⟨rfl, rfl⟩
  go_wp2_with fail
  refine (len_any _ _ _ _ _ hcb).mono ?_
  rintro e w4 ⟨rfl, rfl⟩
  go_wp2
  go_loop [11] (fun i => ∃ k : Nat, k ≤ bs.length ∧ i = .int .i64 k) (fun i => bs.length - (intOf i).toNat)
  case atStart => exact ⟨0, Nat.zero_le _, rfl⟩
  case round =>
    obtain ⟨k, hk, rfl⟩ := hrel
    by_cases hlt : k < bs.length
    · have hkc : k < cs.length := by rw [HC.out]; exact hlt
      obtain ⟨r, c, hv, he, hx⟩ := hra2.get k hlt
      obtain ⟨r', c', hv', he', hx'⟩ := hrb.get k hkc
      have hca2 := hra2.cell
      rw [hv] at hca2
      have hcb2 := hrb.cell
      rw [hv'] at hcb2
      have hkN : k < rangeLen a0 a1 a2 := by rw [← HA.out]; exact hlt
      have hxy := at_neg a0 a1 a2 h2 k hkN
      have hby := at_bounds (-a0) (-a1) a2 h2 k (by rw [len_neg]; exact hkN) (by omega) (by omega) (by omega) (by omega)
      obtain ⟨x, Ex⟩ : ∃ x, x = rangeAt a0 a1 a2 k := ⟨_, rfl⟩
      obtain ⟨y, Ey⟩ : ∃ y, y = rangeAt (-a0) (-a1) a2 k := ⟨_, rfl⟩
      rw [← Ex] at hx hxy
      rw [← Ey] at hx' hxy hby
      have hxy' : x = -y := by omega
      subst hxy'
      clear Ex Ey hxy hca hcb hv hv' hN' hkN
      go_wp2_with fail
      refine (at_any _ _ _ _ _ _ _ _ hca2 hlt he hx).mono ?_
      rintro e w5 ⟨rfl, rfl⟩
      go_wp2_with fail
      refine (at_any _ _ _ _ _ _ _ _ hcb2 hkc he' hx').mono ?_
      rintro e w6 ⟨rfl, rfl⟩
      go_wp2
      go_round
      case rel => exact ⟨k + 1, by omega, by go_num⟩
      case measure => simp [intOf]; omega
    · go_wp2
      go_ret
      exact ⟨rfl, hbel⟩

theorem mirror_any (a0 a1 a2 : Int) (w : World) :
    Calls Efag.prog 4 #[.int .i64 a0, .int .i64 a1, .int .i64 a2] w fun e w' => e = .returned (.bool true) ∧ Below w.heap.size w w' := by
  by_cases h : a0 < -1152921504606846976 ∨ 1152921504606846976 < a0 ∨ a1 < -1152921504606846976 ∨ 1152921504606846976 < a1 ∨ a2 < 1 ∨ 1152921504606846976 < a2
  · exact mirror_out a0 a1 a2 w h
  · by_cases hN : rangeLen a0 a1 a2 ≤ 65536
    · by_cases hle : a0 ≤ a1
      · exact mirror_up a0 a1 a2 w (by omega) (by omega) (by omega) (by omega) (by omega) (by omega) hN hle
      · exact mirror_down a0 a1 a2 w (by omega) (by omega) (by omega) (by omega) (by omega) (by omega) hN (by omega)
    · exact mirror_many a0 a1 a2 w (by omega) (by omega) (by omega) (by omega) (by omega) (by omega) (by omega)

end Go.Proofs.Yoefaw
