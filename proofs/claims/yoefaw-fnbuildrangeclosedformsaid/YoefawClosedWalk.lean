/-
  THE WALK OF 'FnBuildRangeClosedForm'.
-/
import Derived.Test.YoefawBuild
namespace Go.Proofs.Yoefaw
open Go.RowKit

/-- The ways on which the law asks nothing. -/
theorem closed_out (a0 a1 a2 : Int) (w : World)
    (h : a0 < -1152921504606846976 ∨ 1152921504606846976 < a0 ∨ a1 < -1152921504606846976 ∨ 1152921504606846976 < a1 ∨ a2 < 1 ∨ 1152921504606846976 < a2) :
    Calls Efag.prog 3 #[.int .i64 a0, .int .i64 a1, .int .i64 a2] w fun e w' => e = .returned (.bool true) ∧ Below w.heap.size w w' := by
  by_cases h0 : a0 < -1152921504606846976
  · go_enter Efag.func3, Efag.ntmps3
    go_wp2
    go_ret
    exact ⟨rfl, Below.refl _ _⟩
  by_cases h1 : 1152921504606846976 < a0
  · go_enter Efag.func3, Efag.ntmps3
    go_wp2
    go_ret
    exact ⟨rfl, Below.refl _ _⟩
  by_cases h2 : a1 < -1152921504606846976
  · go_enter Efag.func3, Efag.ntmps3
    go_wp2
    go_ret
    exact ⟨rfl, Below.refl _ _⟩
  by_cases h3 : 1152921504606846976 < a1
  · go_enter Efag.func3, Efag.ntmps3
    go_wp2
    go_ret
    exact ⟨rfl, Below.refl _ _⟩
  by_cases h4 : a2 < 1
  · clear h
    go_enter Efag.func3, Efag.ntmps3
    go_wp2
    go_ret
    exact ⟨rfl, Below.refl _ _⟩
  have h5 : 1152921504606846976 < a2 := by omega
  clear h
  go_enter Efag.func3, Efag.ntmps3
  go_wp2
  go_ret
  exact ⟨rfl, Below.refl _ _⟩

set_option maxHeartbeats 400000 in
theorem closed_up (a0 a1 a2 : Int) (w : World) (h0 : -1152921504606846976 ≤ a0) (h0' : a0 ≤ 1152921504606846976) (h1 : -1152921504606846976 ≤ a1) (h1' : a1 ≤ 1152921504606846976) (h2 : 1 ≤ a2) (h3 : a2 ≤ 1152921504606846976)
    (hle : a0 ≤ a1) : Calls Efag.prog 3 #[.int .i64 a0, .int .i64 a1, .int .i64 a2] w fun e w' => e = .returned (.bool true) ∧ Below w.heap.size w w' := by
  have hL := len_int a0 a1 a2 h2
  rw [dist_up hle] at hL
  have HL : Hid ((rangeLen a0 a1 a2 : Int) = (a1 - a0 + a2 - 1) / a2) := hL
  clear hL
  by_cases hN : rangeLen a0 a1 a2 ≤ 65536
  · have hN' : (a1 - a0 + a2 - 1) / a2 ≤ 65536 := by rw [← HL.out]; omega
    go_enter Efag.func3, Efag.ntmps3
    go_wp2_with fail
    refine (zz_build a0 a1 a2 w h0 h0' h1 h1' h2 h3 hN).mono ?_
    rintro e w1 ⟨rfl, v, bs, hbl, hr, hb⟩
    have hq : (a1 - a0 + a2 - 1) / a2 = (bs.length : Int) := by rw [hbl]; exact HL.out.symm
    have Hf : Hid (∀ k, rangeAt a0 a1 a2 k = a0 + k * a2) := fun k => if_pos hle
    have Hk : Hid (∀ k : Nat, k < bs.length → (k : Int) * a2 < a1 - a0) := fun k hk => by
      rw [← dist_up hle]; exact (len_iff a0 a1 a2 h2 k).2 (by omega)
    obtain ⟨sa, sc, hv⟩ := hr.slice
    have hc := hr.cell
    rw [hv] at hc
    have HL2 : Hid (bs.length = rangeLen a0 a1 a2) := hbl
    have HV : Hid (v = .slice sa bs.length sc) := hv
    clear hbl hv HL hN'
    go_wp2_with (go_at_call 6; refine (len_any _ _ _ _ _ hc).mono ?_; rintro e w' ⟨rfl, rfl⟩)
    go_loop [11] (fun i => ∃ k : Nat, k ≤ bs.length ∧ i = .int .i64 k) (fun i => bs.length - (intOf i).toNat)
    case atStart => exact ⟨0, Nat.zero_le _, rfl⟩
    case round =>
      obtain ⟨k, hk, rfl⟩ := hrel
      by_cases hlt : k < bs.length
      · obtain ⟨r, c, hv, he, hx⟩ := hr.get k hlt
        have hc2 := hr.cell
        rw [hv] at hc2
        rw [Hf.out k] at hx
        have hm1 := mul_nonneg' k a2 h2
        have hm2 := Hk.out k hlt
        clear hc hv
        go_wp2_with (go_at_call 7; refine (at_any _ _ _ _ _ _ _ _ hc2 hlt he hx).mono ?_; rintro e w' ⟨rfl, rfl⟩)
        go_round
        case rel => exact ⟨k + 1, by omega, by go_num⟩
        case measure => simp [intOf]; omega
      · go_wp2
        go_ret
        exact ⟨rfl, hb⟩
  · have hN' : 65536 < (a1 - a0 + a2 - 1) / a2 := by rw [← HL.out]; omega
    go_enter Efag.func3, Efag.ntmps3
    go_wp2
    go_ret
    exact ⟨rfl, Below.refl _ _⟩

set_option maxHeartbeats 400000 in
theorem closed_down (a0 a1 a2 : Int) (w : World) (h0 : -1152921504606846976 ≤ a0) (h0' : a0 ≤ 1152921504606846976) (h1 : -1152921504606846976 ≤ a1) (h1' : a1 ≤ 1152921504606846976) (h2 : 1 ≤ a2) (h3 : a2 ≤ 1152921504606846976)
    (hle : a1 < a0) : Calls Efag.prog 3 #[.int .i64 a0, .int .i64 a1, .int .i64 a2] w fun e w' => e = .returned (.bool true) ∧ Below w.heap.size w w' := by
  have hL := len_int a0 a1 a2 h2
  rw [dist_down (by omega)] at hL
  have HL : Hid ((rangeLen a0 a1 a2 : Int) = (a0 - a1 + a2 - 1) / a2) := hL
  clear hL
  have hd : decide (a0 ≤ a1) = false := by simpa using hle
  by_cases hN : rangeLen a0 a1 a2 ≤ 65536
  · have hN' : (a0 - a1 + a2 - 1) / a2 ≤ 65536 := by rw [← HL.out]; omega
    go_enter Efag.func3, Efag.ntmps3
    go_wp2_with fail
    refine (zz_build a0 a1 a2 w h0 h0' h1 h1' h2 h3 hN).mono ?_
    rintro e w1 ⟨rfl, v, bs, hbl, hr, hb⟩
    have hq : (a0 - a1 + a2 - 1) / a2 = (bs.length : Int) := by rw [hbl]; exact HL.out.symm
    have Hf : Hid (∀ k, rangeAt a0 a1 a2 k = a0 - k * a2) := fun k => if_neg (by omega)
    have Hk : Hid (∀ k : Nat, k < bs.length → (k : Int) * a2 < a0 - a1) := fun k hk => by
      rw [← dist_down (by omega)]; exact (len_iff a0 a1 a2 h2 k).2 (by omega)
    obtain ⟨sa, sc, hv⟩ := hr.slice
    have hc := hr.cell
    rw [hv] at hc
    have HL2 : Hid (bs.length = rangeLen a0 a1 a2) := hbl
    have HV : Hid (v = .slice sa bs.length sc) := hv
    clear hbl hv HL hN'
    go_wp2_with (go_at_call 6; refine (len_any _ _ _ _ _ hc).mono ?_; rintro e w' ⟨rfl, rfl⟩)
    go_loop [11] (fun i => ∃ k : Nat, k ≤ bs.length ∧ i = .int .i64 k) (fun i => bs.length - (intOf i).toNat)
    case atStart => exact ⟨0, Nat.zero_le _, rfl⟩
    case round =>
      obtain ⟨k, hk, rfl⟩ := hrel
      by_cases hlt : k < bs.length
      · obtain ⟨r, c, hv, he, hx⟩ := hr.get k hlt
        have hc2 := hr.cell
        rw [hv] at hc2
        rw [Hf.out k] at hx
        have hm1 := mul_nonneg' k a2 h2
        have hm2 := Hk.out k hlt
        clear hc hv
        go_wp2_with (go_at_call 7; refine (at_any _ _ _ _ _ _ _ _ hc2 hlt he hx).mono ?_; rintro e w' ⟨rfl, rfl⟩)
        go_round
        case rel => exact ⟨k + 1, by omega, by go_num⟩
        case measure => simp [intOf]; omega
      · go_wp2
        go_ret
        exact ⟨rfl, hb⟩
  · have hN' : 65536 < (a0 - a1 + a2 - 1) / a2 := by rw [← HL.out]; omega
    go_enter Efag.func3, Efag.ntmps3
    go_wp2
    go_ret
    exact ⟨rfl, Below.refl _ _⟩

theorem closed_any (a0 a1 a2 : Int) (w : World) :
    Calls Efag.prog 3 #[.int .i64 a0, .int .i64 a1, .int .i64 a2] w fun e w' => e = .returned (.bool true) ∧ Below w.heap.size w w' := by
  by_cases h : a0 < -1152921504606846976 ∨ 1152921504606846976 < a0 ∨ a1 < -1152921504606846976 ∨ 1152921504606846976 < a1 ∨ a2 < 1 ∨ 1152921504606846976 < a2
  · exact closed_out a0 a1 a2 w h
  · by_cases hle : a0 ≤ a1
    · exact closed_up a0 a1 a2 w (by omega) (by omega) (by omega) (by omega) (by omega) (by omega) hle
    · exact closed_down a0 a1 a2 w (by omega) (by omega) (by omega) (by omega) (by omega) (by omega) (by omega)

end Go.Proofs.Yoefaw
