/-
  THE WALKS OF THE CALLEES: 'buildRange' (one loop up, one loop down), 'ZZbuildRange', 'ZZarrayLen', 'ZZarrayIntAt'.
-/
import Derived.Test.YoefawDoorParts
import Derived.WalkLawsBesides
namespace Go.Proofs.YoefawDoor
open Go.RowKit

theorem Efag.info32 : (Efag.prog.info? 32).map (fun i => (i.zero, i.size, i.bytes)) = some (some .nilIface, 1, 16) := by kernel_rfl

/-- The comma-ok assertion of an element to a pointer to an int object. -/
theorem assert43 (v : Value) (w : World) : (Instr.typeAssert (.iface 43 v) 32 43 true).run Efag.prog w = .ok (.tuple #[v, .bool true]) w := by kernel_rfl

theorem len_any (g : Nat) (a : Option Addr) (n c : Nat) (w : World) (hc : w.cell? ⟨g, 0, none⟩ = some (.slice a n c)) :
    Calls Efag.prog 6 #[.pointer (some ⟨g, 0, none⟩)] w fun e w' => e = .returned (.int .i64 n) ∧ w' = w := by
  go_enter Efag.func6, Efag.ntmps6
  go_wp2
  go_ret
  exact ⟨rfl, rfl⟩

set_option maxHeartbeats 400000 in
theorem at_any (g r n c b k : Nat) (x : Int) (w : World) (hc : w.cell? ⟨g, 0, none⟩ = some (.slice (some ⟨r, 0, none⟩) n c)) (hk : k < n)
    (he : w.cell? ⟨r, k, none⟩ = some (.iface 43 (.pointer (some ⟨b, 0, none⟩)))) (hx : w.cell? ⟨b, 0, none⟩ = some (.int .i64 x)) :
    Calls Efag.prog 7 #[.pointer (some ⟨g, 0, none⟩), .int .i64 k] w fun e w' => e = .returned (.tuple #[.int .i64 x, .bool true]) ∧ w' = w := by
  have ha := fun v => assert43 v w
  go_enter Efag.func7, Efag.ntmps7
  go_wp2
  go_ret2
  exact ⟨rfl, rfl⟩

set_option maxHeartbeats 400000 in
theorem build_up (a0 a1 a2 : Int) (N : Nat) (w : World) (h0 : -1152921504606846976 ≤ a0) (h1 : a1 ≤ 1152921504606846976) (hle : a0 ≤ a1) (h2 : 1 ≤ a2) (h3 : a2 ≤ 1152921504606846976)
    (hN : N ≤ 65536) (hNd : ∀ k : Nat, a0 + k * a2 < a1 ↔ k < N) :
    Calls Efag.prog 9 #[.int .i64 a0, .int .i64 a1, .int .i64 a2] w fun e w' => e = .returned (.pointer (some ⟨w.heap.size, 0, none⟩)) ∧ ∃ (v : Value) (bs : List Nat), bs.length = N ∧
      Rng 42 32 43 46 w' w.heap.size v bs (fun k => a0 + k * a2) ∧ Below w.heap.size w w' := by
  obtain ⟨i0, hi, hz0, hz1, hz2⟩ := info_parts Efag.info32
  have HN : Hid (∀ k : Nat, a0 + k * a2 < a1 ↔ k < N) := hNd
  clear hNd
  go_enter Efag.func9, Efag.ntmps9
  go_wp2
  go_loopw [8] (fun i wr => ∃ (bs : List Nat) (v : Value) (x : Int), i = .int .i64 x ∧ Hid (x = a0 + bs.length * a2) ∧ a0 ≤ x ∧ x ≤ 2305843009213693952 ∧ bs.length ≤ N ∧
      Rng 42 32 43 46 wr w.heap.size v bs (fun k => a0 + k * a2) ∧ Below w.heap.size w wr) (fun i _ => (a1 - intOf i).toNat)
  case atStart => exact ⟨[], .slice none 0 0, a0, rfl, by show a0 = _; simp, by omega, by omega, by simp, Rng.nil _ _ _ _ _ _, (Below.refl _ _).alloc (Nat.le_refl _) _⟩
  case round =>
    obtain ⟨bs, v, x, rfl, Hx, hx0, hx1, hbl, hr, hb⟩ := hrel
    by_cases hlt : x < a1
    · have hk : bs.length < N := (HN.out bs.length).1 (by rw [← Hx.out]; exact hlt)
      have hcl := hr.cell
      have hown := hr.own
      have hsz := hr.lt
      go_wp2_with (at_builtin; refine wpList_append_own _ rfl _ _ 40 rfl (w.heap.size + 1) 32 i0 .nilIface 1 16 Efag.underlying40 hi hz0 hz1 hz2 rfl (by decide) _ _ _ rfl ((hown.alloc _).alloc _) ⟨wr.heap.size + 1, 0, none⟩ 1 1 [elem 43 wr.heap.size] rfl rfl ?c1 ?c2 ?c3 ?c4 ?c5 ?_)
      case c1 =>
        intro j u hj
        match j, hj with
        | 0, hj => simp at hj; subst hj; simp [Addr.add, elem]
      case c2 => intro u hu; simp at hu; subst hu; rfl
      case c3 => unfold maxLen; omega
      case c4 => omega
      case c5 => simp; omega
      intro v' w1 hown' hgrow _
      obtain ⟨hc1, hf1, hr', hb'⟩ := hr.round (by decide) Hx.out.symm hb (Nat.le_refl _) hown' hgrow
      have Hx' : Hid (x + a2 = a0 + ((bs ++ [wr.heap.size]).length : Int) * a2) := by
        show x + a2 = _
        rw [List.length_append, List.length_singleton, Hx.out]
        push_cast
        rw [Int.add_mul]
        omega
      have hl' : (bs ++ [wr.heap.size]).length ≤ N := by simp; omega
      obtain ⟨a', c', hv'⟩ := own_slice hown'
      clear hown' hgrow hown hcl hr hb hsz
      rw [hv'] at hr' hb' ⊢
      clear hv'
      go_wp2
      go_roundw
      case rel => exact ⟨bs ++ [wr.heap.size], _, x + a2, rfl, Hx', by omega, by omega, hl', hr', hb'⟩
      case measure => simp [intOf]; omega
    · have hk : ¬ bs.length < N := fun h => hlt (by rw [Hx.out]; exact (HN.out bs.length).2 h)
      go_wp2
      go_ret
      exact ⟨rfl, v, bs, by omega, hr, hb⟩

set_option maxHeartbeats 400000 in
theorem build_down (a0 a1 a2 : Int) (N : Nat) (w : World) (h0 : a0 ≤ 1152921504606846976) (h1 : -1152921504606846976 ≤ a1) (hle : a1 < a0) (h2 : 1 ≤ a2) (h3 : a2 ≤ 1152921504606846976)
    (hN : N ≤ 65536) (hNd : ∀ k : Nat, a1 < a0 - k * a2 ↔ k < N) :
    Calls Efag.prog 9 #[.int .i64 a0, .int .i64 a1, .int .i64 a2] w fun e w' => e = .returned (.pointer (some ⟨w.heap.size, 0, none⟩)) ∧ ∃ (v : Value) (bs : List Nat), bs.length = N ∧
      Rng 42 32 43 46 w' w.heap.size v bs (fun k => a0 - k * a2) ∧ Below w.heap.size w w' := by
  obtain ⟨i0, hi, hz0, hz1, hz2⟩ := info_parts Efag.info32
  have HN : Hid (∀ k : Nat, a1 < a0 - k * a2 ↔ k < N) := hNd
  clear hNd
  go_enter Efag.func9, Efag.ntmps9
  go_wp2
  go_loopw [9] (fun i wr => ∃ (bs : List Nat) (v : Value) (x : Int), i = .int .i64 x ∧ Hid (x = a0 - bs.length * a2) ∧ x ≤ a0 ∧ -2305843009213693952 ≤ x ∧ bs.length ≤ N ∧
      Rng 42 32 43 46 wr w.heap.size v bs (fun k => a0 - k * a2) ∧ Below w.heap.size w wr) (fun i _ => (intOf i - a1).toNat)
  case atStart => exact ⟨[], .slice none 0 0, a0, rfl, by show a0 = _; simp, by omega, by omega, by simp, Rng.nil _ _ _ _ _ _, (Below.refl _ _).alloc (Nat.le_refl _) _⟩
  case round =>
    obtain ⟨bs, v, x, rfl, Hx, hx0, hx1, hbl, hr, hb⟩ := hrel
    by_cases hlt : a1 < x
    · have hk : bs.length < N := (HN.out bs.length).1 (by rw [← Hx.out]; exact hlt)
      have hcl := hr.cell
      have hown := hr.own
      have hsz := hr.lt
      go_wp2_with (at_builtin; refine wpList_append_own _ rfl _ _ 40 rfl (w.heap.size + 1) 32 i0 .nilIface 1 16 Efag.underlying40 hi hz0 hz1 hz2 rfl (by decide) _ _ _ rfl ((hown.alloc _).alloc _) ⟨wr.heap.size + 1, 0, none⟩ 1 1 [elem 43 wr.heap.size] rfl rfl ?c1 ?c2 ?c3 ?c4 ?c5 ?_)
      case c1 =>
        intro j u hj
        match j, hj with
        | 0, hj => simp at hj; subst hj; simp [Addr.add, elem]
      case c2 => intro u hu; simp at hu; subst hu; rfl
      case c3 => unfold maxLen; omega
      case c4 => omega
      case c5 => simp; omega
      intro v' w1 hown' hgrow _
      obtain ⟨hc1, hf1, hr', hb'⟩ := hr.round (by decide) Hx.out.symm hb (Nat.le_refl _) hown' hgrow
      have Hx' : Hid (x - a2 = a0 - ((bs ++ [wr.heap.size]).length : Int) * a2) := by
        show x - a2 = _
        rw [List.length_append, List.length_singleton, Hx.out]
        push_cast
        rw [Int.add_mul]
        omega
      have hl' : (bs ++ [wr.heap.size]).length ≤ N := by simp; omega
      obtain ⟨a', c', hv'⟩ := own_slice hown'
      clear hown' hgrow hown hcl hr hb hsz
      rw [hv'] at hr' hb' ⊢
      clear hv'
      go_wp2
      go_roundw
      case rel => exact ⟨bs ++ [wr.heap.size], _, x - a2, rfl, Hx', by omega, by omega, hl', hr', hb'⟩
      case measure => simp [intOf]; omega
    · have hk : ¬ bs.length < N := fun h => hlt (by rw [Hx.out]; exact (HN.out bs.length).2 h)
      go_wp2
      go_ret
      exact ⟨rfl, v, bs, by omega, hr, hb⟩

/-- 'buildRange' at a step of at least 1, at ends within ±2^60, where the range holds at most 65536 numbers: a new array of just the range's numbers; nothing old is written. -/
theorem build_any (a0 a1 a2 : Int) (w : World) (h0 : -1152921504606846976 ≤ a0) (h0' : a0 ≤ 1152921504606846976) (h1 : -1152921504606846976 ≤ a1) (h1' : a1 ≤ 1152921504606846976) (h2 : 1 ≤ a2) (h3 : a2 ≤ 1152921504606846976)
    (hN : rangeLen a0 a1 a2 ≤ 65536) :
    Calls Efag.prog 9 #[.int .i64 a0, .int .i64 a1, .int .i64 a2] w fun e w' => e = .returned (.pointer (some ⟨w.heap.size, 0, none⟩)) ∧ ∃ (v : Value) (bs : List Nat), bs.length = rangeLen a0 a1 a2 ∧
      Rng 42 32 43 46 w' w.heap.size v bs (rangeAt a0 a1 a2) ∧ Below w.heap.size w w' := by
  by_cases hle : a0 ≤ a1
  · have e : rangeAt a0 a1 a2 = fun k : Nat => a0 + k * a2 := by funext k; exact if_pos hle
    rw [e]
    exact build_up a0 a1 a2 _ w h0 h1' hle h2 h3 hN (fun k => by rw [← len_iff a0 a1 a2 h2 k, dist_up hle]; omega)
  · have e : rangeAt a0 a1 a2 = fun k : Nat => a0 - k * a2 := by funext k; exact if_neg hle
    rw [e]
    exact build_down a0 a1 a2 _ w h0' h1 (by omega) h2 h3 hN (fun k => by rw [← len_iff a0 a1 a2 h2 k, dist_down hle]; omega)

theorem zz_build (a0 a1 a2 : Int) (w : World) (h0 : -1152921504606846976 ≤ a0) (h0' : a0 ≤ 1152921504606846976) (h1 : -1152921504606846976 ≤ a1) (h1' : a1 ≤ 1152921504606846976) (h2 : 1 ≤ a2) (h3 : a2 ≤ 1152921504606846976)
    (hN : rangeLen a0 a1 a2 ≤ 65536) :
    Calls Efag.prog 4 #[.int .i64 a0, .int .i64 a1, .int .i64 a2] w fun e w' => e = .returned (.pointer (some ⟨w.heap.size, 0, none⟩)) ∧ ∃ (v : Value) (bs : List Nat), bs.length = rangeLen a0 a1 a2 ∧
      Rng 42 32 43 46 w' w.heap.size v bs (rangeAt a0 a1 a2) ∧ Below w.heap.size w w' := by
  go_enter Efag.func4, Efag.ntmps4
  go_wp2_with fail
  refine (build_any a0 a1 a2 w h0 h0' h1 h1' h2 h3 hN).mono ?_
  rintro e w' ⟨rfl, hx⟩
  go_wp2
  go_ret
  exact ⟨rfl, hx⟩

end Go.Proofs.YoefawDoor
