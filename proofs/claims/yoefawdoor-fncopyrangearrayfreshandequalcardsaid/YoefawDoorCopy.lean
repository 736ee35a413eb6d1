/-
  THE WALKS OF THE COPY: '(*Int).Copy', '(*Array).Copy', 'builtinCopy', 'ZZcopyArray', 'ZZsameElem'.
-/
import Derived.Test.YoefawDoorBuild
import Derived.Test.YoefawDoorFresh
import Derived.LaidEqlPtr
namespace Go.Proofs.YoefawDoor
open Go.RowKit

/-- Which function 'Copy' is, at a pointer to an int object and at a pointer to an array object. -/
theorem method_int (a : Addr) (w : World) : (method 186 43 (.pointer (some a)) "Copy").run Efag.prog w = .ok (32, .pointer (some a)) w := by kernel_rfl
theorem method_array (a : Addr) (w : World) : (method 186 22 (.pointer (some a)) "Copy").run Efag.prog w = .ok (27, .pointer (some a)) w := by kernel_rfl
/-- The comma-ok assertion to a pointer to an array object. -/
theorem assert22 (v : Value) (w : World) : (Instr.typeAssert (.iface 22 v) 32 22 true).run Efag.prog w = .ok (.tuple #[v, .bool true]) w := by kernel_rfl

theorem int_copy (b : Nat) (x : Int) (w : World) (hx : w.cell? ⟨b, 0, none⟩ = some (.int .i64 x)) :
    Calls Efag.prog 32 #[.pointer (some ⟨b, 0, none⟩)] w fun e w' => e = .returned (.iface 43 (.pointer (some ⟨w.heap.size, 0, none⟩))) ∧ w' = w.alloc (.cells #[.int .i64 x] 46) := by
  go_enter Efag.func32, Efag.ntmps32
  go_wp2
  go_ret
  exact ⟨rfl, rfl⟩

set_option maxHeartbeats 400000 in
theorem array_copy (g : Nat) (v : Value) (bs : List Nat) (f : Nat → Int) (w : World) (hr : Rng 42 32 43 46 w g v bs f) (hn : bs.length ≤ 65536) :
    Calls Efag.prog 27 #[.pointer (some ⟨g, 0, none⟩)] w fun e w' => ∃ (g' : Nat) (v' : Value) (cs : List Nat), e = .returned (.iface 22 (.pointer (some ⟨g', 0, none⟩))) ∧ w.heap.size ≤ g' ∧ w'.heap[g']? = some (.cells #[v'] 42 (0, 0)) ∧
      cs.length = bs.length ∧ Fresh 32 43 46 w' w.heap.size v' cs f ∧ Below w.heap.size w w' := by
  obtain ⟨i0, hi, hz0, hz1, hz2⟩ := info_parts Efag.info32
  obtain ⟨sa, sc, hv⟩ := hr.slice
  have hc := hr.cell
  rw [hv] at hc
  have HV : Hid (v = .slice sa bs.length sc) := hv
  clear hv
  go_enter Efag.func27, Efag.ntmps27
  go_wp2
  go_loopw [3, 11] (fun u i wr => ∃ cs : List Nat, cs.length ≤ bs.length ∧ i = .int .i64 cs.length ∧ Fresh 32 43 46 wr w.heap.size u cs f ∧ Below w.heap.size w wr) (fun _ i _ => bs.length - (intOf i).toNat)
  case atStart => exact ⟨[], Nat.zero_le _, rfl, Fresh.nil _ _ _ _ _ _, Below.refl _ _⟩
  case round =>
    obtain ⟨cs, hk, rfl, hfr, hb⟩ := hrel
    by_cases hlt : cs.length < bs.length
    · obtain ⟨r, c, hv, he, hx⟩ := (hr.mono hb).get cs.length hlt
      have hsa : sa = some ⟨r, 0, none⟩ := by
        have := HV.out.symm.trans hv
        simp at this
        exact this.1
      subst hsa
      have hm := fun w => method_int ⟨bs[cs.length], 0, none⟩ w
      have hown := hfr.own
      have hsz := hb.size
      clear hv hc
      go_wp2_with fail
      refine (int_copy _ _ _ hx).mono ?_
      rintro e w' ⟨rfl, rfl⟩
      go_wp2_with (at_builtin; refine wpList_append_own _ rfl _ _ 40 rfl w.heap.size 32 i0 .nilIface 1 16 Efag.underlying40 hi hz0 hz1 hz2 rfl (by decide) _ _ _ rfl ((hown.alloc _).alloc _) ⟨wr.heap.size + 1, 0, none⟩ 1 1 [elem 43 wr.heap.size] rfl rfl ?c1 ?c2 ?c3 ?c4 ?c5 ?_)
      case c1 =>
        intro j u hj
        match j, hj with
        | 0, hj => simp at hj; subst hj; simp [Addr.add, elem]
      case c2 => intro u hu; simp at hu; subst hu; rfl
      case c3 => unfold maxLen; omega
      case c4 => omega
      case c5 => simp; omega
      intro v' w1 hown' hgrow _
      obtain ⟨hfr', hb'⟩ := hfr.round (by decide) rfl hb hsz hown' hgrow
      have hl' : (cs ++ [wr.heap.size]).length ≤ bs.length := by simp; omega
      clear hown' hgrow hown hfr hb hsz
      go_wp2
      go_roundw
      case rel => exact ⟨cs ++ [wr.heap.size], hl', by simp, hfr', hb'⟩
      case measure => simp [intOf]; omega
    · have hl : cs.length = bs.length := by omega
      have HL : Hid (cs.length = bs.length) := hl
      clear hl
      obtain ⟨ua, uc, hu⟩ := hfr.slice
      rw [hu] at hfr ⊢
      clear hu
      go_wp2
      go_ret
      exact ⟨wr.heap.size, _, cs, rfl, hb.size, heap_alloc_new _ _, HL.out, hfr.mono ((Below.refl _ _).alloc (Nat.le_refl _) _), hb.alloc hb.size _⟩

set_option maxHeartbeats 400000 in
theorem builtin_copy (B g : Nat) (v : Value) (bs : List Nat) (f : Nat → Int) (w : World) (hr : Rng 42 32 43 46 w g v bs f) (hn : bs.length ≤ 65536) (hB : w.cell? ⟨B, 0, none⟩ = some (.iface 22 (.pointer (some ⟨g, 0, none⟩)))) :
    Calls Efag.prog 10 #[.slice (some ⟨B, 0, none⟩) 1 1] w fun e w' => ∃ (g' : Nat) (v' : Value) (cs : List Nat), e = .returned (.tuple #[.iface 22 (.pointer (some ⟨g', 0, none⟩)), .nilIface]) ∧ w.heap.size ≤ g' ∧ w'.heap[g']? = some (.cells #[v'] 42 (0, 0)) ∧
      cs.length = bs.length ∧ Fresh 32 43 46 w' w.heap.size v' cs f ∧ Below w.heap.size w w' := by
  have hm := fun w => method_array ⟨g, 0, none⟩ w
  go_enter Efag.func10, Efag.ntmps10
  go_wp2_with fail
  refine (array_copy g v bs f w hr hn).mono ?_
  rintro e w' ⟨g', v', cs, rfl, hg, hc, hl, hfr, hb⟩
  have HL : Hid (cs.length = bs.length) := hl
  clear hl
  go_wp2
  go_ret2
  exact ⟨g', v', cs, rfl, hg, hc, HL.out, hfr, hb⟩

set_option maxHeartbeats 400000 in
theorem zz_copy (g : Nat) (v : Value) (bs : List Nat) (f : Nat → Int) (w : World) (hr : Rng 42 32 43 46 w g v bs f) (hn : bs.length ≤ 65536) :
    Calls Efag.prog 5 #[.pointer (some ⟨g, 0, none⟩)] w fun e w' => ∃ (g' : Nat) (v' : Value) (cs : List Nat), e = .returned (.tuple #[.pointer (some ⟨g', 0, none⟩), .bool true, .bool false]) ∧ w.heap.size ≤ g' ∧ w'.heap[g']? = some (.cells #[v'] 42 (0, 0)) ∧
      cs.length = bs.length ∧ Fresh 32 43 46 w' w.heap.size v' cs f ∧ Below w.heap.size w w' := by
  have hb0 : Below w.heap.size w (w.alloc (.cells #[.iface 22 (.pointer (some ⟨g, 0, none⟩))] 32)) := (Below.refl _ _).alloc (Nat.le_refl _) _
  have hr0 := hr.mono hb0
  go_enter Efag.func5, Efag.ntmps5
  go_wp2_with fail
  refine (builtin_copy w.heap.size g v bs f _ hr0 hn (by simp)).mono ?_
  rintro e w' ⟨g', v', cs, rfl, hg, hc, hl, hfr, hb⟩
  have HL : Hid (cs.length = bs.length) := hl
  clear hl
  have ha := fun v w => assert22 v w
  go_wp2
  go_region
  all_goals (try go_wp2)
  all_goals go_ret3
  all_goals exact ⟨g', v', cs, rfl, Nat.le_trans hb0.size hg, hc, HL.out, hfr.drewFrom hb0.size, (hb0.trans (hb.mono hb0.size)).drew⟩

theorem Efag.size42 : (Efag.prog.info? 42).map (fun i => i.size) = some 1 := by kernel_rfl
theorem Efag.size46 : (Efag.prog.info? 46).map (fun i => i.size) = some 1 := by kernel_rfl

/-- Two int objects in two blocks are two pointers. -/
theorem ne_int (b b' : Nat) (c c' : Array Value) (w : World) (hne : b ≠ b') (h : w.heap[b]? = some (.cells c 46 (0, 0))) (h' : w.heap[b']? = some (.cells c' 46 (0, 0))) :
    (binOp .eql 43 (.pointer (some ⟨b, 0, none⟩)) (.pointer (some ⟨b', 0, none⟩))).run Efag.prog w = .ok (.bool false) w := by
  obtain ⟨i, hi, hs⟩ := Option.map_eq_some_iff.1 Efag.size46
  exact run_eql_ptr_other w Efag.underlying43 hi (by rw [hs]; decide) (fun e => hne (congrArg Addr.block e)) h h'

/-- Two array objects in two blocks are two pointers. -/
theorem ne_array (g g' : Nat) (c c' : Array Value) (w : World) (hne : g ≠ g') (h : w.heap[g]? = some (.cells c 42 (0, 0))) (h' : w.heap[g']? = some (.cells c' 42 (0, 0))) :
    (binOp .eql 22 (.pointer (some ⟨g, 0, none⟩)) (.pointer (some ⟨g', 0, none⟩))).run Efag.prog w = .ok (.bool false) w := by
  obtain ⟨i, hi, hs⟩ := Option.map_eq_some_iff.1 Efag.size42
  exact run_eql_ptr_other w Efag.underlying22 hi (by rw [hs]; decide) (fun e => hne (congrArg Addr.block e)) h h'

set_option maxHeartbeats 400000 in
theorem same_elem (g r n c b g' r' n' c' b' k : Nat) (d d' : Array Value) (w : World) (hk : k < n) (hk' : k < n') (hb : b ≠ b')
    (hc : w.cell? ⟨g, 0, none⟩ = some (.slice (some ⟨r, 0, none⟩) n c)) (he : w.cell? ⟨r, k, none⟩ = some (.iface 43 (.pointer (some ⟨b, 0, none⟩))))
    (hc' : w.cell? ⟨g', 0, none⟩ = some (.slice (some ⟨r', 0, none⟩) n' c')) (he' : w.cell? ⟨r', k, none⟩ = some (.iface 43 (.pointer (some ⟨b', 0, none⟩))))
    (h : w.heap[b]? = some (.cells d 46 (0, 0))) (h' : w.heap[b']? = some (.cells d' 46 (0, 0))) :
    Calls Efag.prog 8 #[.pointer (some ⟨g, 0, none⟩), .pointer (some ⟨g', 0, none⟩), .int .i64 k] w fun e w' => e = .returned (.bool false) ∧ w' = w := by
  have ha := fun v => assert43 v w
  have hq := ne_int b b' d d' w hb h h'
  clear h h'
  go_enter Efag.func8, Efag.ntmps8
  go_wp2
  go_ret
  exact ⟨rfl, rfl⟩

end Go.Proofs.YoefawDoor
