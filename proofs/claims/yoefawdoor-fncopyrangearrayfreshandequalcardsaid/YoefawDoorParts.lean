/-
  THE PLAIN PART OF THE ROAD: what an array of ints looks like in memory ('Rng'), how it is carried over new memory, what one round of 'append' makes of it; its arithmetic lies in YoefawDoorArith. No Go text in it.
-/
import Derived.Test.YoefawDoorRows
import Derived.Test.YoefawDoorArith
import Derived.WalkKit
namespace Go.Proofs.YoefawDoor
open Go.RowKit

/-- An element: an interface value of the type 'tP' (a pointer to an int object) that points to the head of block b. -/
def elem (tP : TypeId) (b : Nat) : Value := .iface tP (.pointer (some ⟨b, 0, none⟩))

/-- THE ARRAY OBJECT AT BLOCK g: its one cell holds the slice v; v owns a row of elements; the k-th points to block bs[k], which holds the int f k. -/
structure Rng (tA tO tP tI : TypeId) (w : World) (g : Nat) (v : Value) (bs : List Nat) (f : Nat → Int) : Prop where
  arr : w.heap[g]? = some (.cells #[v] tA (0, 0))
  own : w.ownsRow (g + 1) tO 1 v bs.length (bs.map (elem tP))
  int : ∀ (k b : Nat), bs[k]? = some b → g < b ∧ w.heap[b]? = some (.cells #[.int .i64 (f k)] tI (0, 0))

theorem heap_setCell_own (w : World) (g : Nat) (c v : Value) (t : TypeId) (h : w.heap[g]? = some (.cells #[c] t (0, 0))) :
    (w.setCell ⟨g, 0, none⟩ v).heap[g]? = some (.cells #[v] t (0, 0)) := by
  unfold World.setCell
  simp [Array.getElem?_modify, h]

theorem cell_of_heap (w : World) (g : Nat) (v : Value) (t : TypeId) (h : w.heap[g]? = some (.cells #[v] t (0, 0))) : w.cell? ⟨g, 0, none⟩ = some v := by
  simp [World.cell?, h]

theorem frozen_of_heap (w : World) (g : Nat) (v : Value) (t : TypeId) (h : w.heap[g]? = some (.cells #[v] t (0, 0))) : w.frozen? ⟨g, 0, none⟩ = false := by
  simp [World.frozen?, h]

theorem heap_lt {w : World} {g : Nat} {o : Obj} (h : w.heap[g]? = some o) : g < w.heap.size := (Array.getElem?_eq_some_iff.1 h).1

theorem Rng.cell {tA tO tP tI : TypeId} {w : World} {g : Nat} {v : Value} {bs : List Nat} {f : Nat → Int} (h : Rng tA tO tP tI w g v bs f) : w.cell? ⟨g, 0, none⟩ = some v := cell_of_heap w g v tA h.arr
theorem Rng.frozen {tA tO tP tI : TypeId} {w : World} {g : Nat} {v : Value} {bs : List Nat} {f : Nat → Int} (h : Rng tA tO tP tI w g v bs f) : w.frozen? ⟨g, 0, none⟩ = false := frozen_of_heap w g v tA h.arr
theorem Rng.lt {tA tO tP tI : TypeId} {w : World} {g : Nat} {v : Value} {bs : List Nat} {f : Nat → Int} (h : Rng tA tO tP tI w g v bs f) : g < w.heap.size := heap_lt h.arr

/-- The row that the slice owns is none of the other blocks that the array leads to. -/
theorem Rng.row_ne {tA tO tP tI : TypeId} {w : World} {g : Nat} {v : Value} {bs : List Nat} {f : Nat → Int} (h : Rng tA tO tP tI w g v bs f) : some g ≠ v.ownBlock := by
  intro e
  have := (h.own.lt g e.symm).1
  omega

theorem own_heap {w : World} {base : Nat} {t : TypeId} {v : Value} {n r : Nat} {xs : List Value} (h : w.ownsRow base t 1 v n xs) (hr : v.ownBlock = some r) : ∃ cur, w.heap[r]? = some (.cells cur t (0, 0)) := by
  rcases h.2 with ⟨rfl, _⟩ | ⟨g, cap, cur, rfl, _, hg, _⟩
  · simp [Value.ownBlock] at hr
  · simp [Value.ownBlock] at hr
    subst hr
    exact ⟨cur, hg⟩

/-- A block that holds an int is not the row that the slice owns: their types part them. -/
theorem int_ne {tO tI : TypeId} (hOI : tO ≠ tI) {w : World} {base : Nat} {v : Value} {n b : Nat} {xs : List Value} {c : Array Value} (h : w.ownsRow base tO 1 v n xs) (hb : w.heap[b]? = some (.cells c tI (0, 0))) : some b ≠ v.ownBlock := by
  intro e
  obtain ⟨cur, hr⟩ := own_heap h e.symm
  rw [hb] at hr
  simp at hr
  exact hOI hr.2.symm

/-- 'Rng' speaks of the blocks of its own world alone: a world in which they are as they were has it too. -/
theorem Rng.mono {tA tO tP tI : TypeId} {w w' : World} {g : Nat} {v : Value} {bs : List Nat} {f : Nat → Int} (h : Rng tA tO tP tI w g v bs f) (hb : Below w.heap.size w w') : Rng tA tO tP tI w' g v bs f := by
  refine ⟨(hb.block g h.lt).trans h.arr, ?_, fun k b hk => ⟨(h.int k b hk).1, (hb.block b (heap_lt (h.int k b hk).2)).trans (h.int k b hk).2⟩⟩
  refine ⟨h.own.1, ?_⟩
  rcases h.own.2 with hn | ⟨r, cap, cur, hv, hbr, hr, rest⟩
  · exact .inl hn
  · exact .inr ⟨r, cap, cur, hv, hbr, (hb.block r (heap_lt hr)).trans hr, rest⟩

theorem own_slice {w : World} {base : Nat} {t : TypeId} {v : Value} {n : Nat} {xs : List Value} (h : w.ownsRow base t 1 v n xs) : ∃ a c, v = .slice a n c := by
  rcases h.2 with ⟨hv, hn⟩ | ⟨r, cap, cur, hv, _⟩
  · exact ⟨none, 0, by rw [hv, hn]⟩
  · exact ⟨_, _, hv⟩

/-- What the slice of an array of ints reads as. -/
theorem Rng.slice {tA tO tP tI : TypeId} {w : World} {g : Nat} {v : Value} {bs : List Nat} {f : Nat → Int} (h : Rng tA tO tP tI w g v bs f) :
    ∃ a c, v = .slice a bs.length c := own_slice h.own

/-- The k-th element. -/
theorem Rng.get {tA tO tP tI : TypeId} {w : World} {g : Nat} {v : Value} {bs : List Nat} {f : Nat → Int} (h : Rng tA tO tP tI w g v bs f) (k : Nat) (hk : k < bs.length) :
    ∃ r c, v = .slice (some ⟨r, 0, none⟩) bs.length c ∧ w.cell? ⟨r, k, none⟩ = some (.iface tP (.pointer (some ⟨bs[k], 0, none⟩))) ∧ w.cell? ⟨bs[k], 0, none⟩ = some (.int .i64 (f k)) := by
  have hi := (h.int k bs[k] (List.getElem?_eq_getElem hk)).2
  have ho := h.own
  rcases h.own.2 with ⟨hv, hn⟩ | ⟨r, cap, cur, hv, _⟩
  · omega
  · rw [hv] at ho
    refine ⟨r, cap, hv, ?_, cell_of_heap _ _ _ _ hi⟩
    rw [ho.cellAt k (by omega), List.getElem?_map, List.getElem?_eq_getElem hk]
    rfl

/-- An array object that has just been made. -/
theorem Rng.nil (tA tO tP tI : TypeId) (w : World) (f : Nat → Int) : Rng tA tO tP tI (w.alloc (.cells #[.slice none 0 0] tA)) w.heap.size (.slice none 0 0) [] f :=
  ⟨heap_alloc_new w _, World.ownsRow_nil _ _ _ _, fun k b hk => by simp at hk⟩

/-- ONE ROUND: a new int object, a row of one element that points to it, the append, the store into the array. -/
theorem Rng.round {tA tO tP tI : TypeId} (hOI : tO ≠ tI) {w wr w1 : World} {B g : Nat} {v v' : Value} {bs : List Nat} {f : Nat → Int} {x : Int} (h : Rng tA tO tP tI wr g v bs f) (hx : f bs.length = x) (hB : Below B w wr) (hBg : B ≤ g)
    (hown : w1.ownsRow (g + 1) tO 1 v' (bs.length + 1) (bs.map (elem tP) ++ [elem tP wr.heap.size]))
    (hgrow : ((wr.alloc (.cells #[.int .i64 x] tI)).alloc (.cells #[elem tP wr.heap.size] tO)).grownBy w1 v.ownBlock) :
    w1.cell? ⟨g, 0, none⟩ = some v ∧ w1.frozen? ⟨g, 0, none⟩ = false ∧
    Rng tA tO tP tI (w1.setCell ⟨g, 0, none⟩ v') g v' (bs ++ [wr.heap.size]) f ∧ Below B w (w1.setCell ⟨g, 0, none⟩ v') := by
  have hold : ∀ k, k < wr.heap.size → some k ≠ v.ownBlock → w1.heap[k]? = wr.heap[k]? := fun k hk hne =>
    (hgrow.block k (by simp; omega) hne).trans ((Below.heap_alloc _ _ k (by simp; omega)).trans (Below.heap_alloc _ _ k hk))
  have hg : w1.heap[g]? = some (.cells #[v] tA (0, 0)) := (hold g h.lt h.row_ne).trans h.arr
  have hne : some wr.heap.size ≠ v.ownBlock := fun e => by have := (h.own.lt _ e.symm).2; omega
  have hnew : w1.heap[wr.heap.size]? = some (.cells #[.int .i64 x] tI (0, 0)) :=
    (hgrow.block wr.heap.size (by simp; omega) hne).trans ((Below.heap_alloc _ _ _ (by simp)).trans (heap_alloc_new _ _))
  have hset : ∀ k, k ≠ g → (w1.setCell ⟨g, 0, none⟩ v').heap[k]? = w1.heap[k]? := fun k hk => Below.heap_setCell _ _ _ _ hk
  refine ⟨cell_of_heap _ _ _ _ hg, frozen_of_heap _ _ _ _ hg, ⟨heap_setCell_own _ _ _ _ _ hg, ?_, ?_⟩, ?_⟩
  · rw [List.length_append, List.map_append]
    exact ownsRow_setCell_below hown (by show g < g + 1; omega) _
  · intro k b hk
    by_cases hkl : k < bs.length
    · rw [List.getElem?_append_left hkl] at hk
      obtain ⟨hgb, hb⟩ := h.int k b hk
      exact ⟨hgb, (hset b (by omega)).trans ((hold b (heap_lt hb) (int_ne hOI h.own hb)).trans hb)⟩
    · rw [List.getElem?_append_right (by omega)] at hk
      have hk0 : k = bs.length := by
        have := (List.getElem?_eq_some_iff.1 hk).1
        simp at this
        omega
      subst hk0
      simp at hk
      subst hk
      exact ⟨h.lt, by rw [hset _ (by have := h.lt; omega), hnew, hx]⟩
  · refine Below.setCell ?_ (by exact hBg) _
    refine ((hB.alloc (by have := h.lt; omega) _).alloc (by have := h.lt; simp; omega) _).grown hgrow (by have := h.lt; simp; omega) (fun k hk => by have := (h.own.lt k hk).1; omega)

end Go.Proofs.YoefawDoor
