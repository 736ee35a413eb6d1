/-
  THE PLAIN PART OF THE COPY: a slice that owns a row of new elements ('Fresh'), how it is carried over new memory, what one round of 'append' makes of it. No Go text in it.
-/
import Derived.Test.YoefawDoorParts
namespace Go.Proofs.YoefawDoor
open Go.RowKit

/-- THE SLICE v OWNS A ROW OF ELEMENTS; the k-th points to block bs[k], which holds the int f k; the row and those blocks lie at 'base' or behind it. -/
structure Fresh (tO tP tI : TypeId) (w : World) (base : Nat) (v : Value) (bs : List Nat) (f : Nat → Int) : Prop where
  own : w.ownsRow base tO 1 v bs.length (bs.map (elem tP))
  int : ∀ (k b : Nat), bs[k]? = some b → base ≤ b ∧ w.heap[b]? = some (.cells #[.int .i64 (f k)] tI (0, 0))

theorem Fresh.nil (tO tP tI : TypeId) (w : World) (base : Nat) (f : Nat → Int) : Fresh tO tP tI w base (.slice none 0 0) [] f :=
  ⟨World.ownsRow_nil _ _ _ _, fun k b hk => by simp at hk⟩

theorem Fresh.mono {tO tP tI : TypeId} {w w' : World} {base : Nat} {v : Value} {bs : List Nat} {f : Nat → Int} (h : Fresh tO tP tI w base v bs f) (hb : Below w.heap.size w w') : Fresh tO tP tI w' base v bs f := by
  refine ⟨⟨h.own.1, ?_⟩, fun k b hk => ⟨(h.int k b hk).1, (hb.block b (heap_lt (h.int k b hk).2)).trans (h.int k b hk).2⟩⟩
  rcases h.own.2 with hn | ⟨r, cap, cur, hv, hbr, hr, rest⟩
  · exact .inl hn
  · exact .inr ⟨r, cap, cur, hv, hbr, (hb.block r (heap_lt hr)).trans hr, rest⟩

theorem Fresh.slice {tO tP tI : TypeId} {w : World} {base : Nat} {v : Value} {bs : List Nat} {f : Nat → Int} (h : Fresh tO tP tI w base v bs f) : ∃ a c, v = .slice a bs.length c := own_slice h.own

theorem Fresh.get {tO tP tI : TypeId} {w : World} {base : Nat} {v : Value} {bs : List Nat} {f : Nat → Int} (h : Fresh tO tP tI w base v bs f) (k : Nat) (hk : k < bs.length) :
    ∃ r c, v = .slice (some ⟨r, 0, none⟩) bs.length c ∧ w.cell? ⟨r, k, none⟩ = some (.iface tP (.pointer (some ⟨bs[k], 0, none⟩))) ∧ w.cell? ⟨bs[k], 0, none⟩ = some (.int .i64 (f k)) ∧ base ≤ bs[k] := by
  have hi := h.int k bs[k] (List.getElem?_eq_getElem hk)
  have ho := h.own
  rcases h.own.2 with ⟨hv, hn⟩ | ⟨r, cap, cur, hv, _⟩
  · omega
  · rw [hv] at ho
    refine ⟨r, cap, hv, ?_, cell_of_heap _ _ _ _ hi.2, hi.1⟩
    rw [ho.cellAt k (by omega), List.getElem?_map, List.getElem?_eq_getElem hk]
    rfl

theorem Fresh.drewFrom {tO tP tI : TypeId} {w : World} {base base' : Nat} {v : Value} {bs : List Nat} {f : Nat → Int} (h : Fresh tO tP tI w base v bs f) (hb : base' ≤ base) : Fresh tO tP tI w.drew base' v bs f := by
  refine ⟨⟨h.own.1, ?_⟩, fun k b hk => ⟨Nat.le_trans hb (h.int k b hk).1, (h.int k b hk).2⟩⟩
  rcases h.own.2 with hn | ⟨r, cap, cur, hv, hbr, rest⟩
  · exact .inl hn
  · exact .inr ⟨r, cap, cur, hv, Nat.le_trans hb hbr, rest⟩

/-- ONE ROUND: a new int object, a row of one element that points to it, the append. -/
theorem Fresh.round {tO tP tI : TypeId} (hOI : tO ≠ tI) {w wr w1 : World} {base : Nat} {v v' : Value} {bs : List Nat} {f : Nat → Int} {x : Int} (h : Fresh tO tP tI wr base v bs f) (hx : f bs.length = x) (hB : Below base w wr) (hs : base ≤ wr.heap.size)
    (hown : w1.ownsRow base tO 1 v' (bs.length + 1) (bs.map (elem tP) ++ [elem tP wr.heap.size]))
    (hgrow : ((wr.alloc (.cells #[.int .i64 x] tI)).alloc (.cells #[elem tP wr.heap.size] tO)).grownBy w1 v.ownBlock) :
    Fresh tO tP tI w1 base v' (bs ++ [wr.heap.size]) f ∧ Below base w w1 := by
  have hold : ∀ k, k < wr.heap.size → some k ≠ v.ownBlock → w1.heap[k]? = wr.heap[k]? := fun k hk hne =>
    (hgrow.block k (by simp; omega) hne).trans ((Below.heap_alloc _ _ k (by simp; omega)).trans (Below.heap_alloc _ _ k hk))
  have hne : some wr.heap.size ≠ v.ownBlock := fun e => by have := (h.own.lt _ e.symm).2; omega
  have hnew : w1.heap[wr.heap.size]? = some (.cells #[.int .i64 x] tI (0, 0)) :=
    (hgrow.block wr.heap.size (by simp; omega) hne).trans ((Below.heap_alloc _ _ _ (by simp)).trans (heap_alloc_new _ _))
  refine ⟨⟨?_, ?_⟩, ?_⟩
  · rw [List.length_append, List.map_append]
    exact hown
  · intro k b hk
    by_cases hkl : k < bs.length
    · rw [List.getElem?_append_left hkl] at hk
      obtain ⟨hgb, hb⟩ := h.int k b hk
      exact ⟨hgb, (hold b (heap_lt hb) (int_ne hOI h.own hb)).trans hb⟩
    · rw [List.getElem?_append_right (by omega)] at hk
      have hk0 : k = bs.length := by
        have := (List.getElem?_eq_some_iff.1 hk).1
        simp at this
        omega
      subst hk0
      simp at hk
      subst hk
      exact ⟨hs, by rw [hnew, hx]⟩
  · exact ((hB.alloc hs _).alloc (by simp; omega) _).grown hgrow (by simp; omega) (fun k hk => (h.own.lt k hk).1)

end Go.Proofs.YoefawDoor
