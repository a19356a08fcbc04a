import Derived.Test.Qxb6634835aW4
namespace Go.Proofs.Qxb6634835a
open Go.RowKit

/-- Block b is a row of m cells of type t, none frozen. -/
def Row (w : World) (b t m : Nat) : Prop := ∃ cur : Array Value, w.heap[b]? = some (.cells cur t (0, 0)) ∧ cur.size = m

theorem Row.cell {w : World} {b t m i : Nat} (h : Row w b t m) (hi : i < m) : ∃ v, w.cell? ⟨b, i, none⟩ = some v := by
  obtain ⟨cur, h1, h2⟩ := h
  refine ⟨cur[i]'(by omega), ?_⟩
  simp [World.cell?, h1, Array.getElem?_eq_getElem (show i < cur.size by omega)]

theorem Row.frozen {w : World} {b t m : Nat} (h : Row w b t m) (i : Nat) : w.frozen? ⟨b, i, none⟩ = false := by
  obtain ⟨cur, h1, h2⟩ := h
  simp [World.frozen?, h1]

theorem Row.lt {w : World} {b t m : Nat} (h : Row w b t m) : b < w.heap.size := by
  obtain ⟨cur, h1, h2⟩ := h
  exact (Array.getElem?_eq_some_iff.1 h1).1

theorem Row.made (w : World) (cur : Array Value) (t : TypeId) : Row (w.alloc (.cells cur t)) w.heap.size t cur.size := ⟨cur, heap_alloc_new w _, rfl⟩

theorem Row.setCell {w : World} {b t m : Nat} (h : Row w b t m) (a : Addr) (v : Value) : Row (w.setCell a v) b t m := by
  obtain ⟨cur, h1, h2⟩ := h
  by_cases hb : b = a.block
  · subst hb
    refine ⟨if a.spot.isSome then cur else cur.setIfInBounds a.off v, ?_, ?_⟩
    · simp [World.setCell, Array.getElem?_modify, h1]
    · split <;> simp [h2]
  · exact ⟨cur, by rw [Below.heap_setCell _ _ _ _ hb]; exact h1, h2⟩

theorem Row.below {w w' : World} {b t m B : Nat} (h : Row w b t m) (hb : Below B w w') (hB : b < B) : Row w' b t m := by
  obtain ⟨cur, h1, h2⟩ := h
  exact ⟨cur, (hb.block b hB).trans h1, h2⟩

theorem Row.drew {w : World} {b t m : Nat} (h : Row w b t m) : Row w.drew b t m := h

end Go.Proofs.Qxb6634835a
