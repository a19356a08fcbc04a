import Derived.Test.Qxb6627989aW2
namespace Go.Proofs.Qxb6627989a
open Go.RowKit

/-- A request in block pb, cell by cell; no cell of it is frozen. -/
structure Req (w : World) (pb : Nat) (u : ByteArray) (ga : Option Addr) (gn gc : Nat) (v0 v1 v2 v3 v4 v5 v6 : ByteArray) (lr : Bool) : Prop where
  c0 : w.cell? ⟨pb, 0, none⟩ = some (.string u)
  c1 : w.cell? ⟨pb, 1, none⟩ = some (.slice ga gn gc)
  c2 : w.cell? ⟨pb, 2, none⟩ = some (.string v0)
  c3 : w.cell? ⟨pb, 3, none⟩ = some (.string v1)
  c4 : w.cell? ⟨pb, 4, none⟩ = some (.string v2)
  c5 : w.cell? ⟨pb, 5, none⟩ = some (.string v3)
  c6 : w.cell? ⟨pb, 6, none⟩ = some (.string v4)
  c7 : w.cell? ⟨pb, 7, none⟩ = some (.string v5)
  c8 : w.cell? ⟨pb, 8, none⟩ = some (.string v6)
  c9 : w.cell? ⟨pb, 9, none⟩ = some (.bool lr)
  fr : ∀ j, w.frozen? ⟨pb, j, none⟩ = false

section
variable {w w' : World} {pb : Nat} {u : ByteArray} {ga : Option Addr} {gn gc : Nat} {v0 v1 v2 v3 v4 v5 v6 : ByteArray} {lr : Bool}

theorem req_new (w : World) (u : ByteArray) (ga : Option Addr) (gn gc : Nat) (v0 v1 v2 v3 v4 v5 v6 : ByteArray) (lr : Bool) :
    Req (w.alloc (.cells #[.string u, .slice ga gn gc, .string v0, .string v1, .string v2, .string v3, .string v4, .string v5, .string v6, .bool lr] 27)) w.heap.size u ga gn gc v0 v1 v2 v3 v4 v5 v6 lr :=
  ⟨by simp, by simp, by simp, by simp, by simp, by simp, by simp, by simp, by simp, by simp, fun _ => by simp⟩

theorem Req.lt (h : Req w pb u ga gn gc v0 v1 v2 v3 v4 v5 v6 lr) : pb < w.heap.size := World.block_lt_of_cell? _ _ h.c0

theorem Req.of_block (h : Req w pb u ga gn gc v0 v1 v2 v3 v4 v5 v6 lr) (e : w'.heap[pb]? = w.heap[pb]?) : Req w' pb u ga gn gc v0 v1 v2 v3 v4 v5 v6 lr := by
  have hc : ∀ j, w'.cell? ⟨pb, j, none⟩ = w.cell? ⟨pb, j, none⟩ := fun j => World.cell?_of_block (a := ⟨pb, j, none⟩) e
  exact ⟨(hc _).trans h.c0, (hc _).trans h.c1, (hc _).trans h.c2, (hc _).trans h.c3, (hc _).trans h.c4, (hc _).trans h.c5, (hc _).trans h.c6, (hc _).trans h.c7, (hc _).trans h.c8, (hc _).trans h.c9,
    fun j => (World.frozen?_of_block (a := ⟨pb, j, none⟩) e).trans (h.fr j)⟩

theorem Req.below (h : Req w pb u ga gn gc v0 v1 v2 v3 v4 v5 v6 lr) (hb : Below w.heap.size w w') : Req w' pb u ga gn gc v0 v1 v2 v3 v4 v5 v6 lr := h.of_block (hb.block pb h.lt)

theorem Req.grown (h : Req w pb u ga gn gc v0 v1 v2 v3 v4 v5 v6 lr) {q : Nat} (hg : w.grownBy w' (some q)) (hq : pb ≠ q) : Req w' pb u ga gn gc v0 v1 v2 v3 v4 v5 v6 lr :=
  h.of_block (hg.block pb h.lt (fun e => hq (Option.some.inj e)))

/-- A request behind SetUser. -/
theorem Req.set (h : Req w pb u ga gn gc v0 v1 v2 v3 v4 v5 v6 lr) {n : Nat} {S : Nat → ByteArray} {us : ByteArray} {e : Ending} (hp : SetPost w pb n S us e w') :
    ∃ na nc, Req w' pb (userOf us) na (n + 1) nc v0 v1 v2 v3 v4 v5 v6 lr ∧ n + 1 ≤ nc ∧ SL w' w.heap.size na (n + 1) (snoc S n (groupOf us)) := by
  obtain ⟨na, nc, g1, g2, g3⟩ := hp.groups
  refine ⟨na, nc, ⟨hp.userCell, g1, ?_, ?_, ?_, ?_, ?_, ?_, ?_, ?_, fun j => (hp.marks j).trans (h.fr j)⟩, g2, g3⟩
  · rw [hp.rest 2 (by omega) (by omega)]; exact h.c2
  · rw [hp.rest 3 (by omega) (by omega)]; exact h.c3
  · rw [hp.rest 4 (by omega) (by omega)]; exact h.c4
  · rw [hp.rest 5 (by omega) (by omega)]; exact h.c5
  · rw [hp.rest 6 (by omega) (by omega)]; exact h.c6
  · rw [hp.rest 7 (by omega) (by omega)]; exact h.c7
  · rw [hp.rest 8 (by omega) (by omega)]; exact h.c8
  · rw [hp.rest 9 (by omega) (by omega)]; exact h.c9

theorem Req.drewN (h : Req w pb u ga gn gc v0 v1 v2 v3 v4 v5 v6 lr) (m : Nat) : Req (w.drewN m) pb u ga gn gc v0 v1 v2 v3 v4 v5 v6 lr := h.of_block rfl

end

theorem SL.grown {w w' : World} {lo q : Nat} {ao : Option Addr} {n : Nat} {S : Nat → ByteArray} (h : SL w lo ao n S) (hg : w.grownBy w' (some q)) (hq : q < lo) : SL w' lo ao n S := by
  obtain ⟨h0, b, o, h1, h2, h3⟩ := h
  exact ⟨h0, b, o, h1, h2, fun i hi => hg.cell (h3 i hi) (fun e => by simp at e; omega)⟩

/-- A change to block q alone leaves what lies below q. -/
theorem below_of_grown {w w' : World} {q : Nat} (hg : w.grownBy w' (some q)) (hq : q < w.heap.size) : Below q w w' :=
  ⟨hg.os, hg.tape, hg.output, hg.size, fun k hk => hg.block k (by omega) (fun e => by simp at e; omega)⟩

/-- What a slice held before block q was laid, it holds behind changes from q on. -/
theorem SL.later {w w' : World} {lo : Nat} {ao : Option Addr} {n : Nat} {S : Nat → ByteArray} (h : SL w lo ao n S) {B : Nat} (hb : Below B w w') (hB : w.heap.size ≤ B) : SL w' lo ao n S := h.below (hb.mono hB)

end Go.Proofs.Qxb6627989a
