import Derived.Test.Qxb6627924aW1
import Derived.Deep.Matrix
namespace Go.Proofs.Qxb6627924a
open Go.ChangeShapes Go.WideShapes Go.Deep

theorem cells5 : Try.prog.cellsOf 5 = 1 := by kernel_rfl
theorem cells33 : Try.prog.cellsOf 33 = 1 := by kernel_rfl

theorem spot_none {w : World} {a : Addr} {v : Value} (h : w.cell? (a.add 0) = some v) : a.spot = none := by
  have := World.cell?_spot h
  simpa [Addr.add] using this

theorem addr_plain {a : Addr} (hs : a.spot = none) : some a = some (⟨a.block, a.off, none⟩ : Addr) := by
  obtain ⟨b, o, s⟩ := a
  cases hs
  rfl

theorem at_plain {w : World} {a : Addr} {k : Nat} {v : Value} (hs : a.spot = none) (h : w.cell? (a.add k) = some v) : w.cell? ⟨a.block, a.off + k, none⟩ = some v := by
  obtain ⟨b, o, s⟩ := a
  cases hs
  rwa [add_plain] at h

/-- A slice of slices of bytes, opened. -/
theorem open_MS {H : Type} {enc : TypeId × Value → H} {w : World} {fuel : Nat} {v : Value} {x : DataW H × List MemPlace} (h : DataW.trod enc Try.prog w 0 (fun _ => true) true fuel 22 [v] = some x) : ∃ ao n c M, v = .slice ao n c ∧ n ≤ c ∧ MS w ao n M := by
  rcases open_int_rows Try.underlying22 Try.underlying33 Try.underlying5 cells33 cells5 h with ⟨hcs, _⟩ | ⟨a, len, cap, A, L, C, Z, hcs, _, hl, hm, _, hx⟩
  · exact ⟨none, 0, 0, fun _ => ⟨none, 0, 0, fun _ => 0⟩, by simpa using hcs, Nat.le_refl _, MS.empty _ _ _⟩
  refine ⟨some a, len, cap, fun i => ⟨A i, L i, C i, fun j => (Z i).getD j 0⟩, by simpa using hcs, hl, by omega, a.block, a.off, fun h0 => addr_plain (spot_none (hx 0 (by omega)).1), fun i hi => ?_⟩
  have hs := spot_none (hx 0 (by omega)).1
  obtain ⟨c0, hLC, hCm, hZ, _, hnone, hsome⟩ := hx i (by omega)
  refine ⟨at_plain hs c0, ?_⟩
  show BS w (A i) (L i) (fun j => (Z i).getD j 0)
  cases hA : A i with
  | none =>
    have := hnone hA
    exact ⟨by omega, 0, 0, fun h => by omega, fun j hj => by omega⟩
  | some a' =>
    obtain ⟨_, hc⟩ := hsome a' hA
    refine ⟨by omega, a'.block, a'.off, fun h0 => addr_plain (spot_none (hc 0 (by omega))), fun j hj => ?_⟩
    exact at_plain (spot_none (hc 0 (by omega))) (hc j (by omega))

end Go.Proofs.Qxb6627924a
