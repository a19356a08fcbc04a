import Derived.Test.Qxb6627989aW1
import Derived.Deep.Strs
namespace Go.Proofs.Qxb6627989a
open Go.ChangeShapes Go.WideShapes Go.Deep

theorem cells9 : Try.prog.cellsOf 9 = 1 := by kernel_rfl

theorem spot_none {w : World} {a : Addr} {v : Value} (h : w.cell? (a.add 0) = some v) : a.spot = none := by
  have := World.cell?_spot h
  simpa [Addr.add] using this

theorem addr_plain {a : Addr} (hs : a.spot = none) : some a = some (⟨a.block, a.off, none⟩ : Addr) := by
  obtain ⟨b, o, s⟩ := a
  cases hs
  rfl

theorem at_plain {w : World} {a : Addr} {k : Nat} {v : Value} (hs : a.spot = none) (h : w.cell? (a.add k) = some v) : w.cell? ⟨a.block, a.off + k, none⟩ = some v := by
  obtain ⟨b, o, s⟩ := a
  cases hs
  rwa [add_plain] at h

/-- A slice of strings, opened. -/
theorem open_SL {H : Type} {enc : TypeId × Value → H} {w : World} {fuel : Nat} {v : Value} {x : DataW H × List MemPlace} (h : DataW.trod enc Try.prog w 0 (fun _ => true) true fuel 22 [v] = some x) : ∃ ao n c S, v = .slice ao n c ∧ SL w 0 ao n S := by
  rcases open_strs Try.underlying22 Try.underlying9 cells9 h with ⟨hcs, _⟩ | ⟨a, len, cap, m, Sx, hcs, _, hl, hm, hmm, _, hx⟩
  · exact ⟨none, 0, 0, fun _ => ByteArray.empty, by simpa using hcs, SL.none _ _ _ _⟩
  simp only [if_true] at hmm
  refine ⟨some a, len, cap, Sx, by simpa using hcs, by omega, a.block, a.off, Nat.zero_le _, fun h0 => addr_plain (spot_none (hx 0 (by omega)).1), fun i hi => ?_⟩
  exact at_plain (spot_none (hx 0 (by omega)).1) (hx i (by omega)).1

end Go.Proofs.Qxb6627989a
