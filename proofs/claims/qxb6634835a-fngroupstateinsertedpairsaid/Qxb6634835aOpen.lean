import Derived.Test.Qxb6634835aW2
import Derived.Deep.SlicePairs
import Derived.Deep.Strs
namespace Go.Proofs.Qxb6634835a
open Go.ChangeShapes Go.WideShapes Go.Deep

theorem cells9 : Try.prog.cellsOf 9 = 1 := by kernel_rfl
theorem cells31 : Try.prog.cellsOf 31 = 1 := by kernel_rfl
theorem cells32 : Try.prog.cellsOf 32 = 1 := by kernel_rfl
theorem cells36 : Try.prog.cellsOf 36 = 2 := by kernel_rfl
theorem cells38 : Try.prog.cellsOf 38 = 2 := by kernel_rfl
theorem cells40 : Try.prog.cellsOf 40 = 2 := by kernel_rfl
theorem cells34 : Try.prog.cellsOf 34 = 3 := by kernel_rfl

theorem at_plain {w : World} {a : Addr} {k : Nat} {v : Value} (hs : a.spot = none) (h : w.cell? (a.add k) = some v) : w.cell? ⟨a.block, a.off + k, none⟩ = some v := by
  obtain ⟨b, o, s⟩ := a
  cases hs
  rwa [add_plain] at h

theorem spot_none {w : World} {a : Addr} {k : Nat} {v : Value} (h : w.cell? (a.add (0 * k)) = some v) : a.spot = none := by
  have := World.cell?_spot h
  simpa [Addr.add] using this

theorem addr_plain {a : Addr} (hs : a.spot = none) : some a = some (⟨a.block, a.off, none⟩ : Addr) := by
  obtain ⟨b, o, s⟩ := a
  cases hs
  rfl

section
variable {H : Type} {enc : TypeId × Value → H} {w : World}

/-- A slice of structs of two strings, opened. -/
theorem open_PS {t e : TypeId} {f0 f1 : Field} {fuel : Nat} {v : Value} {x : DataW H × List MemPlace} (ht : Try.prog.underlying t = some (.slice e)) (he : Try.prog.underlying e = some (.struct #[f0, f1]))
    (ce : Try.prog.cellsOf e = 2) (o0 : f0.offset = 0) (o1 : f1.offset = 1) (t0 : f0.type = 9) (t1 : f1.type = 9)
    (h : DataW.trod enc Try.prog w 0 (fun _ => true) true fuel t [v] = some x) : ∃ ao n c S, v = .slice ao n c ∧ PS w ao n S := by
  rcases open_slice_pairs ht he ce o0 o1 (by rw [t0]; exact cells9) (by rw [t1]; exact cells9) h with ⟨hcs, _⟩ | ⟨a, len, cap, m, n, V0, V1, D0, D1, P0, P1, hcs, _, hl, hm, hmm, _, hx⟩
  · exact ⟨none, 0, 0, fun _ => (ByteArray.empty, ByteArray.empty), by simpa using hcs, Nat.zero_le _, 0, 0, fun h => absurd h (Nat.lt_irrefl _), fun _ h => absurd h (Nat.not_lt_zero _)⟩
  simp only [if_true] at hmm
  subst hmm
  have each : ∀ i, i < len → ∃ s : ByteArray × ByteArray, w.cell? (a.add (i * 2)) = some (.string s.1) ∧ w.cell? (a.add (i * 2 + 1)) = some (.string s.2) := fun i hi => by
    obtain ⟨g0, g1, g2, g3⟩ := hx i (by omega)
    rw [t0] at g2
    rw [t1] at g3
    obtain ⟨s0, e0, _, _⟩ := DataW.trod_string Try.underlying9 g2
    obtain ⟨s1, e1, _, _⟩ := DataW.trod_string Try.underlying9 g3
    simp at e0 e1
    exact ⟨(s0, s1), by rw [g0, e0], by rw [g1, e1]⟩
  obtain ⟨S, hS⟩ := choose_lt each
  refine ⟨some a, len, m, S, by simpa using hcs, by omega, a.block, a.off, fun h0 => addr_plain (spot_none (hS 0 h0).1), fun i hi => ?_⟩
  have hs := spot_none (hS 0 (by omega)).1
  refine ⟨at_plain hs (hS i hi).1, ?_⟩
  rw [Nat.add_assoc]
  exact at_plain hs (hS i hi).2

/-- A slice of resources, opened. -/
theorem open_RS {fuel : Nat} {v : Value} {x : DataW H × List MemPlace} (h : DataW.trod enc Try.prog w 0 (fun _ => true) true fuel 32 [v] = some x) : ∃ ao n c R, v = .slice ao n c ∧ RS w ao n R := by
  rcases open_slice_pairs Try.underlying32 Try.underlying40 cells40 rfl rfl cells9 cells31 h with ⟨hcs, _⟩ | ⟨a, len, cap, m, n, V0, V1, D0, D1, P0, P1, hcs, _, hl, hm, hmm, _, hx⟩
  · exact ⟨none, 0, 0, fun _ => ⟨ByteArray.empty, none, 0, 0, fun _ => (ByteArray.empty, ByteArray.empty)⟩, by simpa using hcs, Nat.zero_le _, 0, 0, fun h => absurd h (Nat.lt_irrefl _), fun _ h => absurd h (Nat.not_lt_zero _)⟩
  simp only [if_true] at hmm
  subst hmm
  have each : ∀ i, i < len → ∃ r : Res, w.cell? (a.add (i * 2)) = some (.string r.nm) ∧ w.cell? (a.add (i * 2 + 1)) = some (.slice r.ao r.n r.c) ∧ PS w r.ao r.n r.S := fun i hi => by
    obtain ⟨g0, g1, g2, g3⟩ := hx i (by omega)
    obtain ⟨s0, e0, _, _⟩ := DataW.trod_string Try.underlying9 g2
    obtain ⟨ao, k, c, S, e1, hP⟩ := open_PS Try.underlying31 Try.underlying36 cells36 rfl rfl rfl rfl g3
    simp at e0
    exact ⟨⟨s0, ao, k, c, S⟩, by rw [g0, e0], by rw [g1, e1], hP⟩
  haveI : Inhabited Res := ⟨⟨ByteArray.empty, none, 0, 0, fun _ => (ByteArray.empty, ByteArray.empty)⟩⟩
  obtain ⟨R, hR⟩ := choose_lt each
  refine ⟨some a, len, m, R, by simpa using hcs, by omega, a.block, a.off, fun h0 => addr_plain (spot_none (hR 0 h0).1), fun i hi => ?_⟩
  have hs := spot_none (hR 0 (by omega)).1
  refine ⟨at_plain hs (hR i hi).1, ?_, (hR i hi).2.2⟩
  rw [Nat.add_assoc]
  exact at_plain hs (hR i hi).2.1

/-- A slice of groups, opened. -/
theorem open_GS {fuel : Nat} {v : Value} {x : DataW H × List MemPlace} (h : DataW.trod enc Try.prog w 0 (fun _ => true) true fuel 23 [v] = some x) : ∃ ao n c G, v = .slice ao n c ∧ GS w ao n G := by
  rcases open_slice Try.underlying23 h with ⟨hcs, _⟩ | ⟨a, len, cap, m, n, D, Pl, hcs, _, hl, hm, hmm, _, hx⟩
  · exact ⟨none, 0, 0, fun _ => ⟨ByteArray.empty, none, 0, 0, fun _ => (ByteArray.empty, ByteArray.empty), none, 0, 0, fun _ => ⟨ByteArray.empty, none, 0, 0, fun _ => (ByteArray.empty, ByteArray.empty)⟩⟩, by simpa using hcs, Nat.zero_le _, 0, 0,
      fun h => absurd h (Nat.lt_irrefl _), fun _ h => absurd h (Nat.not_lt_zero _)⟩
  simp only [if_true] at hmm
  subst hmm
  rw [cells34] at hx
  have each : ∀ i, i < len → ∃ g : Grp, w.cell? (a.add (i * 3)) = some (.string g.nm) ∧ w.cell? (a.add (i * 3 + 1)) = some (.slice g.ao g.n g.c) ∧ w.cell? (a.add (i * 3 + 2)) = some (.slice g.ra g.rn g.rc) ∧ PS w g.ao g.n g.S ∧ RS w g.ra g.rn g.R := fun i hi => by
    obtain ⟨cs', g0, g1⟩ := hx i (by omega)
    obtain ⟨_, hlen, hcell⟩ := World.cells?_some g0
    obtain ⟨y0, y1, y2, k, _, _, z0, z1, z2⟩ := trod_struct3 Try.underlying34 g1
    match cs', hlen with
    | [v0, v1, v2], _ =>
      simp [cells9, cells31, cells32] at z0 z1 z2
      obtain ⟨s0, e0, _, _⟩ := DataW.trod_string Try.underlying9 z0
      obtain ⟨ao, k1, c1, S, e1, hP⟩ := open_PS Try.underlying31 Try.underlying36 cells36 rfl rfl rfl rfl z1
      obtain ⟨ra, rn, rc, R, e2, hR⟩ := open_RS z2
      have w0 := hcell 0 (by omega)
      have w1 := hcell 1 (by omega)
      have w2 := hcell 2 (by omega)
      rw [add_add] at w0 w1 w2
      simp at e0 w0 w1 w2
      exact ⟨⟨s0, ao, k1, c1, S, ra, rn, rc, R⟩, by rw [w0, e0], by rw [w1, e1], by rw [w2, e2], hP, hR⟩
  haveI : Inhabited Grp := ⟨⟨ByteArray.empty, none, 0, 0, fun _ => (ByteArray.empty, ByteArray.empty), none, 0, 0, fun _ => ⟨ByteArray.empty, none, 0, 0, fun _ => (ByteArray.empty, ByteArray.empty)⟩⟩⟩
  obtain ⟨G, hG⟩ := choose_lt each
  refine ⟨some a, len, m, G, by simpa using hcs, by omega, a.block, a.off, fun h0 => addr_plain (spot_none (hG 0 h0).1), fun i hi => ?_⟩
  obtain ⟨d0, d1, d2, d3, d4⟩ := hG i hi
  have hs := spot_none (hG 0 (by omega)).1
  refine ⟨at_plain hs d0, ?_, ?_, d3, d4⟩
  · rw [Nat.add_assoc]; exact at_plain hs d1
  · rw [Nat.add_assoc]; exact at_plain hs d2

end
end Go.Proofs.Qxb6634835a
