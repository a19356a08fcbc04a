import Derived.Test.Qxb6634835aMem
import Derived.RegionTactic
import Derived.BigRegion
namespace Go.Proofs.Qxb6634835a
open Go.RowKit

theorem info55 : (Try.prog.info? 55).map (fun i => (i.zero, i.size, i.bytes)) = some (some (.agg #[.string ByteArray.empty, .string ByteArray.empty]), 2, 32) := by kernel_rfl
theorem info57 : (Try.prog.info? 57).map (fun i => (i.zero, i.size, i.bytes)) = some (some (.agg #[.string ByteArray.empty, .string ByteArray.empty]), 2, 32) := by kernel_rfl

/-- 'make([]T, n)', at every world. -/
theorem make_eq (t e : TypeId) (z : Value) (size bytes n : Nat) (ht : Try.prog.underlying t = some (.slice e)) (hi : (Try.prog.info? e).map (fun i => (i.zero, i.size, i.bytes)) = some (some z, size, bytes))
    (hb : bytes * n ≤ 281474976710656) (hn : n ≤ 2097152) (w : World) :
    ∃ cur : Array Value, cur.size = n * size ∧ (Instr.makeSlice t (.int .i64 n) (.int .i64 n)).run Try.prog w = .ok (.slice (some ⟨w.heap.size, 0, none⟩) n n) (w.alloc (.cells cur e)) := by
  obtain ⟨i, hi0, hz0, hz1, hz2⟩ := info_parts hi
  refine ⟨madeCells z.cells (n * i.size), by rw [size_madeCells, hz1], ?_⟩
  have hb' : (bytes : Int) * (n : Int) ≤ 281474976710656 := by
    have h : ((bytes * n : Nat) : Int) ≤ 281474976710656 := by omega
    rwa [Int.natCast_mul] at h
  have := run_make w t e i z ht hi0 hz0 .i64 .i64 n n (by omega) (by omega) (by rw [hz2]; exact hb') (by omega)
  simpa using this

/-- What the loop of gsConvStates holds behind k rounds. -/
structure Conv2 (w wr : World) (t n k : Nat) (S : Nat → ByteArray × ByteArray) : Prop where
  below : Below w.heap.size w wr
  row : Row wr w.heap.size t (n * 2)
  done : ∀ i, i < k → wr.cell? ⟨w.heap.size, i * 2, none⟩ = some (.string (S i).1) ∧ wr.cell? ⟨w.heap.size, i * 2 + 1, none⟩ = some (.string (S i).2)

theorem conv2_start (w : World) (cur : Array Value) (t n : Nat) (S : Nat → ByteArray × ByteArray) (h : cur.size = n * 2) : Conv2 w (w.alloc (.cells cur t)) t n 0 S :=
  ⟨(Below.refl _ _).alloc (Nat.le_refl _) _, h ▸ Row.made w cur t, fun _ hi => absurd hi (Nat.not_lt_zero _)⟩

theorem conv2_step {w wr : World} {t n k : Nat} {S : Nat → ByteArray × ByteArray} (h : Conv2 w wr t n k S) (hk : k < n) {u0 u1 : ByteArray} (hu : S k = (u0, u1)) :
    Conv2 w ((wr.setCell ⟨w.heap.size, k * 2, none⟩ (.string u0)).setCell ⟨w.heap.size, k * 2 + 1, none⟩ (.string u1)) t n (k + 1) S := by
  obtain ⟨v0, hv0⟩ := h.row.cell (i := k * 2) (by omega)
  obtain ⟨v1, hv1⟩ := h.row.cell (i := k * 2 + 1) (by omega)
  refine ⟨(h.below.setCell (Nat.le_refl _) _).setCell (Nat.le_refl _) _, (h.row.setCell _ _).setCell _ _, fun i hi => ?_⟩
  by_cases e : i = k
  · subst e
    refine ⟨?_, ?_⟩
    · rw [World.cell?_setCell_other _ _ _ _ (by simp), World.cell?_setCell_same _ _ _ hv0, hu]
    · rw [World.cell?_setCell_same _ _ _ (by rw [World.cell?_setCell_other _ _ _ _ (by simp)]; exact hv1), hu]
  · obtain ⟨d0, d1⟩ := h.done i (by omega)
    refine ⟨?_, ?_⟩
    · rw [World.cell?_setCell_other _ _ _ _ (by simp <;> omega), World.cell?_setCell_other _ _ _ _ (by simp <;> omega), d0]
    · rw [World.cell?_setCell_other _ _ _ _ (by simp <;> omega), World.cell?_setCell_other _ _ _ _ (by simp <;> omega), d1]

theorem Conv2.drew {w wr : World} {t n k : Nat} {S : Nat → ByteArray × ByteArray} (h : Conv2 w wr t n k S) : Conv2 w wr.drew t n k S := ⟨h.below.drew, h.row, h.done⟩

set_option maxHeartbeats 1000000 in
set_option maxRecDepth 100000 in
theorem convStates_some (a : Addr) (b o n c : Nat) (S : Nat → ByteArray × ByteArray) (w : World) (hn : n ≤ 1048576) (ha : 0 < n → some a = some ⟨b, o, none⟩)
    (hc : ∀ i, i < n → w.cell? ⟨b, o + i * 2, none⟩ = some (.string (S i).1) ∧ w.cell? ⟨b, o + i * 2 + 1, none⟩ = some (.string (S i).2)) :
    Calls Try.prog 15 #[.slice (some a) n c] w fun e w' => e = .returned (.slice (some ⟨w.heap.size, 0, none⟩) n n) ∧ Below w.heap.size w w' ∧ Row w' w.heap.size 55 (n * 2) ∧
      ∀ i, i < n → w'.cell? ⟨w.heap.size, i * 2, none⟩ = some (.string (S i).1) ∧ w'.cell? ⟨w.heap.size, i * 2 + 1, none⟩ = some (.string (S i).2) := by
  have hnil := Lib.run_eql_slice_nil (P := Try.prog) w 31 36 (some a) n c 0 0 Try.underlying31
  obtain ⟨cur, hcur, hmk⟩ := make_eq 50 55 _ 2 32 n Try.underlying50 info55 (by omega) (by omega) w
  go_enter Try.func15, Try.ntmps15
  go_wp2
  have hst := conv2_start w cur 55 n S hcur
  clear hmk hnil hcur
  go_loopw [4] (fun s wr => ∃ k : Nat, k ≤ n ∧ s = .int .i64 k ∧ Conv2 w wr 55 n k S) (fun s _ => n - (intOf s).toNat)
  case atStart => exact ⟨0, Nat.zero_le _, rfl, hst⟩
  case round =>
    obtain ⟨k, hk, rfl, hR⟩ := hrel
    clear hst
    by_cases hlt : k < n
    · obtain rfl : a = ⟨b, o, none⟩ := Option.some.inj (ha (by omega))
      clear ha
      obtain ⟨d0, d1⟩ := hc k hlt
      obtain ⟨u0, u1, HU, q0, q1⟩ : ∃ u0 u1 : ByteArray, Hid (S k = (u0, u1)) ∧ wr.cell? ⟨b, o + k * 2, none⟩ = some (.string u0) ∧ wr.cell? ⟨b, o + k * 2 + 1, none⟩ = some (.string u1) :=
        ⟨(S k).1, (S k).2, rfl, (hR.below.cell (p := ⟨b, o + k * 2, none⟩) (World.block_lt_of_cell? _ _ d0)).trans d0, (hR.below.cell (p := ⟨b, o + k * 2 + 1, none⟩) (World.block_lt_of_cell? _ _ d1)).trans d1⟩
      obtain ⟨v0, hv0⟩ := hR.row.cell (i := k * 2) (by omega)
      obtain ⟨v1, hv1⟩ := hR.row.cell (i := k * 2 + 1) (by omega)
      have f0 := hR.row.frozen (k * 2)
      have f1 := hR.row.frozen (k * 2 + 1)
      have hki : (k : Int) < (n : Int) := by omega
      clear hc d0 d1
      go_wp2_with fail
      go_big_region
      go_wp2
      go_roundw
      case rel => exact ⟨k + 1, by omega, by go_num, (conv2_step hR hlt HU.out).drew⟩
      case measure => simp [intOf] <;> omega
    · clear hc ha
      obtain rfl : k = n := by omega
      go_wp2
      go_ret
      exact ⟨rfl, hR.below, hR.row, hR.done⟩

set_option maxHeartbeats 1000000 in
theorem convStates_nil (n c : Nat) (w : World) : Calls Try.prog 15 #[.slice none n c] w fun e w' => e = .returned (.slice none 0 0) ∧ w = w' := by
  have hnil := Lib.run_eql_slice_nil (P := Try.prog) w 31 36 none n c 0 0 Try.underlying31
  go_enter Try.func15, Try.ntmps15
  go_wp2
  go_ret
  exact ⟨rfl, rfl⟩

set_option maxHeartbeats 1000000 in
set_option maxRecDepth 100000 in
theorem convSystems_some (a : Addr) (b o n c : Nat) (S : Nat → ByteArray × ByteArray) (w : World) (hn : n ≤ 1048576) (ha : 0 < n → some a = some ⟨b, o, none⟩)
    (hc : ∀ i, i < n → w.cell? ⟨b, o + i * 2, none⟩ = some (.string (S i).1) ∧ w.cell? ⟨b, o + i * 2 + 1, none⟩ = some (.string (S i).2)) :
    Calls Try.prog 13 #[.slice (some a) n c] w fun e w' => e = .returned (.slice (some ⟨w.heap.size, 0, none⟩) n n) ∧ Below w.heap.size w w' ∧ Row w' w.heap.size 57 (n * 2) ∧
      ∀ i, i < n → w'.cell? ⟨w.heap.size, i * 2, none⟩ = some (.string (S i).1) ∧ w'.cell? ⟨w.heap.size, i * 2 + 1, none⟩ = some (.string (S i).2) := by
  have hnil := Lib.run_eql_slice_nil (P := Try.prog) w 22 38 (some a) n c 0 0 Try.underlying22
  obtain ⟨cur, hcur, hmk⟩ := make_eq 44 57 _ 2 32 n Try.underlying44 info57 (by omega) (by omega) w
  go_enter Try.func13, Try.ntmps13
  go_wp2
  have hst := conv2_start w cur 57 n S hcur
  clear hmk hnil hcur
  go_loopw [4] (fun s wr => ∃ k : Nat, k ≤ n ∧ s = .int .i64 k ∧ Conv2 w wr 57 n k S) (fun s _ => n - (intOf s).toNat)
  case atStart => exact ⟨0, Nat.zero_le _, rfl, hst⟩
  case round =>
    obtain ⟨k, hk, rfl, hR⟩ := hrel
    clear hst
    by_cases hlt : k < n
    · obtain rfl : a = ⟨b, o, none⟩ := Option.some.inj (ha (by omega))
      clear ha
      obtain ⟨d0, d1⟩ := hc k hlt
      obtain ⟨u0, u1, HU, q0, q1⟩ : ∃ u0 u1 : ByteArray, Hid (S k = (u0, u1)) ∧ wr.cell? ⟨b, o + k * 2, none⟩ = some (.string u0) ∧ wr.cell? ⟨b, o + k * 2 + 1, none⟩ = some (.string u1) :=
        ⟨(S k).1, (S k).2, rfl, (hR.below.cell (p := ⟨b, o + k * 2, none⟩) (World.block_lt_of_cell? _ _ d0)).trans d0, (hR.below.cell (p := ⟨b, o + k * 2 + 1, none⟩) (World.block_lt_of_cell? _ _ d1)).trans d1⟩
      obtain ⟨v0, hv0⟩ := hR.row.cell (i := k * 2) (by omega)
      obtain ⟨v1, hv1⟩ := hR.row.cell (i := k * 2 + 1) (by omega)
      have f0 := hR.row.frozen (k * 2)
      have f1 := hR.row.frozen (k * 2 + 1)
      have hki : (k : Int) < (n : Int) := by omega
      clear hc d0 d1
      go_wp2_with fail
      go_big_region
      go_wp2
      go_roundw
      case rel => exact ⟨k + 1, by omega, by go_num, (conv2_step hR hlt HU.out).drew⟩
      case measure => simp [intOf] <;> omega
    · clear hc ha
      obtain rfl : k = n := by omega
      go_wp2
      go_ret
      exact ⟨rfl, hR.below, hR.row, hR.done⟩

set_option maxHeartbeats 1000000 in
theorem convSystems_nil (n c : Nat) (w : World) : Calls Try.prog 13 #[.slice none n c] w fun e w' => e = .returned (.slice none 0 0) ∧ w = w' := by
  have hnil := Lib.run_eql_slice_nil (P := Try.prog) w 22 38 none n c 0 0 Try.underlying22
  go_enter Try.func13, Try.ntmps13
  go_wp2
  go_ret
  exact ⟨rfl, rfl⟩

/-- A slice of pairs of strings, read whole, its cells in block lo or beyond. -/
def PSat (w : World) (lo : Nat) (ao : Option Addr) (n : Nat) (S : Nat → ByteArray × ByteArray) : Prop :=
  n ≤ maxLen ∧ ∃ b o, lo ≤ b ∧ (0 < n → ao = some ⟨b, o, none⟩) ∧ ∀ i, i < n → w.cell? ⟨b, o + i * 2, none⟩ = some (.string (S i).1) ∧ w.cell? ⟨b, o + i * 2 + 1, none⟩ = some (.string (S i).2)

theorem PSat.toPS {w : World} {lo : Nat} {ao : Option Addr} {n : Nat} {S : Nat → ByteArray × ByteArray} (h : PSat w lo ao n S) : PS w ao n S := by
  obtain ⟨h0, b, o, _, h1, h2⟩ := h
  exact ⟨h0, b, o, h1, h2⟩

theorem PSat.setCell {w : World} {lo : Nat} {ao : Option Addr} {n : Nat} {S : Nat → ByteArray × ByteArray} (h : PSat w lo ao n S) {a : Addr} (ha : a.block < lo) (v : Value) : PSat (w.setCell a v) lo ao n S := by
  obtain ⟨h0, b, o, hlo, h1, h2⟩ := h
  refine ⟨h0, b, o, hlo, h1, fun i hi => ⟨?_, ?_⟩⟩
  · rw [World.cell?_setCell_other _ _ _ _ (fun e => by have := congrArg Addr.block e; simp at this; omega)]; exact (h2 i hi).1
  · rw [World.cell?_setCell_other _ _ _ _ (fun e => by have := congrArg Addr.block e; simp at this; omega)]; exact (h2 i hi).2

theorem PSat.below {w w' : World} {lo : Nat} {ao : Option Addr} {n : Nat} {S : Nat → ByteArray × ByteArray} (h : PSat w lo ao n S) (hb : Below w.heap.size w w') : PSat w' lo ao n S := by
  obtain ⟨h0, b, o, hlo, h1, h2⟩ := h
  refine ⟨h0, b, o, hlo, h1, fun i hi => ⟨?_, ?_⟩⟩
  · rw [hb.cell (p := ⟨b, o + i * 2, none⟩) (World.block_lt_of_cell? _ _ (h2 i hi).1)]; exact (h2 i hi).1
  · rw [hb.cell (p := ⟨b, o + i * 2 + 1, none⟩) (World.block_lt_of_cell? _ _ (h2 i hi).2)]; exact (h2 i hi).2

theorem PSat.mono {w : World} {lo lo' : Nat} {ao : Option Addr} {n : Nat} {S : Nat → ByteArray × ByteArray} (h : PSat w lo ao n S) (hl : lo' ≤ lo) : PSat w lo' ao n S := by
  obtain ⟨h0, b, o, hlo, h1, h2⟩ := h
  exact ⟨h0, b, o, by omega, h1, h2⟩

theorem PS.below {w w' : World} {ao : Option Addr} {n : Nat} {S : Nat → ByteArray × ByteArray} (h : PS w ao n S) (hb : Below w.heap.size w w') : PS w' ao n S := by
  obtain ⟨h0, b, o, h1, h2⟩ := h
  exact (PSat.below (lo := 0) ⟨h0, b, o, Nat.zero_le _, h1, h2⟩ hb).toPS

/-- What gsConvStates leaves: the same pairs, in new memory. -/
def ConvPost (w : World) (n : Nat) (S : Nat → ByteArray × ByteArray) (e : Ending) (w' : World) : Prop := ∃ ao c, e = .returned (.slice ao n c) ∧ Below w.heap.size w w' ∧ PSat w' w.heap.size ao n S

theorem convStates_any (ao : Option Addr) (n c : Nat) (S : Nat → ByteArray × ByteArray) (w : World) (hn : n ≤ 1048576) (h : PS w ao n S) : Calls Try.prog 15 #[.slice ao n c] w (ConvPost w n S) := by
  obtain ⟨h0, b, o, hao, hc⟩ := h
  cases ao with
  | none =>
    have hn0 : n = 0 := by
      rcases Nat.eq_zero_or_pos n with h | h
      · exact h
      · exact absurd (hao h) (by simp)
    subst hn0
    exact (convStates_nil 0 c w).mono fun e w' ⟨he, hw⟩ => ⟨none, 0, he, hw ▸ Below.refl _ _, Nat.zero_le _, w.heap.size, 0, Nat.le_refl _, fun h => absurd h (Nat.lt_irrefl _), fun _ h => absurd h (Nat.not_lt_zero _)⟩
  | some a =>
    exact (convStates_some a b o n c S w hn hao hc).mono fun e w' ⟨he, hb, _, hd⟩ => ⟨some ⟨w.heap.size, 0, none⟩, n, he, hb, h0, w.heap.size, 0, Nat.le_refl _, fun _ => rfl, fun i hi => by simpa using hd i hi⟩

/-- Some slice; nothing that was there has turned. -/
def SlicePost (w : World) (e : Ending) (w' : World) : Prop := ∃ ao n c, e = .returned (.slice ao n c) ∧ Below w.heap.size w w'

theorem convSystems_any (ao : Option Addr) (n c : Nat) (S : Nat → ByteArray × ByteArray) (w : World) (hn : n ≤ 1048576) (h : PS w ao n S) : Calls Try.prog 13 #[.slice ao n c] w (SlicePost w) := by
  obtain ⟨_, b, o, hao, hc⟩ := h
  cases ao with
  | none => exact (convSystems_nil n c w).mono fun e w' ⟨he, hw⟩ => ⟨none, 0, 0, he, hw ▸ Below.refl _ _⟩
  | some a => exact (convSystems_some a b o n c S w hn hao hc).mono fun e w' ⟨he, hb, _, _⟩ => ⟨_, _, _, he, hb⟩

end Go.Proofs.Qxb6634835a
