import Derived.Test.Qxb6627989aProg
import Derived.WalkKit
import Derived.WalkSpells
import Derived.WalkLawsBesides
import Derived.BigRegion
import Derived.Deep.QuietTactic
import Derived.BigQuiet
import Derived.Deep.OwnRows
namespace Go.Proofs.Qxb6627989a
open Go.RowKit

/-- A slice of strings, read whole, its cells in block lo or beyond. -/
def SL (w : World) (lo : Nat) (ao : Option Addr) (n : Nat) (S : Nat → ByteArray) : Prop :=
  n ≤ maxLen ∧ ∃ b o, lo ≤ b ∧ (0 < n → ao = some ⟨b, o, none⟩) ∧ ∀ i, i < n → w.cell? ⟨b, o + i, none⟩ = some (.string (S i))

theorem SL.low {w : World} {lo : Nat} {ao : Option Addr} {n : Nat} {S : Nat → ByteArray} (h : SL w lo ao n S) {l : Nat} (hl : l ≤ lo) : SL w l ao n S := by
  obtain ⟨h0, b, o, h1, h2, h3⟩ := h
  exact ⟨h0, b, o, by omega, h2, h3⟩

theorem SL.below {w w' : World} {lo : Nat} {ao : Option Addr} {n : Nat} {S : Nat → ByteArray} (h : SL w lo ao n S) (hb : Below w.heap.size w w') : SL w' lo ao n S := by
  obtain ⟨h0, b, o, h1, h2, h3⟩ := h
  exact ⟨h0, b, o, h1, h2, fun i hi => (hb.cell (p := ⟨b, o + i, none⟩) (World.block_lt_of_cell? _ _ (h3 i hi))).trans (h3 i hi)⟩

theorem SL.drewN {w : World} {lo : Nat} {ao : Option Addr} {n : Nat} {S : Nat → ByteArray} (h : SL w lo ao n S) (m : Nat) : SL (w.drewN m) lo ao n S := by
  obtain ⟨h0, b, o, h1, h2, h3⟩ := h
  exact ⟨h0, b, o, h1, h2, fun i hi => by simpa using h3 i hi⟩

theorem SL.none (w : World) (lo : Nat) (ao : Option Addr) (S : Nat → ByteArray) : SL w lo ao 0 S := ⟨Nat.zero_le _, lo, 0, Nat.le_refl _, fun h => absurd h (Nat.lt_irrefl _), fun _ h => absurd h (Nat.not_lt_zero _)⟩

theorem SL.take {w : World} {lo : Nat} {ao : Option Addr} {n k : Nat} {S T : Nat → ByteArray} (h : SL w lo ao n S) (hk : k ≤ n) (he : ∀ i, i < k → S i = T i) : SL w lo ao k T := by
  obtain ⟨h0, b, o, h1, h2, h3⟩ := h
  exact ⟨by omega, b, o, h1, fun hp => h2 (by omega), fun i hi => by rw [← he i hi]; exact h3 i (by omega)⟩

theorem info9 : (Try.prog.info? 9).map (fun i => (i.zero, i.size, i.bytes)) = some (some (.string ByteArray.empty), 1, 16) := by kernel_rfl

/-- True; the world is as it was but for draws. -/
def QuietTrue (w : World) (e : Ending) (w' : World) : Prop := e = .returned (.bool true) ∧ ∃ m, w' = w.drewN m

set_option maxHeartbeats 1000000 in
set_option maxRecDepth 100000 in
theorem equal_true (a b : Option Addr) (n ca cb la lb : Nat) (S : Nat → ByteArray) (w : World) (ha : SL w la a n S) (hb : SL w lb b n S) : Calls Try.prog 9 #[.slice a n ca, .slice b n cb] w (QuietTrue w) := by
  obtain ⟨hm, ab, ao, _, haa, hac⟩ := ha
  obtain ⟨_, bb, bo, _, hba, hbc⟩ := hb
  unfold maxLen at hm
  have hne : ((n : Int) != (n : Int)) = false := by simp
  go_enter Try.func9, Try.ntmps9
  go_wp2
  go_loopw [5] (fun s wr => ∃ k : Nat, k ≤ n ∧ s = .int .i64 k ∧ ∃ m, wr = w.drewN m) (fun s _ => n - (intOf s).toNat)
  case atStart => exact ⟨0, Nat.zero_le _, rfl, 0, rfl⟩
  case round =>
    obtain ⟨k, hk, rfl, m, rfl⟩ := hrel
    by_cases hlt : k < n
    · obtain rfl := haa (by omega)
      obtain rfl := hba (by omega)
      have c0 := hac k hlt
      have c1 := hbc k hlt
      have hki : (k : Int) < (n : Int) := by omega
      clear haa hba hac hbc
      go_wp2_with fail
      go_quiet (fail)
      go_wp2
      go_roundw
      case rel => exact ⟨k + 1, by omega, by go_num, _, rfl⟩
      case measure => simp [intOf] <;> omega
    · clear haa hba hac hbc
      go_wp2
      go_ret
      exact ⟨rfl, m, rfl⟩

/-- What the loop of zzClone holds behind k rounds. -/
structure Clone (w wr : World) (n k : Nat) (S : Nat → ByteArray) : Prop where
  below : Below w.heap.size w wr
  row : ∃ V : Nat → Value, wr.rowIs w.heap.size 9 n V ∧ ∀ i, i < k → V i = .string (S i)

theorem clone_start (w : World) (n : Nat) (S : Nat → ByteArray) : Clone w (w.alloc (.cells (madeCells #[.string ByteArray.empty] n) 9)) n 0 S :=
  ⟨(Below.refl _ _).alloc (Nat.le_refl _) _, _, World.rowIs_made w _ n 9, fun _ h => absurd h (Nat.not_lt_zero _)⟩

theorem clone_step {w wr : World} {n k : Nat} {S : Nat → ByteArray} (h : Clone w wr n k S) {u : ByteArray} (hu : S k = u) : Clone w (wr.setCell ⟨w.heap.size, k, none⟩ (.string u)) n (k + 1) S := by
  obtain ⟨h1, V, hV, hd⟩ := h
  refine ⟨h1.setCell (Nat.le_refl _) _, _, hV.set k _, fun i hi => ?_⟩
  show (if i = k then _ else V i) = _
  by_cases e : i = k
  · subst e; rw [if_pos rfl, hu]
  · rw [if_neg e]; exact hd i (by omega)

/-- What zzClone leaves: the same strings, in new memory. -/
def ClonePost (w : World) (n : Nat) (S : Nat → ByteArray) (e : Ending) (w' : World) : Prop := ∃ ao c, e = .returned (.slice ao n c) ∧ n ≤ c ∧ Below w.heap.size w w' ∧ SL w' w.heap.size ao n S

set_option maxHeartbeats 1000000 in
theorem clone_none (n c : Nat) (w : World) : Calls Try.prog 7 #[.slice none n c] w fun e w' => e = .returned (.slice none 0 0) ∧ w = w' := by
  have hnil := Lib.run_eql_slice_nil (P := Try.prog) w 22 9 none n c 0 0 Try.underlying22
  go_enter Try.func7, Try.ntmps7
  go_wp2
  go_ret
  exact ⟨rfl, rfl⟩

set_option maxHeartbeats 1000000 in
set_option maxRecDepth 100000 in
theorem clone_some (a : Addr) (b o n c : Nat) (S : Nat → ByteArray) (w : World) (hn : n ≤ 2097152) (ha : 0 < n → some a = some ⟨b, o, none⟩) (hc : ∀ i, i < n → w.cell? ⟨b, o + i, none⟩ = some (.string (S i))) :
    Calls Try.prog 7 #[.slice (some a) n c] w fun e w' => e = .returned (.slice (some ⟨w.heap.size, 0, none⟩) n n) ∧ Clone w w' n n S := by
  have hnil := Lib.run_eql_slice_nil (P := Try.prog) w 22 9 (some a) n c 0 0 Try.underlying22
  have hmk := run_make_row' (P := Try.prog) 22 9 (.string ByteArray.empty) 16 Try.underlying22 info9 rfl .i64 .i64 n (by omega) (by omega)
  go_enter Try.func7, Try.ntmps7
  go_wp2
  clear hnil hmk
  go_loopw [4] (fun s wr => ∃ k : Nat, k ≤ n ∧ s = .int .i64 k ∧ Clone w wr n k S) (fun s _ => n - (intOf s).toNat)
  case atStart => exact ⟨0, Nat.zero_le _, rfl, clone_start w n S⟩
  case round =>
    obtain ⟨k, hk, rfl, hC⟩ := hrel
    by_cases hlt : k < n
    · obtain rfl : a = ⟨b, o, none⟩ := Option.some.inj (ha (by omega))
      clear ha
      obtain ⟨u, e1, c0⟩ : ∃ u, Hid (S k = u) ∧ wr.cell? ⟨b, o + k, none⟩ = some (.string u) := ⟨_, rfl, (hC.below.cell (p := ⟨b, o + k, none⟩) (World.block_lt_of_cell? _ _ (hc k hlt))).trans (hc k hlt)⟩
      have hki : (k : Int) < (n : Int) := by omega
      obtain ⟨V, hV, _⟩ := hC.row
      have o0 := hV.cell hlt
      have o1 := hV.frozen k
      clear hc hV
      go_wp2
      go_roundw
      case rel => exact ⟨k + 1, by omega, by go_num, clone_step hC e1.out⟩
      case measure => simp [intOf] <;> omega
    · clear hc ha
      obtain rfl : k = n := by omega
      go_wp2
      go_ret
      exact ⟨rfl, hC⟩

theorem clone_any (ao : Option Addr) (n c lo : Nat) (S : Nat → ByteArray) (w : World) (hn : n ≤ 2097152) (h : SL w lo ao n S) : Calls Try.prog 7 #[.slice ao n c] w (ClonePost w n S) := by
  obtain ⟨h0, b, o, _, hao, hc⟩ := h
  cases ao with
  | none =>
    have hn0 : n = 0 := by
      rcases Nat.eq_zero_or_pos n with h | h
      · exact h
      · exact absurd (hao h) (by simp)
    subst hn0
    exact (clone_none 0 c w).mono fun e w' ⟨he, hw⟩ => ⟨none, 0, he, Nat.le_refl _, hw ▸ Below.refl _ _, SL.none _ _ _ _⟩
  | some a =>
    refine (clone_some a b o n c S w hn hao hc).mono fun e w' ⟨he, hC⟩ => ?_
    obtain ⟨V, hV, hd⟩ := hC.row
    exact ⟨_, _, he, Nat.le_refl _, hC.below, h0, w.heap.size, 0, Nat.le_refl _, fun _ => rfl, fun i hi => by rw [Nat.zero_add, hV.cell hi, hd i hi]⟩

end Go.Proofs.Qxb6627989a
