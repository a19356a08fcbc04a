import Derived.Test.Qxb6634835aProg
import Derived.WalkKit
import Derived.WalkSpells
import Derived.WalkLawsBesides
namespace Go.Proofs.Qxb6634835a
open Go.RowKit

set_option maxHeartbeats 400000 in
theorem add_yes (n k : Int) (w : World) (h0 : 0 ≤ n) (h1 : n ≤ 1048576) (hk : k ≤ 1048576 - n) (hk0 : 0 ≤ k) :
    Calls Try.prog 11 #[.int .i64 n, .int .i64 k] w fun e w' => e = .returned (.tuple #[.int .i64 (n + k), .bool true]) ∧ w' = w := by
  have h : ¬ 1048576 - n < k := by omega
  go_enter Try.func11, Try.ntmps11
  go_wp2
  go_ret2
  exact ⟨rfl, rfl⟩

set_option maxHeartbeats 400000 in
theorem add_no (n k : Int) (w : World) (h0 : 0 ≤ n) (h1 : n ≤ 1048576) (hk : 1048576 - n < k) :
    Calls Try.prog 11 #[.int .i64 n, .int .i64 k] w fun e w' => e = .returned (.tuple #[.int .i64 n, .bool false]) ∧ w' = w := by
  go_enter Try.func11, Try.ntmps11
  go_wp2
  go_ret2
  exact ⟨rfl, rfl⟩

/-- What gsAdd and gsAddStates leave: a sum within the bound, some bool, the same world. -/
def SumPost (w : World) (e : Ending) (w' : World) : Prop := ∃ (n' : Int) (b : Bool), e = .returned (.tuple #[.int .i64 n', .bool b]) ∧ 0 ≤ n' ∧ n' ≤ 1048576 ∧ w = w'

/-- gsAdd keeps the sum within the bound, whatever is added. -/
theorem add_any (n k : Int) (w : World) (h0 : 0 ≤ n) (h1 : n ≤ 1048576) (hk0 : 0 ≤ k) :
    Calls Try.prog 11 #[.int .i64 n, .int .i64 k] w (SumPost w) := by
  by_cases hk : 1048576 - n < k
  · exact (add_no n k w h0 h1 hk).mono fun e w' ⟨he, hw⟩ => ⟨n, false, he, h0, h1, hw.symm⟩
  · exact (add_yes n k w h0 h1 (by omega) hk0).mono fun e w' ⟨he, hw⟩ => ⟨n + k, true, he, by omega, by omega, hw.symm⟩

/-- A slice of structs of two strings, read whole: cells 2 i and 2 i + 1 hold the two strings of element i. -/
def PS (w : World) (ao : Option Addr) (n : Nat) (S : Nat → ByteArray × ByteArray) : Prop :=
  n ≤ maxLen ∧ ∃ b o, (0 < n → ao = some ⟨b, o, none⟩) ∧ ∀ i, i < n → w.cell? ⟨b, o + i * 2, none⟩ = some (.string (S i).1) ∧ w.cell? ⟨b, o + i * 2 + 1, none⟩ = some (.string (S i).2)

set_option maxHeartbeats 1000000 in
theorem addStates_any (n : Int) (ao : Option Addr) (m c : Nat) (S : Nat → ByteArray × ByteArray) (w : World) (h0 : 0 ≤ n) (h1 : n ≤ 1048576) (hS : PS w ao m S) :
    Calls Try.prog 12 #[.int .i64 n, .slice ao m c] w (SumPost w) := by
  obtain ⟨hm, b, o, hao, hc⟩ := hS
  unfold maxLen at hm
  go_enter Try.func12, Try.ntmps12
  go_wp2
  go_loop [0, 6, 7] (fun s0 _ s7 => ∃ (n' : Int) (k : Nat), 0 ≤ n' ∧ n' ≤ 1048576 ∧ k ≤ m ∧ s0 = .int .i64 n' ∧ s7 = .int .i64 k) (fun _ _ i => m - (intOf i).toNat)
  case atStart => exact ⟨n, 0, h0, h1, Nat.zero_le _, rfl, rfl⟩
  case round =>
    obtain ⟨n', k, hn0, hn1, hk, rfl, rfl⟩ := hrel
    by_cases hlt : k < m
    · obtain rfl := hao (by omega)
      obtain ⟨c0, c1⟩ := hc k hlt
      clear hc hao
      go_wp2_with (go_at_call 11; refine (add_any _ _ _ (by omega) (by omega) (by omega)).mono ?_; rintro e w' ⟨n2, b2, rfl, hn20, hn21, rfl⟩)
      all_goals first
        | (go_ret2; exact ⟨n2, false, rfl, hn20, hn21, rfl⟩)
        | (go_round
           case rel => exact ⟨n2, k + 1, hn20, hn21, by omega, rfl, by go_num⟩
           case measure => simp [intOf]; omega)
    · go_wp2
      go_ret2
      exact ⟨n', true, rfl, hn0, hn1, rfl⟩

end Go.Proofs.Qxb6634835a
