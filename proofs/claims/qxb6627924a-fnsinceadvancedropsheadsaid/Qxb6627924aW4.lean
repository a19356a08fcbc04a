import Derived.Test.Qxb6627924aW1
namespace Go.Proofs.Qxb6627924a
open Go.RowKit

/-- What zzBytes lets by. -/
def Fits (n : Nat) (M : Nat → Msu) : Prop := n ≤ 1048576 ∧ ∀ i, i < n → (M i).n ≤ 1048576
def ZzPost (n : Nat) (M : Nat → Msu) (w : World) (e : Ending) (w' : World) : Prop := ∃ b : Bool, e = .returned (.bool b) ∧ (b = true → Fits n M) ∧ w = w'
def BoolPost (w : World) (e : Ending) (w' : World) : Prop := ∃ b : Bool, e = .returned (.bool b) ∧ w = w'

theorem zz_no {n : Nat} {M : Nat → Msu} {w : World} : ZzPost n M w (.returned (.bool false)) w := ⟨false, rfl, fun h => Bool.noConfusion h, rfl⟩

theorem fit_step {M : Nat → Msu} {l q : Nat} (HR : Hid ((M l).n = q)) (hq : q ≤ 1048576) (h : Hid (∀ j, j < l → (M j).n ≤ 1048576)) : ∀ j, j < l + 1 → (M j).n ≤ 1048576 := by
  intro j hj
  rcases Nat.lt_succ_iff_lt_or_eq.1 hj with h1 | h1
  · exact h.out j h1
  · rw [h1, HR.out]; exact hq

set_option maxHeartbeats 1000000 in
set_option maxRecDepth 100000 in
theorem zz5_any (b0 b2 b4 s3 : Int) (ao : Option Addr) (n c : Nat) (M : Nat → Msu) (w : World) (hM : MS w ao n M) :
    Calls Try.prog 5 #[.int .u8 b0, .slice ao n c, .int .u8 b2, .int .i64 s3, .int .u8 b4] w (ZzPost n M w) := by
  obtain ⟨hm, b, o, hao, hc⟩ := hM
  unfold maxLen at hm
  go_enter Try.func5, Try.ntmps5
  go_wp2
  · go_ret; exact zz_no
  have hn : n ≤ 1048576 := by omega
  go_loop [11, 12] (fun t z => ∃ (x : Int) (k : Nat), 0 ≤ x ∧ x ≤ 1048576 ∧ k ≤ n ∧ t = .int .i64 x ∧ z = .int .i64 k ∧ ∀ j, j < k → (M j).n ≤ 1048576) (fun _ i => n - (intOf i).toNat)
  case atStart => exact ⟨n, 0, by omega, by omega, Nat.zero_le _, rfl, rfl, fun _ h => absurd h (Nat.not_lt_zero _)⟩
  case round =>
    obtain ⟨x, k, hx0, hx1, hk, rfl, rfl, hf⟩ := hrel
    have HF : Hid (∀ j, j < k → (M j).n ≤ 1048576) := hf
    clear hf
    by_cases hlt : k < n
    · obtain rfl := hao (by omega)
      obtain ⟨xa, xn, xc, e1, c0, hxm⟩ : ∃ (xa : Option Addr) (xn xc : Nat), Hid ((M k).n = xn) ∧ w.cell? ⟨b, o + k, none⟩ = some (.slice xa xn xc) ∧ xn ≤ 9223372036854775807 := ⟨_, _, _, rfl, (hc k hlt).1, by have := (hc k hlt).2.1; unfold maxLen at this; omega⟩
      clear hc hao
      go_wp2
      · go_ret; exact zz_no
      · go_ret; exact zz_no
      go_round
      case rel => exact ⟨_, k + 1, by omega, by assumption, by omega, rfl, by go_num, fit_step e1 (by omega) HF⟩
      case measure => simp [intOf] <;> omega
    · obtain rfl : k = n := by omega
      clear hc hao
      go_wp2
      go_ret
      exact ⟨true, rfl, fun _ => ⟨hn, HF.out⟩, rfl⟩

set_option maxHeartbeats 1000000 in
set_option maxRecDepth 100000 in
theorem tooBig_any (ao : Option Addr) (n c : Nat) (M : Nat → Msu) (w : World) (hM : MS w ao n M) (hF : Fits n M) : Calls Try.prog 6 #[.slice ao n c] w (BoolPost w) := by
  obtain ⟨_, b, o, hao, hc⟩ := hM
  obtain ⟨hn, hf⟩ := hF
  go_enter Try.func6, Try.ntmps6
  go_wp2
  go_loop [3, 4] (fun t z => ∃ (x : Int) (k : Nat), 0 ≤ x ∧ x ≤ 1048576 ∧ k ≤ n ∧ t = .int .i64 x ∧ z = .int .i64 k) (fun _ i => n - (intOf i).toNat)
  case atStart => exact ⟨0, 0, by omega, by omega, Nat.zero_le _, rfl, rfl⟩
  case round =>
    obtain ⟨x, k, hx0, hx1, hk, rfl, rfl⟩ := hrel
    by_cases hlt : k < n
    · obtain rfl := hao (by omega)
      obtain ⟨xa, xn, xc, c0, hxm⟩ : ∃ (xa : Option Addr) (xn xc : Nat), w.cell? ⟨b, o + k, none⟩ = some (.slice xa xn xc) ∧ xn ≤ 1048576 := ⟨_, _, _, (hc k hlt).1, hf k hlt⟩
      clear hc hao hf
      go_wp2
      · go_ret; exact ⟨true, rfl, rfl⟩
      go_round
      case rel => exact ⟨_, k + 1, by omega, by assumption, by omega, rfl, by go_num⟩
      case measure => simp [intOf] <;> omega
    · obtain rfl : k = n := by omega
      clear hc hao hf
      go_wp2
      go_ret
      exact ⟨false, rfl, rfl⟩

end Go.Proofs.Qxb6627924a
