import Derived.Test.Qxb6627924aW4
namespace Go.Proofs.Qxb6627924a
open Go.RowKit

set_option maxHeartbeats 1000000 in
set_option maxRecDepth 100000 in
theorem zz11_any (b0 b2 s3 s4 : Int) (ao : Option Addr) (n c : Nat) (M : Nat → Msu) (w : World) (hM : MS w ao n M) :
    Calls Try.prog 11 #[.int .u8 b0, .slice ao n c, .int .u8 b2, .int .i64 s3, .int .i64 s4] w (ZzPost n M w) := by
  obtain ⟨hm, b, o, hao, hc⟩ := hM
  unfold maxLen at hm
  go_enter Try.func11, Try.ntmps11
  go_wp2
  · go_ret; exact zz_no
  have hn : n ≤ 1048576 := by omega
  go_loop [11, 12] (fun t z => ∃ (x : Int) (k : Nat), 0 ≤ x ∧ x ≤ 1048576 ∧ k ≤ n ∧ t = .int .i64 x ∧ z = .int .i64 k ∧ ∀ j, j < k → (M j).n ≤ 1048576) (fun _ i => n - (intOf i).toNat)
  case atStart => exact ⟨n, 0, by omega, by omega, Nat.zero_le _, rfl, rfl, fun _ h => absurd h (Nat.not_lt_zero _)⟩
  case round =>
    obtain ⟨x, k, hx0, hx1, hk, rfl, rfl, hf⟩ := hrel
    have HF : Hid (∀ j, j < k → (M j).n ≤ 1048576) := hf
    clear hf
    by_cases hlt : k < n
    · obtain rfl := hao (by omega)
      obtain ⟨xa, xn, xc, e1, c0, hxm⟩ : ∃ (xa : Option Addr) (xn xc : Nat), Hid ((M k).n = xn) ∧ w.cell? ⟨b, o + k, none⟩ = some (.slice xa xn xc) ∧ xn ≤ 9223372036854775807 := ⟨_, _, _, rfl, (hc k hlt).1, by have := (hc k hlt).2.1; unfold maxLen at this; omega⟩
      clear hc hao
      go_wp2
      · go_ret; exact zz_no
      · go_ret; exact zz_no
      go_round
      case rel => exact ⟨_, k + 1, by omega, by assumption, by omega, rfl, by go_num, fit_step e1 (by omega) HF⟩
      case measure => simp [intOf] <;> omega
    · obtain rfl : k = n := by omega
      clear hc hao
      go_wp2
      go_ret
      exact ⟨true, rfl, fun _ => ⟨hn, HF.out⟩, rfl⟩

theorem xor128 : ∀ n : Fin 256, bits BinOp.xor IntKind.u8 ((n.val : Nat) : Int) 128 = (((n.val + 128) % 256 : Nat) : Int) := by decide +kernel

theorem xor128_mod (x : Int) : bits BinOp.xor IntKind.u8 (x % 256) 128 = (x + 128) % 256 := by
  have h0 : 0 ≤ x % 256 := by omega
  have h1 : x % 256 < 256 := by omega
  have := xor128 ⟨(x % 256).toNat, by omega⟩
  rw [show (((x % 256).toNat : Nat) : Int) = x % 256 by omega] at this
  rw [this]
  show ((((x % 256).toNat + 128) % 256 : Nat) : Int) = (x + 128) % 256
  omega

end Go.Proofs.Qxb6627924a
