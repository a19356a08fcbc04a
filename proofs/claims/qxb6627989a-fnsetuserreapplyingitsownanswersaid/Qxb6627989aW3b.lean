import Derived.Test.Qxb6627989aW1
namespace Go.Proofs.Qxb6627989a
open Go.RowKit

/-- Some bool, the same world; true: the two slices are short. -/
def ZzPost (Gn gn : Nat) (w : World) (e : Ending) (w' : World) : Prop := ∃ b : Bool, e = .returned (.bool b) ∧ (b = true → Gn ≤ 1048576 ∧ gn ≤ 1048576) ∧ w = w'
theorem zz_no {Gn gn : Nat} {w : World} : ZzPost Gn gn w (.returned (.bool false)) w := ⟨false, rfl, fun h => Bool.noConfusion h, rfl⟩

set_option maxHeartbeats 4000000 in
set_option maxRecDepth 100000 in
theorem zz11_any (u v0 v1 v2 v3 v4 v5 v6 us : ByteArray) (lr : Bool) (Ga : Option Addr) (Gn Gc Gl : Nat) (SG : Nat → ByteArray) (ga : Option Addr) (gn gc gl : Nat) (S : Nat → ByteArray) (w : World) (hG : SL w Gl Ga Gn SG) (hg : SL w gl ga gn S) :
    Calls Try.prog 11 #[.string u, .slice Ga Gn Gc, .string v0, .string v1, .string v2, .string v3, .string v4, .string v5, .string v6, .bool lr, .string us, .slice ga gn gc] w (ZzPost Gn gn w) := by
  obtain ⟨hGm, Gb, Go, _, hGa, hGc⟩ := hG
  obtain ⟨hgm, gb, go, _, hga, hgc⟩ := hg
  unfold maxLen at hGm hgm
  go_enter Try.func11, Try.ntmps11
  go_wp2
  · as_aux_lemma => go_ret; exact zz_no
  · as_aux_lemma => go_ret; exact zz_no
  · as_aux_lemma => go_ret; exact zz_no
  have hGn : Gn ≤ 1048576 := by omega
  go_loop [25, 26] (fun a b => ∃ (x : Int) (k : Nat), 0 ≤ x ∧ x ≤ 1048576 ∧ k ≤ Gn ∧ a = .int .i64 x ∧ b = .int .i64 k) (fun _ i => Gn - (intOf i).toNat)
  case atStart => exact ⟨_, 0, by omega, by assumption, Nat.zero_le _, rfl, rfl⟩
  case round => as_aux_lemma =>
    obtain ⟨x, k, hx0, hx1, hk, rfl, rfl⟩ := hrel
    by_cases hlt : k < Gn
    · obtain rfl := hGa (by omega)
      have c0 := hGc k hlt
      clear hGc hGa hgc hga
      go_wp2
      · as_aux_lemma => go_ret; exact zz_no
      · as_aux_lemma => go_ret; exact zz_no
      go_round
      case rel => exact ⟨_, k + 1, by omega, by assumption, by omega, rfl, by go_num⟩
      case measure => simp [intOf] <;> omega
    · clear hGc hGa
      go_wp2
      · as_aux_lemma => go_ret; exact zz_no
      · as_aux_lemma => go_ret; exact zz_no
      · as_aux_lemma => go_ret; exact zz_no
      · as_aux_lemma => go_ret; exact zz_no
      · as_aux_lemma => go_ret; exact zz_no
      · as_aux_lemma => go_ret; exact zz_no
      · as_aux_lemma => go_ret; exact zz_no
      · as_aux_lemma => go_ret; exact zz_no
      · as_aux_lemma => go_ret; exact zz_no
      · as_aux_lemma => go_ret; exact zz_no
      · as_aux_lemma => go_ret; exact zz_no
      · as_aux_lemma => go_ret; exact zz_no
      · as_aux_lemma => go_ret; exact zz_no
      · as_aux_lemma => go_ret; exact zz_no
      · as_aux_lemma => go_ret; exact zz_no
      · as_aux_lemma => go_ret; exact zz_no
      · as_aux_lemma => go_ret; exact zz_no
      · as_aux_lemma => go_ret; exact zz_no
      have hgn : gn ≤ 1048576 := by omega
      go_loop [25, 27] (fun a b => ∃ (x : Int) (k : Nat), 0 ≤ x ∧ x ≤ 1048576 ∧ k ≤ gn ∧ a = .int .i64 x ∧ b = .int .i64 k) (fun _ i => gn - (intOf i).toNat)
      case atStart => exact ⟨_, 0, by omega, by assumption, Nat.zero_le _, rfl, rfl⟩
      case round => as_aux_lemma =>
        obtain ⟨y, j, hy0, hy1, hj, rfl, rfl⟩ := hrel
        by_cases hltj : j < gn
        · obtain rfl := hga (by omega)
          have d0 := hgc j hltj
          clear hgc hga
          go_wp2
          · as_aux_lemma => go_ret; exact zz_no
          · as_aux_lemma => go_ret; exact zz_no
          go_round
          case rel => exact ⟨_, j + 1, by omega, by assumption, by omega, rfl, by go_num⟩
          case measure => simp [intOf] <;> omega
        · clear hgc hga
          go_wp2
          go_ret
          exact ⟨true, rfl, fun _ => ⟨hGn, hgn⟩, rfl⟩

end Go.Proofs.Qxb6627989a
