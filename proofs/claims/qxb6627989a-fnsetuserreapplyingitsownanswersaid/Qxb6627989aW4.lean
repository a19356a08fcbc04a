import Derived.Test.Qxb6627989aW1
namespace Go.Proofs.Qxb6627989a
open Go.RowKit

/-- Some bool; nothing that was there has turned. -/
def SomeBool (w : World) (e : Ending) (w' : World) : Prop := ∃ b : Bool, e = .returned (.bool b) ∧ Below w.heap.size w w'

theorem lens_cell (w : World) (n0 n1 n2 n3 n4 n5 n6 n7 n8 : Nat) (m0 : n0 ≤ 9223372036854775807) (m1 : n1 ≤ 9223372036854775807) (m2 : n2 ≤ 9223372036854775807) (m3 : n3 ≤ 9223372036854775807) (m4 : n4 ≤ 9223372036854775807) (m5 : n5 ≤ 9223372036854775807)
    (m6 : n6 ≤ 9223372036854775807) (m7 : n7 ≤ 9223372036854775807) (m8 : n8 ≤ 9223372036854775807) (t : TypeId) :
    ∀ k, k < 9 → ∃ z : Nat, z ≤ 9223372036854775807 ∧ (w.alloc (.cells #[.int .i64 n0, .int .i64 n1, .int .i64 n2, .int .i64 n3, .int .i64 n4, .int .i64 n5, .int .i64 n6, .int .i64 n7, .int .i64 n8] t)).cell? ⟨w.heap.size, k, none⟩ = some (.int .i64 (z : Int)) := by
  intro k hk
  match k, hk with
  | 0, _ => exact ⟨n0, m0, by simp⟩
  | 1, _ => exact ⟨n1, m1, by simp⟩
  | 2, _ => exact ⟨n2, m2, by simp⟩
  | 3, _ => exact ⟨n3, m3, by simp⟩
  | 4, _ => exact ⟨n4, m4, by simp⟩
  | 5, _ => exact ⟨n5, m5, by simp⟩
  | 6, _ => exact ⟨n6, m6, by simp⟩
  | 7, _ => exact ⟨n7, m7, by simp⟩
  | 8, _ => exact ⟨n8, m8, by simp⟩

set_option maxHeartbeats 4000000 in
set_option maxRecDepth 100000 in
theorem tooBig_any (a0 a1 a2 a3 a4 a5 a6 a7 a8 : ByteArray) (Ga : Option Addr) (Gn Gc Gl : Nat) (SG : Nat → ByteArray) (ga : Option Addr) (gn gc gl : Nat) (S : Nat → ByteArray) (w : World) (hG : SL w Gl Ga Gn SG) (hg : SL w gl ga gn S) (hGn : Gn ≤ 1048576) (hgn : gn ≤ 1048576)
    (m0 : a0.size ≤ maxLen) (m1 : a1.size ≤ maxLen) (m2 : a2.size ≤ maxLen) (m3 : a3.size ≤ maxLen) (m4 : a4.size ≤ maxLen) (m5 : a5.size ≤ maxLen) (m6 : a6.size ≤ maxLen) (m7 : a7.size ≤ maxLen) (m8 : a8.size ≤ maxLen) :
    Calls Try.prog 6 #[.string a0, .string a1, .string a2, .string a3, .string a4, .string a5, .string a6, .string a7, .string a8, .slice Ga Gn Gc, .slice ga gn gc] w (SomeBool w) := by
  obtain ⟨_, Gb, Go, _, hGa, hGc⟩ := hG
  obtain ⟨_, gb, go, _, hga, hgc⟩ := hg
  unfold maxLen at m0 m1 m2 m3 m4 m5 m6 m7 m8
  by_cases h1 : (65536 : Int) < (Gn : Int)
  · have hd : decide ((65536 : Int) < (Gn : Int)) = true := by simpa using h1
    go_enter Try.func6, Try.ntmps6
    go_wp2
    go_ret
    exact ⟨true, rfl, Below.refl _ _⟩
  have hd : decide ((65536 : Int) < (Gn : Int)) = false := by simpa using h1
  by_cases h2 : (65536 : Int) < (gn : Int)
  · have hd2 : decide ((65536 : Int) < (gn : Int)) = true := by simpa using h2
    go_enter Try.func6, Try.ntmps6
    go_wp2
    go_ret
    exact ⟨true, rfl, Below.refl _ _⟩
  have hd2 : decide ((65536 : Int) < (gn : Int)) = false := by simpa using h2
  go_enter Try.func6, Try.ntmps6
  go_wp2
  have hcl := lens_cell w a0.size a1.size a2.size a3.size a4.size a5.size a6.size a7.size a8.size (by omega) (by omega) (by omega) (by omega) (by omega) (by omega) (by omega) (by omega) (by omega) 31
  have hbw := (Below.refl w.heap.size w).alloc (Nat.le_refl _) (.cells #[.int .i64 (a0.size : Int), .int .i64 (a1.size : Int), .int .i64 (a2.size : Int), .int .i64 (a3.size : Int), .int .i64 (a4.size : Int), .int .i64 (a5.size : Int), .int .i64 (a6.size : Int), .int .i64 (a7.size : Int), .int .i64 (a8.size : Int)] 31)
  generalize w.alloc (.cells #[.int .i64 (a0.size : Int), .int .i64 (a1.size : Int), .int .i64 (a2.size : Int), .int .i64 (a3.size : Int), .int .i64 (a4.size : Int), .int .i64 (a5.size : Int), .int .i64 (a6.size : Int), .int .i64 (a7.size : Int), .int .i64 (a8.size : Int)] 31) = w1 at hcl hbw ⊢
  have hGc1 : ∀ i, i < Gn → w1.cell? ⟨Gb, Go + i, none⟩ = some (.string (SG i)) := fun i hi => (hbw.cell (p := ⟨Gb, Go + i, none⟩) (World.block_lt_of_cell? _ _ (hGc i hi))).trans (hGc i hi)
  have hgc1 : ∀ i, i < gn → w1.cell? ⟨gb, go + i, none⟩ = some (.string (S i)) := fun i hi => (hbw.cell (p := ⟨gb, go + i, none⟩) (World.block_lt_of_cell? _ _ (hgc i hi))).trans (hgc i hi)
  clear hGc hgc hd hd2 m0 m1 m2 m3 m4 m5 m6 m7 m8
  go_loop [24, 25] (fun a b => ∃ (x : Int) (k : Nat), 0 ≤ x ∧ x ≤ 1048576 ∧ k ≤ 9 ∧ a = .int .i64 x ∧ b = .int .i64 k) (fun _ i => 9 - (intOf i).toNat)
  case atStart => exact ⟨0, 0, by omega, by omega, Nat.zero_le _, rfl, rfl⟩
  case round => as_aux_lemma =>
    obtain ⟨x, k, hx0, hx1, hk, rfl, rfl⟩ := hrel
    by_cases hlt : k < 9
    · obtain ⟨z, hz, cz⟩ := hcl k hlt
      clear hcl hGc1 hgc1 hGa hga
      go_wp2
      · go_ret; exact ⟨true, rfl, hbw⟩
      · go_ret; exact ⟨true, rfl, hbw⟩
      go_round
      case rel => exact ⟨_, k + 1, by omega, by assumption, by omega, rfl, by go_num⟩
      case measure => simp [intOf] <;> omega
    · clear hcl
      go_wp2
      · go_ret; exact ⟨true, rfl, hbw⟩
      · go_ret; exact ⟨true, rfl, hbw⟩
      go_loop [24, 26] (fun a b => ∃ (x : Int) (k : Nat), 0 ≤ x ∧ x ≤ 1048576 ∧ k ≤ Gn ∧ a = .int .i64 x ∧ b = .int .i64 k) (fun _ i => Gn - (intOf i).toNat)
      case atStart => exact ⟨_, 0, by omega, by assumption, Nat.zero_le _, rfl, rfl⟩
      case round => as_aux_lemma =>
        obtain ⟨y, j, hy0, hy1, hj, rfl, rfl⟩ := hrel
        by_cases hltj : j < Gn
        · obtain rfl := hGa (by omega)
          have c0 := hGc1 j hltj
          clear hGc1 hgc1 hGa hga
          go_wp2
          · go_ret; exact ⟨true, rfl, hbw⟩
          · go_ret; exact ⟨true, rfl, hbw⟩
          go_round
          case rel => exact ⟨_, j + 1, by omega, by assumption, by omega, rfl, by go_num⟩
          case measure => simp [intOf] <;> omega
        · clear hGc1 hGa
          go_wp2
          go_loop [24, 27] (fun a b => ∃ (x : Int) (k : Nat), 0 ≤ x ∧ x ≤ 1048576 ∧ k ≤ gn ∧ a = .int .i64 x ∧ b = .int .i64 k) (fun _ i => gn - (intOf i).toNat)
          case atStart => exact ⟨_, 0, by omega, by assumption, Nat.zero_le _, rfl, rfl⟩
          case round => as_aux_lemma =>
            obtain ⟨z, l, hz0, hz1, hl, rfl, rfl⟩ := hrel
            by_cases hltl : l < gn
            · obtain rfl := hga (by omega)
              have c0 := hgc1 l hltl
              clear hgc1 hga
              go_wp2
              · go_ret; exact ⟨true, rfl, hbw⟩
              · go_ret; exact ⟨true, rfl, hbw⟩
              go_round
              case rel => exact ⟨_, l + 1, by omega, by assumption, by omega, rfl, by go_num⟩
              case measure => simp [intOf] <;> omega
            · clear hgc1 hga
              go_wp2
              go_ret
              exact ⟨false, rfl, hbw⟩

end Go.Proofs.Qxb6627989a
