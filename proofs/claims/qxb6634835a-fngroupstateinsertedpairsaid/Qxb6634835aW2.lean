import Derived.Test.Qxb6634835aW1
namespace Go.Proofs.Qxb6634835a
open Go.RowKit

/-- A resource as it reads: its name; the slice of its states. -/
structure Res where
  nm : ByteArray
  ao : Option Addr
  n : Nat
  c : Nat
  S : Nat → ByteArray × ByteArray

/-- A group as it reads: its name; the slice of its states; the slice of its resources. -/
structure Grp where
  nm : ByteArray
  ao : Option Addr
  n : Nat
  c : Nat
  S : Nat → ByteArray × ByteArray
  ra : Option Addr
  rn : Nat
  rc : Nat
  R : Nat → Res

def RS (w : World) (ao : Option Addr) (n : Nat) (R : Nat → Res) : Prop :=
  n ≤ maxLen ∧ ∃ b o, (0 < n → ao = some ⟨b, o, none⟩) ∧ ∀ i, i < n →
    w.cell? ⟨b, o + i * 2, none⟩ = some (.string (R i).nm) ∧ w.cell? ⟨b, o + i * 2 + 1, none⟩ = some (.slice (R i).ao (R i).n (R i).c) ∧ PS w (R i).ao (R i).n (R i).S

def GS (w : World) (ao : Option Addr) (n : Nat) (G : Nat → Grp) : Prop :=
  n ≤ maxLen ∧ ∃ b o, (0 < n → ao = some ⟨b, o, none⟩) ∧ ∀ i, i < n →
    w.cell? ⟨b, o + i * 3, none⟩ = some (.string (G i).nm) ∧ w.cell? ⟨b, o + i * 3 + 1, none⟩ = some (.slice (G i).ao (G i).n (G i).c) ∧
    w.cell? ⟨b, o + i * 3 + 2, none⟩ = some (.slice (G i).ra (G i).rn (G i).rc) ∧ PS w (G i).ao (G i).n (G i).S ∧ RS w (G i).ra (G i).rn (G i).R

/-- Some bool, the same world. -/
def BoolPost (w : World) (e : Ending) (w' : World) : Prop := ∃ b : Bool, e = .returned (.bool b) ∧ w = w'

set_option maxHeartbeats 2000000 in
set_option maxRecDepth 100000 in
theorem tooBig_any (s0 s1 s4 s5 s6 : ByteArray) (ya : Option Addr) (yn yc : Nat) (Y : Nat → ByteArray × ByteArray) (ga : Option Addr) (gn gc : Nat) (G : Nat → Grp) (w : World) (hY : PS w ya yn Y) (hG : GS w ga gn G) :
    Calls Try.prog 6 #[.string s0, .string s1, .slice ya yn yc, .slice ga gn gc, .string s4, .string s5, .string s6] w (BoolPost w) := by
  obtain ⟨hym, yb, yo, hya, hyc⟩ := hY
  obtain ⟨hgm, gb, go, hga, hgc⟩ := hG
  unfold maxLen at hym hgm
  go_enter Try.func6, Try.ntmps6
  go_wp2_with (go_at_call 11; refine (add_any _ _ _ (by omega) (by omega) (by omega)).mono ?_; rintro e w' ⟨n2, b2, rfl, hn20, hn21, rfl⟩; cases b2)
  · go_ret; exact ⟨true, rfl, rfl⟩
  · go_ret; exact ⟨true, rfl, rfl⟩
  · go_ret; exact ⟨true, rfl, rfl⟩
  · go_ret; exact ⟨true, rfl, rfl⟩
  · go_ret; exact ⟨true, rfl, rfl⟩
  go_loop [15, 16, 17] (fun t15 _ t17 => ∃ (n' : Int) (k : Nat), 0 ≤ n' ∧ n' ≤ 1048576 ∧ k ≤ yn ∧ t15 = .int .i64 n' ∧ t17 = .int .i64 k) (fun _ _ i => yn - (intOf i).toNat)
  case atStart => exact ⟨n2, 0, hn20, hn21, Nat.zero_le _, rfl, rfl⟩
  case round =>
    obtain ⟨n', k, hn0, hn1, hk, rfl, rfl⟩ := hrel
    by_cases hlt : k < yn
    · obtain rfl := hya (by omega)
      obtain ⟨c0, c1⟩ := hyc k hlt
      clear hyc hgc hya hga
      go_wp2_with (go_at_call 11; refine (add_any _ _ _ (by omega) (by omega) (by omega)).mono ?_; rintro e w' ⟨n3, b3, rfl, hn30, hn31, rfl⟩; cases b3)
      · go_ret; exact ⟨true, rfl, rfl⟩
      · go_ret; exact ⟨true, rfl, rfl⟩
      · go_ret; exact ⟨true, rfl, rfl⟩
      go_round
      case rel => exact ⟨n3, k + 1, hn30, hn31, by omega, rfl, by go_num⟩
      case measure => simp [intOf]; omega
    · clear hyc hya
      go_wp2
      go_loop [15, 16, 18] (fun t15 _ t18 => ∃ (n' : Int) (k : Nat), 0 ≤ n' ∧ n' ≤ 1048576 ∧ k ≤ gn ∧ t15 = .int .i64 n' ∧ t18 = .int .i64 k) (fun _ _ i => gn - (intOf i).toNat)
      case atStart => exact ⟨n', 0, hn0, hn1, Nat.zero_le _, rfl, rfl⟩
      case round =>
        obtain ⟨n5, i, hn50, hn51, hi, rfl, rfl⟩ := hrel
        by_cases hlti : i < gn
        · obtain rfl := hga (by omega)
          obtain ⟨nm, sa, sn, sc, S, ra, rn, rc, R, c0, c1, c2, hP, hR⟩ : ∃ (nm : ByteArray) (sa : Option Addr) (sn sc : Nat) (S : Nat → ByteArray × ByteArray) (ra : Option Addr) (rn rc : Nat) (R : Nat → Res),
              w.cell? ⟨gb, go + i * 3, none⟩ = some (.string nm) ∧ w.cell? ⟨gb, go + i * 3 + 1, none⟩ = some (.slice sa sn sc) ∧ w.cell? ⟨gb, go + i * 3 + 2, none⟩ = some (.slice ra rn rc) ∧ PS w sa sn S ∧ RS w ra rn R :=
            ⟨_, _, _, _, _, _, _, _, _, hgc i hlti⟩
          clear hgc hga
          go_wp2_with (first
            | (go_at_call 11; refine (add_any _ _ _ (by omega) (by omega) (by omega)).mono ?_; rintro e w' ⟨n3, b3, rfl, hn30, hn31, rfl⟩; cases b3)
            | (go_at_call 12; refine (addStates_any _ _ _ _ _ _ (by omega) (by omega) hP).mono ?_; rintro e w' ⟨n3, b3, rfl, hn30, hn31, rfl⟩; cases b3))
          · go_ret; exact ⟨true, rfl, rfl⟩
          · go_ret; exact ⟨true, rfl, rfl⟩
          · go_ret; exact ⟨true, rfl, rfl⟩
          obtain ⟨hrm, rb, ro, hra, hrc⟩ := hR
          unfold maxLen at hrm
          go_loop [15, 16, 20] (fun t15 _ t20 => ∃ (n' : Int) (k : Nat), 0 ≤ n' ∧ n' ≤ 1048576 ∧ k ≤ rn ∧ t15 = .int .i64 n' ∧ t20 = .int .i64 k) (fun _ _ x => rn - (intOf x).toNat)
          case atStart => exact ⟨n3, 0, hn30, hn31, Nat.zero_le _, rfl, rfl⟩
          case round =>
            obtain ⟨n6, j, hn60, hn61, hj, rfl, rfl⟩ := hrel
            by_cases hltj : j < rn
            · obtain rfl := hra (by omega)
              obtain ⟨r0, r1, hRP⟩ := hrc j hltj
              clear hrc hra
              go_wp2_with (first
                | (go_at_call 11; refine (add_any _ _ _ (by omega) (by omega) (by omega)).mono ?_; rintro e w' ⟨n7, b7, rfl, hn70, hn71, rfl⟩; cases b7)
                | (go_at_call 12; refine (addStates_any _ _ _ _ _ _ (by omega) (by omega) hRP).mono ?_; rintro e w' ⟨n7, b7, rfl, hn70, hn71, rfl⟩; cases b7))
              · go_ret; exact ⟨true, rfl, rfl⟩
              · go_ret; exact ⟨true, rfl, rfl⟩
              · go_ret; exact ⟨true, rfl, rfl⟩
              go_round
              case rel => exact ⟨n7, j + 1, hn70, hn71, by omega, rfl, by go_num⟩
              case measure => simp [intOf]; omega
            · go_wp2
              go_round
              case rel => exact ⟨n6, i + 1, hn60, hn61, by omega, rfl, by go_num⟩
              case measure => simp [intOf]; omega
        · go_wp2
          go_ret
          exact ⟨false, rfl, rfl⟩

end Go.Proofs.Qxb6634835a
