import Derived.Test.Qxb6627924aW3
import Derived.Test.Qxb6627924aW4
namespace Go.Proofs.Qxb6627924a
open Go.RowKit

theorem Alike.drop {n : Nat} {M N : Nat → Msu} (h : Alike n M N) (k : Nat) : Alike (n - k) (fun i => M (k + i)) (fun i => N (k + i)) := fun i hi => h (k + i) (by omega)

set_option maxHeartbeats 2000000 in
set_option maxRecDepth 100000 in
theorem finds_any (b0 first fsnc sent : Int) (ao : Option Addr) (n c : Nat) (M : Nat → Msu) (w : World) (hM : MS w ao n M) (hc : n ≤ c) (hg0 : 0 ≤ fsnc) (hg1 : fsnc ≤ 255) :
    Calls Try.prog 3 #[.int .u8 b0, .slice ao n c, .int .u8 first, .int .i64 sent, .int .u8 fsnc] w (TruePost w) := by
  go_enter Try.func3, Try.ntmps3
  go_wp2_with fail
  refine (zz5_any _ _ _ _ _ _ _ M _ hM).mono ?_
  rintro e w' ⟨b, rfl, hF, rfl⟩
  cases b
  · clear hF
    go_wp2
    go_ret
    exact ⟨rfl, Below.refl _ _⟩
  have hF1 : Fits n M := hF rfl
  clear hF
  go_wp2_with fail
  refine (tooBig_any _ _ _ M _ hM hF1).mono ?_
  rintro e w' ⟨b, rfl, rfl⟩
  cases b
  · obtain ⟨hn, hfit⟩ := hF1
    have HF : Hid (∀ i, i < n → (M i).n ≤ 1048576) := hfit
    clear hfit
    by_cases hs0 : sent < 0
    · have hd : decide (sent < 0) = true := by simpa using hs0
      go_wp2
      go_ret
      exact ⟨rfl, Below.refl _ _⟩
    have hd : decide (sent < 0) = false := by simpa using hs0
    by_cases hsn : (n : Int) < sent
    · have hd2 : decide ((n : Int) < sent) = true := by simpa using hsn
      go_wp2
      go_ret
      exact ⟨rfl, Below.refl _ _⟩
    have hd2 : decide ((n : Int) < sent) = false := by simpa using hsn
    by_cases hs127 : (127 : Int) < sent
    · have hd3 : decide ((127 : Int) < sent) = true := by simpa using hs127
      go_wp2
      go_ret
      exact ⟨rfl, Below.refl _ _⟩
    have hd3 : decide ((127 : Int) < sent) = false := by simpa using hs127
    go_wp2_with fail
    refine (clone_any _ _ _ M _ hn HF.out hM).mono ?_
    rintro e w1 ⟨oa, oc, N, rfl, hoc, hb1, hN, hA⟩
    go_wp2_with fail
    refine (new_any _ _ _ _ _ _ _).mono ?_
    rintro e w2 ⟨rfl, hb2⟩
    have hb12 : Below w.heap.size w w2 := hb1.trans (hb2.mono hb1.size)
    have hb3 := hb12.alloc hb12.size (.cells #[.int .u8 b0, .slice ao n c, .int .u8 first, .int .i64 sent] 27)
    have hN2 := (hN.below hb2).below ((Below.refl w2.heap.size w2).alloc (Nat.le_refl _) (.cells #[.int .u8 b0, .slice ao n c, .int .u8 first, .int .i64 sent] 27))
    obtain ⟨r, hr⟩ : ∃ r, ((fsnc - first + 1) % 128).toNat = r := ⟨_, rfl⟩
    have HR : Hid (((fsnc - first + 1) % 128).toNat = r) := hr
    clear hr
    go_wp2_with fail
    refine (since_any _ _ _ _ _ _ _ M _ (by omega) (by omega) (by omega) hc (by exact hM.below hb3) r HR.out).mono ?_
    rintro e w4 ⟨ga, gc, hb4, h⟩
    have hbw : Below w.heap.size w w4 := hb3.trans (hb4.mono hb3.size)
    have hNw := hN2.below hb4
    clear hd hd2 hd3 hN2 hb4 hb3 hb12 hN hb1 hb2
    have a1 : ∀ x : Int, bits BinOp.and IntKind.u8 (x % 256) 127 = x % 128 := fun x => by rw [and127_mod]; omega
    have a2 : bits BinOp.and IntKind.u8 fsnc 127 = fsnc % 128 := by have := a1 fsnc; rwa [show fsnc % 256 = fsnc by omega] at this
    have hr127 : r ≤ 127 := by have := HR.out; omega
    rcases h with ⟨hle, rfl, hgc, hMS⟩ | ⟨hgt, rfl, hgc, hMS⟩
    · go_wp2
      go_loop [15, 16] (fun s15 s16 => ∃ k : Nat, k ≤ r ∧ s16 = .int .i64 k ∧ s15 = .int .i64 (-1)) (fun _ s => r + 1 - (intOf s).toNat)
      case atStart => exact ⟨0, Nat.zero_le _, rfl, rfl⟩
      case round =>
        obtain ⟨k, hk, rfl, rfl⟩ := hrel
        have hks : (k : Int) ≤ sent := by omega
        by_cases hkr : k = r
        · have ht : ((first + (k : Int) - 1) % 128 == fsnc % 128) = true := by have := HR.out; rw [beq_iff_eq]; omega
          subst hkr
          have hkn : k ≤ n := by omega
          clear hk
          go_wp2_with fail
          · refine (same_true _ _ _ _ _ (fun i => M (k + i)) (fun i => N (k + i)) _ hMS (by rw [show n - k = 0 by omega]; exact MS.empty _ _ _) (hA.drop k)).mono ?_
            rintro e w5 ⟨rfl, m, rfl⟩
            go_wp2
            go_ret
            exact ⟨rfl, below_drewN hbw m⟩
          · refine (same_true _ _ _ _ _ (fun i => M (k + i)) (fun i => N (k + i)) _ hMS (hNw.drop hkn) (hA.drop k)).mono ?_
            rintro e w5 ⟨rfl, m, rfl⟩
            go_wp2
            go_ret
            exact ⟨rfl, below_drewN hbw m⟩
        · have ht : ((first + (k : Int) - 1) % 128 == fsnc % 128) = false := by have := HR.out; rw [beq_eq_false_iff_ne]; omega
          go_wp2
          go_round
          case rel => exact ⟨k + 1, by omega, by go_num, rfl⟩
          case measure => simp [intOf] <;> omega
    · go_wp2
      go_loop [15, 16] (fun s15 s16 => ∃ k : Nat, (k : Int) ≤ sent + 1 ∧ s16 = .int .i64 k ∧ s15 = .int .i64 (-1)) (fun _ s => r + 1 - (intOf s).toNat)
      case atStart => exact ⟨0, by omega, rfl, rfl⟩
      case round =>
        obtain ⟨k, hk, rfl, rfl⟩ := hrel
        by_cases hks : (k : Int) ≤ sent
        · have ht : ((first + (k : Int) - 1) % 128 == fsnc % 128) = false := by have := HR.out; rw [beq_eq_false_iff_ne]; omega
          go_wp2
          go_round
          case rel => exact ⟨k + 1, by omega, by go_num, rfl⟩
          case measure => simp [intOf] <;> omega
        · go_wp2_with fail
          refine (same_true _ _ _ _ _ M N _ hMS hNw hA).mono ?_
          rintro e w5 ⟨rfl, m, rfl⟩
          go_wp2
          go_ret
          exact ⟨rfl, below_drewN hbw m⟩
  · go_wp2
    go_ret
    exact ⟨rfl, Below.refl _ _⟩

end Go.Proofs.Qxb6627924a
