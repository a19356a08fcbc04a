import Derived.Test.Qxb6627924aW3
import Derived.Test.Qxb6627924aW4b
namespace Go.Proofs.Qxb6627924a
open Go.RowKit

theorem Alike.drop2 {n : Nat} {M N : Nat → Msu} (h : Alike n M N) (k : Nat) : Alike (n - k) (fun i => M (k + i)) (fun i => N (k + i)) := fun i hi => h (k + i) (by omega)
theorem Alike.refl (n : Nat) (M : Nat → Msu) : Alike n M M := fun _ _ => ⟨rfl, fun _ _ => rfl⟩

theorem MS.drewN {w : World} {ao : Option Addr} {n : Nat} {M : Nat → Msu} (h : MS w ao n M) (m : Nat) : MS (w.drewN m) ao n M := by
  obtain ⟨h0, b, o, h1, h2⟩ := h
  exact ⟨h0, b, o, h1, fun i hi => ⟨by simpa using (h2 i hi).1, (h2 i hi).2.drewN m⟩⟩

/-- a[1:] -/
theorem MS.tail {w : World} {ao : Option Addr} {n k : Nat} {M : Nat → Msu} (h : MS w ao (n - k) (fun i => M (k + i))) (hk : k + 1 ≤ n) : MS w (ao.map fun x => { block := x.block, off := x.off + 1 }) (n - (k + 1)) (fun i => M (k + 1 + i)) := by
  obtain ⟨h0, b, o, h1, h2⟩ := h
  refine ⟨by omega, b, o + 1, fun hp => ?_, fun i hi => ?_⟩
  · rw [h1 (by omega)]
    rfl
  · have := h2 (1 + i) (by omega)
    simp only [← Nat.add_assoc] at this
    exact this

set_option maxHeartbeats 2000000 in
set_option maxRecDepth 100000 in
theorem advance_any (b0 first sent kk : Int) (ao : Option Addr) (n c : Nat) (M : Nat → Msu) (w : World) (hM : MS w ao n M) (hc : n ≤ c) :
    Calls Try.prog 4 #[.int .u8 b0, .slice ao n c, .int .u8 first, .int .i64 sent, .int .i64 kk] w (TruePost w) := by
  go_enter Try.func4, Try.ntmps4
  go_wp2_with fail
  refine (zz11_any _ _ _ _ _ _ _ M _ hM).mono ?_
  rintro e w' ⟨b, rfl, hF, rfl⟩
  cases b
  · clear hF
    go_wp2
    go_ret
    exact ⟨rfl, Below.refl _ _⟩
  have hF1 : Fits n M := hF rfl
  clear hF
  go_wp2_with fail
  refine (tooBig_any _ _ _ M _ hM hF1).mono ?_
  rintro e w' ⟨b, rfl, rfl⟩
  cases b
  · obtain ⟨hn, hfit⟩ := hF1
    have HF : Hid (∀ i, i < n → (M i).n ≤ 1048576) := hfit
    clear hfit
    by_cases hs0 : sent < 0
    · have hd : decide (sent < 0) = true := by simpa using hs0
      go_wp2
      go_ret
      exact ⟨rfl, Below.refl _ _⟩
    have hd : decide (sent < 0) = false := by simpa using hs0
    by_cases hsn : (n : Int) < sent
    · have hd2 : decide ((n : Int) < sent) = true := by simpa using hsn
      go_wp2
      go_ret
      exact ⟨rfl, Below.refl _ _⟩
    have hd2 : decide ((n : Int) < sent) = false := by simpa using hsn
    by_cases hs127 : (127 : Int) < sent
    · have hd3 : decide ((127 : Int) < sent) = true := by simpa using hs127
      go_wp2
      go_ret
      exact ⟨rfl, Below.refl _ _⟩
    have hd3 : decide ((127 : Int) < sent) = false := by simpa using hs127
    by_cases hk0 : kk < 0
    · have hd4 : decide (kk < 0) = true := by simpa using hk0
      go_wp2
      go_ret
      exact ⟨rfl, Below.refl _ _⟩
    have hd4 : decide (kk < 0) = false := by simpa using hk0
    by_cases hks : sent ≤ kk
    · have hd5 : decide (sent ≤ kk) = true := by simpa using hks
      go_wp2
      go_ret
      exact ⟨rfl, Below.refl _ _⟩
    have hd5 : decide (sent ≤ kk) = false := by simpa using hks
    obtain ⟨k, rfl⟩ := Int.eq_ofNat_of_zero_le (show 0 ≤ kk by omega)
    go_wp2_with fail
    refine (clone_any _ _ _ M _ hn HF.out hM).mono ?_
    rintro e w1 ⟨oa, oc, N, rfl, hoc, hb1, hN, hA⟩
    go_wp2_with fail
    refine (new_any _ _ _ _ _ _ _).mono ?_
    rintro e w2 ⟨rfl, hb2⟩
    have hb12 : Below w.heap.size w w2 := hb1.trans (hb2.mono hb1.size)
    have hb3 := hb12.alloc hb12.size (.cells #[.int .u8 b0, .slice ao n c, .int .u8 first, .int .i64 sent] 27)
    have hN2 := (hN.below hb2).below ((Below.refl w2.heap.size w2).alloc (Nat.le_refl _) (.cells #[.int .u8 b0, .slice ao n c, .int .u8 first, .int .i64 sent] 27))
    clear hd hd2 hd3 hd4 hd5
    -- the first Since
    go_wp2_with fail
    refine (since_any _ _ _ _ _ _ _ M _ (by omega) (by omega) (by omega) hc (by exact hM.below hb3) k (by omega)).mono ?_
    rintro e w4 ⟨ga, gc, hb4, h⟩
    rcases h with ⟨hle, rfl, hgc, hMS⟩ | ⟨hgt, _⟩
    case inr => omega
    have hbw : Below w.heap.size w w4 := hb3.trans (hb4.mono hb3.size)
    have hNw := hN2.below hb4
    have q0 : w4.cell? ⟨w2.heap.size, 0, none⟩ = some (.int .u8 b0) := (hb4.cell (p := ⟨w2.heap.size, 0, none⟩) (by simp)).trans (by simp)
    have q1 : w4.cell? ⟨w2.heap.size, 1, none⟩ = some (.slice ao n c) := (hb4.cell (p := ⟨w2.heap.size, 1, none⟩) (by simp)).trans (by simp)
    have q2 : w4.cell? ⟨w2.heap.size, 2, none⟩ = some (.int .u8 first) := (hb4.cell (p := ⟨w2.heap.size, 2, none⟩) (by simp)).trans (by simp)
    have q3 : w4.cell? ⟨w2.heap.size, 3, none⟩ = some (.int .i64 sent) := (hb4.cell (p := ⟨w2.heap.size, 3, none⟩) (by simp)).trans (by simp)
    have l4 := World.block_lt_of_cell? _ _ q0
    clear hb4 hN2 hb3 hb12 hN hb1 hb2 hle
    -- the second
    go_wp2_with fail
    refine (since_any _ _ _ _ _ _ _ M _ (by omega) (by omega) (by omega) hc (by exact hM.below hbw) (k + 1) (by omega)).mono ?_
    rintro e w5 ⟨ha, hac, hb5, h⟩
    rcases h with ⟨hle, rfl, hgc5, hMS5⟩ | ⟨hgt, _⟩
    case inr => omega
    have hbw5 : Below w.heap.size w w5 := hbw.trans (hb5.mono hbw.size)
    have hNw5 := hNw.below hb5
    have hMSa := hMS.below hb5
    have p0 : w5.cell? ⟨w2.heap.size, 0, none⟩ = some (.int .u8 b0) := (hb5.cell (p := ⟨w2.heap.size, 0, none⟩) l4).trans q0
    have p1 : w5.cell? ⟨w2.heap.size, 1, none⟩ = some (.slice ao n c) := (hb5.cell (p := ⟨w2.heap.size, 1, none⟩) l4).trans q1
    have p2 : w5.cell? ⟨w2.heap.size, 2, none⟩ = some (.int .u8 first) := (hb5.cell (p := ⟨w2.heap.size, 2, none⟩) l4).trans q2
    have p3 : w5.cell? ⟨w2.heap.size, 3, none⟩ = some (.int .i64 sent) := (hb5.cell (p := ⟨w2.heap.size, 3, none⟩) l4).trans q3
    clear hb5 hNw hMS hbw q0 q1 q2 q3 l4 hle
    have x1 := xor128_mod (first + (k : Int))
    -- the third
    go_wp2_with fail
    refine (since_any _ _ _ _ _ _ _ M _ (by omega) (by omega) (by omega) hc (by exact hM.below hbw5) (k + 1) (by omega)).mono ?_
    rintro e w6 ⟨ia, iac, hb6, h⟩
    rcases h with ⟨hle, rfl, hgc6, hMS6⟩ | ⟨hgt, _⟩
    case inr => omega
    have hbw6 : Below w.heap.size w w6 := hbw5.trans (hb6.mono hbw5.size)
    have hNw6 := hNw5.below hb6
    have hMSa6 := hMSa.below hb6
    have hMSb6 := hMS5.below hb6
    clear hb6 hNw5 hMSa hMS5 hbw5 p0 p1 p2 p3 hle x1
    have hnk : k + 1 ≤ n := by omega
    go_wp2_with fail
    refine (same_true _ _ _ _ _ (fun i => M (k + i)) (fun i => N (k + i)) _ hMSa6 (hNw6.drop (by omega)) (hA.drop2 k)).mono ?_
    rintro e w7 ⟨rfl, m7, rfl⟩
    go_wp2_with fail
    · rw [Nat.sub_sub]
      refine (same_true _ _ _ _ _ (fun i => M (k + 1 + i)) (fun i => M (k + 1 + i)) _ (hMSb6.drewN m7) (by rw [show n - (k + 1) = 0 by omega]; exact MS.empty _ _ _) (Alike.refl _ _)).mono ?_
      rintro e w8 ⟨rfl, m8, rfl⟩
      go_wp2_with fail
      refine (same_true _ _ _ _ _ (fun i => M (k + 1 + i)) (fun i => M (k + 1 + i)) _ (hMS6.drewN (m7 + m8)) (hMSb6.drewN (m7 + m8)) (Alike.refl _ _)).mono ?_
      rintro e w9 ⟨rfl, m9, rfl⟩
      go_wp2
      go_ret
      exact ⟨rfl, below_drewN hbw6 _⟩
    · rw [Nat.sub_sub]
      refine (same_true _ _ _ _ _ (fun i => M (k + 1 + i)) (fun i => M (k + 1 + i)) _ (hMSb6.drewN m7) (by exact (hMSa6.tail hnk).drewN m7) (Alike.refl _ _)).mono ?_
      rintro e w8 ⟨rfl, m8, rfl⟩
      go_wp2_with fail
      refine (same_true _ _ _ _ _ (fun i => M (k + 1 + i)) (fun i => M (k + 1 + i)) _ (hMS6.drewN (m7 + m8)) (hMSb6.drewN (m7 + m8)) (Alike.refl _ _)).mono ?_
      rintro e w9 ⟨rfl, m9, rfl⟩
      go_wp2
      go_ret
      exact ⟨rfl, below_drewN hbw6 _⟩
  · go_wp2
    go_ret
    exact ⟨rfl, Below.refl _ _⟩

end Go.Proofs.Qxb6627924a
