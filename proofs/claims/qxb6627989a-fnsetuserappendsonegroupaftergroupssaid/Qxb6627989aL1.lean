import Derived.Test.Qxb6627989aReq
import Derived.Test.Qxb6627989aW3
import Derived.Test.Qxb6627989aW4
namespace Go.Proofs.Qxb6627989a
open Go.RowKit

/-- The law returns true; nothing that was there has turned. -/
def TruePost (w : World) (e : Ending) (w' : World) : Prop := e = .returned (.bool true) ∧ Below w.heap.size w w'

set_option maxHeartbeats 4000000 in
set_option maxRecDepth 100000 in
theorem appends_any (u v0 v1 v2 v3 v4 v5 v6 us : ByteArray) (lr : Bool) (Ga : Option Addr) (Gn Gc : Nat) (SG : Nat → ByteArray) (ga : Option Addr) (gn gc : Nat) (S : Nat → ByteArray) (w : World) (hG : SL w 0 Ga Gn SG) (hg : SL w 0 ga gn S)
    (mu : u.size ≤ maxLen) (m0 : v0.size ≤ maxLen) (m1 : v1.size ≤ maxLen) (m2 : v2.size ≤ maxLen) (m3 : v3.size ≤ maxLen) (m4 : v4.size ≤ maxLen) (m5 : v5.size ≤ maxLen) (m6 : v6.size ≤ maxLen) (ms : us.size ≤ maxLen) :
    Calls Try.prog 3 #[.string u, .slice Ga Gn Gc, .string v0, .string v1, .string v2, .string v3, .string v4, .string v5, .string v6, .bool lr, .string us, .slice ga gn gc] w (TruePost w) := by
  go_enter Try.func3, Try.ntmps3
  go_wp2_with fail
  refine (zz5_any _ _ _ _ _ _ _ _ _ _ _ _ _ _ SG _ _ _ _ S _ hG hg).mono ?_
  rintro e w' ⟨b, rfl, hF, rfl⟩
  cases b
  · clear hF
    go_wp2
    go_ret
    exact ⟨rfl, Below.refl _ _⟩
  obtain ⟨hGn, hgn⟩ := hF rfl
  clear hF
  go_wp2_with fail
  refine (tooBig_any _ _ _ _ _ _ _ _ _ _ _ _ _ SG _ _ _ _ S _ hG hg hGn hgn mu m0 m1 m2 m3 m4 m5 m6 ms).mono ?_
  rintro e wt ⟨b, rfl, hbt⟩
  have hGt := hG.below hbt
  have hgt := hg.below hbt
  cases b
  · -- the clones and the two requests
    go_wp2_with fail
    refine (clone_any _ _ _ _ S _ (by omega) hgt).mono ?_
    rintro e w1 ⟨ga1, gc1, rfl, hgc1, hb1, hs1⟩
    go_wp2_with fail
    refine (clone_any _ _ _ _ SG _ (by omega) (hGt.below hb1)).mono ?_
    rintro e w2 ⟨Ga2, Gc2, rfl, hGc2, hb2, hs2⟩
    go_wp2_with fail
    have hr1 := req_new w2 u Ga2 Gn Gc2 v0 v1 v2 v3 v4 v5 v6 lr
    have hb2a : Below w2.heap.size w2 (w2.alloc (.cells #[.string u, .slice Ga2 Gn Gc2, .string v0, .string v1, .string v2, .string v3, .string v4, .string v5, .string v6, .bool lr] 27)) := (Below.refl _ _).alloc (Nat.le_refl _) _
    generalize w2.alloc (.cells #[.string u, .slice Ga2 Gn Gc2, .string v0, .string v1, .string v2, .string v3, .string v4, .string v5, .string v6, .bool lr] 27) = w2a at hr1 hb2a ⊢
    refine (clone_any _ _ _ _ SG _ (by omega) (((hGt.below hb1).below hb2).below hb2a)).mono ?_
    rintro e w3 ⟨Ga3, Gc3, rfl, hGc3, hb3, hs3⟩
    go_wp2_with fail
    have hr2 := req_new w3 u Ga3 Gn Gc3 v0 v1 v2 v3 v4 v5 v6 lr
    have hb3a : Below w3.heap.size w3 (w3.alloc (.cells #[.string u, .slice Ga3 Gn Gc3, .string v0, .string v1, .string v2, .string v3, .string v4, .string v5, .string v6, .bool lr] 27)) := (Below.refl _ _).alloc (Nat.le_refl _) _
    generalize w3.alloc (.cells #[.string u, .slice Ga3 Gn Gc3, .string v0, .string v1, .string v2, .string v3, .string v4, .string v5, .string v6, .bool lr] 27) = w3a at hr2 hb3a ⊢
    have hr1a := (hr1.below hb3).below hb3a
    have hlt12 : w2.heap.size < w3.heap.size := Nat.lt_of_lt_of_le hr1.lt hb3.size
    -- below the first request nothing turns from here on
    have hlow : Below w2.heap.size w2 w3a := (hb2a.trans (hb3.mono hb2a.size)).trans (hb3a.mono (Nat.le_of_lt hlt12))
    have hs1a := (hs1.below hb2).later hlow (Nat.le_refl _)
    have hlt3 := hr2.lt
    clear hr1 hb3 hb3a hb2a hs2 hs3
    generalize hp1 : w2.heap.size = p1 at *
    generalize hp2 : w3.heap.size = p2 at *
    refine (setUser_any p1 gn gc1 _ ga1 S us w3a _ _ (by omega) hgc1 hs1a hr1a.c0 hr1a.c1 (hr1a.fr 0) (hr1a.fr 1)).mono ?_
    intro e w4 hset1
    obtain rfl := hset1.ret
    obtain ⟨na1, nc1, hq1, hnc1, hsl1⟩ := hr1a.set hset1
    have hr2a := hr2.grown hset1.grown (by omega)
    have hlow4 : Below p1 w2 w4 := hlow.trans (below_of_grown hset1.grown (by omega))
    have hsz4 : w3a.heap.size ≤ w4.heap.size := hset1.grown.size
    clear hset1 hr1a hr2 hlow hs1a
    go_wp2_with fail
    refine (setUser_any p2 0 0 0 none S us w4 _ _ (by omega) (Nat.le_refl _) (SL.none _ _ _ _) hr2a.c0 hr2a.c1 (hr2a.fr 0) (hr2a.fr 1)).mono ?_
    intro e w5 hset2
    obtain rfl := hset2.ret
    obtain ⟨na2, nc2, hq2, hnc2, hsl2⟩ := hr2a.set hset2
    have hq1a := hq1.grown hset2.grown (by omega)
    have hsl1a := hsl1.grown hset2.grown hlt3
    have hlow5 : Below p1 w2 w5 := hlow4.trans ((below_of_grown hset2.grown hr2a.lt).mono (by omega))
    have hgs5 := (hs1.below hb2).later hlow5 (by omega)
    have hgr5 := ((hgt.below hb1).below hb2).later hlow5 (by omega)
    have hb12 : Below w.heap.size w w2 := (hbt.trans (hb1.mono hbt.size)).trans (hb2.mono (Nat.le_trans hbt.size hb1.size))
    have hbw5 : Below w.heap.size w w5 := hb12.trans (hlow5.mono (by have := hb12.size; omega))
    clear hset2 hr2a hq1 hsl1 hlow4 hlow5 hs1 hgt hGt hb12 hb1 hb2 hbt hsz4 hlt3 hlt12 hg hG mu m0 m1 m2 m3 m4 m5 m6 ms hp1 hp2 hGc2 hGc3
    obtain ⟨_, b1, o1, _, hna1, hc1⟩ := hsl1a
    obtain ⟨_, b2, o2, _, hna2, hc2⟩ := hsl2
    obtain rfl := hna1 (by omega)
    obtain rfl := hna2 (by omega)
    have HS1 : Hid (∀ i, i < gn + 1 → w5.cell? ⟨b1, o1 + i, none⟩ = some (.string (snoc S gn (groupOf us) i))) := hc1
    have cg1 : w5.cell? ⟨b1, o1 + gn, none⟩ = some (.string (groupOf us)) := by have := hc1 gn (by omega); simpa [snoc] using this
    have cg2 : w5.cell? ⟨b2, o2, none⟩ = some (.string (groupOf us)) := by have := hc2 0 (by omega); simpa [snoc] using this
    have hsl1t : SL w5 0 (some ⟨b1, o1, none⟩) gn S := ⟨by unfold maxLen; omega, b1, o1, Nat.zero_le _, fun _ => rfl, fun i hi => by have := HS1.out i (by omega); simpa [snoc, hi] using this⟩
    clear hc1 hc2 hna1 hna2 HS1
    obtain ⟨a0, a1, a2, a3, a4, a5, a6, a7, a8, a9, _⟩ := hq1a
    have HQ2 : Hid (Req w5 p2 (userOf us) (some ⟨b2, o2, none⟩) (0 + 1) nc2 v0 v1 v2 v3 v4 v5 v6 lr) := hq2
    obtain ⟨r0, r1, r2, r3, r4, r5, r6, r7, r8, r9, _⟩ := hq2
    have hgi : (gn : Int) < (gn : Int) + 1 := by omega
    go_wp2_with fail
    refine (equal_true _ _ _ _ _ _ _ S _ hgs5 hgr5).mono ?_
    rintro e w6 ⟨rfl, k6, rfl⟩
    go_wp2_with fail
    refine (equal_true _ _ _ _ _ _ _ S _ (hsl1t.drewN _) (hgr5.drewN _)).mono ?_
    rintro e w7 ⟨rfl, k7, rfl⟩
    cases he : us.toList.isEmpty
    · have hU : userOf us = us := by simp [userOf, he]
      have hGr : groupOf us = { data := #[115, 121, 115, 116, 101, 109, 58, 97, 117, 116, 104, 101, 110, 116, 105, 99, 97, 116, 101, 100] } := by simp [groupOf, he]
      rw [hU] at a0 r0
      rw [hGr] at cg1 cg2
      clear hU hGr
      go_wp2_with fail
      go_quiet (fail)
      go_wp2_with fail
      refine (others_true _ _ _ _ _ _ _ _ _ _ _ _ _).mono ?_
      rintro e w8 ⟨rfl, hb8⟩
      have hbw8 : Below w.heap.size w w8 := (below_drewN hbw5 (k6 + k7 + nq)).trans (hb8.mono hbw5.size)
      have hq2b := (HQ2.out.drewN (k6 + k7 + nq)).below hb8
      clear r0 r1 r2 r3 r4 r5 r6 r7 r8 r9 a0 a1 a2 a3 a4 a5 a6 a7 a8 a9 hbw5 hb8 cg1 cg2 hsl1t hgs5 hgr5
      obtain ⟨r0, r1, r2, r3, r4, r5, r6, r7, r8, r9, _⟩ := hq2b
      go_wp2_with fail
      refine (others_true _ _ _ _ _ _ _ _ _ _ _ _ _).mono ?_
      rintro e w9 ⟨rfl, hb9⟩
      go_wp2
      go_ret
      exact ⟨rfl, hbw8.trans (hb9.mono hbw8.size)⟩
    · have hU : userOf us = { data := #[115, 121, 115, 116, 101, 109, 58, 97, 110, 111, 110, 121, 109, 111, 117, 115] } := by simp [userOf, he]
      have hGr : groupOf us = { data := #[115, 121, 115, 116, 101, 109, 58, 117, 110, 97, 117, 116, 104, 101, 110, 116, 105, 99, 97, 116, 101, 100] } := by simp [groupOf, he]
      rw [hU] at a0 r0
      rw [hGr] at cg1 cg2
      clear hU hGr
      go_wp2_with fail
      go_quiet (fail)
      go_wp2_with fail
      refine (others_true _ _ _ _ _ _ _ _ _ _ _ _ _).mono ?_
      rintro e w8 ⟨rfl, hb8⟩
      have hbw8 : Below w.heap.size w w8 := (below_drewN hbw5 (k6 + k7 + nq)).trans (hb8.mono hbw5.size)
      have hq2b := (HQ2.out.drewN (k6 + k7 + nq)).below hb8
      clear r0 r1 r2 r3 r4 r5 r6 r7 r8 r9 a0 a1 a2 a3 a4 a5 a6 a7 a8 a9 hbw5 hb8 cg1 cg2 hsl1t hgs5 hgr5
      obtain ⟨r0, r1, r2, r3, r4, r5, r6, r7, r8, r9, _⟩ := hq2b
      go_wp2_with fail
      refine (others_true _ _ _ _ _ _ _ _ _ _ _ _ _).mono ?_
      rintro e w9 ⟨rfl, hb9⟩
      go_wp2
      go_ret
      exact ⟨rfl, hbw8.trans (hb9.mono hbw8.size)⟩
  · go_wp2
    go_ret
    exact ⟨rfl, hbt⟩

end Go.Proofs.Qxb6627989a
