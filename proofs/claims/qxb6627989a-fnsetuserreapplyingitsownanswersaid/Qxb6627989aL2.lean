import Derived.Test.Qxb6627989aReq
import Derived.Test.Qxb6627989aW3b
import Derived.Test.Qxb6627989aW4
namespace Go.Proofs.Qxb6627989a
open Go.RowKit

/-- The law returns true; nothing that was there has turned. -/
def TruePost2 (w : World) (e : Ending) (w' : World) : Prop := e = .returned (.bool true) ∧ Below w.heap.size w w'

theorem userOf_userOf (us : ByteArray) : userOf (userOf us) = userOf us := by
  cases he : us.toList.isEmpty
  · simp [userOf, he]
  · have : (userOf us).toList.isEmpty = false := by
      rw [ByteArray.toList_eq]
      simp [userOf, he]
    simp [userOf, he] at this ⊢

theorem groupOf_userOf (us : ByteArray) : groupOf (userOf us) = { data := #[115, 121, 115, 116, 101, 109, 58, 97, 117, 116, 104, 101, 110, 116, 105, 99, 97, 116, 101, 100] } := by
  have : (userOf us).toList.isEmpty = false := by
    cases he : us.toList.isEmpty
    · simp [userOf, he]
    · rw [ByteArray.toList_eq]
      simp [userOf, he]
  simp [groupOf, this]

set_option maxHeartbeats 4000000 in
set_option maxRecDepth 100000 in
theorem reapply_any (u v0 v1 v2 v3 v4 v5 v6 us : ByteArray) (lr : Bool) (Ga : Option Addr) (Gn Gc : Nat) (SG : Nat → ByteArray) (ga : Option Addr) (gn gc : Nat) (S : Nat → ByteArray) (w : World) (hG : SL w 0 Ga Gn SG) (hg : SL w 0 ga gn S)
    (mu : u.size ≤ maxLen) (m0 : v0.size ≤ maxLen) (m1 : v1.size ≤ maxLen) (m2 : v2.size ≤ maxLen) (m3 : v3.size ≤ maxLen) (m4 : v4.size ≤ maxLen) (m5 : v5.size ≤ maxLen) (m6 : v6.size ≤ maxLen) (ms : us.size ≤ maxLen) :
    Calls Try.prog 4 #[.string u, .slice Ga Gn Gc, .string v0, .string v1, .string v2, .string v3, .string v4, .string v5, .string v6, .bool lr, .string us, .slice ga gn gc] w (TruePost2 w) := by
  go_enter Try.func4, Try.ntmps4
  go_wp2_with fail
  refine (zz11_any _ _ _ _ _ _ _ _ _ _ _ _ _ _ SG _ _ _ _ S _ hG hg).mono ?_
  rintro e w' ⟨b, rfl, hF, rfl⟩
  cases b
  · clear hF
    go_wp2
    go_ret
    exact ⟨rfl, Below.refl _ _⟩
  obtain ⟨hGn, hgn⟩ := hF rfl
  clear hF
  go_wp2_with fail
  refine (tooBig_any _ _ _ _ _ _ _ _ _ _ _ _ _ SG _ _ _ _ S _ hG hg hGn hgn mu m0 m1 m2 m3 m4 m5 m6 ms).mono ?_
  rintro e wt ⟨b, rfl, hbt⟩
  have hGt := hG.below hbt
  have hgt := hg.below hbt
  cases b
  · -- the clones and the request
    go_wp2_with fail
    refine (clone_any _ _ _ _ S _ (by omega) hgt).mono ?_
    rintro e w1 ⟨ga1, gc1, rfl, hgc1, hb1, hs1⟩
    go_wp2_with fail
    refine (clone_any _ _ _ _ SG _ (by omega) (hGt.below hb1)).mono ?_
    rintro e w2 ⟨Ga2, Gc2, rfl, hGc2, hb2, hs2⟩
    go_wp2_with fail
    have hr1 := req_new w2 u Ga2 Gn Gc2 v0 v1 v2 v3 v4 v5 v6 lr
    have hb2a : Below w2.heap.size w2 (w2.alloc (.cells #[.string u, .slice Ga2 Gn Gc2, .string v0, .string v1, .string v2, .string v3, .string v4, .string v5, .string v6, .bool lr] 27)) := (Below.refl _ _).alloc (Nat.le_refl _) _
    generalize w2.alloc (.cells #[.string u, .slice Ga2 Gn Gc2, .string v0, .string v1, .string v2, .string v3, .string v4, .string v5, .string v6, .bool lr] 27) = w2a at hr1 hb2a ⊢
    -- below the request nothing turns from here on
    have hs1a := (hs1.below hb2).later hb2a (Nat.le_refl _)
    have hlt1 := hr1.lt
    generalize hp1 : w2.heap.size = p1 at *
    refine (setUser_any p1 gn gc1 _ ga1 S us w2a _ _ (by omega) hgc1 hs1a hr1.c0 hr1.c1 (hr1.fr 0) (hr1.fr 1)).mono ?_
    intro e w4 hset1
    obtain rfl := hset1.ret
    obtain ⟨na1, nc1, hq1, hnc1, hsl1⟩ := hr1.set hset1
    have hlow4 : Below p1 w2 w4 := hb2a.trans (below_of_grown hset1.grown (by omega))
    have hgr2 := (hgt.below hb1).below hb2
    have hb12 : Below w.heap.size w w2 := (hbt.trans (hb1.mono hbt.size)).trans (hb2.mono (Nat.le_trans hbt.size hb1.size))
    have hbw2 : Below w.heap.size w w2 := hb12
    have hp1w : w.heap.size ≤ p1 := by have := hb12.size; omega
    clear hset1 hr1 hb2a hs1a hs1 hgt hGt hb12 hb1 hb2 hbt hg hG mu m0 m1 m2 m3 m4 m5 m6 ms hGc2 hs2
    have hs1g : SL w4 w2a.heap.size na1 gn S := hsl1.take (by omega) (fun i hi => by simp [snoc, hi])
    have HQ1 : Hid (Req w4 p1 (userOf us) na1 (gn + 1) nc1 v0 v1 v2 v3 v4 v5 v6 lr) := hq1
    have hl4 := hq1.lt
    obtain ⟨a0, a1, a2, a3, a4, a5, a6, a7, a8, a9, _⟩ := hq1
    go_wp2_with fail
    refine (equal_true _ _ _ _ _ _ _ S _ hs1g (hgr2.later hlow4 (by omega))).mono ?_
    rintro e w5 ⟨rfl, k5, rfl⟩
    -- its answer is kept, and handed in again
    go_wp2_with fail
    refine (clone_any _ _ _ _ (snoc S gn (groupOf us)) _ (by omega) (hsl1.drewN k5)).mono ?_
    rintro e w6 ⟨g1a, g1c, rfl, hg1c, hb6, hsg1⟩
    have hq6 := (HQ1.out.drewN k5).below hb6
    have hs6 := (hs1g.drewN k5).below hb6
    have hlow6 : Below p1 w2 w6 := (below_drewN hlow4 k5).trans (hb6.mono (Nat.le_of_lt hl4))
    have hl6 := hq6.lt
    clear a0 a1 a2 a3 a4 a5 a6 a7 a8 a9 HQ1 hb6 hs1g hsl1 hlow4
    have HQ6 : Hid (Req w6 p1 (userOf us) na1 (gn + 1) nc1 v0 v1 v2 v3 v4 v5 v6 lr) := hq6
    obtain ⟨a0, a1, a2, a3, a4, a5, a6, a7, a8, a9, afr⟩ := hq6
    have f0 := afr 0
    have f1 := afr 1
    clear afr
    go_wp2_with fail
    refine (setUser_any p1 gn nc1 _ na1 S (userOf us) w6 _ _ (by omega) (by omega) hs6 a0 a1 f0 f1).mono ?_
    intro e w7 hset2
    obtain rfl := hset2.ret
    obtain ⟨na7, nc7, hq7, hnc7, hsl7⟩ := HQ6.out.set hset2
    have hsg7 := hsg1.grown hset2.grown (by exact hl4)
    have hlow7 : Below p1 w2 w7 := hlow6.trans (below_of_grown hset2.grown hl6)
    have hbw7 : Below w.heap.size w w7 := hbw2.trans (hlow7.mono hp1w)
    have hgr7 := hgr2.later hlow7 (by omega)
    rw [userOf_userOf] at hq7
    rw [groupOf_userOf] at hsl7
    clear hset2 HQ6 hs6 hsg1 hlow6 hlow7 a0 a1 a2 a3 a4 a5 a6 a7 a8 a9 f0 f1 hgr2 hl6 hl4
    have hs7g : SL w7 0 na7 gn S := (hsl7.take (by omega) (fun i hi => by simp [snoc, hi])).low (Nat.zero_le _)
    obtain ⟨_, b7, o7, _, hna7, hc7⟩ := hsl7
    obtain ⟨_, bg, og, _, hng, hcg⟩ := hsg7
    obtain rfl := hna7 (by omega)
    obtain rfl := hng (by omega)
    have cg7 : w7.cell? ⟨b7, o7 + gn, none⟩ = some (.string { data := #[115, 121, 115, 116, 101, 109, 58, 97, 117, 116, 104, 101, 110, 116, 105, 99, 97, 116, 101, 100] }) := by have := hc7 gn (by omega); simpa [snoc] using this
    have cg1 : w7.cell? ⟨bg, og + gn, none⟩ = some (.string (groupOf us)) := by have := hcg gn (by omega); simpa [snoc] using this
    clear hc7 hcg hna7 hng
    have hgi : (gn : Int) < (gn : Int) + 1 := by omega
    obtain ⟨a0, a1, a2, a3, a4, a5, a6, a7, a8, a9, _⟩ := hq7
    go_wp2_with fail
    refine (equal_true _ _ _ _ _ _ _ S _ hs7g hgr7).mono ?_
    rintro e w8 ⟨rfl, k8, rfl⟩
    go_wp2_with fail
    refine (others_true _ _ _ _ _ _ _ _ _ _ _ _ _).mono ?_
    rintro e w9 ⟨rfl, hb9⟩
    have hbw9 : Below w.heap.size w w9 := (below_drewN hbw7 k8).trans (hb9.mono hbw7.size)
    have z1 : w9.cell? ⟨p1, 1, none⟩ = some (.slice (some ⟨b7, o7, none⟩) (gn + 1) nc7) := (hb9.cell (p := ⟨p1, 1, none⟩) (World.block_lt_of_cell? _ _ a1)).trans (by simpa using a1)
    have z2 : w9.cell? ⟨b7, o7 + gn, none⟩ = some (.string { data := #[115, 121, 115, 116, 101, 109, 58, 97, 117, 116, 104, 101, 110, 116, 105, 99, 97, 116, 101, 100] }) := (hb9.cell (p := ⟨b7, o7 + gn, none⟩) (World.block_lt_of_cell? _ _ cg7)).trans (by simpa using cg7)
    have z3 : w9.cell? ⟨bg, og + gn, none⟩ = some (.string (groupOf us)) := (hb9.cell (p := ⟨bg, og + gn, none⟩) (World.block_lt_of_cell? _ _ cg1)).trans (by simpa using cg1)
    clear a0 a1 a2 a3 a4 a5 a6 a7 a8 a9 cg7 cg1 hb9 hbw7 hs7g hgr7 hbw2
    cases he : us.toList.isEmpty
    · have hU : userOf us = us := by simp [userOf, he]
      have hGr : groupOf us = { data := #[115, 121, 115, 116, 101, 109, 58, 97, 117, 116, 104, 101, 110, 116, 105, 99, 97, 116, 101, 100] } := by simp [groupOf, he]
      rw [hU]
      rw [hGr] at z3
      clear hU hGr
      go_wp2_with fail
      go_quiet (fail)
      go_wp2
      go_ret
      exact ⟨rfl, below_drewN hbw9 _⟩
    · have hU : userOf us = { data := #[115, 121, 115, 116, 101, 109, 58, 97, 110, 111, 110, 121, 109, 111, 117, 115] } := by simp [userOf, he]
      have hGr : groupOf us = { data := #[115, 121, 115, 116, 101, 109, 58, 117, 110, 97, 117, 116, 104, 101, 110, 116, 105, 99, 97, 116, 101, 100] } := by simp [groupOf, he]
      rw [hU]
      rw [hGr] at z3
      clear hU hGr
      go_wp2_with fail
      go_quiet (fail)
      go_wp2
      go_ret
      exact ⟨rfl, below_drewN hbw9 _⟩
  · go_wp2
    go_ret
    exact ⟨rfl, hbt⟩

end Go.Proofs.Qxb6627989a
