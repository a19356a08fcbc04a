import Derived.Test.Qxb6634835aW3b
import Derived.Test.Qxb6634835aIns
namespace Go.Proofs.Qxb6634835a
open Go.RowKit

/-- The law returns true; nothing that was there has turned. -/
def TruePost2 (w : World) (e : Ending) (w' : World) : Prop := e = .returned (.bool true) ∧ Below w.heap.size w w'

theorem info34 : (Try.prog.info? 34).map (fun i => (i.zero, i.size, i.bytes)) = some (some (.agg #[.string ByteArray.empty, .slice none 0 0, .slice none 0 0]), 3, 64) := by kernel_rfl

/-- 'make([]GSGroupStatus, 0, n+1)', at every world. -/
theorem make0_eq (n : Nat) (hn : n ≤ 1048576) (w : World) :
    ∃ cur : Array Value, cur.size = (n + 1) * 3 ∧ (Instr.makeSlice 23 (.int .i64 0) (.int .i64 ((n : Int) + 1))).run Try.prog w = .ok (.slice (some ⟨w.heap.size, 0, none⟩) 0 (n + 1)) (w.alloc (.cells cur 34)) := by
  obtain ⟨i, hi0, hz0, hz1, hz2⟩ := info_parts info34
  refine ⟨madeCells (Value.agg #[.string ByteArray.empty, .slice none 0 0, .slice none 0 0]).cells ((n + 1) * i.size), by rw [size_madeCells, hz1], ?_⟩
  have := run_make w 23 34 i _ Try.underlying23 hi0 hz0 .i64 .i64 0 ((n : Int) + 1) (by omega) (by omega) (by rw [hz2]; omega) (by omega)
  rw [this, show ((n : Int) + 1).toNat = n + 1 by omega]
  rfl

abbrev gF (G : Nat → Grp) (grp sys : ByteArray) (k m : Nat) : Option ByteArray := Plain.gFind (fun i => (G i).nm) (fun i => (G i).n) (fun i => (G i).S) grp sys k m

set_option maxHeartbeats 4000000 in
set_option maxRecDepth 100000 in
theorem inserted_any (s0 s1 grp sys st : ByteArray) (kk : Int) (ya : Option Addr) (yn yc : Nat) (Y : Nat → ByteArray × ByteArray) (ga : Option Addr) (gn gc : Nat) (G : Nat → Grp) (w : World) (hY : PS w ya yn Y) (hG : GS w ga gn G) :
    Calls Try.prog 4 #[.string s0, .string s1, .slice ya yn yc, .slice ga gn gc, .string grp, .string sys, .string st, .int .i64 kk] w (TruePost2 w) := by
  go_enter Try.func4, Try.ntmps4
  go_wp2_with fail
  refine (zz10_any _ _ _ _ _ _ _ _ _ Y _ _ _ G _ hY hG).mono ?_
  rintro e w' ⟨b, rfl, hF, rfl⟩
  cases b
  · clear hF
    go_wp2
    go_ret
    exact ⟨rfl, Below.refl _ _⟩
  obtain ⟨hyn, hgn, hfit⟩ : Fits yn gn G := hF rfl
  have HF : Hid (∀ i, i < gn → GrpFits (G i)) := hfit
  clear hF hfit
  go_wp2_with fail
  refine (tooBig_any _ _ _ _ _ _ _ _ Y _ _ _ G _ hY hG).mono ?_
  rintro e w' ⟨b, rfl, rfl⟩
  cases b
  · by_cases hk0 : kk < 0
    · have hd : decide (kk < 0) = true := by simpa using hk0
      go_wp2
      go_ret
      exact ⟨rfl, Below.refl _ _⟩
    have hd : decide (kk < 0) = false := by simpa using hk0
    by_cases hkg : (gn : Int) < kk
    · have hd2 : decide ((gn : Int) < kk) = true := by simpa using hkg
      go_wp2
      go_ret
      exact ⟨rfl, Below.refl _ _⟩
    obtain ⟨k, rfl⟩ := Int.eq_ofNat_of_zero_le (show 0 ≤ kk by omega)
    have hk : k ≤ gn := by omega
    have hd2 : decide (gn < k) = false := by simpa using hk
    have hGk := hG
    obtain ⟨hgm, gb, go, hga, hgc⟩ := hG
    unfold maxLen at hgm
    clear hk0 hkg
    go_wp2
    clear hd hd2
    -- do the groups ahead of the place hold the pair?
    go_loop [17, 18] (fun s17 s18 => ∃ i : Nat, i ≤ k ∧ s18 = .int .i64 i ∧ s17 = .bool (gF G grp sys 0 i).isSome) (fun _ s => k - (intOf s).toNat)
    case atStart => exact ⟨0, Nat.zero_le _, rfl, rfl⟩
    case round =>
      obtain ⟨i, hi, rfl, rfl⟩ := hrel
      obtain ⟨pre, hpre⟩ : ∃ pre, pre = (gF G grp sys 0 i).isSome := ⟨_, rfl⟩
      rw [← hpre]
      have HP : Hid (pre = (gF G grp sys 0 i).isSome) := hpre
      clear hpre
      by_cases hlti : i < k
      · obtain rfl := hga (by omega)
        obtain ⟨nm, sa, sn, sc, S, e1, e2, e3, c0, c1, hP⟩ : ∃ (nm : ByteArray) (sa : Option Addr) (sn sc : Nat) (S : Nat → ByteArray × ByteArray), Hid ((G i).nm = nm) ∧ Hid ((G i).n = sn) ∧ Hid ((G i).S = S) ∧
            w.cell? ⟨gb, go + i * 3, none⟩ = some (.string nm) ∧ w.cell? ⟨gb, go + i * 3 + 1, none⟩ = some (.slice sa sn sc) ∧ PS w sa sn S := ⟨_, _, _, _, _, rfl, rfl, rfl, (hgc i (by omega)).1, (hgc i (by omega)).2.1, (hgc i (by omega)).2.2.2.1⟩
        obtain ⟨hpm, pb, po, hpa, hpc⟩ := hP
        unfold maxLen at hpm
        have hix : (i : Int) < (gn : Int) := by omega
        clear hga hgc
        cases hm : (nm.toList == grp.toList)
        · go_wp2
          go_round
          case rel => exact ⟨i + 1, by omega, by go_num, by rw [HP.out, gF, gF, Plain.g_has_other (by rw [e1.out]; exact hm)]⟩
          case measure => simp [intOf] <;> omega
        · go_wp2
          go_loop [17, 20] (fun s17 s20 => ∃ j : Nat, j ≤ sn ∧ s20 = .int .i64 j ∧ s17 = .bool (pre || (Plain.stFind S sys 0 j).isSome)) (fun _ s => sn - (intOf s).toNat)
          case atStart => exact ⟨0, Nat.zero_le _, rfl, by simp [Plain.stFind]⟩
          case round =>
            obtain ⟨j, hj, rfl, rfl⟩ := hrel
            obtain ⟨pr2, hpr2⟩ : ∃ pr2, pr2 = (pre || (Plain.stFind S sys 0 j).isSome) := ⟨_, rfl⟩
            rw [← hpr2]
            have HP2 : Hid (pr2 = (pre || (Plain.stFind S sys 0 j).isSome)) := hpr2
            clear hpr2
            by_cases hltj : j < sn
            · obtain rfl := hpa (by omega)
              obtain ⟨d0, d1⟩ := hpc j hltj
              obtain ⟨u0, u1, HU, q0, q1⟩ : ∃ u0 u1 : ByteArray, Hid (S j = (u0, u1)) ∧ w.cell? ⟨pb, po + j * 2, none⟩ = some (.string u0) ∧ w.cell? ⟨pb, po + j * 2 + 1, none⟩ = some (.string u1) := ⟨(S j).1, (S j).2, rfl, d0, d1⟩
              clear hpa hpc d0 d1
              cases hs : (u0.toList == sys.toList)
              · go_wp2
                go_round
                case rel => exact ⟨j + 1, by omega, by go_num, by rw [HP2.out, Plain.st_has_step, HU.out, hs, Bool.or_false]⟩
                case measure => simp [intOf] <;> omega
              · go_wp2
                go_round
                case rel => exact ⟨j + 1, by omega, by go_num, by rw [Plain.st_has_step, HU.out, hs, Bool.or_true, Bool.or_true]⟩
                case measure => simp [intOf] <;> omega
            · clear hpa hpc
              obtain rfl : j = sn := by omega
              go_wp2
              go_round
              case rel => exact ⟨i + 1, by omega, by go_num, by rw [HP2.out, HP.out, gF, gF, Plain.g_has_own (by rw [e1.out]; exact hm), e2.out, e3.out]⟩
              case measure => simp [intOf] <;> omega
      · obtain rfl : i = k := by omega
        obtain ⟨cur, hcur, hmk⟩ := make0_eq gn hgn w
        go_wp2
        have hst := ins_start w cur (gn + 1) G (by unfold maxLen; omega) hcur
        obtain ⟨i0, hi0, hz0, hz1, hz2⟩ := info_parts info34
        clear hmk hcur hz0 hz2
        -- the groups ahead of the place
        go_loopw [21, 22] (fun s21 s22 wr => ∃ j : Nat, j ≤ i ∧ s22 = .int .i64 j ∧ s21 = .slice (some ⟨w.heap.size, 0, none⟩) j (gn + 1) ∧ Ins w wr (gn + 1) j G) (fun _ s _ => i - (intOf s).toNat)
        case atStart => exact ⟨0, Nat.zero_le _, rfl, rfl, hst⟩
        case round =>
          clear hst
          obtain ⟨j, hj, rfl, rfl, hI⟩ := hrel
          by_cases hltj : j < i
          · obtain rfl := hga (by omega)
            obtain ⟨nm, sa, sn, sc, ra, rn, rc, e1, c0, c1, c2⟩ : ∃ (nm : ByteArray) (sa : Option Addr) (sn sc : Nat) (ra : Option Addr) (rn rc : Nat), Hid ((G j).nm = nm ∧ (G j).ao = sa ∧ (G j).n = sn ∧ (G j).c = sc ∧ (G j).ra = ra ∧ (G j).rn = rn ∧ (G j).rc = rc) ∧
                wr.cell? ⟨gb, go + j * 3, none⟩ = some (.string nm) ∧ wr.cell? ⟨gb, go + j * 3 + 1, none⟩ = some (.slice sa sn sc) ∧ wr.cell? ⟨gb, go + j * 3 + 2, none⟩ = some (.slice ra rn rc) := by
              obtain ⟨d0, d1, d2, _, _⟩ := hgc j (by omega)
              exact ⟨_, _, _, _, _, _, _, ⟨rfl, rfl, rfl, rfl, rfl, rfl, rfl⟩, (hI.below.cell (p := ⟨gb, go + j * 3, none⟩) (World.block_lt_of_cell? _ _ d0)).trans d0, (hI.below.cell (p := ⟨gb, go + j * 3 + 1, none⟩) (World.block_lt_of_cell? _ _ d1)).trans d1,
                (hI.below.cell (p := ⟨gb, go + j * 3 + 2, none⟩) (World.block_lt_of_cell? _ _ d2)).trans d2⟩
            have hlt := hI.lt
            have hix : (j : Int) < (gn : Int) := by omega
            obtain ⟨hb, xs, hown, hxs⟩ := hI
            have HX : Hid (∀ q, q < j → xs[q * 3]? = some (.string (G q).nm) ∧ xs[q * 3 + 1]? = some (.slice (G q).ao (G q).n (G q).c) ∧ xs[q * 3 + 2]? = some (.slice (G q).ra (G q).rn (G q).rc)) := hxs
            clear hga hgc hxs hGk
            go_wp2_with (at_builtin; refine wpList_append_fits _ rfl (.tmp 91) (.tmp 96) 23 rfl w.heap.size 34 i0 3 Try.underlying23 hi0 hz1 w.heap.size j (gn + 1) xs rfl (hown.alloc _) ⟨wr.heap.size, 0, none⟩ 1 1 [.string nm, .slice sa sn sc, .slice ra rn rc] rfl rfl (news3 wr _ _ _ _) (by simp [Value.oneCell']) (by omega) ?_; intro w1 hown1 hgrow)
            go_roundw
            case rel =>
              obtain ⟨x0, x1, x2, x3, x4, x5, x6⟩ := e1.out
              exact ⟨j + 1, by omega, by go_num, rfl, ins_step hb hown.1 HX.out hlt ((Below.refl _ _).alloc (Nat.le_refl _) _) hown1 hgrow x0 x1 x2 x3 x4 x5 x6⟩
            case measure => simp [intOf] <;> omega
          · obtain rfl : j = i := by omega
            have hlt := hI.lt
            obtain ⟨hb, xs, hown, hxs⟩ := hI
            obtain ⟨g, Hg⟩ : ∃ g : Grp, Hid (g = ⟨grp, some ⟨wr.heap.size, 0, none⟩, 1, 1, fun _ => (sys, st), none, 0, 0, fun _ => ⟨ByteArray.empty, none, 0, 0, fun _ => (ByteArray.empty, ByteArray.empty)⟩⟩) := ⟨_, rfl⟩
            have HX : Hid (∀ q, q < j → xs[q * 3]? = some (.string (insG G j g q).nm) ∧ xs[q * 3 + 1]? = some (.slice (insG G j g q).ao (insG G j g q).n (insG G j g q).c) ∧ xs[q * 3 + 2]? = some (.slice (insG G j g q).ra (insG G j g q).rn (insG G j g q).rc)) :=
              fun q hq => by rw [insG_lt hq]; exact hxs q hq
            clear hxs
            go_wp2_with (at_builtin; refine wpList_append_fits _ rfl (.tmp 98) (.tmp 105) 23 rfl w.heap.size 34 i0 3 Try.underlying23 hi0 hz1 w.heap.size j (gn + 1) xs rfl ((hown.alloc _).alloc _) ⟨wr.heap.size + 1, 0, none⟩ 1 1 [.string grp, .slice (some ⟨wr.heap.size, 0, none⟩) 1 1, .slice none 0 0] rfl rfl (news3b wr _ _ _ _ _) (by simp [Value.oneCell']) (by omega) ?_; intro w1 hown1 hgrow)
            have hI1 : Ins w w1 (gn + 1) (j + 1) (insG G j g) :=
              ins_step hb hown.1 HX.out hlt (((Below.refl _ _).alloc (Nat.le_refl _) _).alloc (by simp) _) hown1 hgrow (by rw [insG_at, Hg.out]) (by rw [insG_at, Hg.out]) (by rw [insG_at, Hg.out]) (by rw [insG_at, Hg.out]) (by rw [insG_at, Hg.out]) (by rw [insG_at, Hg.out]) (by rw [insG_at, Hg.out])
            have hps1 : PSat w1 (w.heap.size + 1) g.ao g.n g.S := by rw [Hg.out]; exact (pair_new wr sys st 36 _ (w.heap.size + 1) hlt).grown hgrow (Nat.lt_succ_self _)
            have Hgf : Hid (g.nm = grp ∧ g.n = 1 ∧ g.S 0 = (sys, st) ∧ g.rn = 0) := by rw [Hg.out]; exact ⟨rfl, rfl, rfl, rfl⟩
            clear hown1 hgrow HX hown hb Hg
            -- the groups behind the place
            go_loopw [21, 23] (fun s21 s23 wx => ∃ q : Nat, j ≤ q ∧ q ≤ gn ∧ s23 = .int .i64 q ∧ s21 = .slice (some ⟨w.heap.size, 0, none⟩) (q + 1) (gn + 1) ∧ Ins w wx (gn + 1) (q + 1) (insG G j g) ∧ PSat wx (w.heap.size + 1) g.ao g.n g.S) (fun _ s _ => gn - (intOf s).toNat)
            case atStart => exact ⟨j, Nat.le_refl _, hk, rfl, rfl, hI1, hps1⟩
            case round =>
              clear hI1 hps1 hlt
              obtain ⟨q, hq0, hq1, rfl, rfl, hI, hps⟩ := hrel
              by_cases hltq : q < gn
              · obtain rfl := hga (by omega)
                obtain ⟨nm, sa, sn, sc, ra, rn, rc, e1, c0, c1, c2⟩ : ∃ (nm : ByteArray) (sa : Option Addr) (sn sc : Nat) (ra : Option Addr) (rn rc : Nat), Hid ((G q).nm = nm ∧ (G q).ao = sa ∧ (G q).n = sn ∧ (G q).c = sc ∧ (G q).ra = ra ∧ (G q).rn = rn ∧ (G q).rc = rc) ∧
                    wr.cell? ⟨gb, go + q * 3, none⟩ = some (.string nm) ∧ wr.cell? ⟨gb, go + q * 3 + 1, none⟩ = some (.slice sa sn sc) ∧ wr.cell? ⟨gb, go + q * 3 + 2, none⟩ = some (.slice ra rn rc) := by
                  obtain ⟨d0, d1, d2, _, _⟩ := hgc q (by omega)
                  exact ⟨_, _, _, _, _, _, _, ⟨rfl, rfl, rfl, rfl, rfl, rfl, rfl⟩, (hI.below.cell (p := ⟨gb, go + q * 3, none⟩) (World.block_lt_of_cell? _ _ d0)).trans d0, (hI.below.cell (p := ⟨gb, go + q * 3 + 1, none⟩) (World.block_lt_of_cell? _ _ d1)).trans d1,
                    (hI.below.cell (p := ⟨gb, go + q * 3 + 2, none⟩) (World.block_lt_of_cell? _ _ d2)).trans d2⟩
                have hlt := hI.lt
                have hix : (q : Int) < (gn : Int) := by omega
                obtain ⟨hb, xs, hown, hxs⟩ := hI
                have HX : Hid (∀ p, p < q + 1 → xs[p * 3]? = some (.string (insG G j g p).nm) ∧ xs[p * 3 + 1]? = some (.slice (insG G j g p).ao (insG G j g p).n (insG G j g p).c) ∧ xs[p * 3 + 2]? = some (.slice (insG G j g p).ra (insG G j g p).rn (insG G j g p).rc)) := hxs
                clear hga hgc hxs hGk
                go_wp2_with (at_builtin; refine wpList_append_fits _ rfl (.tmp 114) (.tmp 119) 23 rfl w.heap.size 34 i0 3 Try.underlying23 hi0 hz1 w.heap.size (q + 1) (gn + 1) xs rfl (hown.alloc _) ⟨wr.heap.size, 0, none⟩ 1 1 [.string nm, .slice sa sn sc, .slice ra rn rc] rfl rfl (news3 wr _ _ _ _) (by simp [Value.oneCell']) (by omega) ?_; intro w1 hown1 hgrow)
                go_roundw
                case rel =>
                  obtain ⟨x0, x1, x2, x3, x4, x5, x6⟩ := e1.out
                  have eg : insG G j g (q + 1) = G q := insG_gt hq0
                  exact ⟨q + 1, by omega, by omega, by go_num, rfl, ins_step hb hown.1 HX.out hlt ((Below.refl _ _).alloc (Nat.le_refl _) _) hown1 hgrow (by rw [eg]; exact x0) (by rw [eg]; exact x1) (by rw [eg]; exact x2) (by rw [eg]; exact x3) (by rw [eg]; exact x4) (by rw [eg]; exact x5) (by rw [eg]; exact x6),
                    (hps.below ((Below.refl _ _).alloc (Nat.le_refl _) _)).grown hgrow (Nat.lt_succ_self _)⟩
                case measure => simp [intOf] <;> omega
              · obtain rfl : q = gn := by omega
                have hGS := ins_GS (g := g) hq0 (by unfold maxLen; omega) hGk hI hps.toPS Hgf.out.2.2.2
                have HF2 : Hid (∀ i, i < q + 1 → GrpFits (insG G j g i)) := ins_fits hq0 HF.out ⟨by rw [Hgf.out.2.1]; omega, by rw [Hgf.out.2.2.2]; omega, fun i hi => by rw [Hgf.out.2.2.2] at hi; exact absurd hi (Nat.not_lt_zero _)⟩
                have hbx := hI.below
                have hYx := hY.below hbx
                have hGx := hGk.below hbx
                clear hI hps hga hgc hGk hY
                go_wp2_with fail
                refine (status_any _ _ _ _ _ Y _ _ _ G _ hyn (by omega) HF.out hYx hGx).mono ?_
                rintro e w2 ⟨pb2, ao2, cc2, rfl, hb2, hp2, hcg2⟩
                go_wp2_with fail
                refine (groupState_any pb2 0 ao2 _ cc2 _ _ _ grp sys w2 (by simpa using hp2) hcg2).mono ?_
                rintro e w3 ⟨rfl, hb3⟩
                have hb23 : Below wr.heap.size wr w3 := hb2.trans (hb3.mono hb2.size)
                go_wp2_with fail
                refine (status_any _ _ _ _ _ Y _ _ _ (insG G j g) _ hyn (by omega) HF2.out (hYx.below hb23) (hGS.below hb23)).mono ?_
                rintro e w4 ⟨pb4, ao4, cc4, rfl, hb4, hp4, hcg4⟩
                go_wp2_with fail
                refine (groupState_any pb4 0 ao4 _ cc4 _ _ _ grp sys w4 (by simpa using hp4) hcg4).mono ?_
                rintro e w5 ⟨rfl, hb5⟩
                have hb25 : Below wr.heap.size wr w5 := hb23.trans ((hb4.trans (hb5.mono hb4.size)).mono hb23.size)
                have hbw : Below w.heap.size w w5 := hbx.trans (hb25.mono hbx.size)
                cases pre
                · have hfin := Plain.inserted_new (N := fun i => (G i).nm) (N' := fun i => (insG G j g i).nm) (L := fun i => (G i).n) (L' := fun i => (insG G j g i).n) (S := fun i => (G i).S) (S' := fun i => (insG G j g i).S) (grp := grp) (sys := sys) (st := st) hq0
                    (fun i hi => by simp [insG_lt hi]) HP.out.symm (by simp only [insG_at]; exact Hgf.out.1) (by simp only [insG_at]; exact Hgf.out.2.1) (by simp only [insG_at]; exact Hgf.out.2.2.1)
                  rw [hfin]
                  go_wp2
                  go_ret
                  exact ⟨by simp, hbw⟩
                · have hfin := Plain.inserted_before (N := fun i => (G i).nm) (N' := fun i => (insG G j g i).nm) (L := fun i => (G i).n) (L' := fun i => (insG G j g i).n) (S := fun i => (G i).S) (S' := fun i => (insG G j g i).S) (grp := grp) (sys := sys) hq0
                    (fun i hi => by simp [insG_lt hi]) HP.out.symm
                  rw [hfin]
                  go_wp2
                  go_ret
                  exact ⟨by simp, hbw⟩
  · go_wp2
    go_ret
    exact ⟨rfl, Below.refl _ _⟩

end Go.Proofs.Qxb6634835a
