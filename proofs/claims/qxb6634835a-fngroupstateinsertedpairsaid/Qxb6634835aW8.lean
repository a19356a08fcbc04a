import Derived.Test.Qxb6634835aW7
import Derived.Test.Qxb6634835aFit
namespace Go.Proofs.Qxb6634835a
open Go.RowKit

theorem info53 : (Try.prog.info? 53).map (fun i => (i.zero, i.size, i.bytes)) = some (some (.agg #[.string ByteArray.empty, .slice none 0 0, .slice none 0 0]), 3, 64) := by kernel_rfl

/-- What the loop of gsConvGroups holds behind k rounds. -/
structure Conv3 (w wr : World) (n k : Nat) (G : Nat → Grp) : Prop where
  below : Below w.heap.size w wr
  row : Row wr w.heap.size 53 (n * 3)
  done : ∀ i, i < k → wr.cell? ⟨w.heap.size, i * 3, none⟩ = some (.string (G i).nm) ∧ (∃ sa sc, wr.cell? ⟨w.heap.size, i * 3 + 1, none⟩ = some (.slice sa (G i).n sc) ∧ PSat wr (w.heap.size + 1) sa (G i).n (G i).S) ∧
    ∃ ra rn rc, wr.cell? ⟨w.heap.size, i * 3 + 2, none⟩ = some (.slice ra rn rc)

theorem conv3_start (w : World) (cur : Array Value) (n : Nat) (G : Nat → Grp) (h : cur.size = n * 3) : Conv3 w (w.alloc (.cells cur 53)) n 0 G :=
  ⟨(Below.refl _ _).alloc (Nat.le_refl _) _, h ▸ Row.made w cur 53, fun _ hi => absurd hi (Nat.not_lt_zero _)⟩

theorem Conv3.later {w wr w1 : World} {n k : Nat} {G : Nat → Grp} (h : Conv3 w wr n k G) (hb : Below wr.heap.size wr w1) : Conv3 w w1 n k G := by
  have hl := h.row.lt
  refine ⟨h.below.trans (hb.mono (Nat.le_of_lt hl)), h.row.below hb hl, fun i hi => ?_⟩
  obtain ⟨d0, ⟨sa, sc, d1, d2⟩, ra, rn, rc, d3⟩ := h.done i hi
  exact ⟨(hb.cell (p := ⟨w.heap.size, i * 3, none⟩) hl).trans d0, ⟨sa, sc, (hb.cell (p := ⟨w.heap.size, i * 3 + 1, none⟩) hl).trans d1, d2.below hb⟩, ra, rn, rc, (hb.cell (p := ⟨w.heap.size, i * 3 + 2, none⟩) hl).trans d3⟩

theorem conv3_step {w wr : World} {n k : Nat} {G : Nat → Grp} (h : Conv3 w wr n k G) (hk : k < n) {nm : ByteArray} {sa : Option Addr} {sn sc : Nat} {ra : Option Addr} {rn rc : Nat} (hnm : (G k).nm = nm) (hsn : (G k).n = sn) (hps : PSat wr (w.heap.size + 1) sa sn (G k).S) :
    Conv3 w (((wr.setCell ⟨w.heap.size, k * 3, none⟩ (.string nm)).setCell ⟨w.heap.size, k * 3 + 1, none⟩ (.slice sa sn sc)).setCell ⟨w.heap.size, k * 3 + 2, none⟩ (.slice ra rn rc)) n (k + 1) G := by
  obtain ⟨v0, hv0⟩ := h.row.cell (i := k * 3) (by omega)
  obtain ⟨v1, hv1⟩ := h.row.cell (i := k * 3 + 1) (by omega)
  obtain ⟨v2, hv2⟩ := h.row.cell (i := k * 3 + 2) (by omega)
  refine ⟨((h.below.setCell (Nat.le_refl _) _).setCell (Nat.le_refl _) _).setCell (Nat.le_refl _) _, ((h.row.setCell _ _).setCell _ _).setCell _ _, fun i hi => ?_⟩
  by_cases e : i = k
  · subst e
    refine ⟨?_, ⟨sa, sc, ?_, ?_⟩, ra, rn, rc, ?_⟩
    · rw [World.cell?_setCell_other _ _ _ _ (by simp), World.cell?_setCell_other _ _ _ _ (by simp), World.cell?_setCell_same _ _ _ hv0, hnm]
    · rw [World.cell?_setCell_other _ _ _ _ (by simp), World.cell?_setCell_same _ _ _ (by rw [World.cell?_setCell_other _ _ _ _ (by simp)]; exact hv1), hsn]
    · rw [hsn]; exact ((hps.setCell (Nat.lt_succ_self _) _).setCell (Nat.lt_succ_self _) _).setCell (Nat.lt_succ_self _) _
    · rw [World.cell?_setCell_same _ _ _ (by rw [World.cell?_setCell_other _ _ _ _ (by simp), World.cell?_setCell_other _ _ _ _ (by simp)]; exact hv2)]
  · obtain ⟨d0, ⟨sa', sc', d1, d2⟩, ra', rn', rc', d3⟩ := h.done i (by omega)
    refine ⟨?_, ⟨sa', sc', ?_, ((d2.setCell (Nat.lt_succ_self _) _).setCell (Nat.lt_succ_self _) _).setCell (Nat.lt_succ_self _) _⟩, ra', rn', rc', ?_⟩
    · rw [World.cell?_setCell_other _ _ _ _ (by simp <;> omega), World.cell?_setCell_other _ _ _ _ (by simp <;> omega), World.cell?_setCell_other _ _ _ _ (by simp <;> omega), d0]
    · rw [World.cell?_setCell_other _ _ _ _ (by simp <;> omega), World.cell?_setCell_other _ _ _ _ (by simp <;> omega), World.cell?_setCell_other _ _ _ _ (by simp <;> omega), d1]
    · rw [World.cell?_setCell_other _ _ _ _ (by simp <;> omega), World.cell?_setCell_other _ _ _ _ (by simp <;> omega), World.cell?_setCell_other _ _ _ _ (by simp <;> omega), d3]

set_option maxHeartbeats 4000000 in
set_option maxRecDepth 100000 in
theorem convGroups_some (a : Addr) (b o n c : Nat) (G : Nat → Grp) (w : World) (hn : n ≤ 2097152) (ha : 0 < n → some a = some ⟨b, o, none⟩)
    (hc : ∀ i, i < n → w.cell? ⟨b, o + i * 3, none⟩ = some (.string (G i).nm) ∧ w.cell? ⟨b, o + i * 3 + 1, none⟩ = some (.slice (G i).ao (G i).n (G i).c) ∧
      w.cell? ⟨b, o + i * 3 + 2, none⟩ = some (.slice (G i).ra (G i).rn (G i).rc) ∧ PS w (G i).ao (G i).n (G i).S ∧ RS w (G i).ra (G i).rn (G i).R)
    (hfit : ∀ i, i < n → GrpFits (G i)) :
    Calls Try.prog 14 #[.slice (some a) n c] w fun e w' => e = .returned (.slice (some ⟨w.heap.size, 0, none⟩) n n) ∧ Conv3 w w' n n G := by
  have hnil := Lib.run_eql_slice_nil (P := Try.prog) w 23 34 (some a) n c 0 0 Try.underlying23
  obtain ⟨cur, hcur, hmk⟩ := make_eq 46 53 _ 3 64 n Try.underlying46 info53 (by omega) hn w
  go_enter Try.func14, Try.ntmps14
  go_wp2
  have hst := conv3_start w cur n G hcur
  clear hmk hnil hcur
  go_loopw [4] (fun s wr => ∃ k : Nat, k ≤ n ∧ s = .int .i64 k ∧ Conv3 w wr n k G) (fun s _ => n - (intOf s).toNat)
  case atStart => exact ⟨0, Nat.zero_le _, rfl, hst⟩
  case round =>
    obtain ⟨k, hk, rfl, hC⟩ := hrel
    clear hst
    by_cases hlt : k < n
    · obtain rfl : a = ⟨b, o, none⟩ := Option.some.inj (ha (by omega))
      clear ha
      obtain ⟨nm, sa, sn, sc, SS, ra, rn, rc, R, e1, e2, e3, q0, q1, q2, hP, hRS, hsn, hrn, hRn, hbw⟩ : ∃ (nm : ByteArray) (sa : Option Addr) (sn sc : Nat) (SS : Nat → ByteArray × ByteArray) (ra : Option Addr) (rn rc : Nat) (R : Nat → Res),
          Hid ((G k).nm = nm) ∧ Hid ((G k).n = sn) ∧ Hid ((G k).S = SS) ∧
          wr.cell? ⟨b, o + k * 3, none⟩ = some (.string nm) ∧ wr.cell? ⟨b, o + k * 3 + 1, none⟩ = some (.slice sa sn sc) ∧ wr.cell? ⟨b, o + k * 3 + 2, none⟩ = some (.slice ra rn rc) ∧ PS wr sa sn SS ∧ RS wr ra rn R ∧
          sn ≤ 1048576 ∧ rn ≤ 1048576 ∧ Hid (∀ j, j < rn → (R j).n ≤ 1048576) ∧ b < w.heap.size := by
        obtain ⟨d0, d1, d2, d3, d4⟩ := hc k hlt
        obtain ⟨f0, f1, f2⟩ := hfit k hlt
        exact ⟨_, _, _, _, _, _, _, _, _, rfl, rfl, rfl, (hC.below.cell (p := ⟨b, o + k * 3, none⟩) (World.block_lt_of_cell? _ _ d0)).trans d0, (hC.below.cell (p := ⟨b, o + k * 3 + 1, none⟩) (World.block_lt_of_cell? _ _ d1)).trans d1,
          (hC.below.cell (p := ⟨b, o + k * 3 + 2, none⟩) (World.block_lt_of_cell? _ _ d2)).trans d2, d3.below hC.below, d4.below hC.below, f0, f1, f2, World.block_lt_of_cell? _ _ d0⟩
      have hbl := World.block_lt_of_cell? _ _ q0
      have hBl := hC.row.lt
      have hne1 : ¬ b = w.heap.size := by omega
      have hne2 : ¬ w.heap.size = b := by omega
      have hki : (k : Int) < (n : Int) := by omega
      have hki0 : (0 : Int) ≤ (k : Int) := by omega
      clear hc hfit
      go_wp2_with fail
      go_region_held3 (fun w' => w'.cell? ⟨b, o + k * 3, none⟩ = some (.string nm) ∧ w'.cell? ⟨b, o + k * 3 + 1, none⟩ = some (.slice sa sn sc) ∧ w'.cell? ⟨b, o + k * 3 + 2, none⟩ = some (.slice ra rn rc)) (go_keep)
        (first
          | (go_at_call 15; refine (convStates_any _ _ _ SS _ hsn (by exact hP)).mono ?_; rintro e w1 ⟨sa1, sc1, rfl, hb0, hps⟩
             have hb1 : Below wr.heap.size wr w1 := below_undrew hb0
             have k0 : w1.cell? ⟨b, o + k * 3, none⟩ = some (.string nm) := (hb1.cell (p := ⟨b, o + k * 3, none⟩) hbl).trans q0
             have k1 : w1.cell? ⟨b, o + k * 3 + 1, none⟩ = some (.slice sa sn sc) := (hb1.cell (p := ⟨b, o + k * 3 + 1, none⟩) hbl).trans q1
             have k2 : w1.cell? ⟨b, o + k * 3 + 2, none⟩ = some (.slice ra rn rc) := (hb1.cell (p := ⟨b, o + k * 3 + 2, none⟩) hbl).trans q2
             have hC1 := hC.later hb1
             have hRS1 := hRS.below hb1
             have hps1 : PSat w1 (w.heap.size + 1) sa1 sn SS := hps.mono (by exact hBl)
             clear hC hRS hps hb0 hP)
          | (go_at_call 16; refine (convResources_any _ _ _ R _ hrn hRn.out (by exact hRS1)).mono ?_; rintro e w2 ⟨ra2, rn2, rc2, rfl, hb2⟩
             have hbl1 : b < w1.heap.size := Nat.lt_of_lt_of_le hbl hb1.size
             have m0 : w2.cell? ⟨b, o + k * 3, none⟩ = some (.string nm) := (hb2.cell (p := ⟨b, o + k * 3, none⟩) hbl1).trans k0
             have m1 : w2.cell? ⟨b, o + k * 3 + 1, none⟩ = some (.slice sa sn sc) := (hb2.cell (p := ⟨b, o + k * 3 + 1, none⟩) hbl1).trans k1
             have m2 : w2.cell? ⟨b, o + k * 3 + 2, none⟩ = some (.slice ra rn rc) := (hb2.cell (p := ⟨b, o + k * 3 + 2, none⟩) hbl1).trans k2
             have hC2 := hC1.later hb2
             have hps2 := hps1.below hb2
             obtain ⟨v0, hv0⟩ := hC2.row.cell (i := k * 3) (by omega)
             obtain ⟨v1, hv1⟩ := hC2.row.cell (i := k * 3 + 1) (by omega)
             obtain ⟨v2, hv2⟩ := hC2.row.cell (i := k * 3 + 2) (by omega)
             have f0 := hC2.row.frozen (k * 3)
             have f1 := hC2.row.frozen (k * 3 + 1)
             have f2 := hC2.row.frozen (k * 3 + 2)
             clear hC1 hRS1 hps1 hb2))
      go_wp2
      go_roundw
      case rel => exact ⟨k + 1, by omega, by go_num, conv3_step hC2 hlt e1.out e2.out (by rw [e3.out]; exact hps2)⟩
      case measure => simp [intOf] <;> omega
    · clear hc ha hfit
      obtain rfl : k = n := by omega
      go_wp2
      go_ret
      exact ⟨rfl, hC⟩

set_option maxHeartbeats 1000000 in
theorem convGroups_nil (n c : Nat) (w : World) : Calls Try.prog 14 #[.slice none n c] w fun e w' => e = .returned (.slice none 0 0) ∧ w = w' := by
  have hnil := Lib.run_eql_slice_nil (P := Try.prog) w 23 34 none n c 0 0 Try.underlying23
  go_enter Try.func14, Try.ntmps14
  go_wp2
  go_ret
  exact ⟨rfl, rfl⟩

/-- What gsConvGroups leaves: the same groups, as the program's own type holds them. -/
def GroupsPost (w : World) (n : Nat) (G : Nat → Grp) (e : Ending) (w' : World) : Prop :=
  ∃ ao c, e = .returned (.slice ao n c) ∧ Below w.heap.size w w' ∧ CG w' ao n (fun i => (G i).nm) (fun i => (G i).n) (fun i => (G i).S)

theorem convGroups_any (ao : Option Addr) (n c : Nat) (G : Nat → Grp) (w : World) (hn : n ≤ 2097152) (hfit : ∀ i, i < n → GrpFits (G i)) (h : GS w ao n G) : Calls Try.prog 14 #[.slice ao n c] w (GroupsPost w n G) := by
  obtain ⟨h0, b, o, hao, hc⟩ := h
  cases ao with
  | none =>
    have hn0 : n = 0 := by
      rcases Nat.eq_zero_or_pos n with h | h
      · exact h
      · exact absurd (hao h) (by simp)
    subst hn0
    exact (convGroups_nil 0 c w).mono fun e w' ⟨he, hw⟩ => ⟨none, 0, he, hw ▸ Below.refl _ _, Nat.zero_le _, 0, 0, fun h => absurd h (Nat.lt_irrefl _), fun _ h => absurd h (Nat.not_lt_zero _)⟩
  | some a =>
    refine (convGroups_some a b o n c G w hn hao hc hfit).mono fun e w' ⟨he, hC⟩ => ⟨some ⟨w.heap.size, 0, none⟩, n, he, hC.below, h0, w.heap.size, 0, fun _ => rfl, fun i hi => ?_⟩
    obtain ⟨d0, ⟨sa, sc, d1, d2⟩, d3⟩ := hC.done i hi
    simp only [Nat.zero_add]
    exact ⟨d0, ⟨sa, sc, d1, d2.toPS⟩, d3⟩

theorem CG.below {w w' : World} {ao : Option Addr} {n : Nat} {N : Nat → ByteArray} {L : Nat → Nat} {S : Nat → Nat → ByteArray × ByteArray} (h : CG w ao n N L S) (hb : Below w.heap.size w w') : CG w' ao n N L S := by
  obtain ⟨h0, b, o, h1, h2⟩ := h
  refine ⟨h0, b, o, h1, fun i hi => ?_⟩
  obtain ⟨d0, ⟨sa, sc, d1, d2⟩, ra, rn, rc, d3⟩ := h2 i hi
  exact ⟨(hb.cell (p := ⟨b, o + i * 3, none⟩) (World.block_lt_of_cell? _ _ d0)).trans d0, ⟨sa, sc, (hb.cell (p := ⟨b, o + i * 3 + 1, none⟩) (World.block_lt_of_cell? _ _ d1)).trans d1, d2.below hb⟩, ra, rn, rc,
    (hb.cell (p := ⟨b, o + i * 3 + 2, none⟩) (World.block_lt_of_cell? _ _ d3)).trans d3⟩

theorem GS.below {w w' : World} {ao : Option Addr} {n : Nat} {G : Nat → Grp} (h : GS w ao n G) (hb : Below w.heap.size w w') : GS w' ao n G := by
  obtain ⟨h0, b, o, h1, h2⟩ := h
  refine ⟨h0, b, o, h1, fun i hi => ?_⟩
  obtain ⟨d0, d1, d2, d3, d4⟩ := h2 i hi
  exact ⟨(hb.cell (p := ⟨b, o + i * 3, none⟩) (World.block_lt_of_cell? _ _ d0)).trans d0, (hb.cell (p := ⟨b, o + i * 3 + 1, none⟩) (World.block_lt_of_cell? _ _ d1)).trans d1,
    (hb.cell (p := ⟨b, o + i * 3 + 2, none⟩) (World.block_lt_of_cell? _ _ d2)).trans d2, d3.below hb, d4.below hb⟩

/-- What gsStatus leaves: a pointer to a status whose fourth cell holds the groups. -/
def StatusPost (w : World) (n : Nat) (G : Nat → Grp) (e : Ending) (w' : World) : Prop :=
  ∃ pb ao c, e = .returned (.pointer (some ⟨pb, 0, none⟩)) ∧ Below w.heap.size w w' ∧ w'.cell? ⟨pb, 3, none⟩ = some (.slice ao n c) ∧ CG w' ao n (fun i => (G i).nm) (fun i => (G i).n) (fun i => (G i).S)

set_option maxHeartbeats 2000000 in
set_option maxRecDepth 100000 in
theorem status_any (s0 s1 : ByteArray) (ya : Option Addr) (yn yc : Nat) (Y : Nat → ByteArray × ByteArray) (ga : Option Addr) (gn gc : Nat) (G : Nat → Grp) (w : World) (hyn : yn ≤ 1048576) (hgn : gn ≤ 2097152) (hfit : ∀ i, i < gn → GrpFits (G i)) (hY : PS w ya yn Y) (hG : GS w ga gn G) :
    Calls Try.prog 8 #[.string s0, .string s1, .slice ya yn yc, .slice ga gn gc] w (StatusPost w gn G) := by
  have HF : Hid (∀ i, i < gn → GrpFits (G i)) := hfit
  clear hfit
  go_enter Try.func8, Try.ntmps8
  go_wp2_with fail
  refine (convSystems_any _ _ _ Y _ hyn (by exact hY)).mono ?_
  rintro e w1 ⟨ya1, yn1, yc1, rfl, hb1⟩
  go_wp2_with fail
  refine (convGroups_any _ _ _ G _ hgn HF.out (hG.below hb1)).mono ?_
  rintro e w2 ⟨ga2, gc2, rfl, hb2, hcg⟩
  go_wp2
  go_ret
  have hba : Below w2.heap.size w2 (w2.alloc (.cells #[.string s0, .string s1, .slice ya1 yn1 yc1, .slice ga2 gn gc2] 49)) := (Below.refl _ _).alloc (Nat.le_refl _) _
  exact ⟨w2.heap.size, ga2, gc2, rfl, (hb1.trans (hb2.mono hb1.size)).trans (hba.mono (Nat.le_trans hb1.size hb2.size)), by simp, hcg.below hba⟩

end Go.Proofs.Qxb6634835a
