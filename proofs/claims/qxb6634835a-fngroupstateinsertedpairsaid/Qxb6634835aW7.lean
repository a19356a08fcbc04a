import Derived.Test.Qxb6634835aW6
import Derived.Deep.RegionHeld3
namespace Go.Proofs.Qxb6634835a
open Go.RowKit

theorem below_undrew {B : Nat} {w w' : World} (h : Below B w.drew w') : Below B w w' := ⟨h.os, h.tape, h.output, h.size, h.block⟩

theorem info61 : (Try.prog.info? 61).map (fun i => (i.zero, i.size, i.bytes)) = some (some (.agg #[.string ByteArray.empty, .slice none 0 0]), 2, 40) := by kernel_rfl

set_option maxHeartbeats 2000000 in
set_option maxRecDepth 100000 in
theorem convResources_some (a : Addr) (b o n c : Nat) (R : Nat → Res) (w : World) (hn : n ≤ 1048576) (ha : 0 < n → some a = some ⟨b, o, none⟩)
    (hc : ∀ i, i < n → w.cell? ⟨b, o + i * 2, none⟩ = some (.string (R i).nm) ∧ w.cell? ⟨b, o + i * 2 + 1, none⟩ = some (.slice (R i).ao (R i).n (R i).c) ∧ PS w (R i).ao (R i).n (R i).S ∧ (R i).n ≤ 1048576) :
    Calls Try.prog 16 #[.slice (some a) n c] w fun e w' => e = .returned (.slice (some ⟨w.heap.size, 0, none⟩) n n) ∧ Below w.heap.size w w' := by
  have hnil := Lib.run_eql_slice_nil (P := Try.prog) w 32 40 (some a) n c 0 0 Try.underlying32
  obtain ⟨cur, hcur, hmk⟩ := make_eq 51 61 _ 2 40 n Try.underlying51 info61 (by omega) (by omega) w
  go_enter Try.func16, Try.ntmps16
  go_wp2
  have hst : Below w.heap.size w (w.alloc (.cells cur 61)) ∧ Row (w.alloc (.cells cur 61)) w.heap.size 61 (n * 2) := ⟨(Below.refl _ _).alloc (Nat.le_refl _) _, hcur ▸ Row.made w cur 61⟩
  clear hmk hnil hcur
  go_loopw [4] (fun s wr => ∃ k : Nat, k ≤ n ∧ s = .int .i64 k ∧ Below w.heap.size w wr ∧ Row wr w.heap.size 61 (n * 2)) (fun s _ => n - (intOf s).toNat)
  case atStart => exact ⟨0, Nat.zero_le _, rfl, hst⟩
  case round =>
    obtain ⟨k, hk, rfl, hB, hR⟩ := hrel
    clear hst
    by_cases hlt : k < n
    · obtain rfl : a = ⟨b, o, none⟩ := Option.some.inj (ha (by omega))
      clear ha
      obtain ⟨nm, sa, sn, sc, SS, q0, q1, hP, hsn, hbw⟩ : ∃ (nm : ByteArray) (sa : Option Addr) (sn sc : Nat) (SS : Nat → ByteArray × ByteArray), wr.cell? ⟨b, o + k * 2, none⟩ = some (.string nm) ∧ wr.cell? ⟨b, o + k * 2 + 1, none⟩ = some (.slice sa sn sc) ∧ PS wr sa sn SS ∧ sn ≤ 1048576 ∧ b < w.heap.size := by
        obtain ⟨d0, d1, d2, d3⟩ := hc k hlt
        exact ⟨_, _, _, _, _, (hB.cell (p := ⟨b, o + k * 2, none⟩) (World.block_lt_of_cell? _ _ d0)).trans d0, (hB.cell (p := ⟨b, o + k * 2 + 1, none⟩) (World.block_lt_of_cell? _ _ d1)).trans d1, d2.below hB, d3, World.block_lt_of_cell? _ _ d0⟩
      have hbl := World.block_lt_of_cell? _ _ q0
      have hBl := hR.lt
      have hne1 : ¬ b = w.heap.size := by omega
      have hne2 : ¬ w.heap.size = b := by omega
      have hki : (k : Int) < (n : Int) := by omega
      have hki0 : (0 : Int) ≤ (k : Int) := by omega
      clear hc
      go_wp2_with fail
      go_region_held3 (fun w' => w'.cell? ⟨b, o + k * 2, none⟩ = some (.string nm) ∧ w'.cell? ⟨b, o + k * 2 + 1, none⟩ = some (.slice sa sn sc)) (go_keep)
        ((go_at_call 15; refine (convStates_any _ _ _ SS _ hsn (by exact hP)).mono ?_; rintro e w1 ⟨ra, rc, rfl, hb0, hps⟩
          have hb1 : Below wr.heap.size wr w1 := below_undrew hb0
          have k0 : w1.cell? ⟨b, o + k * 2, none⟩ = some (.string nm) := (hb1.cell (p := ⟨b, o + k * 2, none⟩) hbl).trans q0
          have k1 : w1.cell? ⟨b, o + k * 2 + 1, none⟩ = some (.slice sa sn sc) := (hb1.cell (p := ⟨b, o + k * 2 + 1, none⟩) hbl).trans q1
          have hR1 : Row w1 w.heap.size 61 (n * 2) := hR.below (w := wr) hb1 hBl
          have hB1 : Below w.heap.size w w1 := hB.trans (hb1.mono (Nat.le_of_lt hBl))
          obtain ⟨v0, hv0⟩ := hR1.cell (i := k * 2) (by omega)
          obtain ⟨v1, hv1⟩ := hR1.cell (i := k * 2 + 1) (by omega)
          have f0 := hR1.frozen (k * 2)
          have f1 := hR1.frozen (k * 2 + 1)
          clear hps hb0 hb1 hR hB hP))
      go_wp2
      go_roundw
      case rel => exact ⟨k + 1, by omega, by go_num, (hB1.setCell (Nat.le_refl _) _).setCell (Nat.le_refl _) _, (hR1.setCell _ _).setCell _ _⟩
      case measure => simp [intOf] <;> omega
    · clear hc ha
      obtain rfl : k = n := by omega
      go_wp2
      go_ret
      exact ⟨rfl, hB⟩

set_option maxHeartbeats 1000000 in
theorem convResources_nil (n c : Nat) (w : World) : Calls Try.prog 16 #[.slice none n c] w fun e w' => e = .returned (.slice none 0 0) ∧ w = w' := by
  have hnil := Lib.run_eql_slice_nil (P := Try.prog) w 32 40 none n c 0 0 Try.underlying32
  go_enter Try.func16, Try.ntmps16
  go_wp2
  go_ret
  exact ⟨rfl, rfl⟩

theorem convResources_any (ao : Option Addr) (n c : Nat) (R : Nat → Res) (w : World) (hn : n ≤ 1048576) (hRn : ∀ i, i < n → (R i).n ≤ 1048576) (h : RS w ao n R) : Calls Try.prog 16 #[.slice ao n c] w (SlicePost w) := by
  obtain ⟨_, b, o, hao, hc⟩ := h
  cases ao with
  | none => exact (convResources_nil n c w).mono fun e w' ⟨he, hw⟩ => ⟨none, 0, 0, he, hw ▸ Below.refl _ _⟩
  | some a => exact (convResources_some a b o n c R w hn hao (fun i hi => ⟨(hc i hi).1, (hc i hi).2.1, (hc i hi).2.2, hRn i hi⟩)).mono fun e w' ⟨he, hb⟩ => ⟨_, _, _, he, hb⟩

theorem RS.below {w w' : World} {ao : Option Addr} {n : Nat} {R : Nat → Res} (h : RS w ao n R) (hb : Below w.heap.size w w') : RS w' ao n R := by
  obtain ⟨h0, b, o, h1, h2⟩ := h
  refine ⟨h0, b, o, h1, fun i hi => ?_⟩
  obtain ⟨c0, c1, hP⟩ := h2 i hi
  exact ⟨(hb.cell (p := ⟨b, o + i * 2, none⟩) (World.block_lt_of_cell? _ _ c0)).trans c0, (hb.cell (p := ⟨b, o + i * 2 + 1, none⟩) (World.block_lt_of_cell? _ _ c1)).trans c1, hP.below hb⟩

theorem PS.below' {w w' : World} {B : Nat} {ao : Option Addr} {n : Nat} {S : Nat → ByteArray × ByteArray} (h : PS w ao n S) (hb : Below B w w') (hB : w.heap.size ≤ B) : PS w' ao n S := h.below (hb.mono hB)

end Go.Proofs.Qxb6634835a
