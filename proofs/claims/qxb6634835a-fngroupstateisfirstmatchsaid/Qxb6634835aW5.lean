import Derived.Test.Qxb6634835aW4
namespace Go.Proofs.Qxb6634835a
open Go.RowKit

def SamePost (w : World) (r : ByteArray) (e : Ending) (w' : World) : Prop := e = .returned (.string r) ∧ w = w'

set_option maxHeartbeats 2000000 in
set_option maxRecDepth 100000 in
theorem lastWrite_any (ga : Option Addr) (gn gc : Nat) (G : Nat → Grp) (grp sys : ByteArray) (w : World) (hG : GS w ga gn G) :
    Calls Try.prog 7 #[.slice ga gn gc, .string grp, .string sys] w (SamePost w ((Plain.gFind (fun i => (G i).nm) (fun i => (G i).n) (fun i => (G i).S) grp sys 0 gn).getD ByteArray.empty)) := by
  obtain ⟨hgm, gb, go, hga, hgc⟩ := hG
  unfold maxLen at hgm
  go_enter Try.func7, Try.ntmps7
  go_wp2
  go_loop [7, 8] (fun s7 s8 => ∃ x : Int, -1 ≤ x ∧ x < gn ∧ s8 = .int .i64 x ∧ s7 = .string ((Plain.gFind (fun i => (G i).nm) (fun i => (G i).n) (fun i => (G i).S) grp sys (x + 1).toNat (gn - (x + 1).toNat)).getD ByteArray.empty)) (fun _ s => (intOf s + 1).toNat)
  case atStart => exact ⟨(gn : Int) - 1, by omega, by omega, rfl, by rw [Plain.gFind_end (by omega)]; rfl⟩
  case round =>
    obtain ⟨x, hx0, hx1, rfl, rfl⟩ := hrel
    by_cases hx : 0 ≤ x
    · obtain ⟨q, rfl⟩ := Int.eq_ofNat_of_zero_le hx
      have hq : q < gn := by omega
      obtain rfl := hga (by omega)
      obtain ⟨nm, sa, sn, sc, S, e1, e2, e3, c0, c1, hP⟩ : ∃ (nm : ByteArray) (sa : Option Addr) (sn sc : Nat) (S : Nat → ByteArray × ByteArray), Hid ((G q).nm = nm) ∧ Hid ((G q).n = sn) ∧ Hid ((G q).S = S) ∧
          w.cell? ⟨gb, go + q * 3, none⟩ = some (.string nm) ∧ w.cell? ⟨gb, go + q * 3 + 1, none⟩ = some (.slice sa sn sc) ∧ PS w sa sn S := ⟨_, _, _, _, _, rfl, rfl, rfl, (hgc q hq).1, (hgc q hq).2.1, (hgc q hq).2.2.2.1⟩
      obtain ⟨hpm, pb, po, hpa, hpc⟩ := hP
      unfold maxLen at hpm
      clear hga hgc
      obtain ⟨r0, hr0⟩ : ∃ r0, r0 = (Plain.gFind (fun i => (G i).nm) (fun i => (G i).n) (fun i => (G i).S) grp sys ((q : Int) + 1).toNat (gn - ((q : Int) + 1).toNat)).getD ByteArray.empty := ⟨_, rfl⟩
      rw [← hr0]
      have HR0 : Hid (r0 = (Plain.gFind (fun i => (G i).nm) (fun i => (G i).n) (fun i => (G i).S) grp sys ((q : Int) + 1).toNat (gn - ((q : Int) + 1).toNat)).getD ByteArray.empty) := hr0
      clear hr0
      cases hm : (nm.toList == grp.toList)
      · go_wp2
        go_round
        case rel => exact ⟨(q : Int) - 1, by omega, by omega, by go_num, by rw [HR0.out, Plain.g_down_other hq (by rw [e1.out]; exact hm)]⟩
        case measure => simp [intOf] <;> omega
      · go_wp2
        go_loop [7, 10] (fun s7 s10 => ∃ y : Int, -1 ≤ y ∧ y < sn ∧ s10 = .int .i64 y ∧ s7 = .string ((Plain.stFind S sys (y + 1).toNat (sn - (y + 1).toNat)).getD r0)) (fun _ s => (intOf s + 1).toNat)
        case atStart => exact ⟨(sn : Int) - 1, by omega, by omega, rfl, by rw [Plain.stFind_end (by omega)]; rfl⟩
        case round =>
          obtain ⟨y, hy0, hy1, rfl, rfl⟩ := hrel
          by_cases hy : 0 ≤ y
          · obtain ⟨t, rfl⟩ := Int.eq_ofNat_of_zero_le hy
            have ht : t < sn := by omega
            obtain rfl := hpa (by omega)
            obtain ⟨d0, d1⟩ := hpc t ht
            obtain ⟨u0, u1, HU, q0, q1⟩ : ∃ u0 u1 : ByteArray, Hid (S t = (u0, u1)) ∧ w.cell? ⟨pb, po + t * 2, none⟩ = some (.string u0) ∧ w.cell? ⟨pb, po + t * 2 + 1, none⟩ = some (.string u1) := ⟨(S t).1, (S t).2, rfl, d0, d1⟩
            clear hpa hpc d0 d1
            cases hs : (u0.toList == sys.toList)
            · go_wp2
              go_round
              case rel => exact ⟨(t : Int) - 1, by omega, by omega, by go_num, by rw [Plain.st_down_miss ht (by rw [HU.out]; exact hs)]⟩
              case measure => simp [intOf] <;> omega
            · go_wp2
              go_round
              case rel => exact ⟨(t : Int) - 1, by omega, by omega, by go_num, by rw [Plain.st_down_hit ht (by rw [HU.out]; exact hs) (by rw [HU.out])]⟩
              case measure => simp [intOf] <;> omega
          · obtain rfl : y = -1 := by omega
            clear hpa hpc
            go_wp2
            go_round
            case rel => exact ⟨(q : Int) - 1, by omega, by omega, by go_num, by rw [Plain.g_down_own hq (by rw [e1.out]; exact hm), ← HR0.out, e2.out, e3.out]; rfl⟩
            case measure => simp [intOf] <;> omega
    · obtain rfl : x = -1 := by omega
      clear hga hgc
      go_wp2
      go_ret
      exact ⟨rfl, rfl⟩

end Go.Proofs.Qxb6634835a
