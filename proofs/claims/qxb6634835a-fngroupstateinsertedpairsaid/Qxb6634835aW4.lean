import Derived.Test.Qxb6634835aW2
import Derived.Test.Qxb6634835aPlain
namespace Go.Proofs.Qxb6634835a
open Go.RowKit

/-- The groups as the program's own type holds them. -/
def CG (w : World) (ao : Option Addr) (n : Nat) (N : Nat → ByteArray) (L : Nat → Nat) (S : Nat → Nat → ByteArray × ByteArray) : Prop :=
  n ≤ maxLen ∧ ∃ b o, (0 < n → ao = some ⟨b, o, none⟩) ∧ ∀ i, i < n →
    w.cell? ⟨b, o + i * 3, none⟩ = some (.string (N i)) ∧ (∃ sa sc, w.cell? ⟨b, o + i * 3 + 1, none⟩ = some (.slice sa (L i) sc) ∧ PS w sa (L i) (S i)) ∧ ∃ ra rn rc, w.cell? ⟨b, o + i * 3 + 2, none⟩ = some (.slice ra rn rc)

def StrPost (w : World) (r : ByteArray) (e : Ending) (w' : World) : Prop := e = .returned (.string r) ∧ Below w.heap.size w w'

set_option maxHeartbeats 2000000 in
set_option maxRecDepth 100000 in
theorem groupState_any (pb po : Nat) (ga : Option Addr) (gn gc : Nat) (N : Nat → ByteArray) (L : Nat → Nat) (S : Nat → Nat → ByteArray × ByteArray) (grp sys : ByteArray) (w : World)
    (hp : w.cell? ⟨pb, po + 3, none⟩ = some (.slice ga gn gc)) (hG : CG w ga gn N L S) :
    Calls Try.prog 9 #[.pointer (some ⟨pb, po, none⟩), .string grp, .string sys] w (StrPost w ((Plain.gFind N L S grp sys 0 gn).getD ByteArray.empty)) := by
  obtain ⟨hgm, gb, go, hga, hgc⟩ := hG
  unfold maxLen at hgm
  go_enter Try.func9, Try.ntmps9
  go_wp2
  go_loopw [16] (fun s wr => ∃ k : Nat, k ≤ gn ∧ s = .int .i64 k ∧ Below w.heap.size w wr ∧ Plain.gFind N L S grp sys 0 gn = Plain.gFind N L S grp sys k (gn - k)) (fun s _ => gn - (intOf s).toNat)
  case atStart => exact ⟨0, Nat.zero_le _, rfl, Below.refl _ _, rfl⟩
  case round =>
    obtain ⟨k, hk, rfl, hb, heq⟩ := hrel
    have HE : Hid (Plain.gFind N L S grp sys 0 gn = Plain.gFind N L S grp sys k (gn - k)) := heq
    clear heq
    by_cases hlt : k < gn
    · obtain rfl := hga (by omega)
      obtain ⟨nm, ln, SS, sa, sc, ra, rn, rc, HN, c0, c1, c2, hP⟩ : ∃ (nm : ByteArray) (ln : Nat) (SS : Nat → ByteArray × ByteArray) (sa : Option Addr) (sc : Nat) (ra : Option Addr) (rn rc : Nat), Hid (N k = nm ∧ L k = ln ∧ S k = SS) ∧
          wr.cell? ⟨gb, go + k * 3, none⟩ = some (.string nm) ∧ wr.cell? ⟨gb, go + k * 3 + 1, none⟩ = some (.slice sa ln sc) ∧ wr.cell? ⟨gb, go + k * 3 + 2, none⟩ = some (.slice ra rn rc) ∧ PS w sa ln SS := by
        obtain ⟨h0, ⟨sa, sc, h1, hP⟩, ra, rn, rc, h2⟩ := hgc k hlt
        have hl := World.block_lt_of_cell? _ _ h0
        exact ⟨_, _, _, sa, sc, ra, rn, rc, ⟨rfl, rfl, rfl⟩, (hb.cell (p := ⟨gb, go + k * 3, none⟩) hl).trans h0, (hb.cell (p := ⟨gb, go + k * 3 + 1, none⟩) hl).trans h1, (hb.cell (p := ⟨gb, go + k * 3 + 2, none⟩) hl).trans h2, hP⟩
      clear hga hgc
      cases hq : (nm.toList == grp.toList)
      · go_wp2
        go_roundw
        case rel =>
          obtain ⟨e1, e2, e3⟩ := HN.out
          exact ⟨k + 1, by omega, by go_num, hb.alloc hb.size _, by rw [HE.out]; exact Plain.gFind_other hlt (by rw [e1]; exact hq)⟩
        case measure => simp [intOf]; omega
      · obtain ⟨hpm, pb', po', hpa, hpc⟩ := hP
        unfold maxLen at hpm
        go_wp2
        go_loopw [27] (fun s wi => ∃ j : Nat, j ≤ ln ∧ s = .int .i64 j ∧ Below w.heap.size w wi ∧ Plain.stFind SS sys 0 ln = Plain.stFind SS sys j (ln - j)) (fun s _ => ln - (intOf s).toNat)
        case atStart => exact ⟨0, Nat.zero_le _, rfl, hb.alloc hb.size _, rfl⟩
        case round =>
          obtain ⟨j, hj, rfl, hbi, heqj⟩ := hrel
          have HJ : Hid (Plain.stFind SS sys 0 ln = Plain.stFind SS sys j (ln - j)) := heqj
          clear heqj
          by_cases hltj : j < ln
          · obtain rfl := hpa (by omega)
            obtain ⟨d0, d1⟩ := hpc j hltj
            obtain ⟨u0, u1, HU, q0, q1⟩ : ∃ u0 u1 : ByteArray, Hid (SS j = (u0, u1)) ∧ wr.cell? ⟨pb', po' + j * 2, none⟩ = some (.string u0) ∧ wr.cell? ⟨pb', po' + j * 2 + 1, none⟩ = some (.string u1) :=
              ⟨(SS j).1, (SS j).2, rfl, (hbi.cell (p := ⟨pb', po' + j * 2, none⟩) (World.block_lt_of_cell? _ _ d0)).trans d0, (hbi.cell (p := ⟨pb', po' + j * 2 + 1, none⟩) (World.block_lt_of_cell? _ _ d1)).trans d1⟩
            clear hpa hpc d0 d1
            cases hs : (u0.toList == sys.toList)
            · go_wp2
              go_roundw
              case rel => exact ⟨j + 1, by omega, by go_num, hbi.alloc hbi.size _, by rw [HJ.out]; exact Plain.stFind_miss hltj (by rw [HU.out]; exact hs)⟩
              case measure => simp [intOf]; omega
            · go_wp2
              go_ret
              obtain ⟨e1, e2, e3⟩ := HN.out
              have hst : Plain.stFind (S k) sys 0 (L k) = some u1 := by rw [e2, e3, HJ.out, Plain.stFind_hit hltj (by rw [HU.out]; exact hs), HU.out]
              exact ⟨by rw [HE.out, Plain.gFind_hit hlt (by rw [e1]; exact hq) hst]; rfl, hbi.alloc hbi.size _⟩
          · clear hpa hpc
            go_wp2
            go_roundw
            case rel =>
              obtain ⟨e1, e2, e3⟩ := HN.out
              exact ⟨k + 1, by omega, by go_num, hbi, by rw [HE.out]; exact Plain.gFind_miss hlt (by rw [e2, e3, HJ.out, Plain.stFind_end hltj])⟩
            case measure => simp [intOf]; omega
    · clear hga hgc
      go_wp2
      go_ret
      exact ⟨by rw [HE.out, Plain.gFind_end hlt]; rfl, hb⟩

end Go.Proofs.Qxb6634835a
