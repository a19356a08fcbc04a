import Derived.Test.Qxb6634835aW2
namespace Go.Proofs.Qxb6634835a
open Go.RowKit

/-- What zzBytes lets by. -/
def GrpFits (g : Grp) : Prop := g.n ≤ 1048576 ∧ g.rn ≤ 1048576 ∧ ∀ j, j < g.rn → (g.R j).n ≤ 1048576
def Fits (yn gn : Nat) (G : Nat → Grp) : Prop := yn ≤ 1048576 ∧ gn ≤ 1048576 ∧ ∀ i, i < gn → GrpFits (G i)
def ZzPost (yn gn : Nat) (G : Nat → Grp) (w : World) (e : Ending) (w' : World) : Prop := ∃ b : Bool, e = .returned (.bool b) ∧ (b = true → Fits yn gn G) ∧ w = w'

theorem zz_no {yn gn : Nat} {G : Nat → Grp} {w : World} : ZzPost yn gn G w (.returned (.bool false)) w := ⟨false, rfl, fun h => Bool.noConfusion h, rfl⟩

theorem rfit_step {R : Nat → Res} {l : Nat} {rnm : ByteArray} {qa : Option Addr} {qn qc : Nat} {Q : Nat → ByteArray × ByteArray} (HR : Hid (R l = ⟨rnm, qa, qn, qc, Q⟩)) (hqn : qn ≤ 1048576)
    (h : Hid (∀ j, j < l → (R j).n ≤ 1048576)) : ∀ j, j < l + 1 → (R j).n ≤ 1048576 := by
  intro j hj
  rcases Nat.lt_succ_iff_lt_or_eq.1 hj with h1 | h1
  · exact h.out j h1
  · rw [h1, HR.out]; exact hqn

theorem gfit_step {G : Nat → Grp} {i l : Nat} {nm : ByteArray} {sa : Option Addr} {sn sc : Nat} {S : Nat → ByteArray × ByteArray} {ra : Option Addr} {rn rc : Nat} {R : Nat → Res}
    (HG : Hid (G i = ⟨nm, sa, sn, sc, S, ra, rn, rc, R⟩)) (HL : Hid (l = rn)) (hsn : sn ≤ 1048576) (hrn : rn ≤ 1048576) (HR : Hid (∀ j, j < l → (R j).n ≤ 1048576))
    (h : Hid (∀ j, j < i → GrpFits (G j))) : ∀ j, j < i + 1 → GrpFits (G j) := by
  intro j hj
  rcases Nat.lt_succ_iff_lt_or_eq.1 hj with h1 | h1
  · exact h.out j h1
  · rw [h1, HG.out]; exact ⟨hsn, hrn, by have e := HL.out; subst e; exact HR.out⟩

end Go.Proofs.Qxb6634835a
