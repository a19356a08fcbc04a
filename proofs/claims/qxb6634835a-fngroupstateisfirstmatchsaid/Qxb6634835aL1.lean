import Derived.Test.Qxb6634835aW3
import Derived.Test.Qxb6634835aW5
import Derived.Test.Qxb6634835aW8
namespace Go.Proofs.Qxb6634835a
open Go.RowKit

/-- The law returns true; nothing that was there has turned. -/
def TruePost (w : World) (e : Ending) (w' : World) : Prop := e = .returned (.bool true) ∧ Below w.heap.size w w'

set_option maxHeartbeats 2000000 in
set_option maxRecDepth 100000 in
theorem first_any (s0 s1 s4 s5 : ByteArray) (ya : Option Addr) (yn yc : Nat) (Y : Nat → ByteArray × ByteArray) (ga : Option Addr) (gn gc : Nat) (G : Nat → Grp) (w : World) (hY : PS w ya yn Y) (hG : GS w ga gn G) :
    Calls Try.prog 3 #[.string s0, .string s1, .slice ya yn yc, .slice ga gn gc, .string s4, .string s5] w (TruePost w) := by
  go_enter Try.func3, Try.ntmps3
  go_wp2_with fail
  refine (zz5_any _ _ _ _ _ _ _ Y _ _ _ G _ hY hG).mono ?_
  rintro e w' ⟨b, rfl, hF, rfl⟩
  cases b
  · clear hF
    go_wp2
    go_ret
    exact ⟨rfl, Below.refl _ _⟩
  obtain ⟨hyn, hgn, hfit⟩ : Fits yn gn G := hF rfl
  have HF : Hid (∀ i, i < gn → GrpFits (G i)) := hfit
  clear hF hfit
  go_wp2_with fail
  refine (tooBig_any _ _ _ _ _ _ _ _ Y _ _ _ G _ hY hG).mono ?_
  rintro e w' ⟨b, rfl, rfl⟩
  cases b
  · go_wp2_with fail
    refine (lastWrite_any _ _ _ G _ _ _ hG).mono ?_
    rintro e w' ⟨rfl, rfl⟩
    go_wp2_with fail
    refine (status_any _ _ _ _ _ Y _ _ _ G _ hyn (by omega) HF.out hY hG).mono ?_
    rintro e w1 ⟨pb, ao, c, rfl, hb1, hp, hcg⟩
    go_wp2_with fail
    refine (groupState_any pb 0 ao gn c _ _ _ s4 s5 w1 (by simpa using hp) hcg).mono ?_
    rintro e w2 ⟨rfl, hb2⟩
    go_wp2
    go_ret
    exact ⟨rfl, hb1.trans (hb2.mono hb1.size)⟩
  · go_wp2
    go_ret
    exact ⟨rfl, Below.refl _ _⟩

end Go.Proofs.Qxb6634835a
