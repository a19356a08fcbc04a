import Derived.Test.Qxb6627924aW1
import Derived.BigRegion
import Derived.Deep.QuietTactic
import Derived.BigQuiet
namespace Go.Proofs.Qxb6627924a
open Go.RowKit

/-- True; nothing that was there has turned. -/
def TruePost (w : World) (e : Ending) (w' : World) : Prop := e = .returned (.bool true) ∧ Below w.heap.size w w'

/-- True; the world is as it was but for draws. -/
def QuietTrue (w : World) (e : Ending) (w' : World) : Prop := e = .returned (.bool true) ∧ ∃ m, w' = w.drewN m

set_option maxHeartbeats 1000000 in
set_option maxRecDepth 100000 in
theorem sameBytes_true (a b : Option Addr) (n ca cb : Nat) (D E : Nat → Int) (w : World) (ha : BS w a n D) (hb : BS w b n E) (he : ∀ i, i < n → D i = E i) : Calls Try.prog 12 #[.slice a n ca, .slice b n cb] w (QuietTrue w) := by
  obtain ⟨hm, ab, ao, haa, hac⟩ := ha
  obtain ⟨_, bb, bo, hba, hbc⟩ := hb
  unfold maxLen at hm
  have hne : ((n : Int) != (n : Int)) = false := by simp
  go_enter Try.func12, Try.ntmps12
  go_wp2
  go_loopw [5] (fun s wr => ∃ k : Nat, k ≤ n ∧ s = .int .i64 k ∧ ∃ m, wr = w.drewN m) (fun s _ => n - (intOf s).toNat)
  case atStart => exact ⟨0, Nat.zero_le _, rfl, 0, rfl⟩
  case round =>
    obtain ⟨k, hk, rfl, m, rfl⟩ := hrel
    by_cases hlt : k < n
    · obtain rfl := haa (by omega)
      obtain rfl := hba (by omega)
      have c0 := hac k hlt
      have c1 := hbc k hlt
      rw [← he k hlt] at c1
      have hki : (k : Int) < (n : Int) := by omega
      clear haa hba hac hbc he
      go_wp2_with fail
      go_quiet (fail)
      go_wp2
      go_roundw
      case rel => exact ⟨k + 1, by omega, by go_num, _, rfl⟩
      case measure => simp [intOf] <;> omega
    · clear haa hba hac hbc he
      go_wp2
      go_ret
      exact ⟨rfl, m, rfl⟩

theorem sameBytes_quiet (a b : Option Addr) (n ca cb : Nat) (D E : Nat → Int) (w : World) (ha : BS w a n D) (hb : BS w b n E) (he : ∀ i, i < n → D i = E i) :
    Calls Try.prog 12 #[.slice a n ca, .slice b n cb] w fun e w' => e = .returned (.bool true) ∧ ∃ m, w' = w.drewN m := sameBytes_true a b n ca cb D E w ha hb he

/-- Two rows of MSUs that read alike. -/
def Alike (n : Nat) (M N : Nat → Msu) : Prop := ∀ i, i < n → (M i).n = (N i).n ∧ ∀ j, j < (M i).n → (M i).D j = (N i).D j

theorem BS.drewN {w : World} {ao : Option Addr} {n : Nat} {D : Nat → Int} (h : BS w ao n D) (m : Nat) : BS (w.drewN m) ao n D := by
  obtain ⟨h0, b, o, h1, h2⟩ := h
  exact ⟨h0, b, o, h1, fun i hi => by simpa using h2 i hi⟩

set_option maxHeartbeats 1000000 in
set_option maxRecDepth 100000 in
theorem same_true (a b : Option Addr) (n ca cb : Nat) (M N : Nat → Msu) (w : World) (ha : MS w a n M) (hb : MS w b n N) (he : Alike n M N) : Calls Try.prog 10 #[.slice a n ca, .slice b n cb] w (QuietTrue w) := by
  obtain ⟨hm, ab, ao, haa, hac⟩ := ha
  obtain ⟨_, bb, bo, hba, hbc⟩ := hb
  unfold maxLen at hm
  have hne : ((n : Int) != (n : Int)) = false := by simp
  go_enter Try.func10, Try.ntmps10
  go_wp2
  go_loopw [5] (fun s wr => ∃ k : Nat, k ≤ n ∧ s = .int .i64 k ∧ ∃ m, wr = w.drewN m) (fun s _ => n - (intOf s).toNat)
  case atStart => exact ⟨0, Nat.zero_le _, rfl, 0, rfl⟩
  case round =>
    obtain ⟨k, hk, rfl, m, hwr⟩ := hrel
    have HW : Hid (wr = w.drewN m) := hwr
    clear hwr
    by_cases hlt : k < n
    · obtain rfl := haa (by omega)
      obtain rfl := hba (by omega)
      obtain ⟨xa, xb, xn, xc, yc, D, E, c0, c1, hB, hE, HD⟩ : ∃ (xa xb : Option Addr) (xn xc yc : Nat) (D E : Nat → Int), wr.cell? ⟨ab, ao + k, none⟩ = some (.slice xa xn xc) ∧ wr.cell? ⟨bb, bo + k, none⟩ = some (.slice xb xn yc) ∧ BS wr xa xn D ∧ BS wr xb xn E ∧ Hid (∀ j, j < xn → D j = E j) := by
        obtain ⟨e1, e2⟩ := he k hlt
        refine ⟨(M k).ao, (N k).ao, (M k).n, (M k).c, (N k).c, (M k).D, (N k).D, ?_, ?_, ?_, ?_, e2⟩
        · rw [HW.out]; simpa using (hac k hlt).1
        · rw [HW.out, e1]; simpa using (hbc k hlt).1
        · rw [HW.out]; exact (hac k hlt).2.drewN m
        · rw [HW.out, e1]; exact (hbc k hlt).2.drewN m
      have hki : (k : Int) < (n : Int) := by omega
      clear haa hba hac hbc he
      go_wp2_with fail
      go_quiet ((go_at_call 12; refine Calls.quiet_of (sameBytes_quiet _ _ _ _ _ D E _ ?_ ?_ HD.out); exact hB.drewN _; exact hE.drewN _))
      go_wp2
      go_roundw
      case rel => exact ⟨k + 1, by omega, by go_num, m + nq, by rw [HW.out]; simp⟩
      case measure => simp [intOf] <;> omega
    · clear haa hba hac hbc he
      go_wp2
      go_ret
      exact ⟨rfl, m, HW.out⟩

end Go.Proofs.Qxb6627924a
