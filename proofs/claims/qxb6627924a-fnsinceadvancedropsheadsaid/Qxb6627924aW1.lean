import Derived.Test.Qxb6627924aProg
import Derived.WalkKit
import Derived.WalkSpells
import Derived.WalkLawsBesides
namespace Go.Proofs.Qxb6627924a
open Go.RowKit

/-- A slice of bytes, read whole. -/
def BS (w : World) (ao : Option Addr) (n : Nat) (D : Nat → Int) : Prop :=
  n ≤ maxLen ∧ ∃ b o, (0 < n → ao = some ⟨b, o, none⟩) ∧ ∀ i, i < n → w.cell? ⟨b, o + i, none⟩ = some (.int .u8 (D i))

/-- An MSU as it reads. -/
structure Msu where
  ao : Option Addr
  n : Nat
  c : Nat
  D : Nat → Int

/-- A slice of MSUs, read whole. -/
def MS (w : World) (ao : Option Addr) (n : Nat) (M : Nat → Msu) : Prop :=
  n ≤ maxLen ∧ ∃ b o, (0 < n → ao = some ⟨b, o, none⟩) ∧ ∀ i, i < n → w.cell? ⟨b, o + i, none⟩ = some (.slice (M i).ao (M i).n (M i).c) ∧ BS w (M i).ao (M i).n (M i).D

theorem BS.below {w w' : World} {ao : Option Addr} {n : Nat} {D : Nat → Int} (h : BS w ao n D) (hb : Below w.heap.size w w') : BS w' ao n D := by
  obtain ⟨h0, b, o, h1, h2⟩ := h
  exact ⟨h0, b, o, h1, fun i hi => (hb.cell (p := ⟨b, o + i, none⟩) (World.block_lt_of_cell? _ _ (h2 i hi))).trans (h2 i hi)⟩

theorem MS.below {w w' : World} {ao : Option Addr} {n : Nat} {M : Nat → Msu} (h : MS w ao n M) (hb : Below w.heap.size w w') : MS w' ao n M := by
  obtain ⟨h0, b, o, h1, h2⟩ := h
  exact ⟨h0, b, o, h1, fun i hi => ⟨(hb.cell (p := ⟨b, o + i, none⟩) (World.block_lt_of_cell? _ _ (h2 i hi).1)).trans (h2 i hi).1, (h2 i hi).2.below hb⟩⟩

theorem MS.empty (w : World) (ao : Option Addr) (M : Nat → Msu) : MS w ao 0 M := ⟨Nat.zero_le _, 0, 0, fun h => absurd h (Nat.lt_irrefl _), fun _ h => absurd h (Nat.not_lt_zero _)⟩

/-- m[r:] -/
theorem MS.drop {w : World} {ao : Option Addr} {n r : Nat} {M : Nat → Msu} (h : MS w ao n M) (hr : r ≤ n) : MS w (ao.map fun x => x.add r) (n - r) (fun i => M (r + i)) := by
  obtain ⟨h0, b, o, h1, h2⟩ := h
  refine ⟨by omega, b, o + r, fun hp => ?_, fun i hi => ?_⟩
  · rw [h1 (by omega)]
    show some (Addr.add ⟨b, o, none⟩ r) = _
    unfold Addr.add
    by_cases hr0 : r = 0 <;> simp [hr0]
  · have := h2 (r + i) (by omega)
    rw [← Nat.add_assoc] at this
    exact this

theorem and127 : ∀ n : Fin 256, bits BinOp.and IntKind.u8 ((n.val : Nat) : Int) 127 = ((n.val % 128 : Nat) : Int) := by decide +kernel

theorem and127_mod (x : Int) : bits BinOp.and IntKind.u8 (x % 256) 127 = (((x % 128).toNat : Nat) : Int) := by
  have h0 : 0 ≤ x % 256 := by omega
  have h1 : x % 256 < 256 := by omega
  have := and127 ⟨(x % 256).toNat, by omega⟩
  rw [show (((x % 256).toNat : Nat) : Int) = x % 256 by omega] at this
  rw [this]
  congr 1
  show (x % 256).toNat % 128 = (x % 128).toNat
  omega

/-- What Since answers: at r = (fsnc - first + 1) mod 128. -/
def SincePost (w : World) (n : Nat) (M : Nat → Msu) (sent : Int) (r : Nat) (e : Ending) (w' : World) : Prop :=
  ∃ ao' c', Below w.heap.size w w' ∧
    (((r : Int) ≤ sent ∧ e = .returned (.tuple #[.slice ao' (n - r) c', .bool true]) ∧ n - r ≤ c' ∧ MS w' ao' (n - r) (fun i => M (r + i))) ∨
     (sent < r ∧ e = .returned (.tuple #[.slice ao' n c', .bool false]) ∧ n ≤ c' ∧ MS w' ao' n M))

set_option maxHeartbeats 400000 in
theorem since_yes (bs first fsnc : Int) (sent : Int) (ao : Option Addr) (n c : Nat) (M : Nat → Msu) (w : World) (hs0 : 0 ≤ sent) (hs1 : sent ≤ 127) (hs2 : sent ≤ n) (hc : n ≤ c) (hM : MS w ao n M) (r : Nat)
    (hr : ((fsnc - first + 1) % 128).toNat = r) (hle : (r : Int) ≤ sent) :
    Calls Try.prog 9 #[.agg #[.int .u8 bs, .slice ao n c, .int .u8 first, .int .i64 sent], .int .u8 fsnc] w (SincePost w n M sent r) := by
  have hb := and127_mod (fsnc - first + 1)
  rw [hr] at hb
  have h127 : r ≤ 127 := by omega
  have hrn : r ≤ n := by omega
  clear hr
  go_enter Try.func9, Try.ntmps9
  go_wp2
  · go_ret2
    exact ⟨_, _, (Below.refl _ _).alloc (Nat.le_refl _) _, .inl ⟨hle, rfl, by omega, by rw [show n - r = 0 by omega]; exact MS.empty _ _ _⟩⟩
  · go_ret2
    exact ⟨_, _, (Below.refl _ _).alloc (Nat.le_refl _) _, .inl ⟨hle, rfl, by omega, (hM.drop hrn).below ((Below.refl _ _).alloc (Nat.le_refl _) _)⟩⟩

set_option maxHeartbeats 400000 in
theorem since_no (bs first fsnc : Int) (sent : Int) (ao : Option Addr) (n c : Nat) (M : Nat → Msu) (w : World) (hc : n ≤ c) (hM : MS w ao n M) (r : Nat)
    (hr : ((fsnc - first + 1) % 128).toNat = r) (hgt : sent < r) :
    Calls Try.prog 9 #[.agg #[.int .u8 bs, .slice ao n c, .int .u8 first, .int .i64 sent], .int .u8 fsnc] w (SincePost w n M sent r) := by
  have hb := and127_mod (fsnc - first + 1)
  rw [hr] at hb
  have h127 : r ≤ 127 := by omega
  clear hr
  go_enter Try.func9, Try.ntmps9
  go_wp2
  go_ret2
  exact ⟨_, _, (Below.refl _ _).alloc (Nat.le_refl _) _, .inr ⟨hgt, rfl, hc, hM.below ((Below.refl _ _).alloc (Nat.le_refl _) _)⟩⟩

theorem since_any (bs first fsnc : Int) (sent : Int) (ao : Option Addr) (n c : Nat) (M : Nat → Msu) (w : World) (hs0 : 0 ≤ sent) (hs1 : sent ≤ 127) (hs2 : sent ≤ n) (hc : n ≤ c) (hM : MS w ao n M) (r : Nat)
    (hr : ((fsnc - first + 1) % 128).toNat = r) :
    Calls Try.prog 9 #[.agg #[.int .u8 bs, .slice ao n c, .int .u8 first, .int .i64 sent], .int .u8 fsnc] w (SincePost w n M sent r) := by
  by_cases h : (r : Int) ≤ sent
  · exact since_yes bs first fsnc sent ao n c M w hs0 hs1 hs2 hc hM r hr h
  · exact since_no bs first fsnc sent ao n c M w hc hM r hr (by omega)

/-- ZZnewRetrieved hands the fields over. -/
def NewPost (w : World) (v : Value) (e : Ending) (w' : World) : Prop := e = .returned v ∧ Below w.heap.size w w'

set_option maxHeartbeats 400000 in
theorem new_any (bs first sent : Int) (ao : Option Addr) (n c : Nat) (w : World) :
    Calls Try.prog 8 #[.int .u8 bs, .slice ao n c, .int .u8 first, .int .i64 sent] w (NewPost w (.agg #[.int .u8 bs, .slice ao n c, .int .u8 first, .int .i64 sent])) := by
  go_enter Try.func8, Try.ntmps8
  go_wp2
  refine bodyPost_ret (v := .agg #[.int .u8 bs, .slice ao n c, .int .u8 first, .int .i64 sent]) (by simp [results, Try.results8, go_sem]) rfl ⟨rfl, (Below.refl _ _).alloc (Nat.le_refl _) _⟩

end Go.Proofs.Qxb6627924a
