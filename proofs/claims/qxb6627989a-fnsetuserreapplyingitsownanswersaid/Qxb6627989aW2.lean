import Derived.Test.Qxb6627989aW1
namespace Go.Proofs.Qxb6627989a
open Go.RowKit

set_option maxHeartbeats 400000 in
theorem clip_any (ao : Option Addr) (n c : Nat) (w : World) (hc : n ≤ c) : Calls Try.prog 12 #[.slice ao n c] w fun e w' => e = .returned (.slice ao n n) ∧ w = w' := by
  go_enter Try.func12, Try.ntmps12
  go_wp2
  go_ret
  exact ⟨rfl, rfl⟩

def ByOthers (w : World) (e : Ending) (w' : World) : Prop := e = .returned (.bool true) ∧ Below w.heap.size w w'

set_option maxHeartbeats 1000000 in
theorem others_true (u v0 v1 v2 v3 v4 v5 v6 : ByteArray) (lr : Bool) (ga : Option Addr) (gn gc : Nat) (w : World) :
    Calls Try.prog 10 #[.agg #[.string u, .slice ga gn gc, .string v0, .string v1, .string v2, .string v3, .string v4, .string v5, .string v6, .bool lr], .string v0, .string v1, .string v2, .string v3, .string v4, .string v5, .string v6, .bool lr] w (ByOthers w) := by
  go_enter Try.func10, Try.ntmps10
  go_wp2
  go_ret
  exact ⟨rfl, (Below.refl _ _).alloc (Nat.le_refl _) _⟩

/-- The user that SetUser sets; the group that it adds. -/
def userOf (u : ByteArray) : ByteArray := if u.toList.isEmpty then { data := #[115, 121, 115, 116, 101, 109, 58, 97, 110, 111, 110, 121, 109, 111, 117, 115] } else u
def groupOf (u : ByteArray) : ByteArray :=
  if u.toList.isEmpty then { data := #[115, 121, 115, 116, 101, 109, 58, 117, 110, 97, 117, 116, 104, 101, 110, 116, 105, 99, 97, 116, 101, 100] } else { data := #[115, 121, 115, 116, 101, 109, 58, 97, 117, 116, 104, 101, 110, 116, 105, 99, 97, 116, 101, 100] }

/-- The strings S and one more behind the first n. -/
def snoc (S : Nat → ByteArray) (n : Nat) (g : ByteArray) : Nat → ByteArray := fun i => if i < n then S i else g

/-- What SetUser leaves. -/
structure SetPost (w : World) (pb gn : Nat) (S : Nat → ByteArray) (user : ByteArray) (e : Ending) (w' : World) : Prop where
  ret : e = .returned (.tuple #[])
  grown : w.grownBy w' (some pb)
  rest : ∀ j, j ≠ 0 → j ≠ 1 → w'.cell? ⟨pb, j, none⟩ = w.cell? ⟨pb, j, none⟩
  marks : ∀ j, w'.frozen? ⟨pb, j, none⟩ = w.frozen? ⟨pb, j, none⟩
  userCell : w'.cell? ⟨pb, 0, none⟩ = some (.string (userOf user))
  groups : ∃ na nc, w'.cell? ⟨pb, 1, none⟩ = some (.slice na (gn + 1) nc) ∧ gn + 1 ≤ nc ∧ SL w' w.heap.size na (gn + 1) (snoc S gn (groupOf user))

/-- What append has built. -/
theorem own_shape {w : World} {base n : Nat} {v : Value} {xs : List Value} (h : w.ownsRow base 9 1 v (n + 1) xs) :
    ∃ g cap, v = .slice (some ⟨g, 0, none⟩) (n + 1) cap ∧ base ≤ g ∧ g < w.heap.size ∧ n + 1 ≤ cap ∧ ∀ j u, xs[j]? = some u → w.cell? ⟨g, j, none⟩ = some u := by
  rcases h.2 with ⟨_, h0⟩ | ⟨g, cap, cur, hv, hg, hh, hl, _, _, _⟩
  · omega
  refine ⟨g, cap, hv, hg, (Array.getElem?_eq_some_iff.1 hh).1, hl, fun j u hj => ?_⟩
  have := h.cells (g := g) (by rw [hv]; rfl) j u hj
  have ea : (⟨g, 0, none⟩ : Addr).add j = ⟨g, j, none⟩ := by
    unfold Addr.add
    by_cases h0 : j = 0 <;> simp [h0]
  rwa [ea] at this

def strList (S : Nat → ByteArray) (n : Nat) : List Value := (List.range n).map fun i => Value.string (S i)
theorem strList_len (S : Nat → ByteArray) (n : Nat) : (strList S n).length = n := by simp [strList]
theorem strList_at {S : Nat → ByteArray} {n j : Nat} {v : Value} (h : (strList S n)[j]? = some v) : j < n ∧ v = .string (S j) := by
  by_cases hj : j < n
  · simp [strList, hj] at h
    exact ⟨hj, h.symm⟩
  · simp [strList, hj] at h

theorem olds_cells {w : World} {ao : Option Addr} {b o n : Nat} {S : Nat → ByteArray} (ha : 0 < n → ao = some ⟨b, o, none⟩) (hc : ∀ i, i < n → w.cell? ⟨b, o + i, none⟩ = some (.string (S i))) (ob : Obj) :
    ∀ a, ao = some a → ∀ (j : Nat) (u : Value), (strList S n)[j]? = some u → (w.alloc ob).cell? (a.add j) = some u := by
  intro a he j u hj
  obtain ⟨hjn, rfl⟩ := strList_at hj
  have := ha (by omega)
  rw [he] at this
  cases this
  have ea : (⟨b, o, none⟩ : Addr).add j = ⟨b, o + j, none⟩ := by
    unfold Addr.add
    by_cases h0 : j = 0 <;> simp [h0]
  rw [ea, World.cell?_alloc_lt _ _ _ (World.block_lt_of_cell? _ _ (hc j hjn))]
  exact hc j hjn

theorem news_one (w : World) (a : Value) (t : TypeId) : ∀ (j : Nat) (u : Value), [a][j]? = some u → (w.alloc (.cells #[a] t)).cell? ((⟨w.heap.size, 0, none⟩ : Addr).add j) = some u := by
  intro j u hj
  match j, hj with
  | 0, hj => simp at hj; subst hj; simp [Addr.add]
  | n + 1, hj => simp at hj

theorem old_cells {w w1 : World} {pb : Nat} {ob : Obj} (hpb : pb < w.heap.size) (hg : (w.alloc ob).grownBy w1 none) {v0 v1 : Value} (q0 : w.cell? ⟨pb, 0, none⟩ = some v0) (q1 : w.cell? ⟨pb, 1, none⟩ = some v1)
    (f0 : w.frozen? ⟨pb, 0, none⟩ = false) (f1 : w.frozen? ⟨pb, 1, none⟩ = false) : w1.cell? ⟨pb, 0, none⟩ = some v0 ∧ w1.cell? ⟨pb, 1, none⟩ = some v1 ∧ w1.frozen? ⟨pb, 0, none⟩ = false ∧ w1.frozen? ⟨pb, 1, none⟩ = false := by
  have hold : w1.heap[pb]? = w.heap[pb]? := (hg.block pb (by simp; omega) (by simp)).trans (Below.heap_alloc _ _ _ hpb)
  exact ⟨(World.cell?_of_block (a := ⟨pb, 0, none⟩) hold).trans q0, (World.cell?_of_block (a := ⟨pb, 1, none⟩) hold).trans q1, (World.frozen?_of_block (a := ⟨pb, 0, none⟩) hold).trans f0, (World.frozen?_of_block (a := ⟨pb, 1, none⟩) hold).trans f1⟩

/-- The end of SetUser: two stores behind the append. -/
theorem set_end {w w1 : World} {pb gn g cap : Nat} {S : Nat → ByteArray} {user uo go : ByteArray} {ob : Obj} (hpb : pb < w.heap.size) (hg : (w.alloc ob).grownBy w1 none) {v0 v1 : Value} (q0 : w.cell? ⟨pb, 0, none⟩ = some v0) (q1 : w.cell? ⟨pb, 1, none⟩ = some v1)
    (hn : gn + 1 ≤ maxLen) (hgl : w.heap.size ≤ g) (hcap : gn + 1 ≤ cap) (hcells : ∀ j u, (strList S gn ++ [.string go])[j]? = some u → w1.cell? ⟨g, j, none⟩ = some u) (hu : userOf user = uo) (hgo : groupOf user = go) :
    SetPost w pb gn S user (.returned (.tuple #[])) ((w1.setCell ⟨pb, 0, none⟩ (.string uo)).setCell ⟨pb, 1, none⟩ (.slice (some ⟨g, 0, none⟩) (gn + 1) cap)) := by
  have hsz : w.heap.size ≤ w1.heap.size := by have := hg.size; simp at this; omega
  have hold : ∀ k, k < w.heap.size → w1.heap[k]? = w.heap[k]? := fun k hk => (hg.block k (by simp; omega) (by simp)).trans (Below.heap_alloc _ _ _ hk)
  have hc : ∀ j, w1.cell? ⟨pb, j, none⟩ = w.cell? ⟨pb, j, none⟩ := fun j => World.cell?_of_block (a := ⟨pb, j, none⟩) (hold pb hpb)
  have hf : ∀ j, w1.frozen? ⟨pb, j, none⟩ = w.frozen? ⟨pb, j, none⟩ := fun j => World.frozen?_of_block (a := ⟨pb, j, none⟩) (hold pb hpb)
  refine ⟨rfl, ⟨hg.os, hg.tape, hg.output, by simpa [World.setCell] using hsz, fun k hk hne => ?_⟩, fun j h0 h1 => ?_, fun j => ?_, ?_, ⟨some ⟨g, 0, none⟩, cap, ?_, hcap, hn, g, 0, hgl, fun _ => rfl, fun i hi => ?_⟩⟩
  · have hkp : k ≠ pb := fun e => hne (by rw [e])
    rw [Below.heap_setCell _ _ _ _ hkp, Below.heap_setCell _ _ _ _ hkp]
    exact hold k hk
  · rw [World.cell?_setCell_other _ _ _ _ (by first | (simp; done) | (simp; assumption)), World.cell?_setCell_other _ _ _ _ (by first | (simp; done) | (simp; assumption))]
    exact hc j
  · rw [World.frozen?_setCell, World.frozen?_setCell]
    exact hf j
  · rw [World.cell?_setCell_other _ _ _ _ (by simp), World.cell?_setCell_same _ _ _ ((hc 0).trans q0), hu]
  · exact World.cell?_setCell_same _ _ _ (by rw [World.cell?_setCell_other _ _ _ _ (by simp)]; exact (hc 1).trans q1)
  · rw [World.cell?_setCell_other _ _ _ _ (fun e => by have := congrArg Addr.block e; simp at this; omega), World.cell?_setCell_other _ _ _ _ (fun e => by have := congrArg Addr.block e; simp at this; omega), Nat.zero_add]
    refine hcells i _ ?_
    unfold snoc
    by_cases h : i < gn
    · rw [if_pos h, List.getElem?_append_left (by rw [strList_len]; exact h)]
      simp [strList, h]
    · have : i = gn := by omega
      subst this
      rw [if_neg h, List.getElem?_append_right (by rw [strList_len]; omega), strList_len, hgo]
      simp

set_option maxHeartbeats 2000000 in
set_option maxRecDepth 100000 in
theorem setUser_any (pb gn gc lo : Nat) (ga : Option Addr) (S : Nat → ByteArray) (user : ByteArray) (w : World) (v0 v1 : Value) (hn : gn ≤ 1048577) (hgc : gn ≤ gc) (hS : SL w lo ga gn S) (q0 : w.cell? ⟨pb, 0, none⟩ = some v0) (q1 : w.cell? ⟨pb, 1, none⟩ = some v1)
    (f0 : w.frozen? ⟨pb, 0, none⟩ = false) (f1 : w.frozen? ⟨pb, 1, none⟩ = false) :
    Calls Try.prog 8 #[.pointer (some ⟨pb, 0, none⟩), .string user, .slice ga gn gc] w (SetPost w pb gn S user) := by
  obtain ⟨_, b, o, _, hga, hc⟩ := hS
  have hpb := World.block_lt_of_cell? _ _ q0
  have hnone : ga = none → gn = 0 ∧ gn = 0 := fun e => by
    rcases Nat.eq_zero_or_pos gn with h | h
    · exact ⟨h, h⟩
    · rw [hga h] at e; cases e
  have holds := olds_cells (S := S) hga hc
  have HO : Hid (∀ (ob : Obj), ∀ a, ga = some a → ∀ (j : Nat) (u : Value), (strList S gn)[j]? = some u → (w.alloc ob).cell? (a.add j) = some u) := holds
  have HNn : Hid (ga = none → gn = 0 ∧ gn = 0) := hnone
  obtain ⟨i0, hi0, hz0, hz1, hz2⟩ := info_parts info9
  clear hga hc hnone holds
  cases he : user.toList.isEmpty
  · have HU : Hid (userOf user = user) := by simp [Hid, userOf, he]
    have HG : Hid (groupOf user = { data := #[115, 121, 115, 116, 101, 109, 58, 97, 117, 116, 104, 101, 110, 116, 105, 99, 97, 116, 101, 100] }) := by simp [Hid, groupOf, he]
    go_enter Try.func8, Try.ntmps8
    go_wp2_with fail
    refine (clip_any _ _ _ _ hgc).mono ?_
    rintro e w' ⟨rfl, rfl⟩
    go_wp2_with (at_builtin; refine wpList_append_grows _ rfl (.tmp 13) (.tmp 15) 22 rfl 9 i0 _ 1 16 Try.underlying22 hi0 hz0 hz1 hz2 rfl (by decide) ga gn gn (strList S gn) rfl HNn.out (by rw [strList_len]; omega) (HO.out _) ⟨w.heap.size, 0, none⟩ 1 1 [.string { data := #[115, 121, 115, 116, 101, 109, 58, 97, 117, 116, 104, 101, 110, 116, 105, 99, 97, 116, 101, 100] }] rfl rfl (news_one w _ _) (by simp [Value.oneCell']) (by omega) (by unfold maxLen; omega) (by omega) ?_; intro v' w1 hown hgrow
                 obtain ⟨g, cap, hv, hg, hgl, hcap, hcells⟩ := own_shape hown
                 rw [hv]
                 have HCl : Hid (∀ j u, (strList S gn ++ [.string { data := #[115, 121, 115, 116, 101, 109, 58, 97, 117, 116, 104, 101, 110, 116, 105, 99, 97, 116, 101, 100] }])[j]? = some u → w1.cell? ⟨g, j, none⟩ = some u) := hcells
                 obtain ⟨p0, p1, p2, p3⟩ := old_cells hpb hgrow q0 q1 f0 f1
                 clear hcells hv hown)
    go_end0
    exact set_end hpb hgrow q0 q1 (by unfold maxLen; omega) (by simp at hg; omega) hcap HCl.out HU.out HG.out
  · have HU : Hid (userOf user = { data := #[115, 121, 115, 116, 101, 109, 58, 97, 110, 111, 110, 121, 109, 111, 117, 115] }) := by simp [Hid, userOf, he]
    have HG : Hid (groupOf user = { data := #[115, 121, 115, 116, 101, 109, 58, 117, 110, 97, 117, 116, 104, 101, 110, 116, 105, 99, 97, 116, 101, 100] }) := by simp [Hid, groupOf, he]
    go_enter Try.func8, Try.ntmps8
    go_wp2_with fail
    refine (clip_any _ _ _ _ hgc).mono ?_
    rintro e w' ⟨rfl, rfl⟩
    go_wp2_with (at_builtin; refine wpList_append_grows _ rfl (.tmp 13) (.tmp 15) 22 rfl 9 i0 _ 1 16 Try.underlying22 hi0 hz0 hz1 hz2 rfl (by decide) ga gn gn (strList S gn) rfl HNn.out (by rw [strList_len]; omega) (HO.out _) ⟨w.heap.size, 0, none⟩ 1 1 [.string { data := #[115, 121, 115, 116, 101, 109, 58, 117, 110, 97, 117, 116, 104, 101, 110, 116, 105, 99, 97, 116, 101, 100] }] rfl rfl (news_one w _ _) (by simp [Value.oneCell']) (by omega) (by unfold maxLen; omega) (by omega) ?_; intro v' w1 hown hgrow
                 obtain ⟨g, cap, hv, hg, hgl, hcap, hcells⟩ := own_shape hown
                 rw [hv]
                 have HCl : Hid (∀ j u, (strList S gn ++ [.string { data := #[115, 121, 115, 116, 101, 109, 58, 117, 110, 97, 117, 116, 104, 101, 110, 116, 105, 99, 97, 116, 101, 100] }])[j]? = some u → w1.cell? ⟨g, j, none⟩ = some u) := hcells
                 obtain ⟨p0, p1, p2, p3⟩ := old_cells hpb hgrow q0 q1 f0 f1
                 clear hcells hv hown)
    go_end0
    exact set_end hpb hgrow q0 q1 (by unfold maxLen; omega) (by simp at hg; omega) hcap HCl.out HU.out HG.out

end Go.Proofs.Qxb6627989a
