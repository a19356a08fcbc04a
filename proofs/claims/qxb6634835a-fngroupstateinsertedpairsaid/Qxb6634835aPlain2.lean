import Derived.Test.Qxb6634835aPlain
namespace Go.Proofs.Qxb6634835a.Plain

theorem stFind_add (S : Nat → ByteArray × ByteArray) (sys : ByteArray) (b : Nat) : ∀ (a k : Nat), stFind S sys k (a + b) = (match stFind S sys k a with | some x => some x | none => stFind S sys (k + a) b)
  | 0, k => by rw [Nat.zero_add, stFind, Nat.add_zero]
  | a + 1, k => by
    rw [show a + 1 + b = (a + b) + 1 by omega, stFind, stFind]
    split
    · rfl
    · rw [stFind_add S sys b a (k + 1), show k + 1 + a = k + (a + 1) by omega]

theorem gFind_add (N : Nat → ByteArray) (L : Nat → Nat) (S : Nat → Nat → ByteArray × ByteArray) (grp sys : ByteArray) (b : Nat) :
    ∀ (a k : Nat), gFind N L S grp sys k (a + b) = (match gFind N L S grp sys k a with | some x => some x | none => gFind N L S grp sys (k + a) b)
  | 0, k => by rw [Nat.zero_add, gFind, Nat.add_zero]
  | a + 1, k => by
    rw [show a + 1 + b = (a + b) + 1 by omega, gFind, gFind, gFind_add N L S grp sys b a (k + 1), show k + 1 + a = k + (a + 1) by omega]
    split
    · cases stFind (S k) sys 0 (L k) <;> rfl
    · rfl

theorem gFind_congr {N N' : Nat → ByteArray} {L L' : Nat → Nat} {S S' : Nat → Nat → ByteArray × ByteArray} (grp sys : ByteArray) :
    ∀ (m k : Nat), (∀ i, k ≤ i → i < k + m → N i = N' i ∧ L i = L' i ∧ S i = S' i) → gFind N L S grp sys k m = gFind N' L' S' grp sys k m
  | 0, _, _ => by rw [gFind, gFind]
  | m + 1, k, h => by
    obtain ⟨e1, e2, e3⟩ := h k (Nat.le_refl _) (by omega)
    rw [gFind, gFind, e1, e2, e3, gFind_congr grp sys m (k + 1) (fun i h1 h2 => h i (by omega) (by omega))]

/-! ### Do the groups ahead hold the pair? -/
theorem st_has_step (S : Nat → ByteArray × ByteArray) (sys : ByteArray) (j : Nat) : (stFind S sys 0 (j + 1)).isSome = ((stFind S sys 0 j).isSome || ((S j).1.toList == sys.toList)) := by
  rw [stFind_add S sys 1 j 0, Nat.zero_add]
  cases stFind S sys 0 j with
  | some x => rfl
  | none =>
    show (stFind S sys j (0 + 1)).isSome = _
    rw [stFind, stFind]
    cases ((S j).1.toList == sys.toList) <;> rfl

theorem g_has_other {N : Nat → ByteArray} {L : Nat → Nat} {S : Nat → Nat → ByteArray × ByteArray} {grp sys : ByteArray} {i : Nat} (h : ((N i).toList == grp.toList) = false) : (gFind N L S grp sys 0 (i + 1)).isSome = (gFind N L S grp sys 0 i).isSome := by
  rw [gFind_add N L S grp sys 1 i 0, Nat.zero_add]
  cases gFind N L S grp sys 0 i with
  | some x => rfl
  | none =>
    show (gFind N L S grp sys i (0 + 1)).isSome = _
    rw [gFind, h, gFind]
    rfl

theorem g_has_own {N : Nat → ByteArray} {L : Nat → Nat} {S : Nat → Nat → ByteArray × ByteArray} {grp sys : ByteArray} {i : Nat} (h : ((N i).toList == grp.toList) = true) :
    (gFind N L S grp sys 0 (i + 1)).isSome = ((gFind N L S grp sys 0 i).isSome || (stFind (S i) sys 0 (L i)).isSome) := by
  rw [gFind_add N L S grp sys 1 i 0, Nat.zero_add]
  cases gFind N L S grp sys 0 i with
  | some x => rfl
  | none =>
    show (gFind N L S grp sys i (0 + 1)).isSome = _
    rw [gFind, h, gFind]
    cases stFind (S i) sys 0 (L i) <;> rfl

/-! ### The pair inserted at place k -/
theorem inserted_before {N N' : Nat → ByteArray} {L L' : Nat → Nat} {S S' : Nat → Nat → ByteArray × ByteArray} {grp sys : ByteArray} {k n : Nat} (hk : k ≤ n) (he : ∀ i, i < k → N i = N' i ∧ L i = L' i ∧ S i = S' i)
    (h : (gFind N L S grp sys 0 k).isSome = true) : gFind N' L' S' grp sys 0 (n + 1) = gFind N L S grp sys 0 n := by
  have e := gFind_congr (N := N) (N' := N') (L := L) (L' := L') (S := S) (S' := S') grp sys k 0 (fun i _ hi => he i (by omega))
  rw [show n + 1 = k + (n + 1 - k) by omega, gFind_add N' L' S' grp sys (n + 1 - k) k 0, ← e]
  have e2 : gFind N L S grp sys 0 n = gFind N L S grp sys 0 (k + (n - k)) := by rw [show k + (n - k) = n by omega]
  rw [e2, gFind_add N L S grp sys (n - k) k 0]
  cases hx : gFind N L S grp sys 0 k with
  | some x => rfl
  | none => rw [hx] at h; cases h

theorem inserted_new {N N' : Nat → ByteArray} {L L' : Nat → Nat} {S S' : Nat → Nat → ByteArray × ByteArray} {grp sys st : ByteArray} {k n : Nat} (hk : k ≤ n) (he : ∀ i, i < k → N i = N' i ∧ L i = L' i ∧ S i = S' i)
    (h : (gFind N L S grp sys 0 k).isSome = false) (h1 : N' k = grp) (h2 : L' k = 1) (h3 : S' k 0 = (sys, st)) : gFind N' L' S' grp sys 0 (n + 1) = some st := by
  have e := gFind_congr (N := N) (N' := N') (L := L) (L' := L') (S := S) (S' := S') grp sys k 0 (fun i _ hi => he i (by omega))
  rw [show n + 1 = k + (n + 1 - k) by omega, gFind_add N' L' S' grp sys (n + 1 - k) k 0, ← e]
  cases hx : gFind N L S grp sys 0 k with
  | some x => rw [hx] at h; cases h
  | none =>
    show gFind N' L' S' grp sys (0 + k) (n + 1 - k) = some st
    have hs : stFind (S' k) sys 0 (L' k) = some st := by
      rw [h2]
      show stFind (S' k) sys 0 (0 + 1) = some st
      rw [stFind, h3]
      simp
    rw [Nat.zero_add]
    exact gFind_hit (by omega) (by rw [h1]; simp) hs

end Go.Proofs.Qxb6634835a.Plain
