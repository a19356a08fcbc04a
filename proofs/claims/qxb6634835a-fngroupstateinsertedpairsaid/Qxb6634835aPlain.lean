namespace Go.Proofs.Qxb6634835a.Plain

/-- The state of the first of the m pairs from number k on whose system is sys. -/
def stFind (S : Nat → ByteArray × ByteArray) (sys : ByteArray) (k : Nat) : Nat → Option ByteArray
  | 0 => none
  | m + 1 => if (S k).1.toList == sys.toList then some (S k).2 else stFind S sys (k + 1) m

/-- The state of the first pair (group, system) in the m groups from number k on. -/
def gFind (N : Nat → ByteArray) (L : Nat → Nat) (S : Nat → Nat → ByteArray × ByteArray) (grp sys : ByteArray) (k : Nat) : Nat → Option ByteArray
  | 0 => none
  | m + 1 => if (N k).toList == grp.toList then (match stFind (S k) sys 0 (L k) with | some x => some x | none => gFind N L S grp sys (k + 1) m) else gFind N L S grp sys (k + 1) m

theorem stFind_hit {S : Nat → ByteArray × ByteArray} {sys : ByteArray} {j n : Nat} (hj : j < n) (h : ((S j).1.toList == sys.toList) = true) : stFind S sys j (n - j) = some (S j).2 := by
  obtain ⟨m, hm⟩ : ∃ m, n - j = m + 1 := ⟨n - j - 1, by omega⟩
  rw [hm, stFind, if_pos h]

theorem stFind_miss {S : Nat → ByteArray × ByteArray} {sys : ByteArray} {j n : Nat} (hj : j < n) (h : ((S j).1.toList == sys.toList) = false) : stFind S sys j (n - j) = stFind S sys (j + 1) (n - (j + 1)) := by
  obtain ⟨m, hm⟩ : ∃ m, n - j = m + 1 := ⟨n - j - 1, by omega⟩
  rw [hm, stFind, if_neg (by rw [h]; exact Bool.false_ne_true), show n - (j + 1) = m by omega]

theorem stFind_end {S : Nat → ByteArray × ByteArray} {sys : ByteArray} {j n : Nat} (hj : ¬ j < n) : stFind S sys j (n - j) = none := by
  rw [show n - j = 0 by omega, stFind]

theorem gFind_other {N : Nat → ByteArray} {L : Nat → Nat} {S : Nat → Nat → ByteArray × ByteArray} {grp sys : ByteArray} {k n : Nat} (hk : k < n) (h : ((N k).toList == grp.toList) = false) :
    gFind N L S grp sys k (n - k) = gFind N L S grp sys (k + 1) (n - (k + 1)) := by
  obtain ⟨m, hm⟩ : ∃ m, n - k = m + 1 := ⟨n - k - 1, by omega⟩
  rw [hm, gFind, if_neg (by rw [h]; exact Bool.false_ne_true), show n - (k + 1) = m by omega]

theorem gFind_hit {N : Nat → ByteArray} {L : Nat → Nat} {S : Nat → Nat → ByteArray × ByteArray} {grp sys x : ByteArray} {k n : Nat} (hk : k < n) (h : ((N k).toList == grp.toList) = true) (hs : stFind (S k) sys 0 (L k) = some x) :
    gFind N L S grp sys k (n - k) = some x := by
  obtain ⟨m, hm⟩ : ∃ m, n - k = m + 1 := ⟨n - k - 1, by omega⟩
  rw [hm, gFind, if_pos h, hs]

theorem gFind_miss {N : Nat → ByteArray} {L : Nat → Nat} {S : Nat → Nat → ByteArray × ByteArray} {grp sys : ByteArray} {k n : Nat} (hk : k < n) (hs : stFind (S k) sys 0 (L k) = none) :
    gFind N L S grp sys k (n - k) = gFind N L S grp sys (k + 1) (n - (k + 1)) := by
  obtain ⟨m, hm⟩ : ∃ m, n - k = m + 1 := ⟨n - k - 1, by omega⟩
  rw [hm, gFind, hs, show n - (k + 1) = m by omega]
  split <;> rfl

theorem gFind_end {N : Nat → ByteArray} {L : Nat → Nat} {S : Nat → Nat → ByteArray × ByteArray} {grp sys : ByteArray} {k n : Nat} (hk : ¬ k < n) : gFind N L S grp sys k (n - k) = none := by
  rw [show n - k = 0 by omega, gFind]

/-! ### The scan from the last to the first: what stands behind the step at number q -/
theorem st_down_hit {S : Nat → ByteArray × ByteArray} {sys r u : ByteArray} {q n : Nat} (hq : q < n) (h : ((S q).1.toList == sys.toList) = true) (hu : (S q).2 = u) : (stFind S sys (((q : Int) - 1 + 1).toNat) (n - ((q : Int) - 1 + 1).toNat)).getD r = u := by
  rw [show (((q : Int) - 1 + 1).toNat) = q by omega, stFind_hit hq h, ← hu]; rfl

theorem st_down_miss {S : Nat → ByteArray × ByteArray} {sys r : ByteArray} {q n : Nat} (hq : q < n) (h : ((S q).1.toList == sys.toList) = false) :
    (stFind S sys (((q : Int) - 1 + 1).toNat) (n - ((q : Int) - 1 + 1).toNat)).getD r = (stFind S sys (((q : Int) + 1).toNat) (n - ((q : Int) + 1).toNat)).getD r := by
  rw [show (((q : Int) - 1 + 1).toNat) = q by omega, show (((q : Int) + 1).toNat) = q + 1 by omega, stFind_miss hq h]

theorem g_down_other {N : Nat → ByteArray} {L : Nat → Nat} {S : Nat → Nat → ByteArray × ByteArray} {grp sys r : ByteArray} {q n : Nat} (hq : q < n) (h : ((N q).toList == grp.toList) = false) :
    (gFind N L S grp sys (((q : Int) - 1 + 1).toNat) (n - ((q : Int) - 1 + 1).toNat)).getD r = (gFind N L S grp sys (((q : Int) + 1).toNat) (n - ((q : Int) + 1).toNat)).getD r := by
  rw [show (((q : Int) - 1 + 1).toNat) = q by omega, show (((q : Int) + 1).toNat) = q + 1 by omega, gFind_other hq h]

theorem g_down_own {N : Nat → ByteArray} {L : Nat → Nat} {S : Nat → Nat → ByteArray × ByteArray} {grp sys r : ByteArray} {q n : Nat} (hq : q < n) (h : ((N q).toList == grp.toList) = true) :
    (gFind N L S grp sys (((q : Int) - 1 + 1).toNat) (n - ((q : Int) - 1 + 1).toNat)).getD r = (stFind (S q) sys 0 (L q)).getD ((gFind N L S grp sys (((q : Int) + 1).toNat) (n - ((q : Int) + 1).toNat)).getD r) := by
  rw [show (((q : Int) - 1 + 1).toNat) = q by omega, show (((q : Int) + 1).toNat) = q + 1 by omega]
  cases hs : stFind (S q) sys 0 (L q) with
  | none => rw [gFind_miss hq hs]; rfl
  | some x => rw [gFind_hit hq h hs]; rfl

end Go.Proofs.Qxb6634835a.Plain
