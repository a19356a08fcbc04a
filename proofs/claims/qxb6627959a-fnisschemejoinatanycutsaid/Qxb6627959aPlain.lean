namespace Go.Proofs.Qxb6627959a.Plain

/-- A letter of ASCII. -/
def alphaB (x : Int) : Bool := (decide (97 ≤ x) && decide (x ≤ 122)) || (decide (65 ≤ x) && decide (x ≤ 90))
def digitB (x : Int) : Bool := decide (48 ≤ x) && decide (x ≤ 57)
/-- What may follow the first letter of a scheme. -/
def tailB (x : Int) : Bool := alphaB x || digitB x || x == 43 || x == 45 || x == 46

theorem tail_of_alpha {x : Int} (h : alphaB x = true) : tailB x = true := by simp [tailB, h]

/-- IsScheme, on the string's bytes. -/
def isS : List UInt8 → Bool
  | [] => false
  | c :: r => alphaB c.toNat && r.all fun c => tailB c.toNat

/-- The rounds of IsScheme: every byte from the first on. -/
def allT (l : List UInt8) : Bool := l.all fun c => tailB c.toNat

theorem isS_all {c : UInt8} {r : List UInt8} (h : alphaB c.toNat = true) : isS (c :: r) = allT (c :: r) := by
  simp [isS, allT, h, tail_of_alpha h]

theorem isS_append {a b : List UInt8} (h : a ≠ []) : isS (a ++ b) = (isS a && allT b) := by
  cases a with
  | nil => exact absurd rfl h
  | cons c r => simp [isS, allT, Bool.and_assoc]

theorem isS_a (b : List UInt8) : isS (97 :: b) = allT b := by
  show (alphaB ((97 : UInt8).toNat : Int) && b.all fun c => tailB c.toNat) = _
  rw [show alphaB ((97 : UInt8).toNat : Int) = true by decide, Bool.true_and]
  rfl

/-- The leading letters are a scheme where there is one. -/
theorem isS_letters {l : List UInt8} (h : ∀ c ∈ l, alphaB c.toNat = true) : isS l = decide (0 < l.length) := by
  cases l with
  | nil => rfl
  | cons c r =>
    have h0 := h c (by simp)
    have h1 : r.all (fun c => tailB c.toNat) = true := by
      rw [List.all_eq_true]
      intro x hx
      exact tail_of_alpha (h x (by simp [hx]))
    simp [isS, h0, h1]

theorem isS_one (c : UInt8) : isS [c] = alphaB c.toNat := by simp [isS]
theorem isS_two (c : UInt8) : isS [97, c] = tailB c.toNat := by rw [isS_a]; simp [allT]

/-! ### The counts -/
def cnt (p : Int → Bool) : Nat → Nat
  | 0 => 0
  | k + 1 => cnt p k + (if p (k : Int) then 1 else 0)

theorem cnt_le (p : Int → Bool) : ∀ k, cnt p k ≤ k
  | 0 => Nat.le_refl _
  | k + 1 => by have := cnt_le p k; unfold cnt; split <;> omega

theorem cnt_alpha : cnt alphaB 256 = 52 := by decide +kernel
theorem cnt_tail : cnt tailB 256 = 65 := by decide +kernel

/-! ### The verdict byte by byte -/
/-- The verdict behind the bytes below i. -/
def wantB (l : List UInt8) (i : Nat) : Bool := isS (l.take i)

theorem take_ne {l : List UInt8} {i : Nat} (h0 : 0 < i) (h : 0 < l.length) : l.take i ≠ [] := by
  intro e
  have := congrArg List.length e
  rw [List.length_take, List.length_nil] at this
  omega

theorem want_step {l : List UInt8} {i : Nat} (h0 : 0 < i) (h : i < l.length) : wantB l (i + 1) = (wantB l i && tailB (l[i]'h).toNat) := by
  unfold wantB
  rw [List.take_succ_eq_append_getElem h, isS_append (take_ne h0 (by omega))]
  simp [allT]

theorem want_end {l : List UInt8} {i : Nat} (h : l.length ≤ i) : wantB l i = isS l := by
  unfold wantB
  rw [List.take_of_length_le h]

/-- Once no, no for ever. -/
theorem want_no {l : List UInt8} {i : Nat} (h0 : 0 < i) (h : wantB l i = false) : isS l = false := by
  by_cases hl : l.length ≤ i
  · rw [← want_end hl]; exact h
  · have e : l = l.take i ++ l.drop i := (List.take_append_drop i l).symm
    rw [e, isS_append (take_ne h0 (by omega))]
    unfold wantB at h
    rw [h]
    rfl

end Go.Proofs.Qxb6627959a.Plain
