import Derived.Test.Qxb6627959aW1
import Derived.Lib.Strings
namespace Go.Proofs.Qxb6627959a
open Go.RowKit

def AnyBool2 (w : World) (e : Ending) (w' : World) : Prop := ∃ b : Bool, e = .returned (.bool b) ∧ w = w'

set_option maxHeartbeats 400000 in
theorem zz7_any (a b : ByteArray) (w : World) (ha : a.size ≤ maxLen) (hb : b.size ≤ maxLen) : Calls Try.prog 7 #[.string a, .string b] w (AnyBool2 w) := by
  unfold maxLen at ha hb
  go_enter Try.func7, Try.ntmps7
  go_wp2
  all_goals (go_ret; exact ⟨_, rfl, rfl⟩)

/-- The law returns true; nothing that was there has turned. -/
def TruePost2 (w : World) (e : Ending) (w' : World) : Prop := e = .returned (.bool true) ∧ Below w.heap.size w w'

theorem letters_step {l : List UInt8} {n : Nat} (h : n < l.length) (h1 : Hid (∀ c ∈ l.take n, Plain.alphaB c.toNat = true)) (h2 : Plain.alphaB (l[n]'h).toNat = true) : ∀ c ∈ l.take (n + 1), Plain.alphaB c.toNat = true := by
  intro c hc
  rw [List.take_succ_eq_append_getElem h] at hc
  rcases List.mem_append.1 hc with h3 | h3
  · exact h1.out c h3
  · simp at h3
    rw [h3]; exact h2

theorem a_data2 (b : ByteArray) : (({ data := #[97] } : ByteArray) ++ b).data.toList = 97 :: b.data.toList := by simp
theorem a_size2 (b : ByteArray) : (({ data := #[97] } : ByteArray) ++ b).size = 1 + b.size := by
  rw [← len_eq, a_data2, List.length_cons, len_eq]; omega
theorem ab_data (a b : ByteArray) : (a ++ b).data.toList = a.data.toList ++ b.data.toList := by simp
theorem ab_size (a b : ByteArray) : (a ++ b).size = a.size + b.size := by
  rw [← len_eq, ab_data, List.length_append, len_eq, len_eq]
theorem head_data (a : ByteArray) (n : Nat) : (a.extract 0 n).data.toList = a.data.toList.take n := by rw [Lib.extract_data]; rfl
theorem head_size (a : ByteArray) (n : Nat) : (a.extract 0 n).size ≤ a.size := by
  rw [← len_eq, head_data, List.length_take, len_eq]; omega

theorem lead_is {a : ByteArray} {n : Nat} (hn : n ≤ a.size) (h : Hid (∀ c ∈ a.data.toList.take n, Plain.alphaB c.toNat = true)) : Plain.isS (a.extract 0 n).data.toList = decide (0 < n) := by
  rw [head_data, Plain.isS_letters h.out, List.length_take, len_eq, Nat.min_eq_left hn]

theorem byte_at (a : ByteArray) (n : Nat) (h : n < a.size) : (a[n]'h) = a.data.toList[n]'(by rw [len_eq]; exact h) := by
  rw [Array.getElem_toList]
  rfl

set_option maxHeartbeats 2000000 in
set_option maxRecDepth 100000 in
theorem join_any (a b : ByteArray) (w : World) (hsa : a.size ≤ maxLen) (hsb : b.size ≤ maxLen) : Calls Try.prog 4 #[.string a, .string b] w (TruePost2 w) := by
  go_enter Try.func4, Try.ntmps4
  go_wp2_with fail
  refine (zz7_any _ _ _ hsa hsb).mono ?_
  rintro e w' ⟨bb, rfl, rfl⟩
  unfold maxLen at hsa hsb
  cases bb
  · go_wp2
    go_ret
    exact ⟨rfl, Below.refl _ _⟩
  by_cases h16 : (65536 : Int) < (a.size : Int)
  · have hd : decide ((65536 : Int) < (a.size : Int)) = true := by simpa using h16
    go_wp2
    go_ret
    exact ⟨rfl, Below.refl _ _⟩
  have hd : decide ((65536 : Int) < (a.size : Int)) = false := by simpa using h16
  by_cases h17 : (65536 : Int) < (b.size : Int)
  · have hd2 : decide ((65536 : Int) < (b.size : Int)) = true := by simpa using h17
    go_wp2
    go_ret
    exact ⟨rfl, Below.refl _ _⟩
  have hd2 : decide ((65536 : Int) < (b.size : Int)) = false := by simpa using h17
  cases hae : a.toList.isEmpty
  · have hne : a.data.toList ≠ [] := by
      rw [ByteArray.toList_eq] at hae
      intro h
      rw [h] at hae
      cases hae
    have HNE : Hid (a.data.toList ≠ []) := hne
    clear hne
    have hap : 0 < a.size := by
      have := HNE.out
      rw [← len_eq]
      exact List.length_pos_iff.2 this
    go_wp2
    clear hd hd2 hae
    go_loop [5] (fun t => ∃ n : Nat, n ≤ a.size ∧ t = .int .i64 n ∧ ∀ c ∈ a.data.toList.take n, Plain.alphaB c.toNat = true) (fun t => a.size - (intOf t).toNat)
    case atStart => exact ⟨0, Nat.zero_le _, rfl, fun c hc => by simp at hc⟩
    case round =>
      obtain ⟨n, hn, rfl, hal⟩ := hrel
      have HA : Hid (∀ c ∈ a.data.toList.take n, Plain.alphaB c.toNat = true) := hal
      clear hal
      by_cases hlt : n < a.size
      · have hdn : decide ((n : Int) < (a.size : Int)) = true := by simpa using hlt
        have hnl : n < a.data.toList.length := by rw [len_eq]; exact hlt
        go_wp2_with fail
        refine (isLetter_any _ _).mono ?_
        rintro e w' ⟨rfl, rfl⟩
        rw [byte_at a n hlt]
        cases hl : Plain.alphaB ((a.data.toList[n]'hnl).toNat : Int)
        · go_wp2_with fail
          refine (isScheme_any _ _ (by have := head_size a n; unfold maxLen; omega)).mono ?_
          rintro e w1 ⟨rfl, hb1⟩
          rw [lead_is hn HA]
          cases hbe : b.toList.isEmpty
          · go_wp2_with fail
            refine (isScheme_any _ _ (by rw [a_size2]; unfold maxLen; omega)).mono ?_
            rintro e w2 ⟨rfl, hb2⟩
            rw [a_data2, Plain.isS_a]
            go_wp2_with fail
            refine (isScheme_any _ _ (by rw [ab_size]; unfold maxLen; omega)).mono ?_
            rintro e w3 ⟨rfl, hb3⟩
            rw [ab_data, Plain.isS_append HNE.out]
            go_wp2_with fail
            refine (isScheme_any _ _ (by unfold maxLen; omega)).mono ?_
            rintro e w4 ⟨rfl, hb4⟩
            have hb12 : Below w.heap.size w w2 := hb1.trans (hb2.mono hb1.size)
            have hb13 : Below w.heap.size w w3 := hb12.trans (hb3.mono hb12.size)
            have hb14 : Below w.heap.size w w4 := hb13.trans (hb4.mono hb13.size)
            cases hia : Plain.isS a.data.toList <;> cases hat : Plain.allT b.data.toList
            all_goals (go_wp2; go_ret; exact ⟨rfl, hb14⟩)
          · have HB : Hid (Plain.allT b.data.toList = true) := by
              rw [ByteArray.toList_eq] at hbe
              show Plain.allT b.data.toList = true
              rw [List.isEmpty_iff.1 hbe]
              rfl
            go_wp2_with fail
            refine (isScheme_any _ _ (by rw [ab_size]; unfold maxLen; omega)).mono ?_
            rintro e w3 ⟨rfl, hb3⟩
            rw [ab_data, Plain.isS_append HNE.out, HB.out]
            go_wp2_with fail
            refine (isScheme_any _ _ (by unfold maxLen; omega)).mono ?_
            rintro e w4 ⟨rfl, hb4⟩
            have hb13 : Below w.heap.size w w3 := hb1.trans (hb3.mono hb1.size)
            have hb14 : Below w.heap.size w w4 := hb13.trans (hb4.mono hb13.size)
            cases hia : Plain.isS a.data.toList
            all_goals (go_wp2; go_ret; exact ⟨rfl, hb14⟩)
        · go_wp2
          go_round
          case rel => exact ⟨n + 1, by omega, by go_num, letters_step hnl HA hl⟩
          case measure => simp [intOf] <;> omega
      · have hdn : decide ((n : Int) < (a.size : Int)) = false := by simpa using hlt
        go_wp2_with fail
        refine (isScheme_any _ _ (by have := head_size a n; unfold maxLen; omega)).mono ?_
        rintro e w1 ⟨rfl, hb1⟩
        rw [lead_is hn HA]
        cases hbe : b.toList.isEmpty
        · go_wp2_with fail
          refine (isScheme_any _ _ (by rw [a_size2]; unfold maxLen; omega)).mono ?_
          rintro e w2 ⟨rfl, hb2⟩
          rw [a_data2, Plain.isS_a]
          go_wp2_with fail
          refine (isScheme_any _ _ (by rw [ab_size]; unfold maxLen; omega)).mono ?_
          rintro e w3 ⟨rfl, hb3⟩
          rw [ab_data, Plain.isS_append HNE.out]
          go_wp2_with fail
          refine (isScheme_any _ _ (by unfold maxLen; omega)).mono ?_
          rintro e w4 ⟨rfl, hb4⟩
          have hb12 : Below w.heap.size w w2 := hb1.trans (hb2.mono hb1.size)
          have hb13 : Below w.heap.size w w3 := hb12.trans (hb3.mono hb12.size)
          have hb14 : Below w.heap.size w w4 := hb13.trans (hb4.mono hb13.size)
          cases hia : Plain.isS a.data.toList <;> cases hat : Plain.allT b.data.toList
          all_goals (go_wp2; go_ret; exact ⟨rfl, hb14⟩)
        · have HB : Hid (Plain.allT b.data.toList = true) := by
            rw [ByteArray.toList_eq] at hbe
            show Plain.allT b.data.toList = true
            rw [List.isEmpty_iff.1 hbe]
            rfl
          go_wp2_with fail
          refine (isScheme_any _ _ (by rw [ab_size]; unfold maxLen; omega)).mono ?_
          rintro e w3 ⟨rfl, hb3⟩
          rw [ab_data, Plain.isS_append HNE.out, HB.out]
          go_wp2_with fail
          refine (isScheme_any _ _ (by unfold maxLen; omega)).mono ?_
          rintro e w4 ⟨rfl, hb4⟩
          have hb13 : Below w.heap.size w w3 := hb1.trans (hb3.mono hb1.size)
          have hb14 : Below w.heap.size w w4 := hb13.trans (hb4.mono hb13.size)
          cases hia : Plain.isS a.data.toList
          all_goals (go_wp2; go_ret; exact ⟨rfl, hb14⟩)
  · go_wp2
    go_ret
    exact ⟨rfl, Below.refl _ _⟩

end Go.Proofs.Qxb6627959a
