import Derived.Test.Qxb6627959aProg
import Derived.Test.Qxb6627959aPlain
import Derived.WalkKit
import Derived.WalkSpells
import Derived.WalkLawsBesides
namespace Go.Proofs.Qxb6627959a
open Go.RowKit

/-- A bool; the same world. -/
def BPost (w : World) (b : Bool) (e : Ending) (w' : World) : Prop := e = .returned (.bool b) ∧ w = w'

theorem ret_bool {a b : Bool} (h : a = b) : Ending.returned (.bool a) = .returned (.bool b) := by rw [h]

set_option maxHeartbeats 400000 in
theorem isAlpha_any (x : Int) (w : World) : Calls Try.prog 9 #[.int .u8 x] w (BPost w (Plain.alphaB x)) := by
  go_enter Try.func9, Try.ntmps9
  go_wp2
  all_goals (go_ret; exact ⟨ret_bool (by unfold Plain.alphaB; rw [Bool.eq_iff_iff]; simp; omega), rfl⟩)

set_option maxHeartbeats 400000 in
theorem isLetter_any (x : Int) (w : World) : Calls Try.prog 8 #[.int .u8 x] w (BPost w (Plain.alphaB x)) := by
  go_enter Try.func8, Try.ntmps8
  go_wp2
  all_goals (go_ret; exact ⟨ret_bool (by unfold Plain.alphaB; rw [Bool.eq_iff_iff]; simp; omega), rfl⟩)

set_option maxHeartbeats 400000 in
theorem isDigit_any (x : Int) (w : World) : Calls Try.prog 11 #[.int .u8 x] w (BPost w (Plain.digitB x)) := by
  go_enter Try.func11, Try.ntmps11
  go_wp2
  all_goals (go_ret; exact ⟨ret_bool (by unfold Plain.digitB; rw [Bool.eq_iff_iff]; simp; omega), rfl⟩)

set_option maxHeartbeats 400000 in
theorem isAlphaNum_any (x : Int) (w : World) : Calls Try.prog 10 #[.int .u8 x] w (BPost w (Plain.alphaB x || Plain.digitB x)) := by
  cases ha : Plain.alphaB x
  · go_enter Try.func10, Try.ntmps10
    go_wp2_with fail
    refine (isAlpha_any _ _).mono ?_
    rintro e w' ⟨rfl, rfl⟩
    rw [ha]
    go_wp2_with fail
    refine (isDigit_any _ _).mono ?_
    rintro e w' ⟨rfl, rfl⟩
    go_wp2
    go_ret
    exact ⟨ret_bool (by simp), rfl⟩
  · go_enter Try.func10, Try.ntmps10
    go_wp2_with fail
    refine (isAlpha_any _ _).mono ?_
    rintro e w' ⟨rfl, rfl⟩
    rw [ha]
    go_wp2
    go_ret
    exact ⟨ret_bool (by simp), rfl⟩

/-- A bool; nothing that was there has turned. -/
def GPost (w : World) (b : Bool) (e : Ending) (w' : World) : Prop := e = .returned (.bool b) ∧ Below w.heap.size w w'

/-- '[]byte(s)': a new block that holds the bytes. -/
theorem bytes_run (s : ByteArray) (w : World) : ∃ c w2, Sem.run Try.prog (convert 9 23 (.string s)) w = .ok (.slice (some ⟨w.heap.size, 0, none⟩) s.size c) w2 ∧ Below w.heap.size w w2 ∧
    ∀ j (hj : j < s.data.toList.length), w2.cell? ⟨w.heap.size, j, none⟩ = some (.int .u8 ((s.data.toList[j]'hj).toNat : Int)) := by
  refine ⟨_, _, run_bytes_of_string (P := Try.prog) w 9 23 5 s Try.underlying9 Try.underlying23 Try.underlying5, (Below.refl _ _).drew.alloc (Nat.le_refl _) _, fun j hj => ?_⟩
  have h := World.cell?_alloc_mark w.drew (bytesRow s (grownCap w s.size 0 5)) 5 ((bytesRow s (grownCap w s.size 0 5)).size, (bytesRow s (grownCap w s.size 0 5)).size + 1) j
  rw [bytesRow_at s _ j (by simpa using hj)] at h
  rw [Array.getElem_toList]
  exact h

theorem len_eq (s : ByteArray) : s.data.toList.length = s.size := by rw [Array.length_toList]; rfl

theorem allT_take {l : List UInt8} {k : Nat} (h : k < l.length) : Plain.allT (l.take (k + 1)) = (Plain.allT (l.take k) && Plain.tailB (l[k]'h).toNat) := by
  unfold Plain.allT
  rw [List.take_succ_eq_append_getElem h, List.all_append]
  simp only [List.all_cons, List.all_nil, Bool.and_true]

theorem allT_no {l : List UInt8} {k : Nat} (h : k < l.length) (ht : Plain.tailB (l[k]'h).toNat = false) : Plain.allT l = false := by
  unfold Plain.allT
  rw [List.all_eq_false]
  exact ⟨l[k], List.getElem_mem h, by simp [ht]⟩

set_option maxHeartbeats 1000000 in
theorem isScheme_empty (s : ByteArray) (w : World) (h0 : s.size = 0) : Calls Try.prog 6 #[.string s] w (GPost w (Plain.isS s.data.toList)) := by
  have hnil : s.data.toList = [] := List.length_eq_zero_iff.1 (by rw [len_eq]; exact h0)
  have he : s.toList.isEmpty = true := by rw [ByteArray.toList_eq, hnil]; rfl
  have HN : Hid (s.data.toList = []) := hnil
  clear h0 hnil
  go_enter Try.func6, Try.ntmps6
  go_wp2
  go_ret
  exact ⟨ret_bool (by rw [HN.out]; rfl), Below.refl _ _⟩

set_option maxHeartbeats 1000000 in
set_option maxRecDepth 100000 in
theorem isScheme_some (s : ByteArray) (l : List UInt8) (c0 : UInt8) (w : World) (hl : s.data.toList = c0 :: l) (hs : s.size ≤ maxLen) : Calls Try.prog 6 #[.string s] w (GPost w (Plain.isS s.data.toList)) := by
  unfold maxLen at hs
  have hlen := len_eq s
  have hp : 0 < s.size := by rw [← hlen, hl]; simp
  have he : s.toList.isEmpty = false := by rw [ByteArray.toList_eq, hl]; rfl
  have hc0 : (s[0]'hp) = c0 := by
    have : (s[0]'hp) = s.data.toList[0]'(by omega) := by simp [ByteArray.getElem_eq_getElem_data]
    rw [this]
    simp [hl]
  obtain ⟨cc, w2, hrun, hb, hcells⟩ := bytes_run s w
  have HL : Hid (s.data.toList = c0 :: l) := hl
  have HC : Hid (∀ j (hj : j < s.data.toList.length), w2.cell? ⟨w.heap.size, j, none⟩ = some (.int .u8 ((s.data.toList[j]'hj).toNat : Int))) := hcells
  have HLen : Hid (s.data.toList.length = s.size) := hlen
  clear hl hcells hlen
  go_enter Try.func6, Try.ntmps6
  go_wp2_with fail
  refine (isAlpha_any _ _).mono ?_
  rintro e w' ⟨rfl, rfl⟩
  cases ha : Plain.alphaB (c0.toNat : Int)
  · go_wp2
    go_ret
    exact ⟨ret_bool (by rw [HL.out]; simp [Plain.isS, ha]), Below.refl _ _⟩
  · go_wp2
    go_loop [16] (fun t => ∃ k : Nat, k ≤ s.size ∧ t = .int .i64 k ∧ Plain.allT (s.data.toList.take k) = true) (fun t => s.size - (intOf t).toNat)
    case atStart => exact ⟨0, Nat.zero_le _, rfl, rfl⟩
    case round =>
      obtain ⟨k, hk, rfl, hall⟩ := hrel
      have HA : Hid (Plain.allT (s.data.toList.take k) = true) := hall
      clear hall
      by_cases hlt : k < s.size
      · obtain ⟨x, HX, hx⟩ : ∃ x : Int, Hid (x = ((s.data.toList[k]'(by rw [HLen.out]; exact hlt)).toNat : Int)) ∧ w2.cell? ⟨w.heap.size, k, none⟩ = some (.int .u8 x) := ⟨((s.data.toList[k]'(by rw [HLen.out]; exact hlt)).toNat : Int), rfl, HC.out k (by rw [HLen.out]; exact hlt)⟩
        have hki : (k : Int) < (s.size : Int) := by omega
        have hstep := allT_take (l := s.data.toList) (k := k) (by rw [HLen.out]; exact hlt)
        have hno := allT_no (l := s.data.toList) (k := k) (by rw [HLen.out]; exact hlt)
        rw [← HX.out] at hstep hno
        have HS : Hid (Plain.allT (s.data.toList.take (k + 1)) = (Plain.allT (s.data.toList.take k) && Plain.tailB x)) := hstep
        have HN : Hid (Plain.tailB x = false → Plain.allT s.data.toList = false) := hno
        clear hstep hno hrun
        go_wp2_with fail
        refine (isAlphaNum_any _ _).mono ?_
        rintro e w' ⟨rfl, rfl⟩
        cases hn : (Plain.alphaB x || Plain.digitB x)
        · by_cases h43 : x = 43
          · have b1 : (x != 43) = false := by simp [h43]
            have HT : Hid (Plain.tailB x = true) := by show Plain.tailB x = true; unfold Plain.tailB; simp [h43]
            clear h43
            go_wp2
            go_round
            case rel => exact ⟨k + 1, by omega, by go_num, by rw [HS.out, HA.out, HT.out]; rfl⟩
            case measure => simp [intOf] <;> omega
          · have b1 : (x != 43) = true := by simp [h43]
            by_cases h45 : x = 45
            · have b2 : (x != 45) = false := by simp [h45]
              have HT : Hid (Plain.tailB x = true) := by show Plain.tailB x = true; unfold Plain.tailB; simp [h45]
              clear h45 h43
              go_wp2
              go_round
              case rel => exact ⟨k + 1, by omega, by go_num, by rw [HS.out, HA.out, HT.out]; rfl⟩
              case measure => simp [intOf] <;> omega
            · have b2 : (x != 45) = true := by simp [h45]
              by_cases h46 : x = 46
              · have b3 : (x != 46) = false := by simp [h46]
                have HT : Hid (Plain.tailB x = true) := by show Plain.tailB x = true; unfold Plain.tailB; simp [h46]
                clear h45 h43 h46
                go_wp2
                go_round
                case rel => exact ⟨k + 1, by omega, by go_num, by rw [HS.out, HA.out, HT.out]; rfl⟩
                case measure => simp [intOf] <;> omega
              · have b3 : (x != 46) = true := by simp [h46]
                have HT : Hid (Plain.tailB x = false) := by show Plain.tailB x = false; unfold Plain.tailB; rw [hn]; simp [h43, h45, h46]
                clear h45 h43 h46
                go_wp2
                go_ret
                exact ⟨ret_bool (by have := HN.out HT.out; rw [HL.out] at this ⊢; rw [Plain.isS_all ha, this]), hb⟩
        · have HT : Hid (Plain.tailB x = true) := by show Plain.tailB x = true; unfold Plain.tailB; rw [hn]; simp
          go_wp2
          go_round
          case rel => exact ⟨k + 1, by omega, by go_num, by rw [HS.out, HA.out, HT.out]; rfl⟩
          case measure => simp [intOf] <;> omega
      · clear hrun
        obtain rfl : k = s.size := by omega
        go_wp2
        go_ret
        exact ⟨ret_bool (by have := HA.out; rw [List.take_of_length_le (by rw [HLen.out]; exact Nat.le_refl _), HL.out] at this; rw [HL.out, Plain.isS_all ha, this]), hb⟩

theorem isScheme_any (s : ByteArray) (w : World) (hs : s.size ≤ maxLen) : Calls Try.prog 6 #[.string s] w (GPost w (Plain.isS s.data.toList)) := by
  cases hl : s.data.toList with
  | nil =>
    have h := isScheme_empty s w (by rw [← len_eq, hl]; rfl)
    rwa [hl] at h
  | cons c l =>
    have h := isScheme_some s l c w hl hs
    rwa [hl] at h

end Go.Proofs.Qxb6627959a
