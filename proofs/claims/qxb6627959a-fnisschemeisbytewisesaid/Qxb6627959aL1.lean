import Derived.Test.Qxb6627959aW1
import Derived.Lib.Strings
namespace Go.Proofs.Qxb6627959a
open Go.RowKit

def AnyBool (w : World) (e : Ending) (w' : World) : Prop := ∃ b : Bool, e = .returned (.bool b) ∧ w = w'

set_option maxHeartbeats 400000 in
theorem zz5_any (s : ByteArray) (w : World) (hs : s.size ≤ maxLen) : Calls Try.prog 5 #[.string s] w (AnyBool w) := by
  unfold maxLen at hs
  go_enter Try.func5, Try.ntmps5
  go_wp2
  all_goals (go_ret; exact ⟨_, rfl, rfl⟩)

/-- 'string([]byte{byte(c)})': the string of that one byte. -/
theorem one_run (k : Nat) (hk : k < 256) (wr : World) : ∃ one : ByteArray, one.data.toList = [UInt8.ofNat k] ∧ one.size = 1 ∧
    Sem.run Try.prog (convert 23 9 (.slice (some ⟨wr.heap.size, 0, none⟩) 1 1)) (wr.alloc (.cells #[.int .u8 (k : Int)] 5)) = .ok (.string one) (wr.alloc (.cells #[.int .u8 (k : Int)] 5)) := by
  refine ⟨⟨#[UInt8.ofNat k]⟩, rfl, rfl, ?_⟩
  have h := run_convert_bytes_back (P := Try.prog) (wr.alloc (.cells #[.int .u8 (k : Int)] 5)) 23 9 5 ⟨wr.heap.size, 0, none⟩ 1 [UInt8.ofNat k] Try.underlying23 Try.underlying5 Try.underlying9 (fun j hj => by
    have hj0 : j = 0 := by simpa using hj
    subst hj0
    have : k % 256 = k := by omega
    simp [Addr.add, this])
  simpa using h

theorem a_data (b : ByteArray) : (({ data := #[97] } : ByteArray) ++ b).data.toList = 97 :: b.data.toList := by simp
theorem a_size (b : ByteArray) : (({ data := #[97] } : ByteArray) ++ b).size = 1 + b.size := by
  rw [← len_eq, a_data, List.length_cons, len_eq]; omega

theorem cut_one (s : ByteArray) (i : Nat) (h : i < s.data.toList.length) : (s.extract i (i + 1)).data.toList = [s.data.toList[i]] := by
  rw [Lib.extract_data, show i + 1 - i = 1 by omega, List.drop_eq_getElem_cons h]
  rfl

theorem cut_size (s : ByteArray) (a b : Nat) : (s.extract a b).size ≤ s.size := by
  rw [← len_eq, Lib.extract_data, List.length_take, List.length_drop, len_eq]; omega

theorem byte_of (k : Nat) (hk : k < 256) : (((UInt8.ofNat k).toNat : Nat) : Int) = (k : Int) := by
  have : k % 256 = k := by omega
  simp [this]

/-- The law returns true; nothing that was there has turned. -/
def TruePost (w : World) (e : Ending) (w' : World) : Prop := e = .returned (.bool true) ∧ Below w.heap.size w w'

set_option maxHeartbeats 2000000 in
set_option maxRecDepth 100000 in
theorem byteWise_any (s : ByteArray) (w : World) (hs : s.size ≤ maxLen) : Calls Try.prog 3 #[.string s] w (TruePost w) := by
  go_enter Try.func3, Try.ntmps3
  go_wp2_with fail
  refine (zz5_any _ _ hs).mono ?_
  rintro e w' ⟨b, rfl, rfl⟩
  unfold maxLen at hs
  cases b
  · go_wp2
    go_ret
    exact ⟨rfl, Below.refl _ _⟩
  by_cases h16 : (65536 : Int) < (s.size : Int)
  · go_wp2
    go_ret
    exact ⟨rfl, Below.refl _ _⟩
  go_wp2
  go_loopw [3, 4, 5] (fun s3 s4 s5 wr => ∃ k : Nat, k ≤ 256 ∧ s5 = .int .i64 k ∧ s3 = .int .i64 (Plain.cnt Plain.alphaB k) ∧ s4 = .int .i64 (Plain.cnt Plain.tailB k) ∧ Below w.heap.size w wr) (fun _ _ t _ => 256 - (intOf t).toNat)
  case atStart => exact ⟨0, by omega, rfl, rfl, rfl, Below.refl _ _⟩
  case round =>
    obtain ⟨k, hk, rfl, rfl, rfl, hb⟩ := hrel
    by_cases hlt : k < 256
    · obtain ⟨one, ho, hos, hcv⟩ := one_run k hlt wr
      have HO : Hid (one.data.toList = [UInt8.ofNat k]) := ho
      have HOS : Hid (one.size = 1) := hos
      have hos1 : one.size ≤ 1 := by omega
      clear ho hos
      have c1 := Plain.cnt_le Plain.alphaB k
      have c2 := Plain.cnt_le Plain.tailB k
      go_wp2_with fail
      refine (isScheme_any _ _ (by have := HOS.out; unfold maxLen; omega)).mono ?_
      rintro e w1 ⟨rfl, hb1⟩
      rw [HO.out, Plain.isS_one, byte_of k hlt]
      have HCA : Hid (Plain.cnt Plain.alphaB (k + 1) = Plain.cnt Plain.alphaB k + (if Plain.alphaB (k : Int) then 1 else 0)) := rfl
      have HCT : Hid (Plain.cnt Plain.tailB (k + 1) = Plain.cnt Plain.tailB k + (if Plain.tailB (k : Int) then 1 else 0)) := rfl
      have hbw : Below w.heap.size w w1 := (hb.alloc hb.size _).trans (hb1.mono (by have := hb.size; simp; omega))
      clear hb hb1 hcv
      cases ha : Plain.alphaB (k : Int)
      · go_wp2_with fail
        refine (isScheme_any _ _ (by have := HOS.out; rw [a_size]; unfold maxLen; omega)).mono ?_
        rintro e w2 ⟨rfl, hb2⟩
        rw [a_data, HO.out, Plain.isS_two, byte_of k hlt]
        have hbw2 : Below w.heap.size w w2 := hbw.trans (hb2.mono hbw.size)
        cases ht : Plain.tailB (k : Int)
        · go_wp2
          go_roundw
          case rel => exact ⟨k + 1, by omega, by go_num, by rw [HCA.out, ha]; rfl, by rw [HCT.out, ht]; rfl, hbw2⟩
          case measure => simp [intOf] <;> omega
        · go_wp2
          go_roundw
          case rel => exact ⟨k + 1, by omega, by go_num, by rw [HCA.out, ha]; rfl, by rw [HCT.out, ht]; rfl, hbw2⟩
          case measure => simp [intOf] <;> omega
      · go_wp2_with fail
        refine (isScheme_any _ _ (by have := HOS.out; rw [a_size]; unfold maxLen; omega)).mono ?_
        rintro e w2 ⟨rfl, hb2⟩
        rw [a_data, HO.out, Plain.isS_two, byte_of k hlt]
        have hbw2 : Below w.heap.size w w2 := hbw.trans (hb2.mono hbw.size)
        cases ht : Plain.tailB (k : Int)
        · go_wp2
          go_roundw
          case rel => exact ⟨k + 1, by omega, by go_num, by rw [HCA.out, ha]; rfl, by rw [HCT.out, ht]; rfl, hbw2⟩
          case measure => simp [intOf] <;> omega
        · go_wp2
          go_roundw
          case rel => exact ⟨k + 1, by omega, by go_num, by rw [HCA.out, ha]; rfl, by rw [HCT.out, ht]; rfl, hbw2⟩
          case measure => simp [intOf] <;> omega
    · have hk256 : k = 256 := by omega
      have e0 : (k : Int) = 256 := by omega
      have e1 : ((Plain.cnt Plain.alphaB k : Nat) : Int) = 52 := by rw [hk256, Plain.cnt_alpha]; rfl
      have e2 : ((Plain.cnt Plain.tailB k : Nat) : Int) = 65 := by rw [hk256, Plain.cnt_tail]; rfl
      rw [e0, e1, e2]
      clear e0 e1 e2 hk256 hlt hk
      by_cases hz : s.size = 0
      · have hd : decide ((0 : Int) < (s.size : Int)) = false := by simp [hz]
        have HW1 : Hid (Plain.wantB s.data.toList 1 = false) := by
          have : s.data.toList = [] := List.length_eq_zero_iff.1 (by rw [len_eq]; exact hz)
          show Plain.wantB s.data.toList 1 = false
          rw [this]; rfl
        have hz0 : s.size ≤ 0 := by omega
        clear hz
        go_wp2_with fail
        clear hd
        go_loopw [7, 8] (fun s7 s8 wx => ∃ i : Nat, 1 ≤ i ∧ i ≤ s.size + 1 ∧ s8 = .int .i64 i ∧ s7 = .bool (Plain.wantB s.data.toList i) ∧ Below w.heap.size w wx) (fun _ t _ => s.size + 2 - (intOf t).toNat)
        case atStart => exact ⟨1, Nat.le_refl _, by omega, rfl, by first | exact congrArg Value.bool HW1.out | exact congrArg Value.bool HW1.out.symm, hb⟩
        case round =>
          obtain ⟨i, hi0, hi1, rfl, rfl, hbx⟩ := hrel
          clear hb
          cases hwi : Plain.wantB s.data.toList i
          · have HNO : Hid (Plain.isS s.data.toList = false) := Plain.want_no hi0 hwi
            clear hwi
            go_wp2_with fail
            refine (isScheme_any _ _ (by unfold maxLen; omega)).mono ?_
            rintro e w9 ⟨rfl, hb9⟩
            rw [HNO.out]
            go_wp2
            go_ret
            exact ⟨rfl, hbx.trans (hb9.mono hbx.size)⟩
          · by_cases hlti : i < s.size
            · exfalso; omega
            · have HYE : Hid (Plain.isS s.data.toList = true) := by rw [← Plain.want_end (i := i) (by rw [len_eq]; omega)]; exact hwi
              clear hwi
              go_wp2_with fail
              refine (isScheme_any _ _ (by unfold maxLen; omega)).mono ?_
              rintro e w9 ⟨rfl, hb9⟩
              rw [HYE.out]
              go_wp2
              go_ret
              exact ⟨rfl, hbx.trans (hb9.mono hbx.size)⟩
      · have hz1 : 0 < s.size := by omega
        have hd : decide ((0 : Int) < (s.size : Int)) = true := by simp; omega
        have hil0 : 0 < s.data.toList.length := by rw [len_eq]; exact hz1
        have HW0 : Hid (Plain.wantB s.data.toList 1 = Plain.isS [s.data.toList[0]'hil0]) := by
          show Plain.isS (s.data.toList.take 1) = _
          rw [show s.data.toList.take 1 = [s.data.toList[0]'hil0] by rw [List.take_succ_eq_append_getElem hil0]; rfl]
        clear hz
        go_wp2_with fail
        refine (isScheme_any _ _ (by have := cut_size s 0 1; unfold maxLen; omega)).mono ?_
        rintro e w3 ⟨rfl, hb3⟩
        rw [cut_one s 0 hil0, ← HW0.out]
        have hbw3 : Below w.heap.size w w3 := hb.trans (hb3.mono hb.size)
        obtain ⟨wb, HW1⟩ : ∃ wb, Hid (wb = Plain.wantB s.data.toList 1) := ⟨_, rfl⟩
        rw [← HW1.out]
        clear hb hb3 HW0
        go_wp2_with fail
        clear hd
        go_loopw [7, 8] (fun s7 s8 wx => ∃ i : Nat, 1 ≤ i ∧ i ≤ s.size + 1 ∧ s8 = .int .i64 i ∧ s7 = .bool (Plain.wantB s.data.toList i) ∧ Below w.heap.size w wx) (fun _ t _ => s.size + 2 - (intOf t).toNat)
        case atStart => exact ⟨1, Nat.le_refl _, by omega, rfl, by first | exact congrArg Value.bool HW1.out | exact congrArg Value.bool HW1.out.symm, hbw3⟩
        case round =>
          obtain ⟨i, hi0, hi1, rfl, rfl, hbx⟩ := hrel
          clear hbw3
          cases hwi : Plain.wantB s.data.toList i
          · have HNO : Hid (Plain.isS s.data.toList = false) := Plain.want_no hi0 hwi
            clear hwi
            go_wp2_with fail
            refine (isScheme_any _ _ (by unfold maxLen; omega)).mono ?_
            rintro e w9 ⟨rfl, hb9⟩
            rw [HNO.out]
            go_wp2
            go_ret
            exact ⟨rfl, hbx.trans (hb9.mono hbx.size)⟩
          · by_cases hlti : i < s.size
            · have hil : i < s.data.toList.length := by rw [len_eq]; exact hlti
              have HST : Hid (Plain.wantB s.data.toList (i + 1) = (Plain.wantB s.data.toList i && Plain.tailB (s.data.toList[i]'hil).toNat)) := Plain.want_step hi0 hil
              have HWI : Hid (Plain.wantB s.data.toList i = true) := hwi
              clear hwi
              go_wp2_with fail
              refine (isScheme_any _ _ (by rw [a_size]; have := cut_size s i (i + 1); unfold maxLen; omega)).mono ?_
              rintro e w9 ⟨rfl, hb9⟩
              rw [a_data, cut_one s i hil, Plain.isS_two]
              cases ht : Plain.tailB ((s.data.toList[i]'hil).toNat : Int)
              · go_wp2
                go_roundw
                case rel => exact ⟨i + 1, by omega, by omega, by go_num, by rw [HST.out, ht, Bool.and_false], hbx.trans (hb9.mono hbx.size)⟩
                case measure => simp [intOf] <;> omega
              · go_wp2
                go_roundw
                case rel => exact ⟨i + 1, by omega, by omega, by go_num, by rw [HST.out, ht, HWI.out]; rfl, hbx.trans (hb9.mono hbx.size)⟩
                case measure => simp [intOf] <;> omega
            · have HYE : Hid (Plain.isS s.data.toList = true) := by rw [← Plain.want_end (i := i) (by rw [len_eq]; omega)]; exact hwi
              clear hwi
              go_wp2_with fail
              refine (isScheme_any _ _ (by unfold maxLen; omega)).mono ?_
              rintro e w9 ⟨rfl, hb9⟩
              rw [HYE.out]
              go_wp2
              go_ret
              exact ⟨rfl, hbx.trans (hb9.mono hbx.size)⟩

end Go.Proofs.Qxb6627959a
