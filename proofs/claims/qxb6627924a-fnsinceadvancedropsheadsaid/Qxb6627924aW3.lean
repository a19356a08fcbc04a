import Derived.Test.Qxb6627924aW2
import Derived.Laws.CopyOwn
import Derived.Deep.OwnRows
import Derived.Deep.Slices
namespace Go.Proofs.Qxb6627924a
open Go.RowKit

theorem info5 : (Try.prog.info? 5).map (fun i => (i.zero, i.size, i.bytes)) = some (some (.int .u8 0), 1, 1) := by kernel_rfl
theorem info33 : (Try.prog.info? 33).map (fun i => (i.zero, i.size, i.bytes)) = some (some (.slice none 0 0), 1, 24) := by kernel_rfl
theorem size5 : (Try.prog.info? 5).map (·.size) = some 1 := by kernel_rfl

/-- A slice of bytes, read whole, its cells in block lo or beyond. -/
def BSat (w : World) (lo : Nat) (ao : Option Addr) (n : Nat) (D : Nat → Int) : Prop :=
  n ≤ maxLen ∧ ∃ b o, lo ≤ b ∧ (0 < n → ao = some ⟨b, o, none⟩) ∧ ∀ i, i < n → w.cell? ⟨b, o + i, none⟩ = some (.int .u8 (D i))

theorem BSat.toBS {w : World} {lo : Nat} {ao : Option Addr} {n : Nat} {D : Nat → Int} (h : BSat w lo ao n D) : BS w ao n D := by
  obtain ⟨h0, b, o, _, h1, h2⟩ := h
  exact ⟨h0, b, o, h1, h2⟩

theorem BSat.below {w w' : World} {lo : Nat} {ao : Option Addr} {n : Nat} {D : Nat → Int} (h : BSat w lo ao n D) (hb : Below w.heap.size w w') : BSat w' lo ao n D := by
  obtain ⟨h0, b, o, hlo, h1, h2⟩ := h
  exact ⟨h0, b, o, hlo, h1, fun i hi => (hb.cell (p := ⟨b, o + i, none⟩) (World.block_lt_of_cell? _ _ (h2 i hi))).trans (h2 i hi)⟩

theorem BSat.setCell {w : World} {lo : Nat} {ao : Option Addr} {n : Nat} {D : Nat → Int} (h : BSat w lo ao n D) {a : Addr} (ha : a.block < lo) (v : Value) : BSat (w.setCell a v) lo ao n D := by
  obtain ⟨h0, b, o, hlo, h1, h2⟩ := h
  refine ⟨h0, b, o, hlo, h1, fun i hi => ?_⟩
  rw [World.cell?_setCell_other _ _ _ _ (fun e => by have := congrArg Addr.block e; simp at this; omega)]
  exact h2 i hi

/-- What the loop of sinceClone holds behind k rounds. -/
structure Clone (w wr : World) (n k : Nat) (M : Nat → Msu) : Prop where
  below : Below w.heap.size w wr
  row : ∃ V : Nat → Value, wr.rowIs w.heap.size 33 n V ∧ (∀ i, k ≤ i → i < n → V i = .slice none 0 0) ∧ ∀ i, i < k → ∃ ao' c', V i = .slice ao' (M i).n c' ∧ BSat wr (w.heap.size + 1) ao' (M i).n (M i).D

theorem clone_start (w : World) (n : Nat) (M : Nat → Msu) : Clone w (w.alloc (.cells (madeCells #[.slice none 0 0] n) 33)) n 0 M :=
  ⟨(Below.refl _ _).alloc (Nat.le_refl _) _, _, World.rowIs_made w _ n 33, fun _ _ _ => rfl, fun _ h => absurd h (Nat.not_lt_zero _)⟩

theorem Clone.lt {w wr : World} {n k : Nat} {M : Nat → Msu} (h : Clone w wr n k M) : w.heap.size < wr.heap.size := by
  obtain ⟨V, hV, _⟩ := h.row
  exact hV.lt

theorem Clone.later {w wr w1 : World} {n k : Nat} {M : Nat → Msu} (h : Clone w wr n k M) (hb : Below wr.heap.size wr w1) : Clone w w1 n k M := by
  have hl := h.lt
  obtain ⟨h1, V, hV, hz, hd⟩ := h
  refine ⟨h1.trans (hb.mono (Nat.le_of_lt hl)), V, hV.of_block (hb.block _ hl), hz, fun i hi => ?_⟩
  obtain ⟨ao', c', e, hB⟩ := hd i hi
  exact ⟨ao', c', e, hB.below hb⟩

/-- A nil MSU is left as it is. -/
theorem clone_nil {w wr : World} {n k : Nat} {M : Nat → Msu} (h : Clone w wr n k M) (hk : k < n) (h0 : (M k).n = 0) : Clone w wr n (k + 1) M := by
  have hl := h.lt
  obtain ⟨h1, V, hV, hz, hd⟩ := h
  refine ⟨h1, V, hV, fun i hi hin => hz i (by omega) hin, fun i hi => ?_⟩
  by_cases e : i = k
  · subst e
    exact ⟨none, 0, by rw [hz i (Nat.le_refl _) hk, h0], by rw [h0]; exact ⟨Nat.zero_le _, w.heap.size + 1, 0, Nat.le_refl _, fun h => absurd h (Nat.lt_irrefl _), fun _ h => absurd h (Nat.not_lt_zero _)⟩⟩
  · exact hd i (by omega)

/-- A copy is stored. -/
theorem clone_step {w wr : World} {n k ln : Nat} {M : Nat → Msu} (h : Clone w wr n k M) {ao : Option Addr} {c : Nat} {D : Nat → Int} (e1 : (M k).n = ln) (e2 : (M k).D = D) (hB : BSat wr (w.heap.size + 1) ao ln D) :
    Clone w (wr.setCell ⟨w.heap.size, k, none⟩ (.slice ao ln c)) n (k + 1) M := by
  obtain ⟨h1, V, hV, hz, hd⟩ := h
  refine ⟨h1.setCell (Nat.le_refl _) _, _, hV.set k _, fun i hi hin => ?_, fun i hi => ?_⟩
  · show (if i = k then _ else V i) = _
    rw [if_neg (by omega)]
    exact hz i (by omega) hin
  · show ∃ ao' c', (if i = k then _ else V i) = _ ∧ _
    by_cases e : i = k
    · subst e
      rw [if_pos rfl, e1, e2]
      exact ⟨ao, c, rfl, hB.setCell (Nat.lt_succ_self _) _⟩
    · rw [if_neg e]
      obtain ⟨ao', c', e', hB'⟩ := hd i (by omega)
      exact ⟨ao', c', e', hB'.setCell (Nat.lt_succ_self _) _⟩

/-- The clone, read as MSUs. -/
theorem Clone.toMS {w wr : World} {n : Nat} {M : Nat → Msu} (h : Clone w wr n n M) (hn : n ≤ maxLen) : ∃ N, MS wr (some ⟨w.heap.size, 0, none⟩) n N ∧ Alike n M N := by
  obtain ⟨_, V, hV, _, hd⟩ := h
  haveI : Inhabited Msu := ⟨⟨none, 0, 0, fun _ => 0⟩⟩
  obtain ⟨N, hN⟩ := Go.Deep.choose_lt (α := Msu) (n := n) (p := fun i x => V i = .slice x.ao x.n x.c ∧ BS wr x.ao x.n x.D ∧ (M i).n = x.n ∧ (M i).D = x.D) (fun i hi => by
    obtain ⟨ao', c', e, hB⟩ := hd i hi
    exact ⟨⟨ao', (M i).n, c', (M i).D⟩, e, hB.toBS, rfl, rfl⟩)
  refine ⟨N, ⟨hn, w.heap.size, 0, fun _ => rfl, fun i hi => ?_⟩, fun i hi => ?_⟩
  · obtain ⟨e, hB, _, _⟩ := hN i hi
    rw [Nat.zero_add, hV.cell hi, e]
    exact ⟨rfl, hB⟩
  · obtain ⟨_, _, e1, e2⟩ := hN i hi
    exact ⟨e1, fun j _ => by rw [e2]⟩

/-- The bytes as cells. -/
def byteList (D : Nat → Int) (n : Nat) : List Value := (List.range n).map fun i => Value.int .u8 (D i)
theorem byteList_len (D : Nat → Int) (n : Nat) : (byteList D n).length = n := by simp [byteList]
theorem byteList_one (D : Nat → Int) (n : Nat) : ∀ v ∈ byteList D n, v.oneCell' = true := by
  intro v hv
  obtain ⟨i, _, rfl⟩ := List.mem_map.1 hv
  rfl
theorem byteList_at (D : Nat → Int) (n : Nat) : ∀ (j : Nat) (v : Value), (byteList D n)[j]? = some v → j < n ∧ v = .int .u8 (D j) := by
  intro j v h
  by_cases hj : j < n
  · simp [byteList, hj] at h
    exact ⟨hj, h.symm⟩
  · simp [byteList, hj] at h

theorem src_cells {w : World} {a : Addr} {b o n : Nat} {D : Nat → Int} (ha : 0 < n → a = ⟨b, o, none⟩) (hc : ∀ i, i < n → w.cell? ⟨b, o + i, none⟩ = some (.int .u8 (D i))) : ∀ (j : Nat) (v : Value), (byteList D n)[j]? = some v → w.cell? (a.add j) = some v := by
  intro j v h
  obtain ⟨hj, rfl⟩ := byteList_at D n j v h
  rw [ha (by omega)]
  have : (⟨b, o, none⟩ : Addr).add j = ⟨b, o + j, none⟩ := by
    unfold Addr.add
    by_cases h0 : j = 0 <;> simp [h0]
  rw [this]
  exact hc j hj

/-- Behind make and copy: the new block holds the bytes; nothing that was there has turned. -/
theorem copied {wr : World} {n lo : Nat} {D : Nat → Int} (hn : n ≤ maxLen) (hlo : lo ≤ wr.heap.size) (cur : Array Value) (hcur : cur.size = n) :
    Below wr.heap.size wr ((wr.alloc (.cells cur 5)).setRow wr.heap.size (cur.toList.take 0 ++ (byteList D n ++ cur.toList.drop (0 + (byteList D n).length))).toArray) ∧
    BSat ((wr.alloc (.cells cur 5)).setRow wr.heap.size (cur.toList.take 0 ++ (byteList D n ++ cur.toList.drop (0 + (byteList D n).length))).toArray) lo (some ⟨wr.heap.size, 0, none⟩) n D := by
  refine ⟨below_setRow ((Below.refl _ _).alloc (Nat.le_refl _) _) (Nat.le_refl _) _, hn, wr.heap.size, 0, hlo, fun _ => rfl, fun i hi => ?_⟩
  have hd : cur.toList.drop (0 + (byteList D n).length) = [] := by
    rw [byteList_len]
    apply List.drop_of_length_le
    simp [hcur]
  rw [hd, cell_setRow_same _ _ _ cur _ 5 (0, 0) (heap_alloc_new wr _)]
  simp [byteList, hi]

/-- make and copy, as one run. -/
theorem copy_run {wr : World} {n lo b o : Nat} {D : Nat → Int} {a : Addr} (hn : n ≤ maxLen) (hlo : lo ≤ wr.heap.size) (ha : 0 < n → a = ⟨b, o, none⟩) (hc : ∀ i, i < n → wr.cell? ⟨b, o + i, none⟩ = some (.int .u8 (D i))) (c : Nat) :
    ∃ w2, Sem.run Try.prog (Builtin.copy_ #[33, 33] 3 #[.slice (some ⟨wr.heap.size, 0, none⟩) n n, .slice (some a) n c]) (wr.alloc (.cells (madeCells #[.int .u8 0] n) 5)) = .ok (.int .i64 (n : Int)) w2 ∧
      Below wr.heap.size wr w2 ∧ BSat w2 lo (some ⟨wr.heap.size, 0, none⟩) n D := by
  obtain ⟨h1, h2⟩ := copied (wr := wr) (n := n) (lo := lo) (D := D) hn hlo (madeCells #[.int .u8 0] n) (size_madeCells _ _)
  have hr := run_copy_row (P := Try.prog) (wr.alloc (.cells (madeCells #[.int .u8 0] n) 5)) 33 33 3 5 wr.heap.size 0 n n a n c (madeCells #[.int .u8 0] n) 5 (byteList D n) Try.underlying33 size5 (heap_alloc_new wr _)
    (by rw [byteList_len]; exact (Nat.min_self n).symm) (src_cells ha (fun i hi => by rw [World.cell?_alloc_lt _ _ _ (World.block_lt_of_cell? _ _ (hc i hi))]; exact hc i hi)) (by rw [byteList_len, size_madeCells]; omega) (byteList_one D n)
  rw [List.append_assoc] at hr
  refine ⟨_, ?_, h1, h2⟩
  rw [hr, byteList_len]
  rfl

/-- What sinceClone leaves: MSUs that read alike, in new memory. -/
def ClonePost (w : World) (n : Nat) (M : Nat → Msu) (e : Ending) (w' : World) : Prop := ∃ ao c N, e = .returned (.slice ao n c) ∧ n ≤ c ∧ Below w.heap.size w w' ∧ MS w' ao n N ∧ Alike n M N

set_option maxHeartbeats 1000000 in
theorem clone_none (n c : Nat) (w : World) : Calls Try.prog 7 #[.slice none n c] w fun e w' => e = .returned (.slice none 0 0) ∧ w = w' := by
  have hnil := Lib.run_eql_slice_nil (P := Try.prog) w 22 33 none n c 0 0 Try.underlying22
  go_enter Try.func7, Try.ntmps7
  go_wp2
  go_ret
  exact ⟨rfl, rfl⟩

set_option maxHeartbeats 2000000 in
set_option maxRecDepth 100000 in
theorem clone_some (a : Addr) (b o n c : Nat) (M : Nat → Msu) (w : World) (hn : n ≤ 1048576) (ha : 0 < n → some a = some ⟨b, o, none⟩)
    (hc : ∀ i, i < n → w.cell? ⟨b, o + i, none⟩ = some (.slice (M i).ao (M i).n (M i).c) ∧ BS w (M i).ao (M i).n (M i).D) (hfit : ∀ i, i < n → (M i).n ≤ 1048576) :
    Calls Try.prog 7 #[.slice (some a) n c] w fun e w' => e = .returned (.slice (some ⟨w.heap.size, 0, none⟩) n n) ∧ Clone w w' n n M := by
  have hnil := Lib.run_eql_slice_nil (P := Try.prog) w 22 33 (some a) n c 0 0 Try.underlying22
  have hmk := run_make_row' (P := Try.prog) 22 33 (.slice none 0 0) 24 Try.underlying22 info33 rfl .i64 .i64 n (by omega) (by omega)
  go_enter Try.func7, Try.ntmps7
  go_wp2
  clear hnil hmk
  go_loopw [4] (fun s wr => ∃ k : Nat, k ≤ n ∧ s = .int .i64 k ∧ Clone w wr n k M) (fun s _ => n - (intOf s).toNat)
  case atStart => exact ⟨0, Nat.zero_le _, rfl, clone_start w n M⟩
  case round =>
    obtain ⟨k, hk, rfl, hC⟩ := hrel
    by_cases hlt : k < n
    · obtain rfl : a = ⟨b, o, none⟩ := Option.some.inj (ha (by omega))
      clear ha
      obtain ⟨xa, xn, xc, D, e1, e2, c0, hB, hxn⟩ : ∃ (xa : Option Addr) (xn xc : Nat) (D : Nat → Int), Hid ((M k).n = xn) ∧ Hid ((M k).D = D) ∧ wr.cell? ⟨b, o + k, none⟩ = some (.slice xa xn xc) ∧ BS wr xa xn D ∧ xn ≤ 1048576 := by
        obtain ⟨d0, d1⟩ := hc k hlt
        exact ⟨_, _, _, _, rfl, rfl, (hC.below.cell (p := ⟨b, o + k, none⟩) (World.block_lt_of_cell? _ _ d0)).trans d0, d1.below hC.below, hfit k hlt⟩
      have hki : (k : Int) < (n : Int) := by omega
      clear hc hfit
      have hnn := fun w => run_neq_slice_nil_any (P := Try.prog) w 33 5 xa xn xc 0 0 Try.underlying33
      obtain ⟨hm, sb, so, hsa, hsc⟩ := hB
      cases xa with
      | none =>
        have hx0 : xn = 0 := by
          rcases Nat.eq_zero_or_pos xn with h | h
          · exact h
          · exact absurd (hsa h) (by simp)
        have HX : Hid (xn = 0) := hx0
        clear hx0 hsa hsc
        go_wp2
        go_roundw
        case rel => exact ⟨k + 1, by omega, by go_num, clone_nil hC hlt (by rw [e1.out, HX.out])⟩
        case measure => simp [intOf] <;> omega
      | some xad =>
        have hmk5 := run_make_row' (P := Try.prog) 33 5 (.int .u8 0) 1 Try.underlying33 info5 rfl .i64 .i64 xn (by omega) (by omega)
        have hcl := hC.lt
        have hbl := World.block_lt_of_cell? _ _ c0
        obtain ⟨w2, hrun, hb2, hB2⟩ := copy_run hm hcl (fun h => Option.some.inj (hsa h)) hsc xc
        have hC2 := hC.later hb2
        obtain ⟨V, hV, _, _⟩ := hC2.row
        have o0 := hV.cell hlt
        have o1 := hV.frozen k
        clear hsa hsc hC hV
        go_wp2
        go_roundw
        case rel => exact ⟨k + 1, by omega, by go_num, clone_step hC2 e1.out e2.out hB2⟩
        case measure => simp [intOf] <;> omega
    · clear hc ha hfit
      obtain rfl : k = n := by omega
      go_wp2
      go_ret
      exact ⟨rfl, hC⟩

theorem clone_any (ao : Option Addr) (n c : Nat) (M : Nat → Msu) (w : World) (hn : n ≤ 1048576) (hfit : ∀ i, i < n → (M i).n ≤ 1048576) (h : MS w ao n M) : Calls Try.prog 7 #[.slice ao n c] w (ClonePost w n M) := by
  obtain ⟨h0, b, o, hao, hc⟩ := h
  cases ao with
  | none =>
    have hn0 : n = 0 := by
      rcases Nat.eq_zero_or_pos n with h | h
      · exact h
      · exact absurd (hao h) (by simp)
    subst hn0
    exact (clone_none 0 c w).mono fun e w' ⟨he, hw⟩ => ⟨none, 0, M, he, Nat.le_refl _, hw ▸ Below.refl _ _, MS.empty _ _ _, fun _ h => absurd h (Nat.not_lt_zero _)⟩
  | some a =>
    refine (clone_some a b o n c M w hn hao hc hfit).mono fun e w' ⟨he, hC⟩ => ?_
    obtain ⟨N, hN, hA⟩ := hC.toMS h0
    exact ⟨_, _, N, he, Nat.le_refl _, hC.below, hN, hA⟩

end Go.Proofs.Qxb6627924a
