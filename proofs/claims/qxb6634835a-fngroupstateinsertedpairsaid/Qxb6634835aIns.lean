import Derived.Test.Qxb6634835aW8
import Derived.Test.Qxb6634835aPlain2
namespace Go.Proofs.Qxb6634835a
open Go.RowKit

/-- The groups with one more at place k. -/
def insG (G : Nat → Grp) (k : Nat) (g : Grp) (j : Nat) : Grp := if j < k then G j else if j = k then g else G (j - 1)

theorem insG_lt {G : Nat → Grp} {k : Nat} {g : Grp} {j : Nat} (h : j < k) : insG G k g j = G j := by simp [insG, h]
theorem insG_at {G : Nat → Grp} {k : Nat} {g : Grp} : insG G k g k = g := by simp [insG]
theorem insG_gt {G : Nat → Grp} {k : Nat} {g : Grp} {j : Nat} (h : k ≤ j) : insG G k g (j + 1) = G j := by
  have h1 : ¬ j + 1 < k := by omega
  have h2 : ¬ j + 1 = k := by omega
  simp [insG, h1, h2]

/-- The new slice of groups, i of its cap groups laid. -/
structure Ins (w wr : World) (cap i : Nat) (G' : Nat → Grp) : Prop where
  below : Below w.heap.size w wr
  own : ∃ xs, wr.ownsRow w.heap.size 34 3 (.slice (some ⟨w.heap.size, 0, none⟩) i cap) i xs ∧
    ∀ j, j < i → xs[j * 3]? = some (.string (G' j).nm) ∧ xs[j * 3 + 1]? = some (.slice (G' j).ao (G' j).n (G' j).c) ∧ xs[j * 3 + 2]? = some (.slice (G' j).ra (G' j).rn (G' j).rc)

theorem Ins.lt {w wr : World} {cap i : Nat} {G' : Nat → Grp} (h : Ins w wr cap i G') : w.heap.size < wr.heap.size := by
  obtain ⟨xs, h1, _⟩ := h.own
  exact (h1.lt w.heap.size rfl).2

theorem ins_start (w : World) (cur : Array Value) (cap : Nat) (G' : Nat → Grp) (hm : cap ≤ maxLen) (h : cur.size = cap * 3) : Ins w (w.alloc (.cells cur 34)) cap 0 G' :=
  ⟨(Below.refl _ _).alloc (Nat.le_refl _) _, [], World.ownsRow_made w cur cap (Nat.le_refl _) hm h, fun _ hj => absurd hj (Nat.not_lt_zero _)⟩

theorem Ins.congr {w wr : World} {cap i : Nat} {G' G'' : Nat → Grp} (h : Ins w wr cap i G') (he : ∀ j, j < i → G' j = G'' j) : Ins w wr cap i G'' := by
  obtain ⟨xs, h1, h2⟩ := h.own
  exact ⟨h.below, xs, h1, fun j hj => by rw [← he j hj]; exact h2 j hj⟩

/-- One group more is laid behind the others. -/
theorem ins_step {w wr w0 w1 : World} {cap i : Nat} {G' : Nat → Grp} {xs : List Value} (hb : Below w.heap.size w wr) (hx : xs.length = i * 3)
    (h2 : ∀ j, j < i → xs[j * 3]? = some (.string (G' j).nm) ∧ xs[j * 3 + 1]? = some (.slice (G' j).ao (G' j).n (G' j).c) ∧ xs[j * 3 + 2]? = some (.slice (G' j).ra (G' j).rn (G' j).rc))
    (hl : w.heap.size < wr.heap.size) (h0 : Below wr.heap.size wr w0) {nm : ByteArray} {sa : Option Addr} {sn sc : Nat} {ra : Option Addr} {rn rc : Nat}
    (hown : w1.ownsRow w.heap.size 34 3 (.slice (some ⟨w.heap.size, 0, none⟩) (i + 1) cap) (i + 1) (xs ++ [.string nm, .slice sa sn sc, .slice ra rn rc])) (hg : w0.grownBy w1 (some w.heap.size))
    (e0 : (G' i).nm = nm) (e1 : (G' i).ao = sa) (e2 : (G' i).n = sn) (e3 : (G' i).c = sc) (e4 : (G' i).ra = ra) (e5 : (G' i).rn = rn) (e6 : (G' i).rc = rc) : Ins w w1 cap (i + 1) G' := by
  refine ⟨(hb.trans (h0.mono (Nat.le_of_lt hl))).grown hg (by have := h0.size; omega) (fun k hk => by cases hk; exact Nat.le_refl _), _, hown, fun j hj => ?_⟩
  by_cases e : j = i
  · subst e
    refine ⟨?_, ?_, ?_⟩
    · rw [List.getElem?_append_right (by omega), hx]; simp [e0]
    · rw [List.getElem?_append_right (by omega), hx, show j * 3 + 1 - j * 3 = 1 by omega]; simp [e1, e2, e3]
    · rw [List.getElem?_append_right (by omega), hx, show j * 3 + 2 - j * 3 = 2 by omega]; simp [e4, e5, e6]
  · obtain ⟨d0, d1, d2⟩ := h2 j (by omega)
    refine ⟨?_, ?_, ?_⟩
    · rw [List.getElem?_append_left (by omega)]; exact d0
    · rw [List.getElem?_append_left (by omega)]; exact d1
    · rw [List.getElem?_append_left (by omega)]; exact d2

theorem PSat.grown {w w' : World} {lo B : Nat} {ao : Option Addr} {n : Nat} {S : Nat → ByteArray × ByteArray} (h : PSat w lo ao n S) (hg : w.grownBy w' (some B)) (hB : B < lo) : PSat w' lo ao n S := by
  obtain ⟨h0, b, o, hlo, h1, h2⟩ := h
  refine ⟨h0, b, o, hlo, h1, fun i hi => ⟨?_, ?_⟩⟩
  · exact hg.cell (h2 i hi).1 (fun e => by simp at e; omega)
  · exact hg.cell (h2 i hi).2 (fun e => by simp at e; omega)

theorem news3 (w : World) (a b c : Value) (t : TypeId) : ∀ (j : Nat) (u : Value), [a, b, c][j]? = some u → (w.alloc (.cells #[a, b, c] t)).cell? ((⟨w.heap.size, 0, none⟩ : Addr).add j) = some u := by
  intro j u hj
  match j, hj with
  | 0, hj => simp at hj; subst hj; simp [Addr.add]
  | 1, hj => simp at hj; subst hj; simp [Addr.add]
  | 2, hj => simp at hj; subst hj; simp [Addr.add]
  | n + 3, hj => simp at hj

theorem news3b (w : World) (o : Obj) (a b c : Value) (t : TypeId) : ∀ (j : Nat) (u : Value), [a, b, c][j]? = some u → ((w.alloc o).alloc (.cells #[a, b, c] t)).cell? ((⟨w.heap.size + 1, 0, none⟩ : Addr).add j) = some u := by
  have h := news3 (w.alloc o) a b c t
  rwa [World.size_alloc] at h

/-- The new pair, where it was laid. -/
theorem pair_new (w : World) (u v : ByteArray) (t : TypeId) (o : Obj) (lo : Nat) (hlo : lo ≤ w.heap.size) : PSat ((w.alloc (.cells #[.string u, .string v] t)).alloc o) lo (some ⟨w.heap.size, 0, none⟩) 1 (fun _ => (u, v)) := by
  refine ⟨by unfold maxLen; omega, w.heap.size, 0, hlo, fun _ => rfl, fun i hi => ?_⟩
  obtain rfl : i = 0 := by omega
  exact ⟨by simp, by simp⟩

/-- The new slice, read as groups. -/
theorem ins_GS {w wr : World} {ga : Option Addr} {gn k : Nat} {G : Nat → Grp} {g : Grp} (hk : k ≤ gn) (hn : gn + 1 ≤ maxLen) (hG : GS w ga gn G) (h : Ins w wr (gn + 1) (gn + 1) (insG G k g)) (hg : PS wr g.ao g.n g.S) (hgr : g.rn = 0) :
    GS wr (some ⟨w.heap.size, 0, none⟩) (gn + 1) (insG G k g) := by
  obtain ⟨xs, h1, h2⟩ := h.own
  refine ⟨hn, w.heap.size, 0, fun _ => rfl, fun i hi => ?_⟩
  obtain ⟨d0, d1, d2⟩ := h2 i hi
  have c0 := h1.cells (g := w.heap.size) rfl _ _ d0
  have c1 := h1.cells (g := w.heap.size) rfl _ _ d1
  have c2 := h1.cells (g := w.heap.size) rfl _ _ d2
  have ea : ∀ m, (⟨w.heap.size, 0, none⟩ : Addr).add m = ⟨w.heap.size, 0 + m, none⟩ := fun m => by
    unfold Addr.add
    by_cases hm : m = 0 <;> simp [hm]
  rw [ea] at c0 c1 c2
  refine ⟨c0, by rw [Nat.add_assoc]; exact c1, by rw [Nat.add_assoc]; exact c2, ?_⟩
  obtain ⟨_, b, o, _, hc⟩ := hG
  rcases Nat.lt_trichotomy i k with hlt | heq | hgt
  · rw [insG_lt hlt]
    obtain ⟨_, _, _, p, r⟩ := hc i (by omega)
    exact ⟨p.below h.below, r.below h.below⟩
  · subst heq
    rw [insG_at]
    exact ⟨hg, by rw [hgr]; exact Nat.zero_le _, 0, 0, fun h => by rw [hgr] at h; exact absurd h (Nat.lt_irrefl _), fun i hi => by rw [hgr] at hi; exact absurd hi (Nat.not_lt_zero _)⟩
  · obtain ⟨j, rfl⟩ : ∃ j, i = j + 1 := ⟨i - 1, by omega⟩
    rw [insG_gt (by omega)]
    obtain ⟨_, _, _, p, r⟩ := hc j (by omega)
    exact ⟨p.below h.below, r.below h.below⟩

theorem ins_fits {gn k : Nat} {G : Nat → Grp} {g : Grp} (hk : k ≤ gn) (hfit : ∀ i, i < gn → GrpFits (G i)) (hg : GrpFits g) : ∀ i, i < gn + 1 → GrpFits (insG G k g i) := by
  intro i hi
  rcases Nat.lt_trichotomy i k with hlt | heq | hgt
  · rw [insG_lt hlt]; exact hfit i (by omega)
  · subst heq; rw [insG_at]; exact hg
  · obtain ⟨j, rfl⟩ : ∃ j, i = j + 1 := ⟨i - 1, by omega⟩
    rw [insG_gt (by omega)]; exact hfit j (by omega)

end Go.Proofs.Qxb6634835a
