import Derived.Test.Qxb6634835aFit
namespace Go.Proofs.Qxb6634835a
open Go.RowKit

set_option maxHeartbeats 16000000 in
set_option maxRecDepth 100000 in
theorem zz10_any (s0 s1 s4 s5 s6 : ByteArray) (kk : Int) (ya : Option Addr) (yn yc : Nat) (Y : Nat → ByteArray × ByteArray) (ga : Option Addr) (gn gc : Nat) (G : Nat → Grp) (w : World) (hY : PS w ya yn Y) (hG : GS w ga gn G) :
    Calls Try.prog 10 #[.string s0, .string s1, .slice ya yn yc, .slice ga gn gc, .string s4, .string s5, .string s6, .int .i64 kk] w (ZzPost yn gn G w) := by
  obtain ⟨hym, yb, yo, hya, hyc⟩ := hY
  obtain ⟨hgm, gb, go, hga, hgc⟩ := hG
  unfold maxLen at hym hgm
  go_enter Try.func10, Try.ntmps10
  go_wp2
  · as_aux_lemma => go_ret; exact zz_no
  · as_aux_lemma => go_ret; exact zz_no
  · as_aux_lemma => go_ret; exact zz_no
  · as_aux_lemma => go_ret; exact zz_no
  · as_aux_lemma => go_ret; exact zz_no
  have hyn : yn ≤ 1048576 := by omega
  go_loop [17, 18] (fun t13 t14 => ∃ (z : Int) (k : Nat), 0 ≤ z ∧ z ≤ 1048576 ∧ k ≤ yn ∧ t13 = .int .i64 z ∧ t14 = .int .i64 k) (fun _ i => yn - (intOf i).toNat)
  case atStart => exact ⟨_, 0, by omega, by assumption, Nat.zero_le _, rfl, rfl⟩
  case round => as_aux_lemma =>
    obtain ⟨z, k, hz0, hz1, hk, rfl, rfl⟩ := hrel
    by_cases hlt : k < yn
    · as_aux_lemma =>
      obtain rfl := hya (by omega)
      obtain ⟨c0, c1⟩ := hyc k hlt
      clear hyc hgc hya hga
      go_wp2
      · as_aux_lemma => go_ret; exact zz_no
      · as_aux_lemma => go_ret; exact zz_no
      · as_aux_lemma => go_ret; exact zz_no
      · as_aux_lemma => go_ret; exact zz_no
      go_round
      case rel => exact ⟨_, k + 1, by omega, by assumption, by omega, rfl, by go_num⟩
      case measure => simp [intOf]; omega
    · clear hyc hya
      go_wp2
      · as_aux_lemma => go_ret; exact zz_no
      · as_aux_lemma => go_ret; exact zz_no
      have hgn : gn ≤ 1048576 := by omega
      go_loop [17, 19] (fun t13 t15 => ∃ (z : Int) (k : Nat), 0 ≤ z ∧ z ≤ 1048576 ∧ k ≤ gn ∧ t13 = .int .i64 z ∧ t15 = .int .i64 k ∧ ∀ i, i < k → GrpFits (G i)) (fun _ i => gn - (intOf i).toNat)
      case atStart => exact ⟨_, 0, by omega, by assumption, Nat.zero_le _, rfl, rfl, fun i h => absurd h (Nat.not_lt_zero _)⟩
      case round => as_aux_lemma =>
        obtain ⟨z1, i, hz10, hz11, hi, rfl, rfl, hfit⟩ := hrel
        by_cases hlti : i < gn
        · as_aux_lemma =>
          obtain rfl := hga (by omega)
          obtain ⟨nm, sa, sn, sc, S, ra, rn, rc, R, HG, c0, c1, c2, hP, hR⟩ : ∃ (nm : ByteArray) (sa : Option Addr) (sn sc : Nat) (S : Nat → ByteArray × ByteArray) (ra : Option Addr) (rn rc : Nat) (R : Nat → Res),
              Hid (G i = ⟨nm, sa, sn, sc, S, ra, rn, rc, R⟩) ∧
              w.cell? ⟨gb, go + i * 3, none⟩ = some (.string nm) ∧ w.cell? ⟨gb, go + i * 3 + 1, none⟩ = some (.slice sa sn sc) ∧ w.cell? ⟨gb, go + i * 3 + 2, none⟩ = some (.slice ra rn rc) ∧ PS w sa sn S ∧ RS w ra rn R :=
            ⟨_, _, _, _, _, _, _, _, _, rfl, hgc i hlti⟩
          obtain ⟨hpm, pb, po, hpa, hpc⟩ := hP
          obtain ⟨hrm, rb, ro, hra, hrc⟩ := hR
          unfold maxLen at hpm hrm
          have HFIT : Hid (∀ j, j < i → GrpFits (G j)) := hfit
          clear hfit hgc hga
          go_wp2
          · as_aux_lemma => go_ret; exact zz_no
          · as_aux_lemma => go_ret; exact zz_no
          · as_aux_lemma => go_ret; exact zz_no
          · as_aux_lemma => go_ret; exact zz_no
          have hsn : sn ≤ 1048576 := by omega
          go_loop [17, 20] (fun t13 t16 => ∃ (z : Int) (k : Nat), 0 ≤ z ∧ z ≤ 1048576 ∧ k ≤ sn ∧ t13 = .int .i64 z ∧ t16 = .int .i64 k) (fun _ x => sn - (intOf x).toNat)
          case atStart => exact ⟨_, 0, by omega, by assumption, Nat.zero_le _, rfl, rfl⟩
          case round => as_aux_lemma =>
            obtain ⟨z2, j, hz20, hz21, hj, rfl, rfl⟩ := hrel
            by_cases hltj : j < sn
            · as_aux_lemma =>
              obtain rfl := hpa (by omega)
              obtain ⟨d0, d1⟩ := hpc j hltj
              clear hpc hrc hpa hra
              go_wp2
              · as_aux_lemma => go_ret; exact zz_no
              · as_aux_lemma => go_ret; exact zz_no
              · as_aux_lemma => go_ret; exact zz_no
              · as_aux_lemma => go_ret; exact zz_no
              go_round
              case rel => exact ⟨_, j + 1, by omega, by assumption, by omega, rfl, by go_num⟩
              case measure => simp [intOf]; omega
            · clear hpc hpa
              go_wp2
              · as_aux_lemma => go_ret; exact zz_no
              · as_aux_lemma => go_ret; exact zz_no
              have hrn : rn ≤ 1048576 := by omega
              go_loop [17, 21] (fun t13 t17 => ∃ (z : Int) (k : Nat), 0 ≤ z ∧ z ≤ 1048576 ∧ k ≤ rn ∧ t13 = .int .i64 z ∧ t17 = .int .i64 k ∧ ∀ j, j < k → (R j).n ≤ 1048576) (fun _ x => rn - (intOf x).toNat)
              case atStart => exact ⟨_, 0, by omega, by assumption, Nat.zero_le _, rfl, rfl, fun i h => absurd h (Nat.not_lt_zero _)⟩
              case round => as_aux_lemma =>
                obtain ⟨z3, l, hz30, hz31, hl, rfl, rfl, hrfit⟩ := hrel
                by_cases hltl : l < rn
                · as_aux_lemma =>
                  obtain rfl := hra (by omega)
                  obtain ⟨rnm, qa, qn, qc, Q, HR, r0, r1, hRP⟩ : ∃ (rnm : ByteArray) (qa : Option Addr) (qn qc : Nat) (Q : Nat → ByteArray × ByteArray), Hid (R l = ⟨rnm, qa, qn, qc, Q⟩) ∧
                      w.cell? ⟨rb, ro + l * 2, none⟩ = some (.string rnm) ∧ w.cell? ⟨rb, ro + l * 2 + 1, none⟩ = some (.slice qa qn qc) ∧ PS w qa qn Q := ⟨_, _, _, _, _, rfl, hrc l hltl⟩
                  obtain ⟨hqm, qb, qo, hqa, hqc⟩ := hRP
                  unfold maxLen at hqm
                  have HRF : Hid (∀ j, j < l → (R j).n ≤ 1048576) := hrfit
                  clear hrfit hrc hra
                  go_wp2
                  · as_aux_lemma => go_ret; exact zz_no
                  · as_aux_lemma => go_ret; exact zz_no
                  · as_aux_lemma => go_ret; exact zz_no
                  · as_aux_lemma => go_ret; exact zz_no
                  have hqn : qn ≤ 1048576 := by omega
                  go_loop [17, 22] (fun t13 t18 => ∃ (z : Int) (k : Nat), 0 ≤ z ∧ z ≤ 1048576 ∧ k ≤ qn ∧ t13 = .int .i64 z ∧ t18 = .int .i64 k) (fun _ x => qn - (intOf x).toNat)
                  case atStart => exact ⟨_, 0, by omega, by assumption, Nat.zero_le _, rfl, rfl⟩
                  case round => as_aux_lemma =>
                    obtain ⟨z4, p, hz40, hz41, hp, rfl, rfl⟩ := hrel
                    by_cases hltp : p < qn
                    · as_aux_lemma =>
                      obtain rfl := hqa (by omega)
                      obtain ⟨e0, e1⟩ := hqc p hltp
                      clear hqc hqa
                      go_wp2
                      · as_aux_lemma => go_ret; exact zz_no
                      · as_aux_lemma => go_ret; exact zz_no
                      · as_aux_lemma => go_ret; exact zz_no
                      · as_aux_lemma => go_ret; exact zz_no
                      go_round
                      case rel => exact ⟨_, p + 1, by omega, by assumption, by omega, rfl, by go_num⟩
                      case measure => simp [intOf]; omega
                    · clear hqc hqa
                      go_wp2
                      go_round
                      case rel => exact ⟨_, l + 1, by omega, by assumption, by omega, rfl, by go_num, rfit_step HR hqn HRF⟩
                      case measure => simp [intOf]; omega
                · have HRF : Hid (∀ j, j < l → (R j).n ≤ 1048576) := hrfit
                  have hl' : l = rn := by omega
                  have HL : Hid (l = rn) := hl'
                  clear hrfit hrc hra hl'
                  go_wp2
                  go_round
                  case rel => exact ⟨_, i + 1, by omega, by assumption, by omega, rfl, by go_num, gfit_step HG HL hsn hrn HRF HFIT⟩
                  case measure => simp [intOf]; omega
        · have hin : i = gn := by omega
          have HF : Hid (∀ i, i < gn → GrpFits (G i)) := by rw [← hin]; exact hfit
          clear hfit hin
          go_wp2
          · as_aux_lemma => go_ret; exact zz_no
          · as_aux_lemma => go_ret; exact zz_no
          · as_aux_lemma => go_ret; exact zz_no
          · as_aux_lemma => go_ret; exact zz_no
          · as_aux_lemma => go_ret; exact zz_no
          · as_aux_lemma => go_ret; exact zz_no
          go_ret
          exact ⟨true, rfl, fun _ => ⟨hyn, hgn, HF.out⟩, rfl⟩

end Go.Proofs.Qxb6634835a
