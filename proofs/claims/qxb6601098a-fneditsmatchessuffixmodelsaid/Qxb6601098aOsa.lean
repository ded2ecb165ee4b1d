/-
  THE WALK OF 'zzOSA'.
-/
import Derived.Test.Qxb6601098aOsaMem
import Derived.Deep.QuietTactic
import Derived.BigQuiet
import Derived.Deep.LoopGhost
import Derived.Deep.DeepCutAuto
namespace Go.Proofs.Qxb6601098a
open Go.RowKit

set_option maxHeartbeats 2000000 in
set_option maxRecDepth 100000 in
theorem osa12 (ax ay : Option Addr) (bx ox cx n by' oy cy m : Nat) (x y : Nat → Int) (w : World) (hn : n ≤ 1024) (hm : m ≤ 1024) (hax : 0 < n → ax = some ⟨bx, ox, none⟩) (hay : 0 < m → ay = some ⟨by', oy, none⟩)
    (HX : Hid (∀ wr, Below w.heap.size w wr → ∀ j, j < n → wr.cell? ⟨bx, ox + j, none⟩ = some (.int .i32 (x j))))
    (HY : Hid (∀ wr, Below w.heap.size w wr → ∀ j, j < m → wr.cell? ⟨by', oy + j, none⟩ = some (.int .i32 (y j)))) :
    Calls Try.prog 12 #[.slice ax n cx, .slice ay m cy] w (RetTo (D (rev x n) (rev y m) n m) w) := by
  have hmk2 := run_make_row' (P := Try.prog) 37 3 (.int .i64 0) 8 Try.underlying37 Try.info3 rfl .i64 .i64 (m + 1) (by omega) (by omega)
  have e2 : ((m + 1 : Nat) : Int) = (m : Int) + 1 := by omega
  rw [e2] at hmk2
  clear e2
  have HAX : Hid (0 < n → ax = some ⟨bx, ox, none⟩) := hax
  have HAY : Hid (0 < m → ay = some ⟨by', oy, none⟩) := hay
  clear hax hay
  go_enter Try.func12, Try.ntmps12
  go_wp2
  go_loopw [10] (fun i wr => ∃ (k : Nat) (z : Int) (V1 : Nat → Nat), k ≤ m + 1 ∧ i = .int .i64 z ∧ z ≤ (k : Int) ∧ (k : Int) ≤ z ∧ Hid (Three w.heap.size m w.heap.size (w.heap.size + 1) (w.heap.size + 1 + 1) (fun _ => 0) V1 (fun _ => 0) w wr ∧ ∀ j, j < k → V1 j = m - j)) (fun i _ => m + 1 - (intOf i).toNat)
  case atStart => exact ⟨0, 0, _, Nat.zero_le _, rfl, by omega, by omega, Three.start m w, fun j hj => absurd hj (by omega)⟩
  case round =>
    obtain ⟨k, z, V1, hk, rfl, hz1, hz2, HT⟩ := hrel
    by_cases hlt : k < m + 1
    · obtain rfl : z = (k : Int) := by omega
      have hck := HT.out.1.r1.cell hlt
      have hfk := HT.out.1.r1.frozen k
      have hv : ((m : Int) - (k : Int)) = ((m - k : Nat) : Int) := by omega
      clear hmk2
      go_wp2
      go_roundw
      case rel => exact ⟨k + 1, _, _, by omega, rfl, by omega, by omega, HT.out.1.put1 k (m - k), fun j hj => by
        by_cases e : j = k
        · subst e; rw [put1_at]
        · rw [put1_ne _ e]; exact HT.out.2 j (by omega)⟩
      case measure => simp [intOf]; omega
    · obtain rfl : k = m + 1 := by omega
      have HT1 : Hid (Three w.heap.size m w.heap.size (w.heap.size + 1) (w.heap.size + 1 + 1) (fun _ => 0) V1 (fun _ => 0) w wr ∧ (∀ j, j ≤ m → V1 j = D (rev x n) (rev y m) (n - n) (m - j)) ∧ (n < n → ∀ j, j ≤ m → (fun _ => 0 : Nat → Nat) j = D (rev x n) (rev y m) (n - (n + 1)) (m - j))) :=
        ⟨HT.out.1, fun j hj => by rw [Nat.sub_self, D_zero]; exact HT.out.2 j (by omega), fun h => absurd h (by omega)⟩
      clear HT hmk2
      have hdz : decide (z ≤ (m : Int)) = false := decide_eq_false (by omega)
      go_wp2
      go_loopg [7, 8, 9, 11] n (fun g s7 s8 s9 s11 wr => ∃ (ii p2 p1 p0 : Nat) (V2 V1 V0 : Nat → Nat), ii ≤ n ∧ ii ≤ g ∧ s7 = .slice (some ⟨p2, 0, none⟩) (m + 1) (m + 1) ∧ s8 = .slice (some ⟨p1, 0, none⟩) (m + 1) (m + 1) ∧ s9 = .slice (some ⟨p0, 0, none⟩) (m + 1) (m + 1) ∧ s11 = .int .i64 ((ii : Int) - 1) ∧
        Hid (Three w.heap.size m p2 p1 p0 V2 V1 V0 w wr ∧ (∀ j, j ≤ m → V1 j = D (rev x n) (rev y m) (n - ii) (m - j)) ∧ (ii < n → ∀ j, j ≤ m → V2 j = D (rev x n) (rev y m) (n - (ii + 1)) (m - j))))
      case atStart => exact ⟨n, _, _, _, _, _, _, Nat.le_refl _, Nat.le_refl _, rfl, rfl, rfl, rfl, HT1.out⟩
      case round =>
        clear HT1
        obtain ⟨ii, p2, p1, p0, V2, V1, V0, hii, hg, rfl, rfl, rfl, rfl, HT⟩ := hrel
        cases ii with
        | zero =>
          have hc1 : wr.cell? ⟨p1, 0, none⟩ = some (.int .i64 (D (rev x n) (rev y m) n m)) := by
            have := HT.out.1.r1.cell (i := 0) (by omega)
            rw [HT.out.2.1 0 (by omega)] at this; simpa using this
          go_wp2
          go_ret
          exact ⟨rfl, HT.out.1.old⟩
        | succ i =>
          rw [show (((i + 1 : Nat) : Int) - 1) = (i : Int) from by omega]
          have hax := HAX.out (by omega)
          subst hax
          have hcm := HT.out.1.r0.cell (i := m) (by omega)
          have hfm := HT.out.1.r0.frozen m
          have hv : ((n : Int) - (i : Int)) = ((n - i : Nat) : Int) := by omega
          have hin : i < n := by omega
          have hdi : decide ((0 : Int) ≤ (i : Int)) = true := decide_eq_true (by omega)
          go_wp2
          obtain ⟨wi, hwi⟩ : ∃ wi, wi = wr.setCell ⟨p0, m, none⟩ (.int .i64 ((n - i : Nat) : Int)) := ⟨_, rfl⟩
          rw [← hwi]
          have HT2 : Hid (Three w.heap.size m p2 p1 p0 V2 V1 (put1 V0 m (n - i)) w wi ∧ (∀ j, m ≤ j → j ≤ m → put1 V0 m (n - i) j = D (rev x n) (rev y m) (n - i) (m - j))) := by
            rw [hwi]
            exact ⟨HT.out.1.put0 m (n - i), fun j h1 h2 => by obtain rfl : j = m := by omega
                                                              rw [put1_at, Nat.sub_self, D_left]⟩
          have HV : Hid ((∀ j, j ≤ m → V1 j = D (rev x n) (rev y m) (n - (i + 1)) (m - j)) ∧ (i + 1 < n → ∀ j, j ≤ m → V2 j = D (rev x n) (rev y m) (n - (i + 2)) (m - j))) := ⟨HT.out.2.1, HT.out.2.2⟩
          clear hwi HT hcm hfm
          go_loopg [12] m (fun g s12 wr => ∃ (jj : Nat) (V0 : Nat → Nat), jj ≤ m ∧ jj ≤ g ∧ s12 = .int .i64 ((jj : Int) - 1) ∧ Hid (Three w.heap.size m p2 p1 p0 V2 V1 V0 w wr ∧ (∀ j, jj ≤ j → j ≤ m → V0 j = D (rev x n) (rev y m) (n - i) (m - j))))
          case atStart => exact ⟨m, _, Nat.le_refl _, Nat.le_refl _, rfl, HT2.out⟩
          case round =>
            clear HT2
            obtain ⟨jj, V0', hjj, hg4, rfl, HT⟩ := hrel
            cases jj with
            | zero =>
              go_wp2
              go_roundg i
              case measure => omega
              case rel => exact ⟨i, p1, p0, p2, V1, V0', V2, by omega, Nat.le_refl _, rfl, rfl, rfl, by go_num, HT.out.1.turn, fun j hj => HT.out.2 j (by omega) hj, fun _ => HV.out.1⟩
            | succ j =>
              rw [show (((j + 1 : Nat) : Int) - 1) = (j : Int) from by omega]
              have hay := HAY.out (by omega)
              subst hay
              have hxi := HX.out wr HT.out.1.old i hin
              have hyj := HY.out wr HT.out.1.old j (by omega)
              obtain ⟨p, hpe⟩ : ∃ p, V1 j = p := ⟨_, rfl⟩
              obtain ⟨q, hqe⟩ : ∃ q, V0' (j + 1) = q := ⟨_, rfl⟩
              obtain ⟨r, hre⟩ : ∃ r, V1 (j + 1) = r := ⟨_, rfl⟩
              have hcp : wr.cell? ⟨p1, j, none⟩ = some (.int .i64 p) := by rw [← hpe]; exact HT.out.1.r1.cell (i := j) (by omega)
              have hcq : wr.cell? ⟨p0, j + 1, none⟩ = some (.int .i64 q) := by rw [← hqe]; exact HT.out.1.r0.cell (i := j + 1) (by omega)
              have hcr : wr.cell? ⟨p1, j + 1, none⟩ = some (.int .i64 r) := by rw [← hre]; exact HT.out.1.r1.cell (i := j + 1) (by omega)
              have hcd := HT.out.1.r0.cell (i := j) (by omega)
              have hfd := HT.out.1.r0.frozen j
              have hp2 : p = D (rev x n) (rev y m) (n - (i + 1)) (m - j) := by rw [← hpe]; exact HV.out.1 j (by omega)
              have hq2 : q = D (rev x n) (rev y m) (n - i) (m - (j + 1)) := by rw [← hqe]; exact HT.out.2 (j + 1) (by omega) (by omega)
              have hr2 : r = D (rev x n) (rev y m) (n - (i + 1)) (m - (j + 1)) := by rw [← hre]; exact HV.out.1 (j + 1) (by omega)
              have bp : p ≤ 2048 := by have := D_bd (rev x n) (rev y m) (n - (i + 1)) (m - j); omega
              have bq : q ≤ 2048 := by have := D_bd (rev x n) (rev y m) (n - i) (m - (j + 1)); omega
              have br : r ≤ 2048 := by have := D_bd (rev x n) (rev y m) (n - (i + 1)) (m - (j + 1)); omega
              have HE : Hid (p = D (rev x n) (rev y m) (n - (i + 1)) (m - j) ∧ q = D (rev x n) (rev y m) (n - i) (m - (j + 1)) ∧ r = D (rev x n) (rev y m) (n - (i + 1)) (m - (j + 1))) := ⟨hp2, hq2, hr2⟩
              clear hpe hqe hre hp2 hq2 hr2
              have hdj : decide ((0 : Int) ≤ (j : Int)) = true := decide_eq_true (by omega)
              have hjm : j < m := by omega
              go_upto_if 70 with (fail)
              go_cut [13] (fun s13 wx => wr = wx ∧ s13 = .int .i64 (best1 p q))
              case first =>
                by_cases hqp : q < p
                · have hb : best1 p q = q + 1 := by unfold best1; rw [if_pos hqp]
                  go_wp2
                  go_meet
                  case rel => exact ⟨rfl, by rw [hb]; go_num⟩
                · have hb : best1 p q = p + 1 := by unfold best1; rw [if_neg hqp]
                  go_wp2
                  go_meet
                  case rel => exact ⟨rfl, by rw [hb]; go_num⟩
              case rest =>
                obtain ⟨rfl, rfl⟩ := hcut
                obtain ⟨b1, hb1⟩ : ∃ b1, best1 p q = b1 := ⟨_, rfl⟩
                have bb1 : b1 ≤ 2049 := by rw [← hb1]; unfold best1; split <;> omega
                rw [hb1]
                have HB1 : Hid (best1 p q = b1) := hb1
                clear hb1
                have i1 : (i : Int) < (n : Int) := by omega
                have i2 : (j : Int) < (m : Int) := by omega
                go_wp2
                go_quiet (fail)
                go_upto_if 90 with (fail)
                go_cut [14] (fun s14 wx => ∃ u : Nat, wr.drewN u = wx ∧ s14 = .int .i64 ((r + cost (x i) (y j) : Nat) : Int))
                case first =>
                  cases hxy : (x i == y j)
                  · have hne : (x i != y j) = true := by simpa using hxy
                    have hb : cost (x i) (y j) = 1 := by unfold cost; rw [if_neg (by simpa using hxy)]
                    go_wp2
                    go_meet
                    case rel => exact ⟨_, rfl, by rw [hb]; go_num⟩
                  · have hne : (x i != y j) = false := by simpa using hxy
                    have hb : cost (x i) (y j) = 0 := by unfold cost; rw [if_pos (by simpa using hxy)]
                    go_wp2
                    go_meet
                    case rel => exact ⟨_, rfl, by rw [hb]; go_num⟩
                case rest =>
                  obtain ⟨u, rfl, rfl⟩ := hcut
                  obtain ⟨sv, hsv⟩ : ∃ sv, r + cost (x i) (y j) = sv := ⟨_, rfl⟩
                  have bsv : sv ≤ 2049 := by have := cost_le (x i) (y j); omega
                  rw [hsv]
                  have HS : Hid (r + cost (x i) (y j) = sv) := hsv
                  clear hsv
                  go_upto_if 95 with (fail)
                  go_cut [13] (fun s13 wx => ∃ u : Nat, wr.drewN u = wx ∧ s13 = .int .i64 (best2 p q sv))
                  case first =>
                    by_cases hsb : sv < b1
                    · have hb : best2 p q sv = sv := by unfold best2; rw [HB1.out, if_pos hsb]
                      go_wp2
                      go_meet
                      case rel => exact ⟨_, rfl, by rw [hb]⟩
                    · have hb : best2 p q sv = b1 := by unfold best2; rw [HB1.out, if_neg hsb]
                      go_wp2
                      go_meet
                      case rel => exact ⟨_, rfl, by rw [hb]⟩
                  case rest =>
                    obtain ⟨u, rfl, rfl⟩ := hcut
                    obtain ⟨v, hv2⟩ : ∃ v, best2 p q sv = v := ⟨_, rfl⟩
                    have bv : v ≤ 2049 := by rw [← hv2]; unfold best2; rw [HB1.out]; split <;> omega
                    rw [hv2]
                    have HV2 : Hid (v = best2 p q (r + cost (x i) (y j))) := by show v = _; rw [HS.out, hv2]
                    clear hv2 hcp hcq hcr
                    have no (h : ¬ (i + 1 < n ∧ j + 1 < m ∧ x i = y (j + 1) ∧ x (i + 1) = y j)) : Hid (v = D (rev x n) (rev y m) (n - i) (m - j)) := HV2.out.trans (back_no hin hjm HE.out.1 HE.out.2.1 HE.out.2.2 rfl h)
                    by_cases ha : i + 1 < n
                    rotate_left
                    · have HD := no (fun h => ha h.1)
                      have g1 : decide ((i : Int) + 1 < (n : Int)) = false := decide_eq_false (by omega)
                      have g2 : decide (i + 1 < n) = false := decide_eq_false ha
                      clear no ha
                      go_wp2
                      go_quiet (fail)
                      go_wp2
                      go_roundg j
                      case measure => omega
                      case rel => exact ⟨j, _, by omega, Nat.le_refl _, by go_num, (HT.out.1.drewN _).put0 j v, done_step (F := fun k => D (rev x n) (rev y m) (n - i) (m - k)) HT.out.2 HD.out⟩
                    have g1 : decide ((i : Int) + 1 < (n : Int)) = true := decide_eq_true (by omega)
                    have g2 : decide (i + 1 < n) = true := decide_eq_true ha
                    by_cases hb : j + 1 < m
                    rotate_left
                    · have HD := no (fun h => hb h.2.1)
                      have g3 : decide ((j : Int) + 1 < (m : Int)) = false := decide_eq_false (by omega)
                      have g4 : decide (j + 1 < m) = false := decide_eq_false hb
                      clear no ha hb
                      go_wp2
                      go_quiet (fail)
                      go_wp2
                      go_roundg j
                      case measure => omega
                      case rel => exact ⟨j, _, by omega, Nat.le_refl _, by go_num, (HT.out.1.drewN _).put0 j v, done_step (F := fun k => D (rev x n) (rev y m) (n - i) (m - k)) HT.out.2 HD.out⟩
                    have g3 : decide ((j : Int) + 1 < (m : Int)) = true := decide_eq_true (by omega)
                    have g4 : decide (j + 1 < m) = true := decide_eq_true hb
                    have hxi2 := HX.out wr HT.out.1.old (i + 1) ha
                    have hyj2 := HY.out wr HT.out.1.old (j + 1) hb
                    have i3 : (i : Int) + 1 < (n : Int) := by omega
                    have i4 : (j : Int) + 1 < (m : Int) := by omega
                    have i5 : (0 : Int) ≤ (i : Int) + 1 := by omega
                    have i6 : (0 : Int) ≤ (j : Int) + 1 := by omega
                    have t1 : ((i : Int) + 1).toNat = i + 1 := by omega
                    have t2 : ((j : Int) + 1).toNat = j + 1 := by omega
                    cases hq1 : (x i == y (j + 1))
                    · have HD := no (fun h => by rw [h.2.2.1] at hq1; simp at hq1)
                      clear no ha hb
                      go_wp2
                      go_quiet (fail)
                      go_wp2
                      go_roundg j
                      case measure => omega
                      case rel => exact ⟨j, _, by omega, Nat.le_refl _, by go_num, (HT.out.1.drewN _).put0 j v, done_step (F := fun k => D (rev x n) (rev y m) (n - i) (m - k)) HT.out.2 HD.out⟩
                    cases hq2 : (x (i + 1) == y j)
                    · have HD := no (fun h => by rw [h.2.2.2] at hq2; simp at hq2)
                      clear no ha hb
                      go_wp2
                      go_quiet (fail)
                      go_wp2
                      go_roundg j
                      case measure => omega
                      case rel => exact ⟨j, _, by omega, Nat.le_refl _, by go_num, (HT.out.1.drewN _).put0 j v, done_step (F := fun k => D (rev x n) (rev y m) (n - i) (m - k)) HT.out.2 HD.out⟩
                    obtain ⟨f, hfe⟩ : ∃ f, V2 (j + 2) = f := ⟨_, rfl⟩
                    have hcf : wr.cell? ⟨p2, j + 2, none⟩ = some (.int .i64 f) := by rw [← hfe]; exact HT.out.1.r2.cell (i := j + 2) (by omega)
                    have hf2 : f = D (rev x n) (rev y m) (n - (i + 2)) (m - (j + 2)) := by rw [← hfe]; exact HV.out.2 ha (j + 2) (by omega)
                    have bf : f ≤ 2048 := by have := D_bd (rev x n) (rev y m) (n - (i + 2)) (m - (j + 2)); omega
                    have HDf : Hid (min2 v (f + 1) = D (rev x n) (rev y m) (n - i) (m - j)) := by
                      rw [HV2.out]
                      exact back_yes HE.out.1 HE.out.2.1 HE.out.2.2 hf2 rfl ⟨ha, hb, by simpa using hq1, by simpa using hq2⟩
                    have i7 : (j : Int) + 2 < (m : Int) + 1 := by omega
                    have i8 : (0 : Int) ≤ (j : Int) + 2 := by omega
                    have t3 : ((j : Int) + 2).toNat = j + 2 := by omega
                    clear no ha hb hfe hf2
                    by_cases hfv : f + 1 < v
                    · have HD : Hid (f + 1 = D (rev x n) (rev y m) (n - i) (m - j)) := by
                        have := HDf.out
                        unfold min2 at this
                        rwa [if_pos hfv] at this
                      have g5 : decide ((f : Int) + 1 < (v : Int)) = true := decide_eq_true (by omega)
                      have g6 : decide (f + 1 < v) = true := decide_eq_true hfv
                      go_wp2
                      go_quiet (fail)
                      go_wp2
                      go_roundg j
                      case measure => omega
                      case rel => exact ⟨j, _, by omega, Nat.le_refl _, by go_num, (HT.out.1.drewN _).put0 j (f + 1), done_step (F := fun k => D (rev x n) (rev y m) (n - i) (m - k)) HT.out.2 HD.out⟩
                    · have HD : Hid (v = D (rev x n) (rev y m) (n - i) (m - j)) := by
                        have := HDf.out
                        unfold min2 at this
                        rwa [if_neg hfv] at this
                      have g5 : decide ((f : Int) + 1 < (v : Int)) = false := decide_eq_false (by omega)
                      have g6 : decide (f + 1 < v) = false := decide_eq_false hfv
                      go_wp2
                      go_quiet (fail)
                      go_wp2
                      go_roundg j
                      case measure => omega
                      case rel => exact ⟨j, _, by omega, Nat.le_refl _, by go_num, (HT.out.1.drewN _).put0 j v, done_step (F := fun k => D (rev x n) (rev y m) (n - i) (m - k)) HT.out.2 HD.out⟩

end Go.Proofs.Qxb6601098a
