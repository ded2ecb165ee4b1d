/-
  THE WALK OF 'edits'.
-/
import Derived.Test.Qxb6601098aTab
import Derived.Deep.QuietTactic
import Derived.BigQuiet
import Derived.Deep.RegionHeld3
import Derived.Deep.LoopGhost
namespace Go.Proofs.Qxb6601098a
open Go.RowKit

set_option maxHeartbeats 1000000 in
set_option maxRecDepth 100000 in
theorem edits20_core (a b : ByteArray) (n m : Nat) (x y : Nat → Int) (c1 c2 : Nat) (w w1 w2 : World) (hn : n ≤ 4096) (hm : m ≤ 4096)
    (hc1 : (convert 9 22 (.string a)).run Try.prog w = .ok (.slice (some ⟨w.heap.size, 0, none⟩) n c1) w1)
    (hc2 : (convert 9 22 (.string b)).run Try.prog w1 = .ok (.slice (some ⟨w1.heap.size, 0, none⟩) m c2) w2)
    (HB : Hid (Below w.heap.size w w2)) (HS : Hid (w.heap.size ≤ w2.heap.size))
    (HX : Hid (∀ wr, Below w2.heap.size w2 wr → ∀ j, j < n → wr.cell? ⟨w.heap.size, j, none⟩ = some (.int .i32 (x j))))
    (HY : Hid (∀ wr, Below w2.heap.size w2 wr → ∀ j, j < m → wr.cell? ⟨w1.heap.size, j, none⟩ = some (.int .i32 (y j)))) :
    Calls Try.prog 20 #[.string a, .string b] w (RetTo (D x y n m) w) := by
  have hmk := run_make_row' (P := Try.prog) 43 37 (.slice none 0 0) 24 Try.underlying43 Try.info37 rfl .i64 .i64 (n + 1) (by omega) (by omega)
  have hmk2 := run_make_row' (P := Try.prog) 37 3 (.int .i64 0) 8 Try.underlying37 Try.info3 rfl .i64 .i64 (m + 1) (by omega) (by omega)
  have e1 : ((n + 1 : Nat) : Int) = (n : Int) + 1 := by omega
  have e2 : ((m + 1 : Nat) : Int) = (m : Int) + 1 := by omega
  rw [e1] at hmk
  rw [e2] at hmk2
  clear e1 e2
  have hmade := made_zero m
  go_enter Try.func20, Try.ntmps20
  go_wp2
  go_loopw [23] (fun i wr => ∃ (k : Nat) (z : Int), k ≤ n + 1 ∧ i = .int .i64 z ∧ z ≤ (k : Int) ∧ (k : Int) ≤ z ∧ Hid (Part w2.heap.size n m k w2 wr)) (fun i _ => n + 1 - (intOf i).toNat)
  case atStart => exact ⟨0, 0, Nat.zero_le _, rfl, by omega, by omega, Part.start _ _ _⟩
  case round =>
    obtain ⟨k, z, hk, rfl, hz1, hz2, HP⟩ := hrel
    by_cases hlt : k < n + 1
    · obtain rfl : z = (k : Int) := by omega
      have hGs : w2.heap.size < wr.heap.size := by have := HP.out.1; omega
      have hcG : wr.cell? ⟨w2.heap.size, k, none⟩ = some (.slice none 0 0) := by have := HP.out.2.1.cell hlt; simpa using this
      have hfG : wr.frozen? ⟨w2.heap.size, k, none⟩ = false := HP.out.2.1.frozen k
      go_wp2
      go_roundw
      case rel => exact ⟨k + 1, _, by omega, rfl, by omega, by omega, HP.out.step hlt⟩
      case measure => simp [intOf]; omega
    · obtain rfl : k = n + 1 := by omega
      obtain ⟨T0, HT0⟩ : ∃ T, Hid (Tab w2.heap.size n m T w2 wr ∧ ∀ i, i ≤ n → T i 0 = i) := ⟨_, HP.out.tab⟩
      have hc0 : wr.cell? ⟨w2.heap.size, 0, none⟩ = some (.slice (some ⟨w2.heap.size + 1, 0, none⟩) (m + 1) (m + 1)) := HT0.out.1.1.cell (by omega)
      clear hmk hmk2 hmade HP
      go_wp2
      go_loopw [44] (fun i wr => ∃ (k : Nat) (z : Int) (T : Nat → Nat → Nat), k ≤ m + 1 ∧ i = .int .i64 z ∧ z ≤ (k : Int) ∧ (k : Int) ≤ z ∧ Hid (Tab1 w2.heap.size n m k T w2 wr)) (fun i _ => m + 1 - (intOf i).toNat)
      case atStart => exact ⟨0, 0, T0, Nat.zero_le _, rfl, by omega, by omega, HT0.out.1, HT0.out.2, fun j hj => absurd hj (by omega)⟩
      case round =>
        clear hc0 HT0
        obtain ⟨k, z', T, hk, rfl, hz1', hz2', HT⟩ := hrel
        by_cases hlt : k < m + 1
        · obtain rfl : z' = (k : Int) := by omega
          have hc0 : wr.cell? ⟨w2.heap.size, 0, none⟩ = some (.slice (some ⟨w2.heap.size + 1, 0, none⟩) (m + 1) (m + 1)) := HT.out.1.1.cell (by omega)
          have hck : wr.cell? ⟨w2.heap.size + 1, k, none⟩ = some (.int .i64 (T 0 k)) := (HT.out.1.2.1 0 (by omega)).cell hlt
          have hfk : wr.frozen? ⟨w2.heap.size + 1, k, none⟩ = false := (HT.out.1.2.1 0 (by omega)).frozen k
          go_wp2
          go_roundw
          case rel => exact ⟨k + 1, _, _, by omega, rfl, by omega, by omega, HT.out.step⟩
          case measure => simp [intOf]; omega
        · obtain rfl : k = m + 1 := by omega
          have HT2 : Hid (Tab2 x y w2.heap.size n m 0 T w2 wr) := HT.out.to2
          clear HT
          go_wp2
          go_loopg [10] n (fun g i wr => ∃ (k : Nat) (T : Nat → Nat → Nat), k ≤ n ∧ n - k ≤ g ∧ i = .int .i64 ((k : Int) + 1) ∧ Hid (Tab2 x y w2.heap.size n m k T w2 wr))
          case atStart => exact ⟨0, T, Nat.zero_le _, by omega, rfl, HT2.out⟩
          case round =>
            clear HT2
            obtain ⟨k, T, hk, hg3, rfl, HT⟩ := hrel
            by_cases hlt : k < n
            · have HT3 : Hid (Tab3 x y w2.heap.size n m k 0 T w2 wr) := HT.out.to3 hlt
              clear HT
              have hdk : decide ((k : Int) + 1 ≤ (n : Int)) = true := decide_eq_true (by omega)
              go_wp2
              obtain ⟨g3, hgk⟩ : ∃ g3, gk = g3 := ⟨_, rfl⟩
              go_loopg [11] m (fun g j wr => ∃ (l : Nat) (T : Nat → Nat → Nat), l ≤ m ∧ m - l ≤ g ∧ j = .int .i64 ((l : Int) + 1) ∧ Hid (Tab3 x y w2.heap.size n m k l T w2 wr))
              case atStart => exact ⟨0, T, Nat.zero_le _, by omega, rfl, HT3.out⟩
              case round =>
                clear HT3
                obtain ⟨l, T, hl, hg4, rfl, HT⟩ := hrel
                by_cases hlm : l < m
                · have hsx := HX.out wr HT.out.1.1.2.2 k hlt
                  have hty := HY.out wr HT.out.1.1.2.2 l hlm
                  obtain ⟨p, hpe⟩ : ∃ p, D x y k (l + 1) = p := ⟨_, rfl⟩
                  obtain ⟨r, hre⟩ : ∃ r, D x y k l = r := ⟨_, rfl⟩
                  obtain ⟨q, hqe⟩ : ∃ q, D x y (k + 1) l = q := ⟨_, rfl⟩
                  have hd0 : wr.cell? ⟨w2.heap.size, k, none⟩ = some (.slice (some ⟨w2.heap.size + 1 + k, 0, none⟩) (m + 1) (m + 1)) := HT.out.1.1.1.cell (i := k) (by omega)
                  have hd1 : wr.cell? ⟨w2.heap.size, k + 1, none⟩ = some (.slice (some ⟨w2.heap.size + 1 + (k + 1), 0, none⟩) (m + 1) (m + 1)) := HT.out.1.1.1.cell (i := k + 1) (by omega)
                  have hp : wr.cell? ⟨w2.heap.size + 1 + k, l + 1, none⟩ = some (.int .i64 p) := by
                    have := (HT.out.1.1.2.1 k (by omega)).cell (i := l + 1) (by omega)
                    rw [HT.out.1.2.2 k (by omega) (l + 1) (by omega), hpe] at this; exact this
                  have hr : wr.cell? ⟨w2.heap.size + 1 + k, l, none⟩ = some (.int .i64 r) := by
                    have := (HT.out.1.1.2.1 k (by omega)).cell (i := l) (by omega)
                    rw [HT.out.1.2.2 k (by omega) l (by omega), hre] at this; exact this
                  have hq : wr.cell? ⟨w2.heap.size + 1 + (k + 1), l, none⟩ = some (.int .i64 q) := by
                    have := (HT.out.1.1.2.1 (k + 1) (by omega)).cell (i := l) (by omega)
                    rw [HT.out.2 l (by omega), hqe] at this; exact this
                  have ho := (HT.out.1.1.2.1 (k + 1) (by omega)).cell (i := l + 1) (by omega)
                  have hf := (HT.out.1.1.2.1 (k + 1) (by omega)).frozen (l + 1)
                  have bp := D_bd x y k (l + 1)
                  have br := D_bd x y k l
                  have bq := D_bd x y (k + 1) l
                  rw [hpe] at bp
                  rw [hre] at br
                  rw [hqe] at bq
                  have HE : Hid (D x y k (l + 1) = p ∧ D x y k l = r ∧ D x y (k + 1) l = q) := ⟨hpe, hre, hqe⟩
                  clear hpe hre hqe
                  have tk : ((k : Int) + 1).toNat = k + 1 := by omega
                  have tl : ((l : Int) + 1).toNat = l + 1 := by omega
                  have u0 : IntKind.i64.wrap (r : Int) = (r : Int) := by rw [IntKind.wrap_i64]; omega
                  have u1 : IntKind.i64.wrap ((p : Int) + 1) = (p : Int) + 1 := by rw [IntKind.wrap_i64]; omega
                  have u2 : IntKind.i64.wrap ((q : Int) + 1) = (q : Int) + 1 := by rw [IntKind.wrap_i64]; omega
                  have u3 : IntKind.i64.wrap ((r : Int) + 1) = (r : Int) + 1 := by rw [IntKind.wrap_i64]; omega
                  have i1 : (0 : Int) ≤ (k : Int) := by omega
                  have j1 : (0 : Int) ≤ (k : Int) + 1 := by omega
                  have j2 : (0 : Int) ≤ (l : Int) + 1 := by omega
                  have v1 : IntKind.i64.wrap (k : Int) = (k : Int) := by rw [IntKind.wrap_i64]; omega
                  have v2 : IntKind.i64.wrap (l : Int) = (l : Int) := by rw [IntKind.wrap_i64]; omega
                  have i2 : (k : Int) < (n : Int) := by omega
                  have i3 : (0 : Int) ≤ (l : Int) := by omega
                  have i4 : (l : Int) < (m : Int) := by omega
                  have i5 : (k : Int) + 1 < (n : Int) + 1 := by omega
                  have i6 : (l : Int) + 1 < (m : Int) + 1 := by omega
                  have i7 : (k : Int) < (n : Int) + 1 := by omega
                  have i8 : (l : Int) < (m : Int) + 1 := by omega
                  cases hxy : (x k == y l)
                  · go_wp2
                    go_quiet (fail)
                    go_wp2
                    go_region_held3 (fun w' => w'.cell? ⟨w2.heap.size, k, none⟩ = some (.slice (some ⟨w2.heap.size + 1 + k, 0, none⟩) (m + 1) (m + 1)) ∧ w'.cell? ⟨w2.heap.size, k + 1, none⟩ = some (.slice (some ⟨w2.heap.size + 1 + (k + 1), 0, none⟩) (m + 1) (m + 1)) ∧ w'.cell? ⟨w2.heap.size + 1 + k, l + 1, none⟩ = some (.int .i64 p) ∧ w'.cell? ⟨w2.heap.size + 1 + k, l, none⟩ = some (.int .i64 r) ∧ w'.cell? ⟨w2.heap.size + 1 + (k + 1), l, none⟩ = some (.int .i64 q)) (first | exact ⟨hd0, hd1, hp, hr, hq⟩ | exact five_keep (w := wr.drewN _) hd0 hd1 hp hr hq _) (fail)
                    rw [min_one p q r]
                    obtain ⟨W3, hW3⟩ : ∃ W3, W3 = (wr.drewN (nq + 1)).setCell ⟨w2.heap.size + 1 + (k + 1), l + 1, none⟩ (.int .i64 ((min3 (p + 1) (q + 1) (r + 1) : Nat) : Int)) := ⟨_, rfl⟩
                    rw [← hW3]
                    have HW : Hid (Tab w2.heap.size n m (put T (k + 1) (l + 1) (min3 (p + 1) (q + 1) (r + 1))) w2 W3) := by rw [hW3]; exact Tab.set (wr := wr.drewN (nq + 1)) (HT.out.1.1.drewN _) (k + 1) (l + 1) _ (by omega)
                    have hsx := HX.out W3 HW.out.2.2 k hlt
                    have hty := HY.out W3 HW.out.2.2 l hlm
                    have HV : Hid (cost (x k) (y l) = 1) := by unfold cost; rw [if_neg (by simpa using hxy)]; rfl
                    clear hW3 hd0 hd1 hp hr hq ho hf
                    by_cases hk0 : k = 0
                    · have g1 : decide ((1 : Int) < (k : Int) + 1) = false := decide_eq_false (by omega)
                      have g2 : decide (0 < k) = false := decide_eq_false (by omega)
                      have HD : Hid _ := D_no HE.out HV.out (by omega)
                      clear hk0
                      go_wp2
                      go_quiet (fail)
                      go_wp2
                      go_roundg (m - (l + 1))
                      case measure => omega
                      case rel => exact ⟨l + 1, _, by omega, Nat.le_refl _, by go_num, HT.out.put (HW.out.drewN _) HD.out⟩
                    · by_cases hl0 : l = 0
                      · have g1 : decide ((1 : Int) < (k : Int) + 1) = true := decide_eq_true (by omega)
                        have g2 : decide (0 < k) = true := decide_eq_true (by omega)
                        have g3 : decide ((1 : Int) < (l : Int) + 1) = false := decide_eq_false (by omega)
                        have g4 : decide (0 < l) = false := decide_eq_false (by omega)
                        have HD : Hid _ := D_no HE.out HV.out (by omega)
                        clear hk0 hl0
                        go_wp2
                        go_quiet (fail)
                        go_wp2
                        go_roundg (m - (l + 1))
                        case measure => omega
                        case rel => exact ⟨l + 1, _, by omega, Nat.le_refl _, by go_num, HT.out.put (HW.out.drewN _) HD.out⟩
                      · have g1 : decide ((1 : Int) < (k : Int) + 1) = true := decide_eq_true (by omega)
                        have g2 : decide (0 < k) = true := decide_eq_true (by omega)
                        have g3 : decide ((1 : Int) < (l : Int) + 1) = true := decide_eq_true (by omega)
                        have g4 : decide (0 < l) = true := decide_eq_true (by omega)
                        have hsx2 := HX.out W3 HW.out.2.2 (k - 1) (by omega)
                        have hty2 := HY.out W3 HW.out.2.2 (l - 1) (by omega)
                        have f1 : (0 : Int) ≤ (k : Int) + 1 - 2 := by omega
                        have f2 : (0 : Int) ≤ (l : Int) + 1 - 2 := by omega
                        have f3 : (k : Int) + 1 - 2 < (n : Int) := by omega
                        have f4 : (l : Int) + 1 - 2 < (m : Int) := by omega
                        have f5 : ((k : Int) + 1 - 2).toNat = k - 1 := by omega
                        have f6 : ((l : Int) + 1 - 2).toNat = l - 1 := by omega
                        cases hq1 : (x k == y (l - 1))
                        · have HD : Hid _ := D_no HE.out HV.out (by simp at hq1; omega)
                          clear hk0 hl0
                          go_wp2
                          go_quiet (fail)
                          go_wp2
                          go_roundg (m - (l + 1))
                          case measure => omega
                          case rel => exact ⟨l + 1, _, by omega, Nat.le_refl _, by go_num, HT.out.put (HW.out.drewN _) HD.out⟩
                        · cases hq2 : (x (k - 1) == y l)
                          · have HD : Hid _ := D_no HE.out HV.out (by simp at hq2; omega)
                            clear hk0 hl0
                            go_wp2
                            go_quiet (fail)
                            go_wp2
                            go_roundg (m - (l + 1))
                            case measure => omega
                            case rel => exact ⟨l + 1, _, by omega, Nat.le_refl _, by go_num, HT.out.put (HW.out.drewN _) HD.out⟩
                          · obtain ⟨v, hve⟩ : ∃ v, min3 (p + 1) (q + 1) (r + 1) = v := ⟨_, rfl⟩
                            obtain ⟨f, hfe⟩ : ∃ f, D x y (k - 1) (l - 1) = f := ⟨_, rfl⟩
                            have hd1 : W3.cell? ⟨w2.heap.size, k + 1, none⟩ = some (.slice (some ⟨w2.heap.size + 1 + (k + 1), 0, none⟩) (m + 1) (m + 1)) := HW.out.1.cell (i := k + 1) (by omega)
                            have hd2 : W3.cell? ⟨w2.heap.size, k - 1, none⟩ = some (.slice (some ⟨w2.heap.size + 1 + (k - 1), 0, none⟩) (m + 1) (m + 1)) := HW.out.1.cell (i := k - 1) (by omega)
                            have hcv : W3.cell? ⟨w2.heap.size + 1 + (k + 1), l + 1, none⟩ = some (.int .i64 v) := by
                              have := (HW.out.2.1 (k + 1) (by omega)).cell (i := l + 1) (by omega)
                              rw [put_at, hve] at this; exact this
                            have hfv := (HW.out.2.1 (k + 1) (by omega)).frozen (l + 1)
                            have hcf : W3.cell? ⟨w2.heap.size + 1 + (k - 1), l - 1, none⟩ = some (.int .i64 f) := by
                              have := (HW.out.2.1 (k - 1) (by omega)).cell (i := l - 1) (by omega)
                              rw [put_ne T (.inl (by omega)), HT.out.1.2.2 (k - 1) (by omega) (l - 1) (by omega), hfe] at this; exact this
                            have bf := D_bd x y (k - 1) (l - 1)
                            rw [hfe] at bf
                            have bv := min3_le1 (p + 1) (q + 1) (r + 1)
                            rw [hve] at bv
                            have HD : Hid (min2 v (f + 1) = D x y (k + 1) (l + 1)) := by
                              rw [← hve, ← hfe]; exact D_yes HE.out HV.out ⟨by omega, by omega, by simpa using hq1, by simpa using hq2⟩
                            have f7 : (k : Int) + 1 - 2 < (n : Int) + 1 := by omega
                            have f8 : (l : Int) + 1 - 2 < (m : Int) + 1 := by omega
                            have f9 : IntKind.i64.wrap ((k : Int) + 1 - 2) = (k : Int) + 1 - 2 := by rw [IntKind.wrap_i64]; omega
                            have f10 : IntKind.i64.wrap ((l : Int) + 1 - 2) = (l : Int) + 1 - 2 := by rw [IntKind.wrap_i64]; omega
                            have f11 : IntKind.i64.wrap ((f : Int) + 1) = (f : Int) + 1 := by rw [IntKind.wrap_i64]; omega
                            clear hk0 hl0 hve hfe u1 u2 u3
                            go_wp2
                            go_quiet (fail)
                            go_wp2
                            go_region
                            rw [min_two v f]
                            go_wp2
                            go_roundg (m - (l + 1))
                            case measure => omega
                            case rel => exact ⟨l + 1, _, by omega, Nat.le_refl _, by go_num, HT.out.put (HW.out.again (by omega)) HD.out⟩
                  · go_wp2
                    go_quiet (fail)
                    go_wp2
                    go_region_held3 (fun w' => w'.cell? ⟨w2.heap.size, k, none⟩ = some (.slice (some ⟨w2.heap.size + 1 + k, 0, none⟩) (m + 1) (m + 1)) ∧ w'.cell? ⟨w2.heap.size, k + 1, none⟩ = some (.slice (some ⟨w2.heap.size + 1 + (k + 1), 0, none⟩) (m + 1) (m + 1)) ∧ w'.cell? ⟨w2.heap.size + 1 + k, l + 1, none⟩ = some (.int .i64 p) ∧ w'.cell? ⟨w2.heap.size + 1 + k, l, none⟩ = some (.int .i64 r) ∧ w'.cell? ⟨w2.heap.size + 1 + (k + 1), l, none⟩ = some (.int .i64 q)) (first | exact ⟨hd0, hd1, hp, hr, hq⟩ | exact five_keep (w := wr.drewN _) hd0 hd1 hp hr hq _) (fail)
                    rw [min_zero p q r]
                    obtain ⟨W3, hW3⟩ : ∃ W3, W3 = (wr.drewN (nq + 1)).setCell ⟨w2.heap.size + 1 + (k + 1), l + 1, none⟩ (.int .i64 ((min3 (p + 1) (q + 1) (r + 0) : Nat) : Int)) := ⟨_, rfl⟩
                    rw [← hW3]
                    have HW : Hid (Tab w2.heap.size n m (put T (k + 1) (l + 1) (min3 (p + 1) (q + 1) (r + 0))) w2 W3) := by rw [hW3]; exact Tab.set (wr := wr.drewN (nq + 1)) (HT.out.1.1.drewN _) (k + 1) (l + 1) _ (by omega)
                    have hsx := HX.out W3 HW.out.2.2 k hlt
                    have hty := HY.out W3 HW.out.2.2 l hlm
                    have HV : Hid (cost (x k) (y l) = 0) := by show cost (x k) (y l) = 0; unfold cost; rw [if_pos (by simpa using hxy)]
                    clear hW3 hd0 hd1 hp hr hq ho hf
                    by_cases hk0 : k = 0
                    · have g1 : decide ((1 : Int) < (k : Int) + 1) = false := decide_eq_false (by omega)
                      have g2 : decide (0 < k) = false := decide_eq_false (by omega)
                      have HD : Hid _ := D_no HE.out HV.out (by omega)
                      clear hk0
                      go_wp2
                      go_quiet (fail)
                      go_wp2
                      go_roundg (m - (l + 1))
                      case measure => omega
                      case rel => exact ⟨l + 1, _, by omega, Nat.le_refl _, by go_num, HT.out.put (HW.out.drewN _) HD.out⟩
                    · by_cases hl0 : l = 0
                      · have g1 : decide ((1 : Int) < (k : Int) + 1) = true := decide_eq_true (by omega)
                        have g2 : decide (0 < k) = true := decide_eq_true (by omega)
                        have g3 : decide ((1 : Int) < (l : Int) + 1) = false := decide_eq_false (by omega)
                        have g4 : decide (0 < l) = false := decide_eq_false (by omega)
                        have HD : Hid _ := D_no HE.out HV.out (by omega)
                        clear hk0 hl0
                        go_wp2
                        go_quiet (fail)
                        go_wp2
                        go_roundg (m - (l + 1))
                        case measure => omega
                        case rel => exact ⟨l + 1, _, by omega, Nat.le_refl _, by go_num, HT.out.put (HW.out.drewN _) HD.out⟩
                      · have g1 : decide ((1 : Int) < (k : Int) + 1) = true := decide_eq_true (by omega)
                        have g2 : decide (0 < k) = true := decide_eq_true (by omega)
                        have g3 : decide ((1 : Int) < (l : Int) + 1) = true := decide_eq_true (by omega)
                        have g4 : decide (0 < l) = true := decide_eq_true (by omega)
                        have hsx2 := HX.out W3 HW.out.2.2 (k - 1) (by omega)
                        have hty2 := HY.out W3 HW.out.2.2 (l - 1) (by omega)
                        have f1 : (0 : Int) ≤ (k : Int) + 1 - 2 := by omega
                        have f2 : (0 : Int) ≤ (l : Int) + 1 - 2 := by omega
                        have f3 : (k : Int) + 1 - 2 < (n : Int) := by omega
                        have f4 : (l : Int) + 1 - 2 < (m : Int) := by omega
                        have f5 : ((k : Int) + 1 - 2).toNat = k - 1 := by omega
                        have f6 : ((l : Int) + 1 - 2).toNat = l - 1 := by omega
                        cases hq1 : (x k == y (l - 1))
                        · have HD : Hid _ := D_no HE.out HV.out (by simp at hq1; omega)
                          clear hk0 hl0
                          go_wp2
                          go_quiet (fail)
                          go_wp2
                          go_roundg (m - (l + 1))
                          case measure => omega
                          case rel => exact ⟨l + 1, _, by omega, Nat.le_refl _, by go_num, HT.out.put (HW.out.drewN _) HD.out⟩
                        · cases hq2 : (x (k - 1) == y l)
                          · have HD : Hid _ := D_no HE.out HV.out (by simp at hq2; omega)
                            clear hk0 hl0
                            go_wp2
                            go_quiet (fail)
                            go_wp2
                            go_roundg (m - (l + 1))
                            case measure => omega
                            case rel => exact ⟨l + 1, _, by omega, Nat.le_refl _, by go_num, HT.out.put (HW.out.drewN _) HD.out⟩
                          · obtain ⟨v, hve⟩ : ∃ v, min3 (p + 1) (q + 1) (r + 0) = v := ⟨_, rfl⟩
                            obtain ⟨f, hfe⟩ : ∃ f, D x y (k - 1) (l - 1) = f := ⟨_, rfl⟩
                            have hd1 : W3.cell? ⟨w2.heap.size, k + 1, none⟩ = some (.slice (some ⟨w2.heap.size + 1 + (k + 1), 0, none⟩) (m + 1) (m + 1)) := HW.out.1.cell (i := k + 1) (by omega)
                            have hd2 : W3.cell? ⟨w2.heap.size, k - 1, none⟩ = some (.slice (some ⟨w2.heap.size + 1 + (k - 1), 0, none⟩) (m + 1) (m + 1)) := HW.out.1.cell (i := k - 1) (by omega)
                            have hcv : W3.cell? ⟨w2.heap.size + 1 + (k + 1), l + 1, none⟩ = some (.int .i64 v) := by
                              have := (HW.out.2.1 (k + 1) (by omega)).cell (i := l + 1) (by omega)
                              rw [put_at, hve] at this; exact this
                            have hfv := (HW.out.2.1 (k + 1) (by omega)).frozen (l + 1)
                            have hcf : W3.cell? ⟨w2.heap.size + 1 + (k - 1), l - 1, none⟩ = some (.int .i64 f) := by
                              have := (HW.out.2.1 (k - 1) (by omega)).cell (i := l - 1) (by omega)
                              rw [put_ne T (.inl (by omega)), HT.out.1.2.2 (k - 1) (by omega) (l - 1) (by omega), hfe] at this; exact this
                            have bf := D_bd x y (k - 1) (l - 1)
                            rw [hfe] at bf
                            have bv := min3_le1 (p + 1) (q + 1) (r + 0)
                            rw [hve] at bv
                            have HD : Hid (min2 v (f + 1) = D x y (k + 1) (l + 1)) := by
                              rw [← hve, ← hfe]; exact D_yes HE.out HV.out ⟨by omega, by omega, by simpa using hq1, by simpa using hq2⟩
                            have f7 : (k : Int) + 1 - 2 < (n : Int) + 1 := by omega
                            have f8 : (l : Int) + 1 - 2 < (m : Int) + 1 := by omega
                            have f9 : IntKind.i64.wrap ((k : Int) + 1 - 2) = (k : Int) + 1 - 2 := by rw [IntKind.wrap_i64]; omega
                            have f10 : IntKind.i64.wrap ((l : Int) + 1 - 2) = (l : Int) + 1 - 2 := by rw [IntKind.wrap_i64]; omega
                            have f11 : IntKind.i64.wrap ((f : Int) + 1) = (f : Int) + 1 := by rw [IntKind.wrap_i64]; omega
                            clear hk0 hl0 hve hfe u1 u2 u3
                            go_wp2
                            go_quiet (fail)
                            go_wp2
                            go_region
                            rw [min_two v f]
                            go_wp2
                            go_roundg (m - (l + 1))
                            case measure => omega
                            case rel => exact ⟨l + 1, _, by omega, Nat.le_refl _, by go_num, HT.out.put (HW.out.again (by omega)) HD.out⟩
                · obtain rfl : l = m := by omega
                  have HT2 : Hid (Tab2 x y w2.heap.size n l (k + 1) T w2 wr) := HT.out.to2
                  clear HT
                  go_wp2
                  go_roundg (n - (k + 1))
                  case measure => omega
                  case rel => exact ⟨k + 1, _, by omega, Nat.le_refl _, by go_num, HT2.out⟩
            · obtain rfl : k = n := by omega
              have hc1 : wr.cell? ⟨w2.heap.size, k, none⟩ = some (.slice (some ⟨w2.heap.size + 1 + k, 0, none⟩) (m + 1) (m + 1)) := HT.out.1.1.cell (by omega)
              have hc2 : wr.cell? ⟨w2.heap.size + 1 + k, m, none⟩ = some (.int .i64 (D x y k m)) := by
                have := (HT.out.1.2.1 k (by omega)).cell (i := m) (by omega)
                rw [HT.out.2.2 k (by omega) m (by omega)] at this; exact this
              go_wp2
              go_ret
              exact ⟨rfl, HB.out.trans (HT.out.1.2.2.mono HS.out)⟩

/-- What 'edits' does, whatever the two strings of at most 4096 bytes. -/
theorem edits20 (a b : ByteArray) (w : World) (ha : a.size ≤ 4096) (hb : b.size ≤ 4096) : Calls Try.prog 20 #[.string a, .string b] w (RetTo (D (RX a) (RX b) (RN a) (RN b)) w) := by
  obtain ⟨c1, w1, hc1, hs1, hB1, hz1⟩ := conv_runes a (by omega) w
  obtain ⟨c2, w2, hc2, hs2, hB2, hz2⟩ := conv_runes b (by omega) w1
  refine edits20_core a b (RN a) (RN b) (RX a) (RX b) c1 c2 w w1 w2 (Nat.le_trans (RN_le a) ha) (Nat.le_trans (RN_le b) hb) hc1 hc2 (hB1.trans (hB2.mono (by omega))) ?_ ?_ ?_
  · show w.heap.size ≤ w2.heap.size
    omega
  · intro wr hwr j hj
    exact (hwr.cell (by simp; omega)).trans ((hB2.cell (by simp; omega)).trans (hs1 j hj))
  · intro wr hwr j hj
    exact (hwr.cell (by simp; omega)).trans (hs2 j hj)

end Go.Proofs.Qxb6601098a
