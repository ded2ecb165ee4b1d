/-
  THE WALK OF THE FIRST LAW.
-/
import Derived.Test.Qxb6601056aWalksB
namespace Go.Proofs.Qxb6601056a
open Go.RowKit

-- f3: FnExcludesIsExactlyAGapBetweenNeighbours
set_option maxHeartbeats 1000000 in
theorem walk3 (a : Option Addr) (b off n c : Nat) (S : Nat → ByteArray) (d : ByteArray) (w : World) (ha : 0 < n → a = some ⟨b, off, none⟩) (hb : 0 < n → b < w.heap.size) (hd : d.size ≤ maxLen) (hm : n ≤ maxLen)
    (hc : ∀ j, j < n → w.cell? ⟨b, off + j, none⟩ = some (.string (S j))) :
    Calls Try.prog 3 #[.slice a n c, .string d] w fun e w' => e = .returned (.bool true) ∧ Below w.heap.size w w' := by
  have HC : Hid (∀ j, j < n → w.cell? ⟨b, off + j, none⟩ = some (.string (S j))) := hc
  have HD : Hid (d.size ≤ maxLen) := hd
  unfold maxLen at hd hm
  clear hc
  go_enter Try.func3, Try.ntmps3
  go_wp2_with fail
  refine (bytes6 a b off n c S d _ ha HD.out HC.out).mono ?_
  rintro e w1 ⟨r, rfl, rfl, hr⟩
  cases r with
  | false =>
    clear hr
    go_wp2_with fail
    go_ret
    exact ⟨rfl, Below.refl _ _⟩
  | true =>
    have HS : Hid (∀ j, j < n → (S j).size ≤ 1048576) := hr rfl
    clear hr
    by_cases hn : n ≤ 65536
    · by_cases hd1 : d.size ≤ 1048576
      · go_wp2_with fail
        refine (bytes7 a b off n c S _ ha hn HC.out HS.out).mono ?_
        rintro e w1 ⟨r7, rfl, rfl, hr1, hr2⟩
        by_cases h7 : r7 + d.size ≤ 1048576
        · by_cases hn0 : n = 0
          · go_wp2_with fail
            go_ret
            exact ⟨rfl, Below.refl _ _⟩
          · have ha' := ha (by omega)
            subst ha'
            have hbb := hb (by omega)
            clear ha hb
            go_wp2_with fail
            refine (asc8 b off n c S _ (by omega) hn HC.out).mono ?_
            rintro e w1 ⟨r8, q, rfl, rfl, hr8⟩
            cases r8 with
            | false =>
              clear hr8
              go_wp2_with fail
              go_ret
              exact ⟨rfl, below_drewN (Below.refl _ _) _⟩
            | true =>
              have HA : Hid (Asc S n) := hr8 rfl
              clear hr8
              go_wp2_with fail
              refine (clone9 b off n c S _ hn (by exact hbb) (by exact HC.out)).mono ?_
              rintro e w1 ⟨rfl, hrow, hB⟩
              have HR : Hid (w1.rowIs w.heap.size 9 n (fun i => .string (S i))) := hrow
              have HB : Hid (Below w.heap.size w w1) := (below_drewN (Below.refl _ _) _).trans hB
              clear hrow hB
              go_wp2_with fail
              refine (new10 w.heap.size n n _).mono ?_
              rintro e w2 ⟨rfl, rfl⟩
              go_wp2_with fail
              refine (exc11 w1.heap.size w.heap.size 0 n n S d _ (by omega) (by omega) (by simp) (fun j hj => by rw [Nat.zero_add]; exact (HR.out.alloc _).cell hj) HA.out).mono ?_
              rintro e w2 ⟨r11, q11, rfl, rfl, h11⟩
              go_wp2_with fail
              refine (gap12 w.heap.size 0 n n S d _ (by omega) (fun j hj => by rw [Nat.zero_add]; exact (HR.out.alloc _).cell hj)).mono ?_
              rintro e w2 ⟨r12, rfl, rfl, h12⟩
              have hrr : r11 = r12 := by rw [Bool.eq_iff_iff, h11, h12]
              subst hrr
              clear h11 h12
              go_wp2_with fail
              go_ret
              exact ⟨by simp, below_drewN (HB.out.alloc HB.out.size _) _⟩
        · go_wp2_with fail
          go_ret
          exact ⟨rfl, Below.refl _ _⟩
      · go_wp2_with fail
        go_ret
        exact ⟨rfl, Below.refl _ _⟩
    · go_wp2_with fail
      go_ret
      exact ⟨rfl, Below.refl _ _⟩

end Go.Proofs.Qxb6601056a
