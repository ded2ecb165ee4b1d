/-
  THE WALK OF THE SECOND LAW: out of the contracts of 'edits', 'zzEncode' and 'zzOSA'.
-/
import Derived.Test.Qxb6601098aEnc
import Derived.Test.Qxb6601098aPlain2
namespace Go.Proofs.Qxb6601098a
open Go.RowKit

/-- What 'zzOSA' is known to do. -/
def Said12 : Prop := ∀ (ax ay : Option Addr) (bx ox cx n by' oy cy m : Nat) (x y : Nat → Int) (w : World) (_ : n ≤ 1024) (_ : m ≤ 1024) (_ : 0 < n → ax = some ⟨bx, ox, none⟩) (_ : 0 < m → ay = some ⟨by', oy, none⟩)
    (_ : Hid (∀ wr, Below w.heap.size w wr → ∀ j, j < n → wr.cell? ⟨bx, ox + j, none⟩ = some (.int .i32 (x j))))
    (_ : Hid (∀ wr, Below w.heap.size w wr → ∀ j, j < m → wr.cell? ⟨by', oy + j, none⟩ = some (.int .i32 (y j)))),
    Calls Try.prog 12 #[.slice ax n cx, .slice ay m cy] w (RetTo (D (rev x n) (rev y m) n m) w)

/-- The string that zzEncode makes. -/
def strOf (x : Nat → Int) (n : Nat) : ByteArray := ⟨((encL (csTo x n)).map UInt8.ofNat).toArray⟩

theorem cs_ok {x : Nat → Int} {n : Nat} (h : ∀ j, j < n → okI (x j)) : ∀ c ∈ csTo x n, okRune c := fun c hc => by
  obtain ⟨j, hj, rfl⟩ := List.mem_map.1 hc
  have := h j (by simpa using hj)
  unfold okI at this; unfold okRune; omega
theorem RV_of {x : Nat → Int} {n : Nat} (h : ∀ j, j < n → okI (x j)) : RV (strOf x n) = ((csTo x n).map fun c : Nat => Value.int .i32 (c : Int)).toArray := runes_of _ (cs_ok h)
theorem RN_of {x : Nat → Int} {n : Nat} (h : ∀ j, j < n → okI (x j)) : RN (strOf x n) = n := by
  unfold RN; rw [RV_of h]; simp [csTo]
theorem RX_of {x : Nat → Int} {n : Nat} (h : ∀ j, j < n → okI (x j)) (j : Nat) (hj : j < n) : RX (strOf x n) j = x j := by
  have h0 := (h j hj).1
  unfold RX; rw [RV_of h]; simp [csTo, hj, intOf]; omega
theorem str_size {x : Nat → Int} {n : Nat} (hn : n ≤ 1024) : (strOf x n).size ≤ 4096 := by
  have := encTo_le x n
  simp [strOf, ByteArray.size]; omega
/-- What 'edits' makes of two such strings. -/
theorem D_str {x y : Nat → Int} {n m : Nat} (hx : ∀ j, j < n → okI (x j)) (hy : ∀ j, j < m → okI (y j)) : D (RX (strOf x n)) (RX (strOf y m)) (RN (strOf x n)) (RN (strOf y m)) = D x y n m := by
  rw [RN_of hx, RN_of hy]
  exact D_congr (fun k hk => RX_of hx k hk) (fun k hk => RX_of hy k hk)

/-- A copy, whatever the slice is. -/
theorem clone9 (a : Option Addr) (b off n c : Nat) (x : Nat → Int) (w : World) (hnil : a = none → n = 0 ∧ c = 0) (hn : n ≤ 1024) (ha : 0 < n → a = some ⟨b, off, none⟩) (hb : 0 < n → b < w.heap.size) (hc : ∀ j, j < n → w.cell? ⟨b, off + j, none⟩ = some (.int .i32 (x j))) :
    Calls Try.prog 9 #[.slice a n c] w (Copied x n w) := by
  cases a with
  | none =>
    obtain ⟨rfl, rfl⟩ := hnil rfl
    exact clone9_nil x w
  | some A => exact clone9_some A b off n c x w hn (fun h => by have := ha h; simpa using this) hb hc

set_option maxHeartbeats 1000000 in
theorem walk3 (h20 : Said20) (h12 : Said12) (ax ay : Option Addr) (bx ox n cx by' oy m cy : Nat) (x y : Nat → Int) (w : World) (hxm : n ≤ maxLen) (hym : m ≤ maxLen) (hxn : ax = none → n = 0 ∧ cx = 0) (hyn : ay = none → m = 0 ∧ cy = 0)
    (hax : 0 < n → ax = some ⟨bx, ox, none⟩) (hay : 0 < m → ay = some ⟨by', oy, none⟩) (hbx : 0 < n → bx < w.heap.size) (hby : 0 < m → by' < w.heap.size)
    (hcx : ∀ j, j < n → w.cell? ⟨bx, ox + j, none⟩ = some (.int .i32 (x j))) (hcy : ∀ j, j < m → w.cell? ⟨by', oy + j, none⟩ = some (.int .i32 (y j))) :
    Calls Try.prog 3 #[.slice ax n cx, .slice ay m cy] w fun e w' => e = .returned (.bool true) ∧ Below w.heap.size w w' := by
  have HXM : Hid (n ≤ maxLen ∧ m ≤ maxLen) := ⟨hxm, hym⟩
  have HXN : Hid ((ax = none → n = 0 ∧ cx = 0) ∧ (ay = none → m = 0 ∧ cy = 0)) := ⟨hxn, hyn⟩
  have HAX : Hid ((0 < n → ax = some ⟨bx, ox, none⟩) ∧ (0 < m → ay = some ⟨by', oy, none⟩)) := ⟨hax, hay⟩
  have HBX : Hid ((0 < n → bx < w.heap.size) ∧ (0 < m → by' < w.heap.size)) := ⟨hbx, hby⟩
  have HCX : Hid ((∀ j, j < n → w.cell? ⟨bx, ox + j, none⟩ = some (.int .i32 (x j))) ∧ (∀ j, j < m → w.cell? ⟨by', oy + j, none⟩ = some (.int .i32 (y j)))) := ⟨hcx, hcy⟩
  unfold maxLen at hxm hym
  clear hxn hyn hax hay hbx hby hcx hcy
  go_enter Try.func3, Try.ntmps3
  go_wp2_with fail
  refine (bytes7 ax ay n cx m cy _ HXM.out.1 HXM.out.2).mono ?_
  rintro e w1 ⟨r, rfl, rfl, -⟩
  cases r with
  | false =>
    go_wp2_with fail
    go_ret
    exact ⟨rfl, Below.refl _ _⟩
  | true =>
    by_cases hn : n ≤ 1024
    rotate_left
    · have hd : decide ((1024 : Int) < (n : Int)) = true := decide_eq_true (by omega)
      go_wp2_with fail
      go_ret
      exact ⟨rfl, Below.refl _ _⟩
    by_cases hm : m ≤ 1024
    rotate_left
    · go_wp2_with fail
      go_ret
      exact ⟨rfl, Below.refl _ _⟩
    go_wp2_with fail
    refine (valid8 ax bx ox n cx x _ hn HAX.out.1 HCX.out.1).mono ?_
    rintro e w1 ⟨r, rfl, rfl, hrx⟩
    cases r with
    | false =>
      clear hrx
      go_wp2_with fail
      go_ret
      exact ⟨rfl, Below.refl _ _⟩
    | true =>
      have HOX : Hid (∀ j, j < n → okI (x j)) := hrx rfl
      clear hrx
      go_wp2_with fail
      refine (valid8 ay by' oy m cy y _ hm HAX.out.2 HCX.out.2).mono ?_
      rintro e w1 ⟨r, rfl, rfl, hry⟩
      cases r with
      | false =>
        clear hry
        go_wp2_with fail
        go_ret
        exact ⟨rfl, Below.refl _ _⟩
      | true =>
        have HOY : Hid (∀ j, j < m → okI (y j)) := hry rfl
        clear hry
        go_wp2_with fail
        refine (clone9 ax bx ox n cx x _ HXN.out.1 hn HAX.out.1 HBX.out.1 HCX.out.1).mono ?_
        rintro e w1 ⟨a1, rfl, ha1, hc1, hB1, hz1⟩
        have HY1 : Hid (∀ j, j < m → w1.cell? ⟨by', oy + j, none⟩ = some (.int .i32 (y j))) := fun j hj => (hB1.cell (by exact HBX.out.2 (by omega))).trans (HCX.out.2 j hj)
        have HYB : Hid (0 < m → by' < w1.heap.size) := fun h => Nat.lt_of_lt_of_le (HBX.out.2 h) hB1.size
        have H1 : Hid ((0 < n → a1 = some ⟨w.heap.size, 0, none⟩) ∧ (∀ j, j < n → w1.cell? ⟨w.heap.size, j, none⟩ = some (.int .i32 (x j))) ∧ Below w.heap.size w w1) := ⟨ha1, hc1, hB1⟩
        clear ha1 hc1 hB1 hz1
        go_wp2_with fail
        refine (clone9 ay by' oy m cy y _ HXN.out.2 hm HAX.out.2 HYB.out HY1.out).mono ?_
        rintro e w2 ⟨a2, rfl, ha2, hc2, hB2, hz2⟩
        have HA : Hid ((0 < n → a1 = some ⟨w.heap.size, 0, none⟩) ∧ (0 < m → a2 = some ⟨w1.heap.size, 0, none⟩)) := ⟨H1.out.1, ha2⟩
        have HLX : Hid (0 < n → w.heap.size < w1.heap.size) := fun h => World.block_lt_of_cell? _ _ (H1.out.2.1 0 h)
        have HLY : Hid (0 < m → w1.heap.size < w2.heap.size) := fun h => World.block_lt_of_cell? _ _ (hc2 0 h)
        have HCx : Hid (∀ w', Below w2.heap.size w2 w' → ∀ j, j < n → w'.cell? ⟨w.heap.size, 0 + j, none⟩ = some (.int .i32 (x j))) := fun w' hb j hj => by
          rw [Nat.zero_add]
          have h1 := HLX.out (by omega)
          exact (hb.cell (by have := hB2.size; simp; omega)).trans ((hB2.cell (by exact h1)).trans (H1.out.2.1 j hj))
        have HCy : Hid (∀ w', Below w2.heap.size w2 w' → ∀ j, j < m → w'.cell? ⟨w1.heap.size, 0 + j, none⟩ = some (.int .i32 (y j))) := fun w' hb j hj => by
          rw [Nat.zero_add]
          exact (hb.cell (by exact HLY.out (by omega))).trans (hc2 j hj)
        have HB2 : Hid (Below w.heap.size w w2) := H1.out.2.2.trans (hB2.mono H1.out.2.2.size)
        have HS2 : Hid (w1.heap.size ≤ w2.heap.size) := hB2.size
        clear ha2 hc2 hB2 hz2
        go_wp2_with fail
        refine (enc11 a1 w.heap.size 0 n n x _ hn HA.out.1 (fun h => Nat.lt_of_lt_of_le (HLX.out h) HS2.out) (HCx.out _ (Below.refl _ _)) HOX.out).mono ?_
        rintro e w3 ⟨rfl, hB3⟩
        have HB3 : Hid (Below w2.heap.size w2 w3) := hB3
        clear hB3
        go_wp2_with fail
        refine (enc11 a2 w1.heap.size 0 m m y _ hm HA.out.2 (fun h => Nat.lt_of_lt_of_le (HLY.out h) HB3.out.size) (HCy.out _ HB3.out) HOY.out).mono ?_
        rintro e w4 ⟨rfl, hB4⟩
        have HB4 : Hid (Below w2.heap.size w2 w4) := HB3.out.trans (hB4.mono HB3.out.size)
        clear hB4
        go_wp2_with fail
        refine (edits10 h20 (strOf x n) (strOf y m) _ (str_size hn) (str_size hm)).mono ?_
        rintro e w5 ⟨rfl, hB5⟩
        have HB5 : Hid (Below w2.heap.size w2 w5) := HB4.out.trans (hB5.mono HB4.out.size)
        clear hB5
        rw [D_str HOX.out HOY.out]
        go_wp2_with fail
        refine (h12 a1 a2 w.heap.size 0 n n w1.heap.size 0 m m x y _ hn hm HA.out.1 HA.out.2 (fun wr hwr => HCx.out wr (HB5.out.trans (hwr.mono HB5.out.size))) (fun wr hwr => HCy.out wr (HB5.out.trans (hwr.mono HB5.out.size)))).mono ?_
        rintro e w6 ⟨rfl, hB6⟩
        have HB6 : Hid (Below w.heap.size w w6) := HB2.out.trans ((HB5.out.trans (hB6.mono HB5.out.size)).mono HB2.out.size)
        clear hB6
        rw [D_rev]
        go_wp2_with fail
        go_ret
        exact ⟨by simp, HB6.out⟩

end Go.Proofs.Qxb6601098a
