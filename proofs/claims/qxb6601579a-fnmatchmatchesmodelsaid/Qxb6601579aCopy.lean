/-
  THE TWO COPIES OF A SLICE OF PRINCIPALS.
-/
import Derived.Test.Qxb6601579aPrs
import Derived.Lib.SmallJoins
namespace Go.Proofs.Qxb6601579a
open Go.RowKit

abbrev z5 : Value := .agg #[.int .i64 0, .string ⟨#[]⟩, .string ⟨#[]⟩, .string ⟨#[]⟩, .string ⟨#[]⟩]
theorem Try.info23 : (Try.prog.info? 23).map (fun i => (i.zero, i.size, i.bytes)) = some (some z5, 5, 72) := by kernel_rfl
theorem Try.info29 : (Try.prog.info? 29).map (fun i => (i.zero, i.size, i.bytes)) = some (some z5, 5, 72) := by kernel_rfl

theorem run_make5 (t e : TypeId) (ht : Try.prog.underlying t = some (.slice e)) (hinfo : (Try.prog.info? e).map (fun i => (i.zero, i.size, i.bytes)) = some (some z5, 5, 72))
    (n : Nat) (hn : n ≤ 65536) (w : World) :
    (Instr.makeSlice t (.int .i64 (n : Int)) (.int .i64 (n : Int))).run Try.prog w = .ok (.slice (some ⟨w.heap.size, 0, none⟩) n n) (w.alloc (.cells (madeCells z5.cells (n * 5)) e)) := by
  obtain ⟨i, hi, hzz⟩ := Option.map_eq_some_iff.1 hinfo
  simp only [Prod.mk.injEq] at hzz
  obtain ⟨hz, hs, hb⟩ := hzz
  have hr := run_make (P := Try.prog) w t e i z5 ht hi hz .i64 .i64 n n (by omega) (Int.le_refl _) (by rw [hb]; omega) (by omega)
  simp only [Int.toNat_natCast, hs] at hr
  exact hr

/-- The cells of the row: the first k principals stand. -/
def Fits (S : Nat → Pr) (k : Nat) (f : Nat → Value) : Prop :=
  ∀ i, i < k → f (i * 5) = .int .i64 (S i).k ∧ f (i * 5 + 1) = .string (S i).pa ∧ f (i * 5 + 2) = .string (S i).ac ∧ f (i * 5 + 3) = .string (S i).na ∧ f (i * 5 + 4) = .string (S i).se

/-- A row of n places for principals, the first k of them filled. -/
def Filled (S : Nat → Pr) (e : TypeId) (G n k : Nat) (w : World) : Prop := ∃ f, w.rowIs G e (n * 5) f ∧ Fits S k f

theorem Filled.start (S : Nat → Pr) (e : TypeId) (n : Nat) (w : World) : Filled S e w.heap.size n 0 (w.alloc (.cells (madeCells z5.cells (n * 5)) e)) := by
  have h := World.rowIs_alloc w (madeCells z5.cells (n * 5)) e (fun i => (z5.cells)[i % (z5.cells).size]!) (fun i hi => by
    rw [size_madeCells] at hi
    simp [madeCells, hi])
  rw [size_madeCells] at h
  exact ⟨_, h, fun i hi => absurd hi (by omega)⟩

theorem Filled.lies {S : Nat → Pr} {e : TypeId} {G n k : Nat} {w : World} (h : Filled S e G n k w) (hk : k ≤ n) {j : Nat} (hj : j < k) : (S j).At G (j * 5) w := by
  obtain ⟨f, hr, hf⟩ := h
  obtain ⟨e0, e1, e2, e3, e4⟩ := hf j hj
  exact ⟨(hr.cell (by omega)).trans (by rw [e0]), (hr.cell (by omega)).trans (by rw [e1]), (hr.cell (by omega)).trans (by rw [e2]), (hr.cell (by omega)).trans (by rw [e3]), (hr.cell (by omega)).trans (by rw [e4])⟩

theorem Filled.step {S : Nat → Pr} {e : TypeId} {G n k : Nat} {w : World} (h : Filled S e G n k w) :
    Filled S e G n (k + 1) (((((w.setCell ⟨G, k * 5, none⟩ (.int .i64 (S k).k)).setCell ⟨G, k * 5 + 1, none⟩ (.string (S k).pa)).setCell ⟨G, k * 5 + 2, none⟩ (.string (S k).ac)).setCell ⟨G, k * 5 + 3, none⟩ (.string (S k).na)).setCell ⟨G, k * 5 + 4, none⟩ (.string (S k).se)) := by
  obtain ⟨f, hr, hf⟩ := h
  refine ⟨_, ((((hr.set (k * 5) _).set (k * 5 + 1) _).set (k * 5 + 2) _).set (k * 5 + 3) _).set (k * 5 + 4) _, fun i hi => ?_⟩
  by_cases e : i = k
  · subst e
    exact ⟨by simp, by simp, by simp, by simp, by simp⟩
  · obtain ⟨e0, e1, e2, e3, e4⟩ := hf i (by omega)
    exact ⟨(if_neg (by omega)).trans ((if_neg (by omega)).trans ((if_neg (by omega)).trans ((if_neg (by omega)).trans ((if_neg (by omega)).trans e0)))),
      (if_neg (by omega)).trans ((if_neg (by omega)).trans ((if_neg (by omega)).trans ((if_neg (by omega)).trans ((if_neg (by omega)).trans e1)))),
      (if_neg (by omega)).trans ((if_neg (by omega)).trans ((if_neg (by omega)).trans ((if_neg (by omega)).trans ((if_neg (by omega)).trans e2)))),
      (if_neg (by omega)).trans ((if_neg (by omega)).trans ((if_neg (by omega)).trans ((if_neg (by omega)).trans ((if_neg (by omega)).trans e3)))),
      (if_neg (by omega)).trans ((if_neg (by omega)).trans ((if_neg (by omega)).trans ((if_neg (by omega)).trans ((if_neg (by omega)).trans e4))))⟩

theorem Filled.keep {S : Nat → Pr} {e : TypeId} {G n k : Nat} {W w' : World} (h : Filled S e G n k W) (hb : Below W.heap.size W w') : Filled S e G n k w' := by
  obtain ⟨f, hr, hf⟩ := h
  exact ⟨f, hr.of_block (hb.block _ hr.lt), hf⟩

/-- What the walk wants to know ahead of a store of principal k. -/
theorem Filled.room {S : Nat → Pr} {e : TypeId} {G n k : Nat} {w : World} (h : Filled S e G n k w) (hk : k < n) :
    (∃ v0 v1 v2 v3 v4, w.cell? ⟨G, k * 5, none⟩ = some v0 ∧ w.cell? ⟨G, k * 5 + 1, none⟩ = some v1 ∧ w.cell? ⟨G, k * 5 + 2, none⟩ = some v2 ∧ w.cell? ⟨G, k * 5 + 3, none⟩ = some v3 ∧ w.cell? ⟨G, k * 5 + 4, none⟩ = some v4) ∧
      w.frozen? ⟨G, k * 5, none⟩ = false ∧ w.frozen? ⟨G, k * 5 + 1, none⟩ = false ∧ w.frozen? ⟨G, k * 5 + 2, none⟩ = false ∧ w.frozen? ⟨G, k * 5 + 3, none⟩ = false ∧ w.frozen? ⟨G, k * 5 + 4, none⟩ = false := by
  obtain ⟨f, hr, hf⟩ := h
  exact ⟨⟨_, _, _, _, _, hr.cell (by omega), hr.cell (by omega), hr.cell (by omega), hr.cell (by omega), hr.cell (by omega)⟩, hr.frozen _, hr.frozen _, hr.frozen _, hr.frozen _, hr.frozen _⟩

/-- The call hands back a slice of the same principals; nothing old has turned. -/
def Copied (S : Nat → Pr) (n : Nat) (w : World) (e : Ending) (w' : World) : Prop :=
  ∃ (a' : Option Addr) (g cp' : Nat), e = .returned (.slice a' n cp') ∧ IsPrs w' a' n g 0 S ∧ Below w.heap.size w w'

-- f15: copyPrincipals
set_option maxHeartbeats 400000 in
theorem copy15_none (cp : Nat) (S : Nat → Pr) (w : World) : Calls Try.prog 15 #[.slice none 0 cp] w (Copied S 0 w) := by
  have hnil := fun (w : World) (a : Option Addr) (n c : Nat) => Lib.run_eql_slice_nil (P := Try.prog) w 31 23 a n c 0 0 Try.underlying31
  go_enter Try.func15, Try.ntmps15
  go_wp2
  go_ret
  exact ⟨none, 0, _, rfl, ⟨fun h => absurd h (by omega), fun j hj => absurd hj (by omega)⟩, Below.refl _ _⟩

set_option maxHeartbeats 1000000 in
theorem copy15_some (A : Addr) (b off n cp : Nat) (S : Nat → Pr) (w : World) (hn : n ≤ 65536) (hS : IsPrs w (some A) n b off S) :
    Calls Try.prog 15 #[.slice (some A) n cp] w (Copied S n w) := by
  have HS : Hid (IsPrs w (some A) n b off S) := hS
  clear hS
  have hnil := fun (w : World) (a : Option Addr) (n c : Nat) => Lib.run_eql_slice_nil (P := Try.prog) w 31 23 a n c 0 0 Try.underlying31
  have hmk := run_make5 31 23 Try.underlying31 Try.info23 n hn
  go_enter Try.func15, Try.ntmps15
  go_wp2
  go_loopw [4] (fun i wr => ∃ k : Nat, k ≤ n ∧ i = .int .i64 k ∧ Hid (Filled S 23 w.heap.size n k wr) ∧ Hid (Below w.heap.size w wr)) (fun i _ => n - (intOf i).toNat)
  case atStart => exact ⟨0, Nat.zero_le _, rfl, Filled.start S 23 n w, (Below.refl _ _).alloc (Nat.le_refl _) _⟩
  case round =>
    obtain ⟨k, hk, rfl, HR, HB⟩ := hrel
    by_cases hlt : k < n
    · have ha' : A = ⟨b, off, none⟩ := by simpa using HS.out.ad (by omega)
      subst ha'
      obtain ⟨g0, g1, g2, g3, g4⟩ := (HS.out.keep HB.out).ats k hlt
      obtain ⟨⟨v0, v1, v2, v3, v4, d0, d1, d2, d3, d4⟩, f0, f1, f2, f3, f4⟩ := HR.out.room hlt
      clear hmk hnil
      go_wp2
      go_roundw
      case rel => exact ⟨k + 1, by omega, by go_num, HR.out.step, ((((HB.out.setCell (Nat.le_refl _) _).setCell (Nat.le_refl _) _).setCell (Nat.le_refl _) _).setCell (Nat.le_refl _) _).setCell (Nat.le_refl _) _⟩
      case measure => simp [intOf]; omega
    · have hkn : k = n := by omega
      clear hmk hnil
      go_wp2
      go_ret
      exact ⟨_, w.heap.size, _, rfl, ⟨fun _ => rfl, fun j hj => by rw [Nat.zero_add]; exact HR.out.lies hk (by omega)⟩, HB.out⟩

theorem copy15 (a : Option Addr) (b off n cp : Nat) (S : Nat → Pr) (w : World) (hn : n ≤ 65536) (hS : IsPrs w a n b off S) : Calls Try.prog 15 #[.slice a n cp] w (Copied S n w) := by
  cases a with
  | none =>
    have h0 : n = 0 := by
      rcases Nat.eq_zero_or_pos n with h | h
      · exact h
      · exact absurd (hS.ad h) (by simp)
    subst h0
    exact copy15_none cp S w
  | some A => exact copy15_some A b off n cp S w hn hS

-- f17: toZZs
set_option maxHeartbeats 1000000 in
theorem zzs17 (a : Option Addr) (b off n cp : Nat) (S : Nat → Pr) (w : World) (hn : n ≤ 65536) (hS : IsPrs w a n b off S) :
    Calls Try.prog 17 #[.slice a n cp] w (Copied S n w) := by
  have HS : Hid (IsPrs w a n b off S) := hS
  clear hS
  have hmk := run_make5 36 29 Try.underlying36 Try.info29 n hn
  go_enter Try.func17, Try.ntmps17
  go_wp2_with fail
  go_loopw [4] (fun i wr => ∃ k : Nat, k ≤ n ∧ i = .int .i64 k ∧ Hid (Filled S 29 w.heap.size n k wr) ∧ Hid (Below w.heap.size w wr)) (fun i _ => n - (intOf i).toNat)
  case atStart => exact ⟨0, Nat.zero_le _, rfl, Filled.start S 29 n w, (Below.refl _ _).alloc (Nat.le_refl _) _⟩
  case round =>
    obtain ⟨k, hk, rfl, HR, HB⟩ := hrel
    by_cases hlt : k < n
    · have ha' := HS.out.ad (by omega)
      subst ha'
      obtain ⟨g0, g1, g2, g3, g4⟩ := (HS.out.keep HB.out).ats k hlt
      clear hmk
      go_wp2_with fail
      refine (zz11 (S k).k (S k).pa (S k).ac (S k).na (S k).se _).mono ?_
      rintro e w2 ⟨rfl, hB2⟩
      have HR2 : Hid (Filled S 29 w.heap.size n k w2) := HR.out.keep hB2
      have HB2 : Hid (Below w.heap.size w w2) := HB.out.trans (hB2.mono HB.out.size)
      clear hB2 g0 g1 g2 g3 g4
      obtain ⟨⟨v0, v1, v2, v3, v4, d0, d1, d2, d3, d4⟩, f0, f1, f2, f3, f4⟩ := HR2.out.room hlt
      go_wp2_with fail
      go_roundw
      case rel => exact ⟨k + 1, by omega, by go_num, HR2.out.step, ((((HB2.out.setCell (Nat.le_refl _) _).setCell (Nat.le_refl _) _).setCell (Nat.le_refl _) _).setCell (Nat.le_refl _) _).setCell (Nat.le_refl _) _⟩
      case measure => simp [intOf]; omega
    · have hkn : k = n := by omega
      clear hmk
      go_wp2_with fail
      go_ret
      exact ⟨_, w.heap.size, _, rfl, ⟨fun _ => rfl, fun j hj => by rw [Nat.zero_add]; exact HR.out.lies hk (by omega)⟩, HB.out⟩

end Go.Proofs.Qxb6601579a
