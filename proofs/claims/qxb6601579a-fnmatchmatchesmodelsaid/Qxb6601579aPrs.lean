/-
  SLICES OF PRINCIPALS: what a walk is told of one; the bytes' bound and the size.
-/
import Derived.Test.Qxb6601579aWalk3
import Derived.Deep.LoopGhost
import Derived.Deep.OwnRows
namespace Go.Proofs.Qxb6601579a
open Go.RowKit

theorem Pr.At.keep {p : Pr} {b off : Nat} {W w' : World} (h : p.At b off W) (hb : Below W.heap.size W w') : p.At b off w' := by
  have h1 : b < W.heap.size := World.block_lt_of_cell? _ _ h.c0
  exact ⟨(bcell hb b _ h1).trans h.c0, (bcell hb b _ h1).trans h.c1, (bcell hb b _ h1).trans h.c2, (bcell hb b _ h1).trans h.c3, (bcell hb b _ h1).trans h.c4⟩
theorem Pr.At.drew {p : Pr} {b off : Nat} {W : World} (h : p.At b off W) : p.At b off W.drew := ⟨h.c0, h.c1, h.c2, h.c3, h.c4⟩
theorem Pr.At.drewN {p : Pr} {b off : Nat} {W : World} (h : p.At b off W) (n : Nat) : p.At b off (W.drewN n) := ⟨h.c0, h.c1, h.c2, h.c3, h.c4⟩

/-- The slice '.slice a n c' holds the principals S 0 .. S (n - 1). -/
structure IsPrs (w : World) (a : Option Addr) (n b off : Nat) (S : Nat → Pr) : Prop where
  ad : 0 < n → a = some ⟨b, off, none⟩
  ats : ∀ j, j < n → (S j).At b (off + j * 5) w

theorem IsPrs.keep {W w' : World} {a : Option Addr} {n b off : Nat} {S : Nat → Pr} (h : IsPrs W a n b off S) (hb : Below W.heap.size W w') : IsPrs w' a n b off S :=
  ⟨h.ad, fun j hj => (h.ats j hj).keep hb⟩
theorem IsPrs.drew {W : World} {a : Option Addr} {n b off : Nat} {S : Nat → Pr} (h : IsPrs W a n b off S) : IsPrs W.drew a n b off S := ⟨h.ad, fun j hj => (h.ats j hj).drew⟩
theorem IsPrs.drewN {W : World} {a : Option Addr} {n b off : Nat} {S : Nat → Pr} (h : IsPrs W a n b off S) (q : Nat) : IsPrs (W.drewN q) a n b off S := ⟨h.ad, fun j hj => (h.ats j hj).drewN q⟩

-- f13: zzBytes_FnMatchMatchesModel
set_option maxRecDepth 10000000 in
set_option maxHeartbeats 4000000 in
theorem bytes13 (t : Bool) (a : Option Addr) (b off n cp : Nat) (S : Nat → Pr) (c : Pr) (w : World) (hn : n ≤ maxLen) (hS : IsPrs w a n b off S) (hok : ∀ j, j < n → (S j).ok) (hc : c.ok) :
    Calls Try.prog 13 #[.bool t, .slice a n cp, c.v] w (RetB w) := by
  obtain ⟨h1, h2, h3, h4⟩ := hc
  have HS : Hid (IsPrs (w.alloc (c.o 23)) a n b off S) := hS.keep ((Below.refl _ _).alloc (Nat.le_refl _) _)
  have HO : Hid (∀ j, j < n → (S j).ok) := hok
  clear hS hok
  unfold maxLen at hn h1 h2 h3 h4
  have bel : Hid (Below w.heap.size w (w.alloc (c.o 23))) := (Below.refl _ _).alloc (Nat.le_refl _) _
  by_cases hn : n ≤ 1048576
  · go_enter Try.func13, Try.ntmps13
    go_wp2
    go_loop [7, 8] (fun s i => ∃ (k : Nat) (z : Int), k ≤ n ∧ i = .int .i64 k ∧ s = .int .i64 z ∧ 0 ≤ z ∧ z ≤ 1048576) (fun _ i => n - (intOf i).toNat)
    case atStart => exact ⟨0, n, Nat.zero_le _, rfl, rfl, by omega, by omega⟩
    case round =>
      obtain ⟨k, z, hk, rfl, rfl, hz0, hz1⟩ := hrel
      by_cases hlt : k < n
      · obtain ⟨g0, g1, g2, g3, g4⟩ := HS.out.ats k hlt
        have ha' := HS.out.ad (by omega)
        subst ha'
        obtain ⟨l1, l2, l3, l4⟩ := HO.out k hlt
        unfold maxLen at l1 l2 l3 l4
        go_wp2
        all_goals first
          | (go_ret; exact ⟨_, rfl, bel.out⟩)
          | skip
        go_round
        case rel => exact ⟨k + 1, z + (S k).pa.size + (S k).ac.size + (S k).na.size + (S k).se.size, by omega, by go_num, rfl, by omega, by omega⟩
        case measure => simp [intOf]; omega
      · have hkn : k = n := by omega
        subst hkn
        go_wp2
        all_goals
          go_ret
          exact ⟨_, rfl, bel.out⟩
  · go_enter Try.func13, Try.ntmps13
    go_wp2
    go_ret
    exact ⟨_, rfl, bel.out⟩

-- f14: elementSize
set_option maxRecDepth 10000000 in
set_option maxHeartbeats 4000000 in
theorem size14 (a : Option Addr) (b off n cp : Nat) (S : Nat → Pr) (c : Pr) (w : World) (hn : n ≤ maxLen) (hS : IsPrs w a n b off S) (hok : ∀ j, j < n → (S j).ok) (hc : c.ok) :
    Calls Try.prog 14 #[.slice a n cp, c.v] w (RetI (fun r => r ≤ 1048576 → n ≤ 65536) w) := by
  have HC : Hid c.ok := hc
  have HS : Hid (IsPrs w a n b off S) := hS
  have HO : Hid (∀ j, j < n → (S j).ok) := hok
  clear hS hok hc
  unfold maxLen at hn
  by_cases hn : n ≤ 65536
  · go_enter Try.func14, Try.ntmps14
    go_wp2_with fail
    refine (size9 c.k c.pa c.ac c.na c.se _ HC.out.1 HC.out.2.1 HC.out.2.2.1 HC.out.2.2.2).mono ?_
    rintro e w1 ⟨r, rfl, hB, hr, hr'⟩
    have HB : Hid (Below w.heap.size w w1) := ((Below.refl _ _).alloc (Nat.le_refl _) _).trans (hB.mono (by simp))
    clear hB
    go_wp2_with fail
    go_loopw [5, 6] (fun s i wr => ∃ (k : Nat) (z : Int), k ≤ n ∧ i = .int .i64 k ∧ s = .int .i64 z ∧ 0 ≤ z ∧ z ≤ 4194376 ∧ Hid (Below w.heap.size w wr)) (fun _ i _ => n - (intOf i).toNat)
    case atStart => exact ⟨0, r, Nat.zero_le _, rfl, rfl, by omega, by omega, HB⟩
    case round =>
      obtain ⟨k, z, hk, rfl, rfl, hz0, hz1, HR⟩ := hrel
      by_cases hlt : k < n
      · obtain ⟨g0, g1, g2, g3, g4⟩ := (HS.out.keep HR.out).ats k hlt
        have ha' := HS.out.ad (by omega)
        subst ha'
        go_wp2_with fail
        have hO := HO.out k hlt
        refine (size9 (S k).k (S k).pa (S k).ac (S k).na (S k).se _ hO.1 hO.2.1 hO.2.2.1 hO.2.2.2).mono ?_
        clear hO
        rintro e w2 ⟨r2, rfl, hB2, hr2, hr2'⟩
        have HB2 : Hid (Below w.heap.size w w2) := HR.out.trans (hB2.mono HR.out.size)
        clear hB2
        by_cases hz : z + r2 ≤ 1048576
        · go_wp2_with fail
          go_roundw
          case rel => exact ⟨k + 1, z + r2, by omega, by go_num, rfl, by omega, by omega, HB2⟩
          case measure => simp [intOf]; omega
        · go_wp2_with fail
          go_ret
          exact ⟨_, rfl, HB2.out, fun _ => hn⟩
      · go_wp2_with fail
        go_ret
        exact ⟨_, rfl, HR.out, fun _ => hn⟩
  · go_enter Try.func14, Try.ntmps14
    go_wp2
    go_ret
    exact ⟨_, rfl, (Below.refl _ _).alloc (Nat.le_refl _) _, fun h => by omega⟩

end Go.Proofs.Qxb6601579a
