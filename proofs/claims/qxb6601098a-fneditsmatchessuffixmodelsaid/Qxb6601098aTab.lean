/-
  THE TABLE OF 'edits', in memory.
-/
import Derived.Test.Qxb6601098aRunes
namespace Go.Proofs.Qxb6601098a
open Go.RowKit

theorem Try.info37 : (Try.prog.info? 37).map (fun i => (i.zero, i.size, i.bytes)) = some (some (.slice none 0 0), 1, 24) := by kernel_rfl
theorem Try.info3 : (Try.prog.info? 3).map (fun i => (i.zero, i.size, i.bytes)) = some (some (.int .i64 0), 1, 8) := by kernel_rfl

/-- The table while its rows are being laid: k rows stand, row i begins with i. -/
def Part (G n m k : Nat) (wc wr : World) : Prop :=
  wr.heap.size = G + 1 + k ∧ wr.rowIs G 37 (n + 1) (fun i => if i < k then .slice (some ⟨G + 1 + i, 0, none⟩) (m + 1) (m + 1) else .slice none 0 0) ∧
    (∀ i, i < k → wr.rowIs (G + 1 + i) 3 (m + 1) (fun j => .int .i64 (if j = 0 then (i : Int) else 0))) ∧ Below G wc wr

/-- The table, all rows laid: entry (i, j) is T i j. -/
def Tab (G n m : Nat) (T : Nat → Nat → Nat) (wc wr : World) : Prop :=
  wr.rowIs G 37 (n + 1) (fun i => .slice (some ⟨G + 1 + i, 0, none⟩) (m + 1) (m + 1)) ∧
    (∀ i, i ≤ n → wr.rowIs (G + 1 + i) 3 (m + 1) (fun j => .int .i64 (T i j))) ∧ Below G wc wr

/-- The call hands back v; nothing old has turned. -/
def RetTo (v : Nat) (w : World) (e : Ending) (w' : World) : Prop := e = .returned (.int .i64 (v : Int)) ∧ Below w.heap.size w w'

theorem Part.start (n m : Nat) (wc : World) : Part wc.heap.size n m 0 wc (wc.alloc (.cells (madeCells #[.slice none 0 0] (n + 1)) 37)) := by
  refine ⟨by simp, (World.rowIs_made _ _ _ _).congr (fun i _ => by simp), fun i hi => absurd hi (by omega), (Below.refl _ _).alloc (Nat.le_refl _) _⟩

theorem made_at (z : Value) (n i : Nat) (hi : i < n) : (madeCells #[z] n)[i]? = some z := by
  have h := (World.rowIs_made (default : World) z n 0).cell hi
  rw [World.cell?_alloc_mark] at h
  exact h
theorem made_size (z : Value) (n : Nat) : (madeCells #[z] n).size = n := by
  simp [madeCells]
theorem made_zero (m : Nat) : (madeCells #[.int .i64 0] (m + 1))[0]? = some (.int .i64 0) := made_at _ _ _ (by omega)

theorem Part.step {G n m k : Nat} {wc wr : World} (h : Part G n m k wc wr) (hk : k < n + 1) :
    Part G n m (k + 1) wc ((wr.setCell ⟨G, k, none⟩ (.slice (some ⟨wr.heap.size, 0, none⟩) (m + 1) (m + 1))).alloc (.cells ((madeCells #[.int .i64 0] (m + 1)).setIfInBounds 0 (.int .i64 (k : Int))) 3)) := by
  obtain ⟨h1, h2, h3, h4⟩ := h
  have hsz : (wr.setCell ⟨G, k, none⟩ (.slice (some ⟨wr.heap.size, 0, none⟩) (m + 1) (m + 1))).heap.size = G + 1 + k := by simp [h1]
  refine ⟨by simp [h1]; omega, ?_, ?_, ?_⟩
  · refine ((h2.set k _).alloc _).congr (fun i hi => ?_)
    by_cases e : i = k
    · subst e; simp [h1]
    · by_cases e2 : i < k
      · simp [e, e2, show i < k + 1 from by omega]
      · simp [e, e2, show ¬ i < k + 1 from by omega]
  · intro i hi
    by_cases e : i = k
    · subst e
      have := World.rowIs_alloc (wr.setCell ⟨G, i, none⟩ (.slice (some ⟨wr.heap.size, 0, none⟩) (m + 1) (m + 1))) ((madeCells #[.int .i64 0] (m + 1)).setIfInBounds 0 (.int .i64 (i : Int))) 3 (fun j => .int .i64 (if j = 0 then (i : Int) else 0)) (fun j hj => by
        have hj2 : j < m + 1 := by simpa [made_size] using hj
        rw [Array.getElem?_setIfInBounds]
        by_cases e0 : j = 0
        · subst e0; simp [made_size]
        · have : ¬ 0 = j := fun e => e0 e.symm
          simp [this, e0, made_at (.int .i64 0) (m + 1) j hj2])
      rw [hsz] at this
      simpa [made_size] using this
    · exact ((h3 i (by omega)).setOther (by simp; omega) _).alloc _
  · exact (h4.setCell (Nat.le_refl _) _).alloc (by rw [hsz]; omega) _

theorem Part.tab {G n m : Nat} {wc wr : World} (h : Part G n m (n + 1) wc wr) : Tab G n m (fun i j => if j = 0 then i else 0) wc wr ∧ ∀ i, i ≤ n → (fun i j => if j = 0 then i else 0) i 0 = i := by
  obtain ⟨_, h2, h3, h4⟩ := h
  refine ⟨⟨h2.congr (fun i hi => by simp [hi]), fun i hi => (h3 i (by omega)).congr (fun j _ => ?_), h4⟩, fun i _ => rfl⟩
  by_cases e : j = 0 <;> simp [e]

/-- The table with entry (i, j) turned to v. -/
def put (T : Nat → Nat → Nat) (i j v : Nat) : Nat → Nat → Nat := fun i' j' => if i' = i ∧ j' = j then v else T i' j'
theorem put_at (T : Nat → Nat → Nat) (i j v : Nat) : put T i j v i j = v := by simp [put]
theorem put_ne (T : Nat → Nat → Nat) {i j v i' j' : Nat} (h : i' ≠ i ∨ j' ≠ j) : put T i j v i' j' = T i' j' := by
  unfold put
  rw [if_neg (fun e => by rcases h with h | h <;> omega)]

theorem Tab.set {G n m : Nat} {T : Nat → Nat → Nat} {wc wr : World} (h : Tab G n m T wc wr) (i j v : Nat) (hi : i ≤ n) : Tab G n m (put T i j v) wc (wr.setCell ⟨G + 1 + i, j, none⟩ (.int .i64 (v : Int))) := by
  obtain ⟨h1, h2, h3⟩ := h
  refine ⟨h1.setOther (by simp; omega) _, fun i' hi' => ?_, h3.setCell (by simp; omega) _⟩
  by_cases e : i' = i
  · subst e
    refine ((h2 i' hi').set j _).congr (fun j' _ => ?_)
    by_cases e2 : j' = j
    · subst e2; simp [put_at]
    · simp [e2, put_ne T (.inr e2)]
  · refine ((h2 i' hi').setOther (by simp; omega) _).congr (fun j' _ => ?_)
    rw [put_ne T (.inl e)]

/-- The table once its first row and its first column stand. -/
def Tab1 (G n m k : Nat) (T : Nat → Nat → Nat) (wc wr : World) : Prop := Tab G n m T wc wr ∧ (∀ i, i ≤ n → T i 0 = i) ∧ ∀ j, j < k → T 0 j = j

theorem Tab1.step {G n m k : Nat} {T : Nat → Nat → Nat} {wc wr : World} (h : Tab1 G n m k T wc wr) : Tab1 G n m (k + 1) (put T 0 k k) wc (wr.setCell ⟨G + 1, k, none⟩ (.int .i64 (k : Int))) := by
  obtain ⟨h1, h2, h3⟩ := h
  refine ⟨h1.set 0 k k (by omega), fun i hi => ?_, fun j hj => ?_⟩
  · by_cases e : i = 0 ∧ 0 = k
    · obtain ⟨rfl, rfl⟩ := e; rw [put_at]
    · rw [put_ne T (by omega)]; exact h2 i hi
  · by_cases e : j = k
    · subst e; rw [put_at]
    · rw [put_ne T (.inr e)]; exact h3 j (by omega)

/-- The table: rows 0 .. k are right. -/
def Tab2 (x y : Nat → Int) (G n m k : Nat) (T : Nat → Nat → Nat) (wc wr : World) : Prop := Tab G n m T wc wr ∧ (∀ i, i ≤ n → T i 0 = i) ∧ ∀ i, i ≤ k → ∀ j, j ≤ m → T i j = D x y i j

theorem Tab1.to2 {x y : Nat → Int} {G n m : Nat} {T : Nat → Nat → Nat} {wc wr : World} (h : Tab1 G n m (m + 1) T wc wr) : Tab2 x y G n m 0 T wc wr :=
  ⟨h.1, h.2.1, fun i hi j hj => by obtain rfl : i = 0 := by omega
                                   rw [D_zero]; exact h.2.2 j (by omega)⟩

/-- The table: rows 0 .. k are right, and row k + 1 up to l. -/
def Tab3 (x y : Nat → Int) (G n m k l : Nat) (T : Nat → Nat → Nat) (wc wr : World) : Prop := Tab2 x y G n m k T wc wr ∧ ∀ j, j ≤ l → T (k + 1) j = D x y (k + 1) j

theorem Tab2.to3 {x y : Nat → Int} {G n m k : Nat} {T : Nat → Nat → Nat} {wc wr : World} (h : Tab2 x y G n m k T wc wr) (hk : k < n) : Tab3 x y G n m k 0 T wc wr :=
  ⟨h, fun j hj => by obtain rfl : j = 0 := by omega
                     rw [D_left, h.2.1 (k + 1) (by omega)]⟩
theorem Tab3.to2 {x y : Nat → Int} {G n m k : Nat} {T : Nat → Nat → Nat} {wc wr : World} (h : Tab3 x y G n m k m T wc wr) : Tab2 x y G n m (k + 1) T wc wr :=
  ⟨h.1.1, h.1.2.1, fun i hi j hj => by
    by_cases e : i = k + 1
    · subst e; exact h.2 j hj
    · exact h.1.2.2 i (by omega) j hj⟩
theorem Tab3.step {x y : Nat → Int} {G n m k l : Nat} {T : Nat → Nat → Nat} {wc wr : World} (h : Tab3 x y G n m k l T wc wr) (hk : k < n) (v : Nat) (hv : v = D x y (k + 1) (l + 1)) :
    Tab3 x y G n m k (l + 1) (put T (k + 1) (l + 1) v) wc (wr.setCell ⟨G + 1 + (k + 1), l + 1, none⟩ (.int .i64 (v : Int))) := by
  obtain ⟨⟨h1, h2, h3⟩, h4⟩ := h
  refine ⟨⟨h1.set (k + 1) (l + 1) v (by omega), fun i hi => ?_, fun i hi j hj => ?_⟩, fun j hj => ?_⟩
  · rw [put_ne T (.inr (by omega))]; exact h2 i hi
  · rw [put_ne T (.inl (by omega))]; exact h3 i hi j hj
  · by_cases e : j = l + 1
    · subst e; rw [put_at]; exact hv
    · rw [put_ne T (.inr e)]; exact h4 j (by omega)

theorem Tab.drewN {G n m : Nat} {T : Nat → Nat → Nat} {wc wr : World} (h : Tab G n m T wc wr) (q : Nat) : Tab G n m T wc (wr.drewN q) := ⟨h.1, h.2.1, below_drewN h.2.2 q⟩
theorem Tab2.drewN {x y : Nat → Int} {G n m k : Nat} {T : Nat → Nat → Nat} {wc wr : World} (h : Tab2 x y G n m k T wc wr) (q : Nat) : Tab2 x y G n m k T wc (wr.drewN q) := ⟨h.1.drewN q, h.2⟩

theorem put_put (T : Nat → Nat → Nat) (i j v v' : Nat) : put (put T i j v) i j v' = put T i j v' := by
  funext i' j'
  unfold put
  by_cases h : i' = i ∧ j' = j
  · rw [if_pos h, if_pos h]
  · rw [if_neg h, if_neg h, if_neg h]

theorem Tab.again {G n m : Nat} {T : Nat → Nat → Nat} {wc wr : World} {i j v v' q : Nat} (h : Tab G n m (put T i j v) wc wr) (hi : i ≤ n) : Tab G n m (put T i j v') wc ((wr.drewN q).setCell ⟨G + 1 + i, j, none⟩ (.int .i64 (v' : Int))) := by
  have := (h.drewN q).set i j v' hi
  rwa [put_put] at this

theorem Tab3.put {x y : Nat → Int} {G n m k l v : Nat} {T : Nat → Nat → Nat} {wc wr W : World} (h : Tab3 x y G n m k l T wc wr) (hT : Tab G n m (Qxb6601098a.put T (k + 1) (l + 1) v) wc W) (hv : v = D x y (k + 1) (l + 1)) :
    Tab3 x y G n m k (l + 1) (Qxb6601098a.put T (k + 1) (l + 1) v) wc W := by
  obtain ⟨⟨_, h2, h3⟩, h4⟩ := h
  refine ⟨⟨hT, fun i hi => ?_, fun i hi j hj => ?_⟩, fun j hj => ?_⟩
  · rw [put_ne T (.inr (by omega))]; exact h2 i hi
  · rw [put_ne T (.inl (by omega))]; exact h3 i hi j hj
  · by_cases e : j = l + 1
    · subst e; rw [put_at]; exact hv
    · rw [put_ne T (.inr e)]; exact h4 j (by omega)

theorem D_no {x y : Nat → Int} {k l p q r c : Nat} (h : D x y k (l + 1) = p ∧ D x y k l = r ∧ D x y (k + 1) l = q) (hc : cost (x k) (y l) = c) (hn : ¬ (1 ≤ k ∧ 1 ≤ l ∧ x k = y (l - 1) ∧ x (k - 1) = y l)) :
    min3 (p + 1) (q + 1) (r + c) = D x y (k + 1) (l + 1) := by
  obtain ⟨rfl, rfl, rfl⟩ := h
  subst hc
  rw [D_succ, entry, if_neg hn]
theorem D_yes {x y : Nat → Int} {k l p q r c : Nat} (h : D x y k (l + 1) = p ∧ D x y k l = r ∧ D x y (k + 1) l = q) (hc : cost (x k) (y l) = c) (hn : 1 ≤ k ∧ 1 ≤ l ∧ x k = y (l - 1) ∧ x (k - 1) = y l) :
    min2 (min3 (p + 1) (q + 1) (r + c)) (D x y (k - 1) (l - 1) + 1) = D x y (k + 1) (l + 1) := by
  obtain ⟨rfl, rfl, rfl⟩ := h
  subst hc
  rw [D_succ, entry, if_pos hn]

/-- What the reads of one entry's statement find. -/
theorem five_keep {G m k l : Nat} {p q r : Int} {w : World} (h1 : w.cell? ⟨G, k, none⟩ = some (.slice (some ⟨G + 1 + k, 0, none⟩) (m + 1) (m + 1))) (h2 : w.cell? ⟨G, k + 1, none⟩ = some (.slice (some ⟨G + 1 + (k + 1), 0, none⟩) (m + 1) (m + 1)))
    (h3 : w.cell? ⟨G + 1 + k, l + 1, none⟩ = some (.int .i64 p)) (h4 : w.cell? ⟨G + 1 + k, l, none⟩ = some (.int .i64 r)) (h5 : w.cell? ⟨G + 1 + (k + 1), l, none⟩ = some (.int .i64 q)) (v : Value) :
    (w.setCell ⟨G + 1 + (k + 1), l + 1, none⟩ v).cell? ⟨G, k, none⟩ = some (.slice (some ⟨G + 1 + k, 0, none⟩) (m + 1) (m + 1)) ∧ (w.setCell ⟨G + 1 + (k + 1), l + 1, none⟩ v).cell? ⟨G, k + 1, none⟩ = some (.slice (some ⟨G + 1 + (k + 1), 0, none⟩) (m + 1) (m + 1)) ∧
    (w.setCell ⟨G + 1 + (k + 1), l + 1, none⟩ v).cell? ⟨G + 1 + k, l + 1, none⟩ = some (.int .i64 p) ∧ (w.setCell ⟨G + 1 + (k + 1), l + 1, none⟩ v).cell? ⟨G + 1 + k, l, none⟩ = some (.int .i64 r) ∧
    (w.setCell ⟨G + 1 + (k + 1), l + 1, none⟩ v).cell? ⟨G + 1 + (k + 1), l, none⟩ = some (.int .i64 q) := by
  refine ⟨?_, ?_, ?_, ?_, ?_⟩
  · rw [World.cell?_setCell_other (h := by intro e; have := congrArg Addr.block e; simp at this; omega)]; exact h1
  · rw [World.cell?_setCell_other (h := by intro e; have := congrArg Addr.block e; simp at this; omega)]; exact h2
  · rw [World.cell?_setCell_other (h := by intro e; have := congrArg Addr.block e; simp at this)]; exact h3
  · rw [World.cell?_setCell_other (h := by intro e; have := congrArg Addr.block e; simp at this)]; exact h4
  · rw [World.cell?_setCell_other (h := by intro e; have := congrArg Addr.off e; simp at this)]; exact h5

/-- Go's 'min(v, f + 1)'. -/
theorem min_two (v f : Nat) : (if (f : Int) + 1 < (v : Int) then (f : Int) + 1 else (v : Int)) = ((min2 v (f + 1) : Nat) : Int) := by
  unfold min2
  by_cases h : f + 1 < v
  · rw [if_pos (by omega), if_pos h]; omega
  · rw [if_neg (by omega), if_neg h]

/-- Go's 'min(p + 1, q + 1, r + 1)', as the walk spells it. -/
theorem min_one (p q r : Nat) : (if (r : Int) + 1 < (if q < p then (q : Int) + 1 else (p : Int) + 1) then (r : Int) + 1 else if q < p then (q : Int) + 1 else (p : Int) + 1) = ((min3 (p + 1) (q + 1) (r + 1) : Nat) : Int) := by
  unfold min3
  by_cases h : q < p
  · by_cases h2 : r < q
    · rw [if_pos h, if_pos (by omega), if_pos (show q + 1 < p + 1 by omega), if_pos (by omega)]; omega
    · rw [if_pos h, if_neg (by omega), if_pos (show q + 1 < p + 1 by omega), if_neg (by omega)]; omega
  · by_cases h2 : r < p
    · rw [if_neg h, if_pos (by omega), if_neg (show ¬ q + 1 < p + 1 by omega), if_pos (by omega)]; omega
    · rw [if_neg h, if_neg (by omega), if_neg (show ¬ q + 1 < p + 1 by omega), if_neg (by omega)]; omega
theorem min_zero (p q r : Nat) : (if (r : Int) < (if q < p then (q : Int) + 1 else (p : Int) + 1) then (r : Int) else if q < p then (q : Int) + 1 else (p : Int) + 1) = ((min3 (p + 1) (q + 1) (r + 0) : Nat) : Int) := by
  unfold min3
  by_cases h : q < p
  · by_cases h2 : r < q + 1
    · rw [if_pos h, if_pos (by omega), if_pos (show q + 1 < p + 1 by omega), if_pos (by omega)]; omega
    · rw [if_pos h, if_neg (by omega), if_pos (show q + 1 < p + 1 by omega), if_neg (by omega)]; omega
  · by_cases h2 : r < p + 1
    · rw [if_neg h, if_pos (by omega), if_neg (show ¬ q + 1 < p + 1 by omega), if_pos (by omega)]; omega
    · rw [if_neg h, if_neg (by omega), if_neg (show ¬ q + 1 < p + 1 by omega), if_neg (by omega)]; omega

end Go.Proofs.Qxb6601098a
