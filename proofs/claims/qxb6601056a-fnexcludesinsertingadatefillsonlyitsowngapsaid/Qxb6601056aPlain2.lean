/-
  THE PLAIN LAW (2): a date inserted in its place into an ascending row.
-/
import Derived.Test.Qxb6601056aPlain
namespace Go.Proofs.Qxb6601056a

/-- The row with d laid in at place p. -/
def ins (S : Nat → ByteArray) (d : ByteArray) (p : Nat) : Nat → ByteArray := fun j => if j < p then S j else if j = p then d else S (j - 1)

theorem ins_lt {S : Nat → ByteArray} {d : ByteArray} {p j : Nat} (h : j < p) : ins S d p j = S j := by simp [ins, h]
theorem ins_at {S : Nat → ByteArray} {d : ByteArray} {p : Nat} : ins S d p p = d := by simp [ins]
theorem ins_gt {S : Nat → ByteArray} {d : ByteArray} {p j : Nat} (h : p < j) : ins S d p j = S (j - 1) := by
  simp [ins, show ¬ j < p from by omega, show ¬ j = p from by omega]

/-- What holds once d has its place p: S t < d below p, d < S t from p on. -/
structure Placed (S : Nat → ByteArray) (n : Nat) (d : ByteArray) (p : Nat) : Prop where
  pos : 0 < p
  lt : p < n
  below : ∀ t, t < p → Qxb6601056a.lt (S t) d = true
  above : ∀ t, p ≤ t → t < n → Qxb6601056a.lt d (S t) = true

theorem placed_of {S : Nat → ByteArray} {n : Nat} {d : ByteArray} {p : Nat} (h : Asc S n) (hp : p < n) (h0 : lt (S 0) d = true) (h1 : lt d (S p) = true) (h2 : ∀ t, t < p → lt d (S t) = false) (hne : ∀ i, i < n → S i ≠ d) : Placed S n d p := by
  refine ⟨?_, hp, fun t ht => lt_total (h2 t ht) (fun e => hne t (by omega) e.symm), fun t ht htn => ?_⟩
  · rcases Nat.eq_zero_or_pos p with e | e
    · subst e; rw [lt_asymm h0] at h1; cases h1
    · exact e
  · rcases Nat.lt_or_ge p t with e | e
    · exact lt_trans h1 (h.less e htn)
    · rw [show t = p from by omega]; exact h1

theorem Placed.asc {S : Nat → ByteArray} {n : Nat} {d : ByteArray} {p : Nat} (h : Asc S n) (k : Placed S n d p) : Asc (ins S d p) (n + 1) := by
  intro i hi
  have hl := k.lt
  rcases Nat.lt_trichotomy (i + 1) p with h1 | h1 | h1
  · rw [ins_lt (by omega), ins_lt h1]; exact h i (by omega)
  · rw [ins_lt (by omega), h1, ins_at]; exact k.below i (by omega)
  · rcases Nat.lt_or_ge p i with h2 | h2
    · rw [ins_gt h2, ins_gt (by omega)]
      have := h (i - 1) (by omega)
      rwa [show i - 1 + 1 = i + 1 - 1 from by omega] at this
    · obtain rfl : i = p := by omega
      rw [ins_at, ins_gt (by omega)]; exact k.above _ (by omega) (by omega)

theorem Placed.gap {S : Nat → ByteArray} {n : Nat} {d : ByteArray} {p : Nat} (k : Placed S n d p) : Gap S n d := by
  have hp := k.pos
  have hl := k.lt
  refine ⟨p - 1, by omega, k.below _ (by omega), ?_⟩
  rw [show p - 1 + 1 = p from by omega]; exact k.above p (Nat.le_refl _) hl

theorem Placed.not_gap {S : Nat → ByteArray} {n : Nat} {d : ByteArray} {p : Nat} (k : Placed S n d p) : ¬ Gap (ins S d p) (n + 1) d := by
  rintro ⟨i, hi, h1, h2⟩
  rcases Nat.lt_or_ge i p with h3 | h3
  · rcases Nat.lt_or_ge (i + 1) p with h4 | h4
    · rw [ins_lt h4, lt_asymm (k.below _ h4)] at h2; cases h2
    · rw [show i + 1 = p from by omega, ins_at, lt_irrefl] at h2; cases h2
  · rcases Nat.lt_or_ge p i with h4 | h4
    · rw [ins_gt h4, lt_asymm (k.above _ (by omega) (by omega))] at h1; cases h1
    · rw [show i = p from by omega, ins_at, lt_irrefl] at h1; cases h1

theorem Placed.gaps {S : Nat → ByteArray} {n : Nat} {d : ByteArray} {p : Nat} (k : Placed S n d p) (q : ByteArray) : Gap (ins S d p) (n + 1) q ↔ Gap S n q ∧ q ≠ d := by
  have hp := k.pos
  have hl := k.lt
  constructor
  · intro hg
    refine ⟨?_, fun e => k.not_gap (e ▸ hg)⟩
    obtain ⟨i, hi, h1, h2⟩ := hg
    rcases Nat.lt_trichotomy (i + 1) p with h3 | h3 | h3
    · rw [ins_lt (by omega)] at h1; rw [ins_lt h3] at h2
      exact ⟨i, by omega, h1, h2⟩
    · rw [ins_lt (by omega)] at h1; rw [h3, ins_at] at h2
      refine ⟨i, by omega, h1, lt_trans h2 ?_⟩
      rw [h3]; exact k.above p (Nat.le_refl _) hl
    · rcases Nat.lt_or_ge p i with h4 | h4
      · rw [ins_gt h4] at h1; rw [ins_gt (by omega)] at h2
        refine ⟨i - 1, by omega, h1, ?_⟩
        rw [show i - 1 + 1 = i + 1 - 1 from by omega]; exact h2
      · obtain rfl : i = p := by omega
        rw [ins_at] at h1; rw [ins_gt (by omega)] at h2
        refine ⟨i - 1, by omega, lt_trans (k.below _ (by omega)) h1, ?_⟩
        rw [show i - 1 + 1 = i + 1 - 1 from by omega]; exact h2
  · rintro ⟨⟨i, hi, h1, h2⟩, hne⟩
    rcases Nat.lt_trichotomy (i + 1) p with h3 | h3 | h3
    · refine ⟨i, by omega, ?_, ?_⟩
      · rw [ins_lt (by omega)]; exact h1
      · rw [ins_lt h3]; exact h2
    · cases hq : Qxb6601056a.lt q d with
      | true =>
        refine ⟨i, by omega, ?_, ?_⟩
        · rw [ins_lt (by omega)]; exact h1
        · rw [h3, ins_at]; exact hq
      | false =>
        have hdq := lt_total hq hne
        refine ⟨p, by omega, ?_, ?_⟩
        · rw [ins_at]; exact hdq
        · rw [ins_gt (by omega), show p + 1 - 1 = i + 1 from by omega]; exact h2
    · refine ⟨i + 1, by omega, ?_, ?_⟩
      · rw [ins_gt (by omega), show i + 1 - 1 = i from by omega]; exact h1
      · rw [ins_gt (by omega), show i + 1 + 1 - 1 = i + 1 from by omega]; exact h2

/-! ### The loop that lays the dates into the grown row: what holds after k rounds -/
/-- b: has d been placed? m elements have been laid, element j is F j. -/
def Ins (S : Nat → ByteArray) (d : ByteArray) (k : Nat) (b : Bool) (m : Nat) (F : Nat → ByteArray) : Prop :=
  (b = false ∧ m = k ∧ F = S ∧ ∀ t, t < k → lt d (S t) = false) ∨
  (b = true ∧ m = k + 1 ∧ ∃ p, p < k ∧ F = ins S d p ∧ lt d (S p) = true ∧ ∀ t, t < p → lt d (S t) = false)

theorem Ins.start (S : Nat → ByteArray) (d : ByteArray) : Ins S d 0 false 0 S := .inl ⟨rfl, rfl, rfl, fun t ht => absurd ht (by omega)⟩
theorem Ins.le {S : Nat → ByteArray} {d : ByteArray} {k : Nat} {b : Bool} {m : Nat} {F : Nat → ByteArray} (h : Ins S d k b m F) : m ≤ k + 1 := by
  rcases h with ⟨_, h, _⟩ | ⟨_, h, _⟩ <;> omega
theorem Ins.le_false {S : Nat → ByteArray} {d : ByteArray} {k : Nat} {m : Nat} {F : Nat → ByteArray} (h : Ins S d k false m F) : m = k := by
  rcases h with ⟨_, h, _⟩ | ⟨h, _, _⟩
  · exact h
  · cases h

theorem range_snoc {α : Type} (f : Nat → α) (m : Nat) : (List.range (m + 1)).map f = (List.range m).map f ++ [f m] := by
  rw [List.range_succ, List.map_append]; rfl

/-- A round that only lays S k. -/
theorem Ins.step {S : Nat → ByteArray} {d : ByteArray} {k : Nat} {b : Bool} {m : Nat} {F : Nat → ByteArray} (h : Ins S d k b m F) (hb : b = true ∨ lt d (S k) = false) :
    Ins S d (k + 1) b (m + 1) F ∧ F m = S k := by
  rcases h with ⟨rfl, rfl, rfl, h4⟩ | ⟨rfl, rfl, p, h3, rfl, h5, h6⟩
  · refine ⟨.inl ⟨rfl, rfl, rfl, fun t ht => ?_⟩, rfl⟩
    rcases Nat.lt_or_ge t m with e | e
    · exact h4 t e
    · rw [show t = m from by omega]
      rcases hb with hb | hb
      · cases hb
      · exact hb
  · exact ⟨.inr ⟨rfl, rfl, p, by omega, rfl, h5, h6⟩, by rw [ins_gt (by omega)]; congr⟩

/-- The round in which d is placed: d and S k are laid. -/
theorem Ins.place {S : Nat → ByteArray} {d : ByteArray} {k m : Nat} {F : Nat → ByteArray} (h : Ins S d k false m F) (hb : lt d (S k) = true) :
    Ins S d (k + 1) true (m + 2) (ins S d k) ∧ (List.range (m + 2)).map (ins S d k) = (List.range m).map F ++ [d] ++ [S k] := by
  rcases h with ⟨_, rfl, rfl, h4⟩ | ⟨h, _⟩
  · refine ⟨.inr ⟨rfl, rfl, m, by omega, rfl, hb, h4⟩, ?_⟩
    rw [range_snoc, range_snoc, ins_at, ins_gt (by omega), show m + 1 - 1 = m from by omega]
    congr 2
    apply List.map_congr_left
    intro t ht
    rw [ins_lt (by simpa using ht)]
  · cases h

theorem Ins.finish {S : Nat → ByteArray} {d : ByteArray} {n : Nat} {b : Bool} {m : Nat} {F : Nat → ByteArray} (h : Ins S d n b m F) (hasc : Asc S n) (hn : 0 < n) (h0 : lt (S 0) d = true) (hl : lt d (S (n - 1)) = true) (hne : ∀ i, i < n → S i ≠ d) :
    b = true ∧ m = n + 1 ∧ ∃ p, F = ins S d p ∧ Placed S n d p := by
  rcases h with ⟨rfl, rfl, rfl, h4⟩ | ⟨rfl, rfl, p, h3, rfl, h5, h6⟩
  · have := h4 (m - 1) (by omega); rw [hl] at this; cases this
  · exact ⟨rfl, rfl, p, rfl, placed_of hasc h3 h0 h5 h6 hne⟩

/-- A date strictly between the first and the last that is none of them lies in a gap. -/
theorem gap_mid {S : Nat → ByteArray} {d : ByteArray} (h0 : lt (S 0) d = true) : ∀ m, lt d (S m) = true → (∀ i, i ≤ m → S i ≠ d) → Gap S (m + 1) d
  | 0, h, _ => by rw [lt_asymm h0] at h; cases h
  | m + 1, h, hne => by
    cases hm : lt d (S m) with
    | true =>
      obtain ⟨i, hi, h1, h2⟩ := gap_mid h0 m hm (fun i hi => hne i (by omega))
      exact ⟨i, by omega, h1, h2⟩
    | false => exact ⟨m, by omega, lt_total hm (fun e => hne m (by omega) e.symm), h⟩

theorem gap_in {S : Nat → ByteArray} {d : ByteArray} {n : Nat} (hn : 0 < n) (h0 : lt (S 0) d = true) (h1 : lt d (S (n - 1)) = true) (hne : ∀ i, i < n → S i ≠ d) : Gap S n d := by
  have := gap_mid h0 (n - 1) h1 (fun i hi => hne i (by omega))
  rwa [show n - 1 + 1 = n from by omega] at this

end Go.Proofs.Qxb6601056a
