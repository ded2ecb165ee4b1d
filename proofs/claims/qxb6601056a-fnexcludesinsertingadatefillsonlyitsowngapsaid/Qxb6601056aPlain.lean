/-
  THE PLAIN LAWS: strings in their byte order, an ascending row of strings, a gap between two neighbours. No Go in sight but the model's own order on bytes.
-/
import GoSem.Op.String
import Derived.Laws.Strings
namespace Go.Proofs.Qxb6601056a

/-! ### The order on bytes -/
theorem bl_irrefl : ∀ l : List UInt8, Op.bytesLess l l = false
  | [] => rfl
  | a :: l => by simp [Op.bytesLess, bl_irrefl l]

theorem bl_trans : ∀ a b c : List UInt8, Op.bytesLess a b = true → Op.bytesLess b c = true → Op.bytesLess a c = true
  | _, _, [], _, h => by simp [Op.bytesLess] at h
  | _, [], _ :: _, h, _ => by simp [Op.bytesLess] at h
  | [], _ :: _, _ :: _, _, _ => by simp [Op.bytesLess]
  | x :: a, y :: b, z :: c, h1, h2 => by
    simp only [Op.bytesLess, Bool.or_eq_true, Bool.and_eq_true, decide_eq_true_eq, beq_iff_eq] at h1 h2 ⊢
    rcases h1 with h1 | ⟨rfl, h1⟩
    · rcases h2 with h2 | ⟨rfl, h2⟩
      · left; exact UInt8.lt_trans h1 h2
      · left; exact h1
    · rcases h2 with h2 | ⟨rfl, h2⟩
      · left; exact h2
      · right; exact ⟨rfl, bl_trans a b c h1 h2⟩

theorem bl_total : ∀ a b : List UInt8, Op.bytesLess a b = false → a ≠ b → Op.bytesLess b a = true
  | [], [], _, h => absurd rfl h
  | [], _ :: _, h, _ => by simp [Op.bytesLess] at h
  | _ :: _, [], _, _ => by simp [Op.bytesLess]
  | x :: a, y :: b, h, hne => by
    simp only [Op.bytesLess, Bool.or_eq_false_iff, Bool.and_eq_false_iff, decide_eq_false_iff_not, Bool.or_eq_true, Bool.and_eq_true, decide_eq_true_eq, beq_iff_eq] at h ⊢
    obtain ⟨h1, h2⟩ := h
    by_cases e : x = y
    · subst e
      right
      refine ⟨rfl, bl_total a b ?_ (fun e => hne (by rw [e]))⟩
      rcases h2 with h2 | h2
      · simp at h2
      · exact h2
    · left
      have h3 : ¬ x.toNat < y.toNat := fun h => h1 (UInt8.lt_iff_toNat_lt.2 h)
      have h4 : x.toNat ≠ y.toNat := fun h => e (UInt8.toNat_inj.1 h)
      exact UInt8.lt_iff_toNat_lt.2 (by omega)

/-- Go's '<' on strings. -/
def lt (a b : ByteArray) : Bool := Op.bytesLess a.toList b.toList

theorem toList_inj {a b : ByteArray} (h : a.toList = b.toList) : a = b := by
  rw [ByteArray.toList_eq, ByteArray.toList_eq] at h
  cases a with
  | mk x => cases b with
    | mk y => exact congrArg ByteArray.mk (Array.toList_inj.1 h)

theorem lt_irrefl (a : ByteArray) : lt a a = false := bl_irrefl _
theorem lt_trans {a b c : ByteArray} (h1 : lt a b = true) (h2 : lt b c = true) : lt a c = true := bl_trans _ _ _ h1 h2
theorem lt_total {a b : ByteArray} (h1 : lt a b = false) (h2 : a ≠ b) : lt b a = true := bl_total _ _ h1 (fun e => h2 (toList_inj e))
theorem lt_asymm {a b : ByteArray} (h1 : lt a b = true) : lt b a = false := by
  cases h : lt b a with
  | false => rfl
  | true => have := lt_trans h1 h; rw [lt_irrefl] at this; cases this
theorem lt_ne {a b : ByteArray} (h1 : lt a b = true) : a ≠ b := by
  intro e; subst e; rw [lt_irrefl] at h1; cases h1

/-! ### An ascending row -/
/-- Strictly ascending, neighbour by neighbour, up to n. -/
def Asc (S : Nat → ByteArray) (n : Nat) : Prop := ∀ i, i + 1 < n → lt (S i) (S (i + 1)) = true

theorem Asc.lt {S : Nat → ByteArray} {n : Nat} (h : Asc S n) : ∀ (d i : Nat), i + d + 1 < n → Qxb6601056a.lt (S i) (S (i + d + 1)) = true
  | 0, i, hi => h i hi
  | d + 1, i, hi => lt_trans (Asc.lt h d i (by omega)) (h (i + d + 1) (by omega))

theorem Asc.less {S : Nat → ByteArray} {n : Nat} (h : Asc S n) {i j : Nat} (hij : i < j) (hj : j < n) : Qxb6601056a.lt (S i) (S j) = true := by
  have := Asc.lt h (j - i - 1) i (by omega)
  rwa [show i + (j - i - 1) + 1 = j from by omega] at this

/-- What lies below x in an ascending row is a head of it. -/
theorem Asc.head {S : Nat → ByteArray} {n : Nat} (h : Asc S n) (x : ByteArray) {a b : Nat} (hab : a ≤ b) (hb : b < n) (hx : Qxb6601056a.lt (S b) x = true) : Qxb6601056a.lt (S a) x = true := by
  rcases Nat.lt_or_ge a b with h1 | h1
  · exact lt_trans (h.less h1 hb) hx
  · have : a = b := by omega
    subst this; exact hx

/-- What a binary search hands back: k elements are less than x, the others are not. -/
structure Cutat (S : Nat → ByteArray) (n : Nat) (x : ByteArray) (k : Nat) : Prop where
  le : k ≤ n
  below : ∀ t, t < k → lt (S t) x = true
  above : ∀ t, k ≤ t → t < n → lt (S t) x = false

/-- Is the element at the cut the one that is looked for? -/
def hit (S : Nat → ByteArray) (n : Nat) (x : ByteArray) (k : Nat) : Bool := decide (k < n ∧ S k = x)

/-- What 'Excludes' answers, by the search's cut k. -/
def exc (S : Nat → ByteArray) (n : Nat) (x : ByteArray) (k : Nat) : Bool :=
  !(lt x (S 0)) && (lt x (S (n - 1)) || x.toList == (S (n - 1)).toList) && !(decide (k < n ∧ S k = x))

/-- The model: x lies strictly between two neighbours. -/
def Gap (S : Nat → ByteArray) (n : Nat) (x : ByteArray) : Prop := ∃ i, i + 1 < n ∧ lt (S i) x = true ∧ lt x (S (i + 1)) = true

theorem exc_iff {S : Nat → ByteArray} {n : Nat} {x : ByteArray} {k : Nat} (h : Asc S n) (hn : 0 < n) (hk : Cutat S n x k) : exc S n x k = true ↔ Gap S n x := by
  constructor
  · intro he
    simp only [exc, Bool.and_eq_true, Bool.not_eq_true', Bool.or_eq_true, beq_iff_eq, decide_eq_false_iff_not] at he
    obtain ⟨⟨h1, h2⟩, h3⟩ := he
    -- S 0 < x
    have hkn : k < n := by
      rcases Nat.lt_or_ge k n with hlt | hge
      · exact hlt
      · exfalso
        have hb := hk.below (n - 1) (by omega)
        rcases h2 with h2 | h2
        · rw [lt_asymm hb] at h2; cases h2
        · rw [toList_inj h2, lt_irrefl] at hb; cases hb
    have hSk : S k ≠ x := fun e => h3 ⟨hkn, e⟩
    have hk0 : 0 < k := by
      rcases Nat.eq_zero_or_pos k with e | e
      · exfalso
        subst e
        have ha := hk.above 0 (by omega) (by omega)
        have := lt_total ha hSk
        rw [h1] at this; cases this
      · exact e
    refine ⟨k - 1, by omega, hk.below _ (by omega), ?_⟩
    rw [show k - 1 + 1 = k from by omega]
    exact lt_total (hk.above k (by omega) hkn) hSk
  · rintro ⟨i, hi, h1, h2⟩
    have hk1 : k = i + 1 := by
      rcases Nat.lt_trichotomy k (i + 1) with hlt | he | hgt
      · have := hk.above i (by omega) (by omega); rw [h1] at this; cases this
      · exact he
      · have := hk.below (i + 1) (by omega); rw [lt_asymm h2] at this; cases this
    subst hk1
    have a1 : lt x (S 0) = false := by
      rcases Nat.eq_zero_or_pos i with e | e
      · subst e; exact lt_asymm h1
      · exact lt_asymm (lt_trans (h.less e (by omega)) h1)
    have a2 : lt x (S (n - 1)) = true := by
      rcases Nat.lt_or_ge (i + 1) (n - 1) with e | e
      · exact lt_trans h2 (h.less e (by omega))
      · rw [show n - 1 = i + 1 from by omega]; exact h2
    have a3 : ¬ (i + 1 < n ∧ S (i + 1) = x) := fun e => lt_ne h2 e.2.symm
    simp [exc, a1, a2, a3]

/-- The first law: 'Excludes' is the model. -/
theorem exc_gap {S : Nat → ByteArray} {n : Nat} {x : ByteArray} {k : Nat} (h : Asc S n) (hn : 0 < n) (hk : Cutat S n x k) (g : Bool) (hg : g = true ↔ Gap S n x) : exc S n x k = g := by
  rw [Bool.eq_iff_iff, exc_iff h hn hk, hg]

theorem not_gap_low {S : Nat → ByteArray} {n : Nat} {x : ByteArray} (h : Asc S n) (hx : lt x (S 0) = true) : ¬ Gap S n x := by
  rintro ⟨i, hi, h1, _⟩
  have h0 : lt x (S i) = true := by
    rcases Nat.eq_zero_or_pos i with e | e
    · subst e; exact hx
    · exact lt_trans hx (h.less e (by omega))
  rw [lt_asymm h0] at h1; cases h1

theorem not_gap_high {S : Nat → ByteArray} {n : Nat} {x : ByteArray} (h : Asc S n) (hx : lt x (S (n - 1)) = false) (hx2 : (x.toList == (S (n - 1)).toList) = false) : ¬ Gap S n x := by
  rintro ⟨i, hi, _, h2⟩
  have h3 : lt (S (n - 1)) x = true := lt_total hx (fun e => by rw [e] at hx2; simp at hx2)
  have h4 : lt x (S (n - 1)) = true := by
    rcases Nat.lt_or_ge (i + 1) (n - 1) with e | e
    · exact lt_trans h2 (h.less e (by omega))
    · rw [show n - 1 = i + 1 from by omega]; exact h2
  rw [hx] at h4; cases h4

theorem cut_gap {S : Nat → ByteArray} {n : Nat} {x : ByteArray} {k : Nat} (h : Asc S n) (hn : 0 < n) (hk : Cutat S n x k) (h1 : lt x (S 0) = false) (h2 : lt x (S (n - 1)) = true ∨ (x.toList == (S (n - 1)).toList) = true) :
    (!hit S n x k) = true ↔ Gap S n x := by
  unfold hit
  rw [← exc_iff h hn hk]
  have h3 : (lt x (S (n - 1)) || x.toList == (S (n - 1)).toList) = true := by
    rcases h2 with h2 | h2 <;> simp [h2]
  simp only [exc, h1, h3, Bool.not_false, Bool.true_and]

end Go.Proofs.Qxb6601056a
