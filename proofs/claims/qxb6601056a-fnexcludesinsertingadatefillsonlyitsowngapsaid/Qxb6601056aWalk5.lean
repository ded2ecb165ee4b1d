/-
  THE WALK OF THE SECOND LAW.
-/
import Derived.Test.Qxb6601056aWalksB
import Derived.Test.Qxb6601056aPlain2
namespace Go.Proofs.Qxb6601056a
open Go.RowKit

-- f14: zzBytes_FnExcludesInsertingADateFillsOnlyItsOwnGap
set_option maxHeartbeats 400000 in
theorem bytes14 (a : Option Addr) (b off n c : Nat) (S : Nat → ByteArray) (d q : ByteArray) (w : World) (ha : 0 < n → a = some ⟨b, off, none⟩) (hd : d.size ≤ maxLen) (hq : q.size ≤ maxLen)
    (hc : ∀ j, j < n → w.cell? ⟨b, off + j, none⟩ = some (.string (S j))) :
    Calls Try.prog 14 #[.slice a n c, .string d, .string q] w (RetB (fun r => r = true → ∀ j, j < n → (S j).size ≤ 1048576) w) := by
  unfold maxLen at hd hq
  by_cases hn : n ≤ 1048576
  · go_enter Try.func14, Try.ntmps14
    go_wp2
    go_loop [7, 8] (fun s i => ∃ (k : Nat) (z : Int), k ≤ n ∧ i = .int .i64 k ∧ s = .int .i64 z ∧ 0 ≤ z ∧ z ≤ 1048576 ∧ Hid (∀ j, j < k → (S j).size ≤ 1048576)) (fun _ i => n - (intOf i).toNat)
    case atStart => exact ⟨0, n, Nat.zero_le _, rfl, rfl, by omega, by omega, fun j hj => absurd hj (by omega)⟩
    case round =>
      obtain ⟨k, z, hk, rfl, rfl, hz0, hz1, hH⟩ := hrel
      by_cases hlt : k < n
      · have hck := hc k hlt
        have ha' := ha (by omega)
        subst ha'
        by_cases h1 : (S k).size ≤ 1048576
        · by_cases h2 : z + (S k).size ≤ 1048576
          · clear hc
            go_wp2
            go_round
            case rel => exact ⟨k + 1, z + (S k).size, by omega, by go_num, rfl, by omega, by omega, fun j hj => by
              rcases Nat.lt_or_ge j k with h | h
              · exact hH.out j h
              · rw [show j = k from by omega]; exact h1⟩
            case measure => simp [intOf]; omega
          · clear hc
            go_wp2
            go_ret
            exact ⟨false, rfl, rfl, fun h => by cases h⟩
        · clear hc
          go_wp2
          go_ret
          exact ⟨false, rfl, rfl, fun h => by cases h⟩
      · have hkn : k = n := by omega
        subst hkn
        clear hc ha
        by_cases h1 : d.size ≤ 1048576
        · by_cases h2 : z + d.size ≤ 1048576
          · by_cases h3 : q.size ≤ 1048576
            · by_cases h4 : z + d.size + q.size ≤ 1048576
              · go_wp2
                go_ret
                exact ⟨true, rfl, rfl, fun _ => hH.out⟩
              · go_wp2
                go_ret
                exact ⟨false, rfl, rfl, fun h => by cases h⟩
            · go_wp2
              go_ret
              exact ⟨false, rfl, rfl, fun h => by cases h⟩
          · go_wp2
            go_ret
            exact ⟨false, rfl, rfl, fun h => by cases h⟩
        · go_wp2
          go_ret
          exact ⟨false, rfl, rfl, fun h => by cases h⟩
  · clear hc ha
    go_enter Try.func14, Try.ntmps14
    go_wp2
    go_ret
    exact ⟨false, rfl, rfl, fun h => by cases h⟩

/-- The calendar's block, over a row of n strings at block g. -/
abbrev calO (g n c : Nat) : Obj := .cells #[.slice none 0 0, .slice (some ⟨g, 0, none⟩) n c] 33

/-- What holds at the head of every round of the loop that lays the grown row, at block B. -/
def GrowRel (S : Nat → ByteArray) (d : ByteArray) (n B : Nat) (wc : World) (g pl i : Value) (wr : World) : Prop :=
  ∃ (k m : Nat) (F : Nat → ByteArray) (bb : Bool), k ≤ n ∧ i = .int .i64 k ∧ pl = .bool bb ∧ g = .slice (some ⟨B, 0, none⟩) m (n + 1) ∧
    wr.ownsRow B 9 1 (.slice (some ⟨B, 0, none⟩) m (n + 1)) m ((List.range m).map fun j => .string (F j)) ∧ Below B wc wr ∧ Ins S d k bb m F

theorem grow_below {B : Nat} {wc wr w3 : World} {o : Obj} (hB : Below B wc wr) (hs : B ≤ wr.heap.size) (hg : (wr.alloc o).grownBy w3 (some B)) : Below B wc w3 :=
  (hB.alloc hs o).grown hg (by simp; omega) (fun k h => by cases h; exact Nat.le_refl _)

theorem grow_step {S : Nat → ByteArray} {d : ByteArray} {n B k m : Nat} {F : Nat → ByteArray} {bb : Bool} {wc wr w3 : World} {o : Obj} (h : Ins S d k bb m F) (hb : bb = true ∨ lt d (S k) = false) (hk : k < n) (hB : Below B wc wr) (hs : B ≤ wr.heap.size)
    (hown : w3.ownsRow B 9 1 (.slice (some ⟨B, 0, none⟩) (m + 1) (n + 1)) (m + 1) (((List.range m).map fun j => Value.string (F j)) ++ [.string (S k)])) (hg : (wr.alloc o).grownBy w3 (some B)) :
    GrowRel S d n B wc (.slice (some ⟨B, 0, none⟩) (m + 1) (n + 1)) (.bool bb) (.int .i64 ((k : Int) + 1)) w3 := by
  obtain ⟨h1, h2⟩ := h.step hb
  refine ⟨k + 1, m + 1, F, bb, by omega, by go_num, rfl, rfl, ?_, grow_below hB hs hg, h1⟩
  rw [range_snoc, h2]; exact hown

theorem grow_place {S : Nat → ByteArray} {d : ByteArray} {n B k m : Nat} {F : Nat → ByteArray} {wc wr w3 w4 : World} {o o' : Obj} (h : Ins S d k false m F) (hb : lt d (S k) = true) (hk : k < n) (hB : Below B wc wr) (hs : B ≤ wr.heap.size)
    (hg : (wr.alloc o).grownBy w3 (some B))
    (hown : w4.ownsRow B 9 1 (.slice (some ⟨B, 0, none⟩) (m + 1 + 1) (n + 1)) (m + 1 + 1) (((List.range m).map fun j => Value.string (F j)) ++ [.string d] ++ [.string (S k)])) (hg' : (w3.alloc o').grownBy w4 (some B)) :
    GrowRel S d n B wc (.slice (some ⟨B, 0, none⟩) (m + 1 + 1) (n + 1)) (.bool true) (.int .i64 ((k : Int) + 1)) w4 := by
  obtain ⟨h1, h2⟩ := h.place hb
  have b3 := grow_below hB hs hg
  have s3 : B ≤ w3.heap.size := by have := hg.size; simp at this; omega
  refine ⟨k + 1, m + 2, ins S d k, true, by omega, by go_num, rfl, rfl, ?_, grow_below b3 s3 hg', h1⟩
  have e : ((List.range (m + 2)).map fun j => Value.string (ins S d k j)) = ((List.range m).map fun j => Value.string (F j)) ++ [.string d] ++ [.string (S k)] := by
    have := congrArg (List.map Value.string) h2
    simpa [List.map_append, List.map_map, Function.comp_def] using this
  rw [e]; exact hown

theorem own_cells {w : World} {B n : Nat} {F : Nat → ByteArray} (h : w.ownsRow B 9 1 (.slice (some ⟨B, 0, none⟩) n n) n ((List.range n).map fun j => .string (F j))) : ∀ j, j < n → w.cell? ⟨B, 0 + j, none⟩ = some (.string (F j)) := by
  intro j hj
  rw [Nat.zero_add, h.cellAt j (by omega)]
  simp [hj]

/-- The law's last line, by the three answers. -/
theorem last_eq {S : Nat → ByteArray} {n : Nat} {d q : ByteArray} {p : Nat} (hP : Placed S n d p) {r2 r3 : Bool} (h2 : r2 = true ↔ Gap S n q) (h3 : r3 = true ↔ Gap (ins S d p) (n + 1) q) :
    r3 = (r2 && !(q.toList == d.toList)) := by
  rw [Bool.eq_iff_iff, h3, hP.gaps, ← h2, Bool.and_eq_true]
  constructor
  · rintro ⟨h, hne⟩
    exact ⟨h, by simp only [Bool.not_eq_true', beq_eq_false_iff_ne]; exact fun e => hne (toList_inj e)⟩
  · rintro ⟨h, hne⟩
    exact ⟨h, fun e => by subst e; simp at hne⟩

-- f5: FnExcludesInsertingADateFillsOnlyItsOwnGap
set_option maxHeartbeats 2000000 in
theorem walk5 (a : Option Addr) (b off n c : Nat) (S : Nat → ByteArray) (d q : ByteArray) (w : World) (ha : 0 < n → a = some ⟨b, off, none⟩) (hb : 0 < n → b < w.heap.size) (hd : d.size ≤ maxLen) (hq : q.size ≤ maxLen) (hm : n ≤ maxLen)
    (hc : ∀ j, j < n → w.cell? ⟨b, off + j, none⟩ = some (.string (S j))) :
    Calls Try.prog 5 #[.slice a n c, .string d, .string q] w fun e w' => e = .returned (.bool true) ∧ Below w.heap.size w w' := by
  have HC : Hid (∀ j, j < n → w.cell? ⟨b, off + j, none⟩ = some (.string (S j))) := hc
  have HD : Hid (d.size ≤ maxLen) := hd
  have HQ : Hid (q.size ≤ maxLen) := hq
  unfold maxLen at hd hm hq
  clear hc
  go_enter Try.func5, Try.ntmps5
  go_wp2_with fail
  refine (bytes14 a b off n c S d q _ ha HD.out HQ.out HC.out).mono ?_
  rintro e w1 ⟨r, rfl, rfl, hr⟩
  cases r with
  | false =>
    clear hr
    go_wp2_with fail
    go_ret
    exact ⟨rfl, Below.refl _ _⟩
  | true =>
    have HS : Hid (∀ j, j < n → (S j).size ≤ 1048576) := hr rfl
    clear hr
    by_cases hn : n ≤ 65536
    rotate_left
    · go_wp2_with fail
      go_ret
      exact ⟨rfl, Below.refl _ _⟩
    by_cases hd1 : d.size ≤ 1048576
    rotate_left
    · have hd2 : decide ((1048576 : Int) < (d.size : Int)) = true := decide_eq_true (by omega)
      go_wp2_with fail
      go_ret
      exact ⟨rfl, Below.refl _ _⟩
    by_cases hq1 : q.size ≤ 1048576
    rotate_left
    · go_wp2_with fail
      go_ret
      exact ⟨rfl, Below.refl _ _⟩
    go_wp2_with fail
    refine (bytes7 a b off n c S _ ha hn HC.out HS.out).mono ?_
    rintro e w1 ⟨r7, rfl, rfl, hr1, hr2⟩
    by_cases h7 : r7 + d.size + q.size ≤ 1048576
    rotate_left
    · go_wp2_with fail
      go_ret
      exact ⟨rfl, Below.refl _ _⟩
    by_cases hn0 : n = 0
    · go_wp2_with fail
      go_ret
      exact ⟨rfl, Below.refl _ _⟩
    have ha' := ha (by omega)
    subst ha'
    have hbb := hb (by omega)
    clear ha hb
    go_wp2_with fail
    refine (asc8 b off n c S _ (by omega) hn HC.out).mono ?_
    rintro e w1 ⟨r8, q8, rfl, rfl, hr8⟩
    cases r8 with
    | false =>
      clear hr8
      go_wp2_with fail
      go_ret
      exact ⟨rfl, below_drewN (Below.refl _ _) _⟩
    | true =>
      have HA : Hid (Asc S n) := hr8 rfl
      clear hr8
      have hc0 : w.cell? ⟨b, off, none⟩ = some (.string (S 0)) := HC.out 0 (by omega)
      have hc1 := HC.out (n - 1) (by omega)
      have i3 : ((n : Int) - 1).toNat = n - 1 := by omega
      cases hx : Op.bytesLess (S 0).toList d.toList with
      | false =>
        go_wp2_with fail
        go_ret
        exact ⟨rfl, below_drewN (Below.refl _ _) _⟩
      | true =>
        have HX : Hid (lt (S 0) d = true) := hx
        cases hy : Op.bytesLess d.toList (S (n - 1)).toList with
        | false =>
          go_wp2_with fail
          go_ret
          exact ⟨rfl, below_drewN (Below.refl _ _) _⟩
        | true =>
          have HY : Hid (lt d (S (n - 1)) = true) := hy
          go_wp2_with fail
          refine (mem15 b off n c S d _ hn (by exact HC.out)).mono ?_
          rintro e w1 ⟨r15, rfl, rfl, hr15⟩
          cases r15 with
          | true =>
            clear hr15
            go_wp2_with fail
            go_ret
            exact ⟨rfl, below_drewN (Below.refl _ _) _⟩
          | false =>
            have HN : Hid (∀ i, i < n → S i ≠ d) := hr15 rfl
            clear hr15 hx hy hc0 hc1
            go_wp2_with fail
            refine (clone9 b off n c S _ hn (by exact hbb) (by exact HC.out)).mono ?_
            rintro e w1 ⟨rfl, hrow, hB⟩
            have HR : Hid (w1.rowIs w.heap.size 9 n (fun i => .string (S i))) := hrow
            have HB : Hid (Below w.heap.size w w1) := (below_drewN (Below.refl _ _) _).trans hB
            clear hrow hB
            go_wp2_with fail
            refine (new10 w.heap.size n n _).mono ?_
            rintro e w2 ⟨rfl, rfl⟩
            go_wp2_with fail
            refine (exc11 w1.heap.size w.heap.size 0 n n S d _ (by omega) (by omega) (by simp) (fun j hj => by rw [Nat.zero_add]; exact (HR.out.alloc _).cell hj) HA.out).mono ?_
            rintro e w2 ⟨r11, q11, rfl, rfl, h11⟩
            cases r11 with
            | false =>
              exact absurd (h11.2 (gap_in (by omega) HX.out HY.out HN.out)) (by simp)
            | true =>
              clear h11
              obtain ⟨i0, hi, hz0, hz1, hz2⟩ := info_parts Try.info9
              go_wp2_with (at_make; refine wpList_make_own _ rfl (.const (.int .i64 0)) (.tmp 73) 22 rfl (w1.heap.size + 1) 9 i0 (.string ⟨#[]⟩) 1 Try.underlying22 hi hz0 hz1 .i64 .i64 _ (n + 1) rfl rfl ?hC ?b2 ?b3 ?b4 ?_)
              case hC => simp
              case b2 => rw [hz2]; omega
              case b3 => unfold maxLen; omega
              case b4 => simp
              intro w2 hown hgrow
              have HBw : Hid (Below (w1.heap.size + 1) (w1.alloc (calO w.heap.size n n)) w2) := (below_drewN (Below.refl _ _) _).grown hgrow (by simp) (fun k h => by cases h)
              have HOw : Hid (w2.ownsRow (w1.heap.size + 1) 9 1 (.slice (some ⟨w1.heap.size + 1, 0, none⟩) 0 (n + 1)) 0 []) := hown
              clear hgrow hown
              go_wp2
              go_loopw [8, 9, 10] (fun g pl i wr => GrowRel S d n (w1.heap.size + 1) (w1.alloc (calO w.heap.size n n)) g pl i wr) (fun _ _ i _ => n - (intOf i).toNat)
              case atStart => exact ⟨0, 0, S, false, Nat.zero_le _, rfl, rfl, rfl, HOw.out, HBw.out, Ins.start _ _⟩
              case round =>
                obtain ⟨k, m, F, bb, hk, rfl, rfl, rfl, hown, hBr, hI⟩ := hrel
                have HBr : Hid (Below (w1.heap.size + 1) (w1.alloc (calO w.heap.size n n)) wr) := hBr
                have HI : Hid (Ins S d k bb m F) := hI
                have hmk := hI.le
                clear hBr hI
                by_cases hlt : k < n
                · have hck : wr.cell? ⟨w.heap.size, k, none⟩ = some (.string (S k)) := (HBr.out.cell (by have := HB.out.size; simp; omega)).trans ((HR.out.alloc _).cell hlt)
                  have hs : w1.heap.size + 1 ≤ wr.heap.size := by have := HBr.out.size; simpa using this
                  cases bb with
                  | true =>
                    go_wp2_with (at_builtin; refine wpList_append_fits _ rfl (.tmp 95) (.tmp 100) 22 rfl (w1.heap.size + 1) 9 i0 1 Try.underlying22 hi hz1 (w1.heap.size + 1) m (n + 1) _ rfl (hown.alloc _) ⟨wr.heap.size, 0, none⟩ 1 1 [.string (S k)] rfl rfl (cell_one_new _ _ _) (by simp [Value.oneCell']) (by omega) ?_; intro w3 hown3 hgrow3)
                    go_roundw
                    case rel => exact grow_step HI.out (.inl rfl) hlt HBr.out hs hown3 hgrow3
                    case measure => simp [intOf]; omega
                  | false =>
                    have hmk2 := HI.out.le_false
                    have hmk3 : m ≤ k := by omega
                    clear hmk2
                    cases hx : Op.bytesLess d.toList (S k).toList with
                    | false =>
                      have HK : Hid (lt d (S k) = false) := hx
                      go_wp2_with (at_builtin; refine wpList_append_fits _ rfl (.tmp 95) (.tmp 100) 22 rfl (w1.heap.size + 1) 9 i0 1 Try.underlying22 hi hz1 (w1.heap.size + 1) m (n + 1) _ rfl (hown.alloc _) ⟨wr.heap.size, 0, none⟩ 1 1 [.string (S k)] rfl rfl (cell_one_new _ _ _) (by simp [Value.oneCell']) (by omega) ?_; intro w3 hown3 hgrow3)
                      go_roundw
                      case rel => exact grow_step HI.out (.inr HK.out) hlt HBr.out hs hown3 hgrow3
                      case measure => simp [intOf]; omega
                    | true =>
                      have HK : Hid (lt d (S k) = true) := hx
                      go_wp2_with (at_builtin; refine wpList_append_fits _ rfl (.tmp 91) (.tmp 93) 22 rfl (w1.heap.size + 1) 9 i0 1 Try.underlying22 hi hz1 (w1.heap.size + 1) m (n + 1) _ rfl (hown.alloc _) ⟨wr.heap.size, 0, none⟩ 1 1 [.string d] rfl rfl (cell_one_new _ _ _) (by simp [Value.oneCell']) (by omega) ?_)
                      intro w3 hown3 hgrow3
                      have hB3 := grow_below HBr.out hs hgrow3
                      have hck3 : w3.cell? ⟨w.heap.size, k, none⟩ = some (.string (S k)) := (hB3.cell (by have := HB.out.size; simp; omega)).trans ((HR.out.alloc _).cell hlt)
                      have HG3 : Hid _ := hgrow3
                      clear hck hB3 hgrow3
                      go_wp2_with (at_builtin; refine wpList_append_fits _ rfl (.tmp 95) (.tmp 100) 22 rfl (w1.heap.size + 1) 9 i0 1 Try.underlying22 hi hz1 (w1.heap.size + 1) (m + 1) (n + 1) _ rfl (hown3.alloc _) ⟨w3.heap.size, 0, none⟩ 1 1 [.string (S k)] rfl rfl (cell_one_new _ _ _) (by simp [Value.oneCell']) (by omega) ?_; intro w4 hown4 hgrow4)
                      go_roundw
                      case rel => exact grow_place HI.out HK.out hlt HBr.out hs HG3.out hown4 hgrow4
                      case measure => simp [intOf]; omega
                · obtain rfl : k = n := by omega
                  obtain ⟨rfl, rfl, p, rfl, hP⟩ := HI.out.finish HA.out (by omega) HX.out HY.out HN.out
                  have HP : Hid (Placed S k d p) := hP
                  have HO : Hid (wr.ownsRow (w1.heap.size + 1) 9 1 (.slice (some ⟨w1.heap.size + 1, 0, none⟩) (k + 1) (k + 1)) (k + 1) ((List.range (k + 1)).map fun j => .string (ins S d p j))) := hown
                  clear hP hown hi hz0 hz1 hz2 HOw HBw
                  go_wp2_with fail
                  refine (new10 (w1.heap.size + 1) (k + 1) (k + 1) _).mono ?_
                  rintro e w3 ⟨rfl, rfl⟩
                  go_wp2_with fail
                  refine (exc11 wr.heap.size (w1.heap.size + 1) 0 (k + 1) (k + 1) (ins S d p) d _ (by omega) (by omega) (by simp) (own_cells (HO.out.alloc _)) (HP.out.asc HA.out)).mono ?_
                  rintro e w3 ⟨r1, q1, rfl, rfl, h1⟩
                  cases r1 with
                  | true => exact absurd (h1.1 rfl) HP.out.not_gap
                  | false =>
                    clear h1
                    have hs : w1.heap.size + 1 ≤ wr.heap.size := by have := HBr.out.size; simpa using this
                    have HZ : Hid (Below (w1.heap.size + 1) (w1.alloc (calO w.heap.size k k)) (wr.alloc (calO (w1.heap.size + 1) (k + 1) (k + 1)))) := HBr.out.alloc hs _
                    have HZ1 : Hid ((wr.alloc (calO (w1.heap.size + 1) (k + 1) (k + 1))).cell? ⟨w1.heap.size, 1, none⟩ = some (.slice (some ⟨w.heap.size, 0, none⟩) k k)) := (HZ.out.cell (by simp)).trans (by simp)
                    have HZ2 : Hid (∀ j, j < k → (wr.alloc (calO (w1.heap.size + 1) (k + 1) (k + 1))).cell? ⟨w.heap.size, 0 + j, none⟩ = some (.string (S j))) := fun j hj => by
                      rw [Nat.zero_add]
                      exact (HZ.out.cell (by have := HB.out.size; simp; omega)).trans ((HR.out.alloc _).cell hj)
                    have HZ3 : Hid (Below w.heap.size w (wr.alloc (calO (w1.heap.size + 1) (k + 1) (k + 1)))) := (HB.out.alloc HB.out.size _).trans (HZ.out.mono (by have := HB.out.size; omega))
                    clear hs
                    go_wp2_with fail
                    refine (exc11 w1.heap.size w.heap.size 0 k k S q _ (by omega) (by omega) (by exact HZ1.out) (by exact HZ2.out) HA.out).mono ?_
                    rintro e w3 ⟨r2, q2, rfl, rfl, h2⟩
                    have H2 : Hid (r2 = true ↔ Gap S k q) := h2
                    clear h2
                    cases hqd : (q.toList == d.toList)
                    all_goals
                      cases r2
                      all_goals
                        go_wp2_with fail
                        refine (exc11 wr.heap.size (w1.heap.size + 1) 0 (k + 1) (k + 1) (ins S d p) q _ (by omega) (by omega) (by simp) (by exact own_cells (HO.out.alloc _)) (HP.out.asc HA.out)).mono ?_
                        rintro e w3 ⟨r3, q3, rfl, rfl, h3⟩
                        first | have h4 := last_eq HP.out H2.out h3 | have h4 := last_eq (r2 := true) HP.out (by simpa using H2.out) h3
                        rw [hqd] at h4
                        simp only [Bool.and_true, Bool.and_false, Bool.not_true, Bool.not_false] at h4
                        subst h4
                        clear h3
                        go_wp2_with fail
                        go_ret
                        exact ⟨rfl, below_drewN HZ3.out _⟩

end Go.Proofs.Qxb6601056a
