/-
  THE WALK OF 'zzEncode'.
-/
import Derived.Test.Qxb6601098aWalksC
import Derived.Laws.BitsAllLaws
import Derived.Laws.Bits
namespace Go.Proofs.Qxb6601098a
open Go.RowKit

theorem Try.info5 : (Try.prog.info? 5).map (fun i => (i.zero, i.size, i.bytes)) = some (some (.int .u8 0), 1, 1) := by kernel_rfl

/-- The first k code points. -/
def csTo (x : Nat → Int) (k : Nat) : List Nat := (List.range k).map fun j => (x j).toNat
/-- Bytes as the cells of a slice. -/
def cellsOf (l : List Nat) : List Value := l.map fun b : Nat => .int .u8 (b : Int)

def EncRel (x : Nat → Int) (n : Nat) (w : World) (s i : Value) (wr : World) : Prop :=
  ∃ k : Nat, k ≤ n ∧ i = .int .i64 k ∧ s = .slice (some ⟨w.heap.size, 0, none⟩) (encL (csTo x k)).length (4 * n) ∧ wr.ownsRow w.heap.size 5 1 (.slice (some ⟨w.heap.size, 0, none⟩) (encL (csTo x k)).length (4 * n)) (encL (csTo x k)).length (cellsOf (encL (csTo x k))) ∧ Below w.heap.size w wr

def Encoded (x : Nat → Int) (n : Nat) (w : World) (e : Ending) (w' : World) : Prop :=
  e = .returned (.string ⟨((encL (csTo x n)).map UInt8.ofNat).toArray⟩) ∧ Below w.heap.size w w'

/-! ### The bits of an int32 -/
theorem i32_and_nat (z : Nat) (h : z < 1114112) : bits .and .i32 (z : Int) 63 = ((z % 64 : Nat) : Int) := by
  show IntKind.i32.wrap ((BitVec.ofInt 32 (z : Int) &&& BitVec.ofInt 32 ((63 : Nat) : Int)).toNat : Int) = _
  rw [BitVec.toNat_and, ofInt_u32 z (by omega), ofInt_u32 63 (by omega), show (63 : Nat) = 2 ^ 6 - 1 from rfl, Nat.and_two_pow_sub_one_eq_mod]
  simp only [IntKind.wrap, IntKind.bits, IntKind.signed]
  simp
  omega
theorem i32_or_nat (A i r : Nat) (hA : A < 256) (hm : A % 2 ^ i = 0) (hr : r < 2 ^ i) (hr2 : r < 256) : bits .or .i32 (A : Int) (r : Int) = ((A + r : Nat) : Int) := by
  show IntKind.i32.wrap ((BitVec.ofInt 32 (A : Int) ||| BitVec.ofInt 32 (r : Int)).toNat : Int) = _
  rw [BitVec.toNat_or, ofInt_u32 A (by omega), ofInt_u32 r (by omega), nat_join i A r hm hr]
  simp only [IntKind.wrap, IntKind.bits, IntKind.signed]
  simp
  omega
theorem i32_and (t : Int) (h0 : 0 ≤ t) (h : t < 1114112) : bits .and .i32 t 63 = t % 64 := by
  obtain ⟨z, rfl⟩ := Int.eq_ofNat_of_zero_le h0
  rw [i32_and_nat z (by omega)]; omega
theorem i32_or128 (t : Int) (h0 : 0 ≤ t) (h : t < 64) : bits .or .i32 128 t = 128 + t := by
  obtain ⟨z, rfl⟩ := Int.eq_ofNat_of_zero_le h0
  have := i32_or_nat 128 6 z (by omega) (by decide) (by omega) (by omega)
  rw [show ((128 : Nat) : Int) = 128 from rfl] at this
  rw [this]; omega
theorem i32_or192 (t : Int) (h0 : 0 ≤ t) (h : t < 32) : bits .or .i32 192 t = 192 + t := by
  obtain ⟨z, rfl⟩ := Int.eq_ofNat_of_zero_le h0
  have := i32_or_nat 192 5 z (by omega) (by decide) (by omega) (by omega)
  rw [show ((192 : Nat) : Int) = 192 from rfl] at this
  rw [this]; omega
theorem i32_or224 (t : Int) (h0 : 0 ≤ t) (h : t < 16) : bits .or .i32 224 t = 224 + t := by
  obtain ⟨z, rfl⟩ := Int.eq_ofNat_of_zero_le h0
  have := i32_or_nat 224 4 z (by omega) (by decide) (by omega) (by omega)
  rw [show ((224 : Nat) : Int) = 224 from rfl] at this
  rw [this]; omega
theorem i32_or240 (t : Int) (h0 : 0 ≤ t) (h : t < 8) : bits .or .i32 240 t = 240 + t := by
  obtain ⟨z, rfl⟩ := Int.eq_ofNat_of_zero_le h0
  have := i32_or_nat 240 3 z (by omega) (by decide) (by omega) (by omega)
  rw [show ((240 : Nat) : Int) = 240 from rfl] at this
  rw [this]; omega

/-! ### The bytes of one code point, as cells -/
theorem cells1 (z : Nat) (h : z < 128) : cellsOf (e1 z) = [.int .u8 (z : Int)] := by simp [e1, h, cellsOf]
theorem cells2 (z : Nat) (h1 : ¬ z < 128) (h : z < 2048) : cellsOf (e1 z) = [.int .u8 (192 + (z : Int) / 64), .int .u8 (128 + (z : Int) % 64)] := by simp [e1, h1, h, cellsOf]
theorem cells3 (z : Nat) (h1 : ¬ z < 128) (h2 : ¬ z < 2048) (h : z < 65536) : cellsOf (e1 z) = [.int .u8 (224 + (z : Int) / 4096), .int .u8 (128 + (z : Int) / 64 % 64), .int .u8 (128 + (z : Int) % 64)] := by simp [e1, h1, h2, h, cellsOf]
theorem cells4 (z : Nat) (h1 : ¬ z < 128) (h2 : ¬ z < 2048) (h3 : ¬ z < 65536) : cellsOf (e1 z) = [.int .u8 (240 + (z : Int) / 262144), .int .u8 (128 + (z : Int) / 4096 % 64), .int .u8 (128 + (z : Int) / 64 % 64), .int .u8 (128 + (z : Int) % 64)] := by simp [e1, h1, h2, h3, cellsOf]

theorem cell_news (w : World) (l : List Value) (t : TypeId) (j : Nat) (u : Value) (h : l[j]? = some u) : (w.alloc (.cells l.toArray t)).cell? ((⟨w.heap.size, 0, none⟩ : Addr).add j) = some u := by
  have e : (⟨w.heap.size, 0, none⟩ : Addr).add j = ⟨w.heap.size, j, none⟩ := by simp only [Addr.add, Nat.zero_add]; split <;> simp_all
  rw [e, World.cell?_alloc_mark]
  simpa using h

theorem cellsOf_append (a b : List Nat) : cellsOf (a ++ b) = cellsOf a ++ cellsOf b := by simp [cellsOf]
theorem csTo_succ (x : Nat → Int) (k : Nat) : csTo x (k + 1) = csTo x k ++ [(x k).toNat] := by
  unfold csTo; rw [List.range_succ, List.map_append]; rfl
theorem encTo_succ (x : Nat → Int) (k : Nat) : encL (csTo x (k + 1)) = encL (csTo x k) ++ e1 (x k).toNat := by
  rw [csTo_succ, encL_append]; simp [encL]
theorem encTo_le (x : Nat → Int) (k : Nat) : (encL (csTo x k)).length ≤ 4 * k := by
  have := (encL_len (csTo x k)).2
  simpa [csTo] using this

theorem e1_small (c : Nat) (h : okRune c) : ∀ b ∈ e1 c, b < 256 := by
  have hb : c ≤ 1114111 := by unfold okRune at h; omega
  unfold e1
  intro b hm
  split at hm
  · simp at hm; omega
  · split at hm
    · simp at hm; omega
    · split at hm
      · simp at hm; omega
      · simp at hm; omega
theorem encL_small : ∀ cs : List Nat, (∀ c ∈ cs, okRune c) → ∀ b ∈ encL cs, b < 256
  | [], _, b, h => by simp [encL] at h
  | c :: cs, hok, b, h => by
    rcases List.mem_append.1 h with h1 | h1
    · exact e1_small c (hok c (by simp)) b h1
    · exact encL_small cs (fun d hd => hok d (by simp [hd])) b h1

/-- A round's end. -/
theorem enc_step {x : Nat → Int} {n k z m len : Nat} {w wr w3 : World} {o : Obj} {news : List Value} (hk : k < n) (hz : x k = z) (hB : Below w.heap.size w wr) (hlen : (encL (csTo x k)).length = len) (hnews : cellsOf (e1 z) = news) (hm : news.length = m)
    (hown : w3.ownsRow w.heap.size 5 1 (.slice (some ⟨w.heap.size, 0, none⟩) (len + m) (4 * n)) (len + m) (cellsOf (encL (csTo x k)) ++ news)) (hg : (wr.alloc o).grownBy w3 (some w.heap.size)) :
    EncRel x n w (.slice (some ⟨w.heap.size, 0, none⟩) (len + m) (4 * n)) (.int .i64 ((k : Int) + 1)) w3 := by
  have hs := hB.size
  have e : encL (csTo x (k + 1)) = encL (csTo x k) ++ e1 z := by rw [encTo_succ, hz]; simp
  have el : (encL (csTo x (k + 1))).length = len + m := by
    rw [e, List.length_append, hlen, ← hm, ← hnews]; simp [cellsOf]
  refine ⟨k + 1, by omega, by go_num, by rw [el], ?_, (hB.alloc hs o).grown hg (by simp; omega) (fun k h => by cases h; exact Nat.le_refl _)⟩
  rw [el, e, cellsOf_append, hnews]; exact hown

set_option maxHeartbeats 1000000 in
set_option maxRecDepth 10000000 in
theorem enc11 (a : Option Addr) (b off n c : Nat) (x : Nat → Int) (w : World) (hn : n ≤ 1024) (ha : 0 < n → a = some ⟨b, off, none⟩) (hb : 0 < n → b < w.heap.size) (hc : ∀ j, j < n → w.cell? ⟨b, off + j, none⟩ = some (.int .i32 (x j)))
    (hok : ∀ j, j < n → okI (x j)) : Calls Try.prog 11 #[.slice a n c] w (Encoded x n w) := by
  have HC : Hid (∀ j, j < n → w.cell? ⟨b, off + j, none⟩ = some (.int .i32 (x j))) := hc
  have HO : Hid (∀ j, j < n → okI (x j)) := hok
  clear hc hok
  obtain ⟨i0, hi, hz0, hz1, hz2⟩ := info_parts Try.info5
  go_enter Try.func11, Try.ntmps11
  go_wp2_with (at_make; refine wpList_make_own _ rfl (.const (.int .i64 0)) (.tmp 8) 35 rfl w.heap.size 5 i0 (.int .u8 0) 1 Try.underlying35 hi hz0 hz1 .i64 .i64 _ (4 * n) rfl rfl ?hC ?b2 ?b3 ?b4 ?_)
  case hC => simp
  case b2 => rw [hz2]; omega
  case b3 => unfold maxLen; omega
  case b4 => simp
  intro w1 hown hgrow
  have HOw : Hid (w1.ownsRow w.heap.size 5 1 (.slice (some ⟨w.heap.size, 0, none⟩) 0 (4 * n)) 0 []) := hown
  have HBw : Hid (Below w.heap.size w w1) := (Below.refl _ _).grown hgrow (Nat.le_refl _) (fun k h => by cases h)
  clear hown hgrow
  go_wp2
  go_loopw [3, 4] (fun s i wr => EncRel x n w s i wr) (fun _ i _ => n - (intOf i).toNat)
  case atStart => exact ⟨0, Nat.zero_le _, rfl, rfl, HOw.out, HBw.out⟩
  case round =>
    obtain ⟨k, hk, rfl, rfl, hown, hB⟩ := hrel
    have HB : Hid (Below w.heap.size w wr) := hB
    clear hB HOw HBw
    by_cases hlt : k < n
    · have ha' := ha (by omega)
      have hb' := hb (by omega)
      subst ha'
      have hck : wr.cell? ⟨b, off + k, none⟩ = some (.int .i32 (x k)) := (HB.out.cell (by exact hb')).trans (HC.out k hlt)
      have hz := HO.out k hlt
      clear ha hb
      obtain ⟨z, hze⟩ : ∃ z : Nat, x k = z := ⟨(x k).toNat, by unfold okI at hz; omega⟩
      rw [hze] at hck hz
      unfold okI at hz
      have HZ : Hid (x k = z) := hze
      clear hze
      have hbd : z ≤ 1114111 := by omega
      clear hz
      have hle := encTo_le x k
      obtain ⟨len, hlen⟩ : ∃ len, (encL (csTo x k)).length = len := ⟨_, rfl⟩
      rw [hlen] at hle
      have HLen : Hid ((encL (csTo x k)).length = len) := hlen
      rw [hlen] at hown
      rw [hlen]
      clear hlen
      by_cases h1 : z < 128
      · have HE : Hid (cellsOf (e1 z) = [.int .u8 (z : Int)]) := cells1 z h1
        go_wp2_with (at_builtin; refine wpList_append_fits _ rfl (.tmp 22) (.tmp 25) 35 rfl w.heap.size 5 i0 1 Try.underlying35 hi hz1 w.heap.size len (4 * n) _ rfl (hown.alloc _) ⟨wr.heap.size, 0, none⟩ 1 1 [.int .u8 (z : Int)] rfl rfl (cell_news _ _ _) (by simp [Value.oneCell']) (by omega) ?_; intro w3 hown3 hgrow3)
        go_roundw
        case rel => exact enc_step hlt HZ.out HB.out HLen.out HE.out rfl hown3 hgrow3
        case measure => simp [intOf]; omega
      have A0 := i32_and (z : Int) (by omega) (by omega)
      have O0 := i32_or128 ((z : Int) % 64) (by omega) (by omega)
      have W0 : (128 + (z : Int) % 64) % 256 = 128 + (z : Int) % 64 := by omega
      by_cases h2 : z < 2048
      · have HE : Hid (cellsOf (e1 z) = [.int .u8 (192 + (z : Int) / 64), .int .u8 (128 + (z : Int) % 64)]) := cells2 z h1 h2
        have P1 := i32_or192 ((z : Int) / 64) (by omega) (by omega)
        have W1 : (192 + (z : Int) / 64) % 256 = 192 + (z : Int) / 64 := by omega
        go_wp2_with (at_builtin; refine wpList_append_fits _ rfl (.tmp 29) (.tmp 38) 35 rfl w.heap.size 5 i0 1 Try.underlying35 hi hz1 w.heap.size len (4 * n) _ rfl (hown.alloc _) ⟨wr.heap.size, 0, none⟩ 2 2 [.int .u8 (192 + (z : Int) / 64), .int .u8 (128 + (z : Int) % 64)] rfl rfl (cell_news _ _ _) (by simp [Value.oneCell']) (by omega) ?_; intro w3 hown3 hgrow3)
        go_roundw
        case rel => exact enc_step hlt HZ.out HB.out HLen.out HE.out rfl hown3 hgrow3
        case measure => simp [intOf]; omega
      have A1 := i32_and ((z : Int) / 64) (by omega) (by omega)
      have O1 := i32_or128 ((z : Int) / 64 % 64) (by omega) (by omega)
      have W1 : (128 + (z : Int) / 64 % 64) % 256 = 128 + (z : Int) / 64 % 64 := by omega
      by_cases h3 : z < 65536
      · have d1 : decide ((z : Int) < 128) = false := decide_eq_false (by omega)
        have d2 : decide ((z : Int) < 2048) = false := decide_eq_false (by omega)
        have d3 : decide ((z : Int) < 65536) = true := decide_eq_true (by omega)
        have HE : Hid (cellsOf (e1 z) = [.int .u8 (224 + (z : Int) / 4096), .int .u8 (128 + (z : Int) / 64 % 64), .int .u8 (128 + (z : Int) % 64)]) := cells3 z h1 h2 h3
        have P2 := i32_or224 ((z : Int) / 4096) (by omega) (by omega)
        have W2 : (224 + (z : Int) / 4096) % 256 = 224 + (z : Int) / 4096 := by omega
        clear h1 h2 h3 hbd
        go_wp2_with (at_builtin; refine wpList_append_fits _ rfl (.tmp 42) (.tmp 56) 35 rfl w.heap.size 5 i0 1 Try.underlying35 hi hz1 w.heap.size len (4 * n) _ rfl (hown.alloc _) ⟨wr.heap.size, 0, none⟩ 3 3 [.int .u8 (224 + (z : Int) / 4096), .int .u8 (128 + (z : Int) / 64 % 64), .int .u8 (128 + (z : Int) % 64)] rfl rfl (cell_news _ _ _) (by simp [Value.oneCell']) (by omega) ?_; intro w3 hown3 hgrow3)
        go_roundw
        case rel => exact enc_step hlt HZ.out HB.out HLen.out HE.out rfl hown3 hgrow3
        case measure => simp [intOf]; omega
      · have d1 : decide ((z : Int) < 128) = false := decide_eq_false (by omega)
        have d2 : decide ((z : Int) < 2048) = false := decide_eq_false (by omega)
        have d3 : decide ((z : Int) < 65536) = false := decide_eq_false (by omega)
        have HE : Hid (cellsOf (e1 z) = [.int .u8 (240 + (z : Int) / 262144), .int .u8 (128 + (z : Int) / 4096 % 64), .int .u8 (128 + (z : Int) / 64 % 64), .int .u8 (128 + (z : Int) % 64)]) := cells4 z h1 h2 h3
        have A2 := i32_and ((z : Int) / 4096) (by omega) (by omega)
        have O2 := i32_or128 ((z : Int) / 4096 % 64) (by omega) (by omega)
        have W2 : (128 + (z : Int) / 4096 % 64) % 256 = 128 + (z : Int) / 4096 % 64 := by omega
        have P3 := i32_or240 ((z : Int) / 262144) (by omega) (by omega)
        have W3 : (240 + (z : Int) / 262144) % 256 = 240 + (z : Int) / 262144 := by omega
        clear h1 h2 h3 hbd
        go_wp2_with (at_builtin; refine wpList_append_fits _ rfl (.tmp 58) (.tmp 77) 35 rfl w.heap.size 5 i0 1 Try.underlying35 hi hz1 w.heap.size len (4 * n) _ rfl (hown.alloc _) ⟨wr.heap.size, 0, none⟩ 4 4 [.int .u8 (240 + (z : Int) / 262144), .int .u8 (128 + (z : Int) / 4096 % 64), .int .u8 (128 + (z : Int) / 64 % 64), .int .u8 (128 + (z : Int) % 64)] rfl rfl (cell_news _ _ _) (by simp [Value.oneCell']) (by omega) ?_; intro w3 hown3 hgrow3)
        go_roundw
        case rel => exact enc_step hlt HZ.out HB.out HLen.out HE.out rfl hown3 hgrow3
        case measure => simp [intOf]; omega
    · obtain rfl : k = n := by omega
      obtain ⟨len, hlen⟩ : ∃ len, (encL (csTo x k)).length = len := ⟨_, rfl⟩
      have hconv : (convert 35 9 (.slice (some ⟨w.heap.size, 0, none⟩) len (4 * k))).run Try.prog wr = .ok (.string ⟨((encL (csTo x k)).map UInt8.ofNat).toArray⟩) wr := by
        have hsmall : ∀ c ∈ csTo x k, okRune c := fun c hcm => by
          obtain ⟨j, hj, rfl⟩ := List.mem_map.1 hcm
          have := HO.out j (by simpa using hj)
          unfold okI at this; unfold okRune; omega
        have h := run_convert_bytes_back (P := Try.prog) wr 35 9 5 ⟨w.heap.size, 0, none⟩ (4 * k) ((encL (csTo x k)).map UInt8.ofNat) Try.underlying35 Try.underlying5 Try.underlying9 (fun j hj => by
          have e : (⟨w.heap.size, 0, none⟩ : Addr).add j = ⟨w.heap.size, j, none⟩ := by simp only [Addr.add, Nat.zero_add]; split <;> simp_all
          have hj' : j < (encL (csTo x k)).length := by simpa using hj
          rw [e, hown.cellAt j (by omega)]
          simp only [cellsOf, List.getElem?_map, List.getElem?_eq_getElem hj', Option.map_some, List.getElem_map]
          rw [ofNat_small _ (encL_small _ hsmall _ (List.getElem_mem hj'))])
        rwa [List.length_map, hlen] at h
      rw [hlen]
      clear ha hb hown
      go_wp2
      go_ret
      exact ⟨rfl, HB.out⟩

end Go.Proofs.Qxb6601098a
