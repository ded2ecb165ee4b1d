/-
  PLAIN: code points written as UTF-8 by hand are read back whole by the model's '[]rune(s)'.
-/
import GoSem.Core.Utf8
import GoSem.Conv.StringToRunes
namespace Go.Proofs.Qxb6601098a

/-- A valid code point. -/
def okRune (c : Nat) : Prop := c < 55296 ∨ (57344 ≤ c ∧ c ≤ 1114111)

/-- The bytes of one code point. -/
def e1 (c : Nat) : List Nat :=
  if c < 128 then [c] else if c < 2048 then [192 + c / 64, 128 + c % 64] else if c < 65536 then [224 + c / 4096, 128 + c / 64 % 64, 128 + c % 64]
  else [240 + c / 262144, 128 + c / 4096 % 64, 128 + c / 64 % 64, 128 + c % 64]

/-- The bytes of many. -/
def encL : List Nat → List Nat
  | [] => []
  | c :: cs => e1 c ++ encL cs

theorem encL_append (a b : List Nat) : encL (a ++ b) = encL a ++ encL b := by
  induction a with
  | nil => rfl
  | cons c cs ih => simp [encL, ih]

theorem e1_len (c : Nat) : 1 ≤ (e1 c).length ∧ (e1 c).length ≤ 4 := by
  unfold e1
  split
  · simp
  · split
    · simp
    · split <;> simp
theorem encL_len (cs : List Nat) : cs.length ≤ (encL cs).length ∧ (encL cs).length ≤ 4 * cs.length := by
  induction cs with
  | nil => simp [encL]
  | cons c cs ih => have := e1_len c; simp [encL]; omega

theorem get_mid (s : ByteArray) (pre mid post : List UInt8) (h : s.data.toList = pre ++ mid ++ post) (k : Nat) (hk : k < mid.length) : s.get! (pre.length + k) = mid[k] := by
  have h1 : s.data = (pre ++ mid ++ post).toArray := by rw [← h]
  show s.data[pre.length + k]! = _
  rw [h1, getElem!_pos _ _ (by simp; omega)]
  simp only [List.getElem_toArray]
  rw [List.getElem_append_left (by simp; omega), List.getElem_append_right (by omega)]
  congr 1
  omega

theorem size_mid (s : ByteArray) (pre mid post : List UInt8) (h : s.data.toList = pre ++ mid ++ post) (k : Nat) (hk : k < mid.length) : pre.length + k < s.size := by
  have : s.size = s.data.toList.length := by simp only [Array.length_toList]; rfl
  rw [this, h]; simp; omega

theorem ofNat_small (n : Nat) (h : n < 256) : (UInt8.ofNat n).toNat = n := by
  simp [UInt8.toNat_ofNat']; omega

theorem valid_of (c : Nat) (h : okRune c) : Utf8.valid (c : Int) = true := by
  unfold okRune at h
  unfold Utf8.valid
  rcases h with h | h
  · have h2 : decide ((c : Int) < 55296) = true := decide_eq_true (by omega)
    simp [h2]
  · have h1 : decide ((57344 : Int) ≤ (c : Int)) = true := decide_eq_true (by omega)
    have h2 : decide ((c : Int) ≤ 1114111) = true := decide_eq_true (by omega)
    simp [h1, h2]

/-- One code point read back. -/
theorem decode_one (s : ByteArray) (pre post : List UInt8) (c : Nat) (hc : okRune c) (h : s.data.toList = pre ++ (e1 c).map UInt8.ofNat ++ post) : Utf8.decode s pre.length = (c, (e1 c).length) := by
  have hg := get_mid s pre _ post h
  have hs := size_mid s pre _ post h
  have hv := valid_of c hc
  have hb : c ≤ 1114111 := by unfold okRune at hc; omega
  by_cases h1 : c < 128
  · have he : e1 c = [c] := by simp [e1, h1]
    rw [he] at hg ⊢
    have g0 := hg 0 (by simp)
    simp only [Nat.add_zero, List.map_cons, List.getElem_cons_zero] at g0
    unfold Utf8.decode
    simp only [Nat.add_zero, g0, ofNat_small c (by omega), h1, if_true, List.length_cons, List.length_nil, Nat.zero_add]
  by_cases h2 : c < 2048
  · have he : e1 c = [192 + c / 64, 128 + c % 64] := by simp [e1, h1, h2]
    rw [he] at hg hs ⊢
    have g0 := hg 0 (by simp)
    have g1 := hg 1 (by simp)
    have s1 := hs 1 (by simp)
    simp only [Nat.add_zero, List.map_cons, List.getElem_cons_zero, List.getElem_cons_succ] at g0 g1
    unfold Utf8.decode
    simp only [Nat.add_zero, g0, g1, ofNat_small (192 + c / 64) (by omega), ofNat_small (128 + c % 64) (by omega), s1]
    rw [if_neg (by omega), if_pos (by simp; omega), if_pos (by omega)]
    simp; omega
  by_cases h3 : c < 65536
  · have he : e1 c = [224 + c / 4096, 128 + c / 64 % 64, 128 + c % 64] := by simp [e1, h1, h2, h3]
    rw [he] at hg hs ⊢
    have g0 := hg 0 (by simp)
    have g1 := hg 1 (by simp)
    have g2 := hg 2 (by simp)
    have s1 := hs 1 (by simp)
    have s2 := hs 2 (by simp)
    simp only [Nat.add_zero, List.map_cons, List.getElem_cons_zero, List.getElem_cons_succ] at g0 g1 g2
    have ec : (224 + c / 4096) % 16 * 4096 + (128 + c / 64 % 64) % 64 * 64 + (128 + c % 64) % 64 = c := by omega
    unfold Utf8.decode
    simp only [Nat.add_zero, g0, g1, g2, ofNat_small (224 + c / 4096) (by omega), ofNat_small (128 + c / 64 % 64) (by omega), ofNat_small (128 + c % 64) (by omega), s1, s2, ec, hv]
    rw [if_neg (by omega), if_neg (by simp; omega), if_pos (by simp; omega), if_pos (by simp; omega)]
    simp
  · have he : e1 c = [240 + c / 262144, 128 + c / 4096 % 64, 128 + c / 64 % 64, 128 + c % 64] := by simp [e1, h1, h2, h3]
    rw [he] at hg hs ⊢
    have g0 := hg 0 (by simp)
    have g1 := hg 1 (by simp)
    have g2 := hg 2 (by simp)
    have g3 := hg 3 (by simp)
    have s1 := hs 1 (by simp)
    have s2 := hs 2 (by simp)
    have s3 := hs 3 (by simp)
    simp only [Nat.add_zero, List.map_cons, List.getElem_cons_zero, List.getElem_cons_succ] at g0 g1 g2 g3
    have ec : (240 + c / 262144) % 8 * 262144 + (128 + c / 4096 % 64) % 64 * 4096 + (128 + c / 64 % 64) % 64 * 64 + (128 + c % 64) % 64 = c := by omega
    unfold Utf8.decode
    simp only [Nat.add_zero, g0, g1, g2, g3, ofNat_small (240 + c / 262144) (by omega), ofNat_small (128 + c / 4096 % 64) (by omega), ofNat_small (128 + c / 64 % 64) (by omega), ofNat_small (128 + c % 64) (by omega), s1, s2, s3, ec, hv]
    rw [if_neg (by omega), if_neg (by simp; omega), if_neg (by simp; omega), if_pos (by simp; omega), if_pos (by simp; omega)]
    simp

/-- All code points read back. -/
theorem runes_back (s : ByteArray) : ∀ (cs : List Nat) (pre : List UInt8) (bound : Nat) (acc : Array Value), (∀ c ∈ cs, okRune c) → s.data.toList = pre ++ (encL cs).map UInt8.ofNat → cs.length ≤ bound →
    Conv.runesFrom s bound pre.length acc = acc ++ (cs.map fun c : Nat => Value.int .i32 (c : Int)).toArray
  | [], pre, bound, acc, _, h, _ => by
    have hsz : s.size = pre.length := by
      have : s.size = s.data.toList.length := by simp only [Array.length_toList]; rfl
      rw [this, h]; simp [encL]
    cases bound with
    | zero => simp [Conv.runesFrom]
    | succ b => simp [Conv.runesFrom, hsz]
  | c :: cs, pre, 0, _, _, _, hb => by simp at hb
  | c :: cs, pre, bound + 1, acc, hok, h, hb => by
    have h' : s.data.toList = pre ++ (e1 c).map UInt8.ofNat ++ (encL cs).map UInt8.ofNat := by rw [h]; simp [encL]
    have hl := e1_len c
    have hlt := size_mid s pre _ _ h' 0 (by simp; omega)
    have hd := decode_one s pre _ c (hok c (by simp)) h'
    unfold Conv.runesFrom
    rw [if_pos (by simpa using hlt), hd]
    have := runes_back s cs (pre ++ (e1 c).map UInt8.ofNat) bound (acc.push (.int .i32 (Int.ofNat c))) (fun d hd => hok d (by simp [hd])) h' (by simp at hb; omega)
    simp only [List.length_append, List.length_map] at this
    show Conv.runesFrom s bound (pre.length + (e1 c).length) (acc.push (.int .i32 (Int.ofNat c))) = _
    rw [this]
    simp

/-- '[]rune' of the bytes of cs. -/
theorem runes_of (cs : List Nat) (hok : ∀ c ∈ cs, okRune c) : Conv.runesFrom ⟨((encL cs).map UInt8.ofNat).toArray⟩ (ByteArray.size ⟨((encL cs).map UInt8.ofNat).toArray⟩) 0 #[] = (cs.map fun c : Nat => Value.int .i32 (c : Int)).toArray := by
  have hl := encL_len cs
  have := runes_back ⟨((encL cs).map UInt8.ofNat).toArray⟩ cs [] (ByteArray.size ⟨((encL cs).map UInt8.ofNat).toArray⟩) #[] hok (by simp) (by simp [ByteArray.size]; omega)
  simpa using this

end Go.Proofs.Qxb6601098a
