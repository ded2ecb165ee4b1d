/-
  THE LAW: 'match' answers as the model.
-/
import Derived.Test.Qxb6601579aOpen
import Derived.Test.Qxb6601579aWalk5
import Derived.ProofKit
import Derived.OpenShut
import Derived.ShutString
import Derived.ChangeOld
namespace Go.Proofs.Qxb6601579a.law5
open Go.ChangeShapes Go.WideShapes Go.ChangeAt Go.RowKit Go.Deep
set_option linter.unusedVariables false

theorem own : ownKnob Try.prog.godebug = none := by kernel_rfl
theorem laidOut : laidOutB Try.prog = true := by kernel_rfl

/-- A principal with nothing in it. -/
def noPr : Pr := ⟨0, ByteArray.empty, ByteArray.empty, ByteArray.empty, ByteArray.empty⟩

/-- A slice of principals that came in, opened. -/
theorem prs_of {H : Type} {enc : TypeId × Value → H} {W : World} {a : Option Addr} {n c : Nat} {d : DataW H} {ps : List MemPlace}
    (h : DataW.Trod enc Try.prog W 0 (fun _ => true) true 31 (.slice a n c) d ps) : ∃ b off S, IsPrs W a n b off S ∧ n ≤ maxLen ∧ ∀ j, j < n → (S j).ok := by
  obtain ⟨fuel, hf⟩ := h
  rcases open_slice Try.underlying31 hf with ⟨hcs, _⟩ | ⟨x, l, c', m, nn, D, Pl, hcs, _, hl, hm, hmm, _, hx⟩
  · simp [Value.cells] at hcs
    obtain ⟨rfl, rfl, rfl⟩ := hcs
    exact ⟨0, 0, fun _ => noPr, ⟨fun h => absurd h (by omega), fun j hj => absurd hj (by omega)⟩, by simp [maxLen], fun j hj => absurd hj (by omega)⟩
  · simp [Value.cells] at hcs
    obtain ⟨rfl, rfl, rfl⟩ := hcs
    simp only [if_true] at hmm
    subst hmm
    obtain ⟨b, off, spot⟩ := x
    have hC : Try.prog.cellsOf 23 = 5 := by kernel_rfl
    rw [hC] at hx
    have each : ∀ j, j < n → ∃ p : Pr, p.ok ∧ W.cell? ((⟨b, off, spot⟩ : Addr).add (j * 5)) = some (.int .i64 p.k) ∧ W.cell? ((⟨b, off, spot⟩ : Addr).add (j * 5 + 1)) = some (.string p.pa) ∧
        W.cell? ((⟨b, off, spot⟩ : Addr).add (j * 5 + 2)) = some (.string p.ac) ∧ W.cell? ((⟨b, off, spot⟩ : Addr).add (j * 5 + 3)) = some (.string p.na) ∧ W.cell? ((⟨b, off, spot⟩ : Addr).add (j * 5 + 4)) = some (.string p.se) := by
      intro j hj
      obtain ⟨cs', h1, h2⟩ := hx j (by omega)
      obtain ⟨p, rfl, hok⟩ := trod_pr h2
      obtain ⟨_, _, hcell⟩ := World.cells?_some h1
      have e0 := hcell 0 (by omega)
      have e1 := hcell 1 (by omega)
      have e2 := hcell 2 (by omega)
      have e3 := hcell 3 (by omega)
      have e4 := hcell 4 (by omega)
      rw [add_add] at e0 e1 e2 e3 e4
      exact ⟨p, hok, by simpa [Value.cells] using e0, by simpa [Value.cells] using e1, by simpa [Value.cells] using e2, by simpa [Value.cells] using e3, by simpa [Value.cells] using e4⟩
    obtain ⟨S, hS⟩ := @choose_lt Pr ⟨noPr⟩ _ _ each
    have hsp : 0 < n → spot = none := fun h => by simpa [Addr.add] using World.cell?_spot ((hS 0 h).2.1)
    refine ⟨b, off, S, ⟨fun h => by rw [hsp h], fun j hj => ?_⟩, by omega, fun j hj => (hS j hj).1⟩
    have h2 := hsp (by omega)
    subst h2
    obtain ⟨_, e0, e1, e2, e3, e4⟩ := hS j hj
    rw [add_plain] at e0 e1 e2 e3 e4
    exact ⟨e0, e1, e2, e3, e4⟩

set_option maxRecDepth 100000 in
theorem lifted (os : Os) (started : os.Started) (H : Type) (enc : TypeId × Value → H) :
    ReturnsInHanded {} Try.checked os 5 .any (Rows.fnMatchMatchesModelSpec.pre6 enc Try.prog Try.f5 Rows.fnMatchMatchesModelRow.domain false) (Rows.fnMatchMatchesModelSpec.post enc Try.prog Try.f5 false true false false) := by
  refine returnsInHanded_of_change (C := Try.checked) own started (by kernel_rfl) Try.func5
    (ChangeSpec.witness6 (enc := enc) (C := Try.checked) false ⟨#[], #[.bool false, .slice none 0 0, .agg #[.int .i64 0, .string ⟨#[]⟩, .string ⟨#[]⟩, .string ⟨#[]⟩, .string ⟨#[]⟩]], []⟩ 8 (by kernel_rfl) (by kernel_rfl) (by kernel_rfl) (by kernel_rfl)) ?_
  intro W base args ds gs before hval0 hW hcnd _
  have hval : ∀ (j : Nat) t v, Try.f5.params[j]? = some t → args[j]? = some v → Value.okWide Try.prog W .any base t v := hval0
  have hW' := hW
  obtain ⟨p, q, hA0, hV, rfl, hfz, hnd⟩ := hW
  have hA : DataW.TrodAll enc Try.prog W 0 (fun _ => true) true Try.f5.params.toList args.toList ds p := hA0
  rw [Try.params5] at hA hval
  obtain ⟨v0, vs0, d0, ds0, p0, q0, hargs, rfl, rfl, h0, r0⟩ := trodAll_cons hA
  obtain ⟨v1, vs1, d1, ds1, p1, q1, rfl, rfl, rfl, h1, r1⟩ := trodAll_cons r0
  obtain ⟨v2, vs2, d2, ds2, p2, q2, rfl, rfl, rfl, h2, r2⟩ := trodAll_cons r1
  obtain ⟨rfl, rfl, rfl⟩ := trodAll_nil r2
  obtain rfl : args = #[v0, v1, v2] := by cases args; simp_all
  obtain ⟨rfl, rfl⟩ := trodVars_none hV
  have k0 := h0
  have k1 := h1
  have k2 := h2
  have lt0 : ∀ x ∈ p0, x.block < W.heap.size := by obtain ⟨m, hm⟩ := k0; exact DataW.trod_lt m _ _ _ hm
  have lt1 : ∀ x ∈ p1, x.block < W.heap.size := by obtain ⟨m, hm⟩ := k1; exact DataW.trod_lt m _ _ _ hm
  have lt2 : ∀ x ∈ p2, x.block < W.heap.size := by obtain ⟨m, hm⟩ := k2; exact DataW.trod_lt m _ _ _ hm
  obtain ⟨t, rfl⟩ := okWide_bool Try.underlying4 (hval 0 4 v0 rfl rfl)
  obtain ⟨a, n, cp, rfl⟩ := okWide_slice Try.underlying31 (hval 1 31 v1 rfl rfl)
  obtain ⟨b, off, S, hS, hn, hok⟩ := prs_of h1
  obtain ⟨s2, rfl, hs2⟩ := open_pr (hval 2 23 v2 rfl rfl) h2
  clear hA0 hval0
  refine (walk5 t a b off n cp S s2 W hn hS hok hs2).mono fun e W' ⟨he, bel⟩ => ?_
  subst he
  exact ⟨_, rfl, _, _, _, [], _, [], hW', trodAll_mk1 (shut_bool Try.underlying4 _), (trodAll_cons_mk (Below.trod laidOut (by kernel_rfl) (of_decide_eq_true (by kernel_rfl)) k0 bel lt0) (trodAll_cons_mk (Below.trod laidOut (by kernel_rfl) (of_decide_eq_true (by kernel_rfl)) k1 bel lt1) (trodAll_cons_mk (Below.trod laidOut (by kernel_rfl) (of_decide_eq_true (by kernel_rfl)) k2 bel lt2) trodAll_mk0))), rfl, bel.frame _, fun h => by cases h⟩

theorem over : Rows.fnMatchMatchesModelRow.holds Try.pinned (OpenSpec.ofChange Rows.fnMatchMatchesModelSpec) :=
  OpenClaim.holds_of_wide 5 Try.f5 rfl rfl rfl rfl rfl rfl rfl ⟨rfl, rfl, rfl, rfl, rfl⟩ rfl rfl rfl rfl rfl (by kernel_rfl) Try.func5 (by kernel_rfl)
    (of_decide_eq_true (by kernel_rfl)) (by unfold Func.isWrapper; first | (rw [if_pos (by decide +kernel)]; kernel_rfl) | (rw [if_neg (by decide +kernel)]; exact ⟨rfl, rfl⟩))
    (fun os started H enc _ => lifted os started H enc)

theorem proved : Rows.FnMatchMatchesModelSaid := over
end Go.Proofs.Qxb6601579a.law5
