import Derived.Test.Qxb6601353aLaw
import Derived.ProofKit
import Derived.OpenShut
import Derived.ShutString
import Derived.ChangeOld
import Derived.Below
import Derived.SliceStrings
import Derived.Deep.Slices
namespace Go.Proofs.Qxb6601353a.fnKeysOfUniqueAloneThenKeyTogether
open Go.ChangeShapes Go.WideShapes Go.ChangeAt Go.RowKit
open Go.ChangeMaps (open_string shut_string)
set_option linter.unusedVariables false

theorem own : ownKnob Try.prog.godebug = none := by kernel_rfl
theorem laidOut : laidOutB Try.prog = true := by kernel_rfl

section
variable {H : Type} {enc : TypeId × Value → H} {W : World} {base : Nat} {spare : Nat → Bool} {held : Bool}
theorem openStrs {fuel : Nat} {cs : List Value} {x : DataW H × List MemPlace} (h : DataW.trod enc Try.prog W base spare held fuel 22 cs = some x) : ∃ a l c, cs = [.slice a l c] ∧ rowOf isS W a l ∧ l ≤ maxLen := by
  rcases open_strings Try.underlying22 Try.underlying9 (by kernel_rfl) h with ⟨hcs, _⟩ | ⟨x, l, c, zs, hcs, _, hl, hm, hz, _, hcell, hws⟩
  · exact ⟨none, 0, 0, hcs, fun i hi => absurd hi (by omega), by decide⟩
  · have hlz : l ≤ zs.length := by rw [hz]; split <;> omega
    refine ⟨some x, l, c, hcs, fun i hi => ?_, by omega⟩
    obtain ⟨b, off, spot⟩ := x
    have hc := hcell i (by omega)
    have hspot : spot = none := by simpa [Addr.add] using World.cell?_spot (hcell 0 (by omega))
    subst hspot
    rw [add_plain] at hc
    refine ⟨b, off, _, rfl, World.block_lt_of_cell? W _ hc, hc, _, rfl, hws _ ?_⟩
    simp only [List.getD_eq_getElem?_getD, List.getElem?_eq_getElem (show i < zs.length by omega), Option.getD_some]
    exact List.getElem_mem _
theorem openBools {fuel : Nat} {cs : List Value} {x : DataW H × List MemPlace} (h : DataW.trod enc Try.prog W base spare held fuel 23 cs = some x) : ∃ a l c, cs = [.slice a l c] ∧ rowOf isB W a l ∧ l ≤ maxLen := by
  rcases Deep.open_slice1 Try.underlying23 (by kernel_rfl) h with ⟨hcs, _⟩ | ⟨x, l, c, m, n, V, D, Pl, hcs, _, hl, hm, hmm, _, hel⟩
  · exact ⟨none, 0, 0, hcs, fun i hi => absurd hi (by omega), by decide⟩
  · have hlm : l ≤ m := by rw [hmm]; split <;> omega
    refine ⟨some x, l, c, hcs, fun i hi => ?_, by omega⟩
    obtain ⟨b, off, spot⟩ := x
    obtain ⟨hc, ht⟩ := hel i (by omega)
    have hspot : spot = none := by simpa [Addr.add] using World.cell?_spot (hel 0 (by omega)).1
    subst hspot
    rw [add_plain] at hc
    obtain ⟨z, hz, _⟩ := DataW.trod_bool Try.underlying4 ht
    simp only [List.cons.injEq, and_true] at hz
    exact ⟨b, off, _, rfl, World.block_lt_of_cell? W _ hc, hc, z, hz⟩
end

set_option maxRecDepth 100000 in
theorem lifted (os : Os) (started : os.Started) (H : Type) (enc : TypeId × Value → H) :
    ReturnsInHanded {} Try.checked os 3 .any (Rows.fnKeysOfUniqueAloneThenKeyTogetherSpec.pre6 enc Try.prog Try.f3 Rows.fnKeysOfUniqueAloneThenKeyTogetherRow.domain false) (Rows.fnKeysOfUniqueAloneThenKeyTogetherSpec.post enc Try.prog Try.f3 false true false false) := by
  refine returnsInHanded_of_change (C := Try.checked) own started (by kernel_rfl) Try.func3
    (ChangeSpec.witness6 (enc := enc) (C := Try.checked) false ⟨#[], #[.slice none 0 0, .slice none 0 0, .slice none 0 0, .slice none 0 0, .slice none 0 0], []⟩ 8 (by kernel_rfl) (by kernel_rfl) (by kernel_rfl) (by kernel_rfl)) ?_
  intro W base args ds gs before hval0 hW hcnd _
  have hval : ∀ (j : Nat) t v, Try.f3.params[j]? = some t → args[j]? = some v → Value.okWide Try.prog W .any base t v := hval0
  have hW' := hW
  obtain ⟨p, q, hA0, hV, rfl, hfz, hnd⟩ := hW
  have hA : DataW.TrodAll enc Try.prog W 0 (fun _ => true) true Try.f3.params.toList args.toList ds p := hA0
  rw [Try.params3] at hA hval
  obtain ⟨v0, vs0, d0, ds0, p0, q0, hargs, rfl, rfl, h0, r0⟩ := trodAll_cons hA
  obtain ⟨v1, vs1, d1, ds1, p1, q1, rfl, rfl, rfl, h1, r1⟩ := trodAll_cons r0
  obtain ⟨v2, vs2, d2, ds2, p2, q2, rfl, rfl, rfl, h2, r2⟩ := trodAll_cons r1
  obtain ⟨v3, vs3, d3, ds3, p3, q3, rfl, rfl, rfl, h3, r3⟩ := trodAll_cons r2
  obtain ⟨v4, vs4, d4, ds4, p4, q4, rfl, rfl, rfl, h4, r4⟩ := trodAll_cons r3
  obtain ⟨rfl, rfl, rfl⟩ := trodAll_nil r4
  obtain rfl : args = #[v0, v1, v2, v3, v4] := by cases args; simp_all
  obtain ⟨rfl, rfl⟩ := trodVars_none hV
  have k0 := h0
  have lt0 : ∀ x ∈ p0, x.block < W.heap.size := by obtain ⟨m, hm⟩ := k0; exact DataW.trod_lt m _ _ _ hm
  obtain ⟨a0, l0, c0, rfl⟩ := okWide_slice Try.underlying22 (hval 0 22 v0 rfl rfl)
  obtain ⟨z0, b0⟩ : rowOf isS W a0 l0 ∧ l0 ≤ maxLen := by
    obtain ⟨fuel, hf⟩ := h0
    obtain ⟨a, l, c, hcs, hr, hl⟩ := openStrs hf
    simp [Value.cells] at hcs
    obtain ⟨rfl, rfl, rfl⟩ := hcs
    exact ⟨hr, hl⟩
  have k1 := h1
  have lt1 : ∀ x ∈ p1, x.block < W.heap.size := by obtain ⟨m, hm⟩ := k1; exact DataW.trod_lt m _ _ _ hm
  obtain ⟨a1, l1, c1, rfl⟩ := okWide_slice Try.underlying23 (hval 1 23 v1 rfl rfl)
  obtain ⟨z1, b1⟩ : rowOf isB W a1 l1 ∧ l1 ≤ maxLen := by
    obtain ⟨fuel, hf⟩ := h1
    obtain ⟨a, l, c, hcs, hr, hl⟩ := openBools hf
    simp [Value.cells] at hcs
    obtain ⟨rfl, rfl, rfl⟩ := hcs
    exact ⟨hr, hl⟩
  have k2 := h2
  have lt2 : ∀ x ∈ p2, x.block < W.heap.size := by obtain ⟨m, hm⟩ := k2; exact DataW.trod_lt m _ _ _ hm
  obtain ⟨a2, l2, c2, rfl⟩ := okWide_slice Try.underlying23 (hval 2 23 v2 rfl rfl)
  obtain ⟨z2, b2⟩ : rowOf isB W a2 l2 ∧ l2 ≤ maxLen := by
    obtain ⟨fuel, hf⟩ := h2
    obtain ⟨a, l, c, hcs, hr, hl⟩ := openBools hf
    simp [Value.cells] at hcs
    obtain ⟨rfl, rfl, rfl⟩ := hcs
    exact ⟨hr, hl⟩
  have k3 := h3
  have lt3 : ∀ x ∈ p3, x.block < W.heap.size := by obtain ⟨m, hm⟩ := k3; exact DataW.trod_lt m _ _ _ hm
  obtain ⟨a3, l3, c3, rfl⟩ := okWide_slice Try.underlying23 (hval 3 23 v3 rfl rfl)
  obtain ⟨z3, b3⟩ : rowOf isB W a3 l3 ∧ l3 ≤ maxLen := by
    obtain ⟨fuel, hf⟩ := h3
    obtain ⟨a, l, c, hcs, hr, hl⟩ := openBools hf
    simp [Value.cells] at hcs
    obtain ⟨rfl, rfl, rfl⟩ := hcs
    exact ⟨hr, hl⟩
  have k4 := h4
  have lt4 : ∀ x ∈ p4, x.block < W.heap.size := by obtain ⟨m, hm⟩ := k4; exact DataW.trod_lt m _ _ _ hm
  obtain ⟨a4, l4, c4, rfl⟩ := okWide_slice Try.underlying22 (hval 4 22 v4 rfl rfl)
  obtain ⟨z4, b4⟩ : rowOf isS W a4 l4 ∧ l4 ≤ maxLen := by
    obtain ⟨fuel, hf⟩ := h4
    obtain ⟨a, l, c, hcs, hr, hl⟩ := openStrs hf
    simp [Value.cells] at hcs
    obtain ⟨rfl, rfl, rfl⟩ := hcs
    exact ⟨hr, hl⟩
  clear hA0 hval0
  refine (law_any a0 a1 a2 a3 a4 l0 c0 l1 c1 l2 c2 l3 c3 l4 c4 W z0 z1 z2 z3 z4 b0 b1 b2 b3 b4).mono fun e W' ⟨he, bel⟩ => ?_
  subst he
  exact ⟨_, rfl, _, _, _, [], _, [], hW', trodAll_mk1 (shut_bool Try.underlying4 _), (trodAll_cons_mk (Below.trod laidOut (by kernel_rfl) (of_decide_eq_true (by kernel_rfl)) k0 bel lt0) (trodAll_cons_mk (Below.trod laidOut (by kernel_rfl) (of_decide_eq_true (by kernel_rfl)) k1 bel lt1) (trodAll_cons_mk (Below.trod laidOut (by kernel_rfl) (of_decide_eq_true (by kernel_rfl)) k2 bel lt2) (trodAll_cons_mk (Below.trod laidOut (by kernel_rfl) (of_decide_eq_true (by kernel_rfl)) k3 bel lt3) (trodAll_cons_mk (Below.trod laidOut (by kernel_rfl) (of_decide_eq_true (by kernel_rfl)) k4 bel lt4) trodAll_mk0))))), rfl, bel.frame _, fun h => by cases h⟩

theorem over : Rows.fnKeysOfUniqueAloneThenKeyTogetherRow.holds Try.pinned (OpenSpec.ofChange Rows.fnKeysOfUniqueAloneThenKeyTogetherSpec) :=
  OpenClaim.holds_of_wide 3 Try.f3 rfl rfl rfl rfl rfl rfl rfl ⟨rfl, rfl, rfl, rfl, rfl⟩ rfl rfl rfl rfl rfl (by kernel_rfl) Try.func3 (by kernel_rfl)
    (of_decide_eq_true (by kernel_rfl)) (by unfold Func.isWrapper; first | (rw [if_pos (by decide +kernel)]; kernel_rfl) | (rw [if_neg (by decide +kernel)]; exact ⟨rfl, rfl⟩))
    (fun os started H enc _ => lifted os started H enc)

/-- THE STATEMENT -/
theorem proved : Rows.FnKeysOfUniqueAloneThenKeyTogetherSaid := over
#print axioms proved
end Go.Proofs.Qxb6601353a.fnKeysOfUniqueAloneThenKeyTogether
