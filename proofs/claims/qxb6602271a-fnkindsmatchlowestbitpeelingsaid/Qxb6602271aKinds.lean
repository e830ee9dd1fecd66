import Derived.Test.Qxb6602271aBits
import Derived.Test.Qxb6602271aCopy
namespace Go.Proofs.Qxb6602271a
open Go.RowKit

/-- The slice value (its length that of L) leads to the kinds of the bits L. -/
def kindRow (w : World) (oa : Option Addr) (L : List Nat) : Prop := ∀ i, i < L.length → ∃ g, oa = some ⟨g, 0, none⟩ ∧ g < w.heap.size ∧ w.cell? ⟨g, i, none⟩ = some (.int .u16 ((L.getD i 0 + 1 : Nat) : Int))

theorem kindRow_of_owns {w : World} {B : Nat} {v : Value} {L : List Nat} (h : w.ownsRow B 85 1 v L.length (kindVals L)) : ∃ oa cap, v = .slice oa L.length cap ∧ kindRow w oa L := by
  rcases Nat.eq_zero_or_pos L.length with h0 | h0
  · rcases h.2 with ⟨hv, _⟩ | ⟨g, cap, cur, hv, _⟩
    · exact ⟨none, 0, by rw [hv, h0], fun i hi => by omega⟩
    · exact ⟨_, cap, hv, fun i hi => by omega⟩
  · obtain ⟨g, cap, rfl, hg⟩ := (show ∃ g cap, v = .slice (some ⟨g, 0, none⟩) L.length cap ∧ g < w.heap.size by
      rcases h.2 with ⟨_, h0'⟩ | ⟨g, cap, cur, hv, hb, hg, _⟩
      · omega
      · refine ⟨g, cap, hv, ?_⟩
        rcases Nat.lt_or_ge g w.heap.size with hlt | hge
        · exact hlt
        · rw [Array.getElem?_eq_none hge] at hg; cases hg)
    refine ⟨_, cap, rfl, fun i hi => ⟨g, rfl, hg, ?_⟩⟩
    rw [h.cellAt i (by omega)]
    simp [kindVals, hi]

theorem kindRow.below {w w' : World} {oa : Option Addr} {L : List Nat} {B : Nat} (h : kindRow w oa L) (hb : Below B w w') (hB : w.heap.size ≤ B) : kindRow w' oa L := fun i hi => by
  obtain ⟨g, e, hg, hc⟩ := h i hi
  exact ⟨g, e, Nat.lt_of_lt_of_le hg hb.size, by rw [hb.cell (p := ⟨g, i, none⟩) (Nat.lt_of_lt_of_le hg hB)]; exact hc⟩
theorem kind_nil {w : World} {oa : Option Addr} {c : Nat} {L : List Nat} (la : kindRow w oa L) (h : Value.slice oa L.length c = .slice none 0 0 ↔ L = []) : oa.isNone = L.isEmpty := by
  cases L with
  | nil => have := h.2 rfl; simp at this; simp [this.1]
  | cons x l => obtain ⟨g, e, _⟩ := la 0 (by simp); simp [e]

/-! ### Plain: the list of the set bits -/
theorem mem_bitsTo {f j i : Nat} : i ∈ bitsTo f j ↔ i < j ∧ f.testBit i = true := by simp [bitsTo]
theorem bitsTo_sorted (f j : Nat) : (bitsTo f j).Pairwise (· < ·) := List.pairwise_lt_range.filter _
theorem bitsTo_lt {f k : Nat} (hk : k < (bitsTo f 64).length) : (bitsTo f 64).getD k 0 < 64 := by
  have := List.getElem_mem hk
  rw [mem_bitsTo] at this
  simpa [List.getD, hk] using this.1
/-- The kind before the k-th. -/
def prevTo (L : List Nat) : Nat → Nat
  | 0 => 0
  | k + 1 => L.getD k 0 + 1
theorem prev_lt {f k : Nat} (hk : k < (bitsTo f 64).length) : prevTo (bitsTo f 64) k < (bitsTo f 64).getD k 0 + 1 := by
  cases k with
  | zero => simp [prevTo]
  | succ k =>
    have := (List.pairwise_iff_getElem.1 (bitsTo_sorted f 64)) k (k + 1) (by omega) hk (by omega)
    simp [prevTo, List.getD, hk, show k < (bitsTo f 64).length by omega]
    exact this

/-- The OR of the first k flags. -/
def accTo (L : List Nat) (k : Nat) : Nat := (L.take k).foldl (fun a i => a ||| 2 ^ i) 0
theorem accTo_succ {L : List Nat} {k : Nat} (hk : k < L.length) : accTo L (k + 1) = accTo L k ||| 2 ^ (L.getD k 0) := by
  rw [accTo, List.take_succ_eq_append_getElem hk, List.foldl_append]
  simp [accTo, List.getD, hk]
theorem testBit_fold (l : List Nat) (a j : Nat) : (l.foldl (fun a i => a ||| 2 ^ i) a).testBit j = (a.testBit j || decide (j ∈ l)) := by
  induction l generalizing a with
  | nil => simp
  | cons x l ih =>
    rw [List.foldl_cons, ih, Nat.testBit_or, Nat.testBit_two_pow]
    by_cases h : x = j
    · subst h; simp
    · have h' : ¬ j = x := fun e => h e.symm
      simp [h, h']
theorem accTo_lt (f k : Nat) : accTo (bitsTo f 64) k < 18446744073709551616 := by
  have e : (18446744073709551616 : Nat) = 2 ^ 64 := by decide
  rw [e]
  refine Nat.lt_pow_two_of_testBit _ fun i hi => ?_
  rw [accTo, testBit_fold]
  simp only [Nat.zero_testBit, Bool.false_or, decide_eq_false_iff_not]
  intro hm
  have := (mem_bitsTo.1 (List.mem_of_mem_take hm)).1
  omega
theorem accTo_end {f : Nat} (hf : f < 18446744073709551616) : accTo (bitsTo f 64) (bitsTo f 64).length = f := by
  have e : (18446744073709551616 : Nat) = 2 ^ 64 := by decide
  rw [e] at hf
  refine Nat.eq_of_testBit_eq fun j => ?_
  rw [accTo, testBit_fold, List.take_length]
  simp only [Nat.zero_testBit, Bool.false_or]
  by_cases hj : j < 64
  · cases h : f.testBit j
    · simp [mem_bitsTo, h]
    · simp [mem_bitsTo, h, hj]
  · rw [Nat.testBit_lt_two_pow (Nat.lt_of_lt_of_le hf (Nat.pow_le_pow_right (by decide) (by omega)))]
    simp [mem_bitsTo, hj]
theorem or_flag {f k : Nat} (hk : k < (bitsTo f 64).length) : bits .or .u64 (accTo (bitsTo f 64) k : Int) (flagOf ((bitsTo f 64).getD k 0 + 1)) = (accTo (bitsTo f 64) (k + 1) : Int) := by
  have h1 := accTo_lt f k
  have h2 := bitsTo_lt hk
  obtain ⟨g1, g2⟩ := flagOf_lt (k := (bitsTo f 64).getD k 0 + 1) (by omega) (by omega)
  rw [u64_or _ _ (by omega) (by omega) g1 g2, accTo_succ hk, Int.toNat_natCast]
  rfl
end Go.Proofs.Qxb6602271a
