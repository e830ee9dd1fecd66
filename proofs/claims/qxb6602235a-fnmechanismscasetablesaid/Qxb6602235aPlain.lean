import Derived.Test.Qxb6602235aMechs
import Derived.Deep.Draws
namespace Go.Proofs.Qxb6602235a
open Go.RowKit

/-- ZZMechanisms. -/
theorem zz_any (e h t g : Bool) (b : Nat) (w : World) (h0 : fieldIs w b 0 e) (h1 : fieldIs w b 1 h) (h2 : fieldIs w b 2 t) (h3 : fieldIs w b 3 g) :
    Calls Try.prog 10 #[.pointer (some ⟨b, 0, none⟩)] w fun r w' => ∃ v, r = .returned v ∧ w'.ownsRow (w.heap.size + 1) 9 1 v (ranks e h t g).length (vals (ranks e h t g)) ∧ (v = .slice none 0 0 ↔ ranks e h t g = []) ∧ Below w.heap.size w w' := by
  go_enter Try.func10, Try.ntmps10
  go_wp2_with (go_at_call 15; refine (mechs_any e h t g b _ h0 h1 h2 h3).mono ?_; rintro r w' ⟨v, rfl, hown, hnil, hbel⟩)
  go_ret
  exact ⟨_, rfl, by assumption, by assumption, by assumption⟩

/-- The slice value (its length that of L) leads to the names of the ranks L. -/
def leads (w : World) (oa : Option Addr) (L : List Nat) : Prop := ∀ i, i < L.length → ∃ g, oa = some ⟨g, 0, none⟩ ∧ g < w.heap.size ∧ w.cell? ⟨g, i, none⟩ = some (.string (nm (L.getD i 0)))

theorem leads_of_owns {w : World} {B : Nat} {v : Value} {L : List Nat} (h : w.ownsRow B 9 1 v L.length (vals L)) : ∃ oa cap, v = .slice oa L.length cap ∧ leads w oa L := by
  rcases Nat.eq_zero_or_pos L.length with h0 | h0
  · rcases h.2 with ⟨hv, _⟩ | ⟨g, cap, cur, hv, _⟩
    · exact ⟨none, 0, by rw [hv, h0], fun i hi => by omega⟩
    · exact ⟨_, cap, hv, fun i hi => by omega⟩
  · obtain ⟨g, cap, rfl, hb, hg⟩ := (show ∃ g cap, v = .slice (some ⟨g, 0, none⟩) L.length cap ∧ B ≤ g ∧ g < w.heap.size by
      rcases h.2 with ⟨_, h0'⟩ | ⟨g, cap, cur, hv, hb, hg, _⟩
      · omega
      · refine ⟨g, cap, hv, hb, ?_⟩
        rcases Nat.lt_or_ge g w.heap.size with hlt | hge
        · exact hlt
        · rw [Array.getElem?_eq_none hge] at hg; cases hg)
    refine ⟨_, cap, rfl, fun i hi => ⟨g, rfl, hg, ?_⟩⟩
    rw [h.cellAt i (by omega)]
    simp [vals, hi]

theorem leads_below {w w' : World} {oa : Option Addr} {L : List Nat} {B : Nat} (h : leads w oa L) (hb : Below B w w') (hB : w.heap.size ≤ B) : leads w' oa L := fun i hi => by
  obtain ⟨g, e, hg, hc⟩ := h i hi
  exact ⟨g, e, Nat.lt_of_lt_of_le hg hb.size, by rw [hb.cell (p := ⟨g, i, none⟩) (Nat.lt_of_lt_of_le hg hB)]; exact hc⟩

theorem below_drewN {B : Nat} {a w : World} (h : Below B a w) (n : Nat) : Below B a (w.drewN n) := ⟨h.os, h.tape, h.output, h.size, h.block⟩

theorem ranks_lt : ∀ (e h t g : Bool) (i : Fin 4), (ranks e h t g).getD i 0 < 4 := by decide
theorem ranks_len : ∀ (e h t g : Bool), (ranks e h t g).length ≤ 4 := by decide
theorem ranks_lt' (e h t g : Bool) {i : Nat} (hi : i < (ranks e h t g).length) : (ranks e h t g).getD i 0 < 4 :=
  ranks_lt e h t g ⟨i, Nat.lt_of_lt_of_le hi (ranks_len e h t g)⟩

theorem nm_eq : ∀ (x y : Fin 4), ((nm x).toList == (nm y).toList) = decide (x = y) := by decide +kernel
theorem nm_same {x y : Nat} (h : x = y) : ((nm x).toList == (nm y).toList) = true := by subst h; simp
theorem nm_other {x y : Nat} (hx : x < 4) (hy : y < 4) (h : x ≠ y) : ((nm x).toList == (nm y).toList) = false := by
  rw [nm_eq ⟨x, hx⟩ ⟨y, hy⟩]; simp [h]

/-- The law's own scan: j behind k rounds. -/
def jTo (La Lb : List Nat) : Nat → Nat
  | 0 => 0
  | k + 1 => if Lb.getD k 0 = La.getD (jTo La Lb k) 0 then jTo La Lb k + 1 else jTo La Lb k
theorem jTo_le (La Lb : List Nat) (k : Nat) : jTo La Lb k ≤ k := by
  induction k with
  | zero => simp [jTo]
  | succ k ih => unfold jTo; split <;> omega

/-- Is there a field that a sets and b does not? -/
def badB (a0 a1 a2 a3 b0 b1 b2 b3 : Bool) : Bool := (a0 && !b0) || (a1 && !b1) || (a2 && !b2) || (a3 && !b3)
/-- At b's end the scan has come to a's end. -/
theorem scan_end : ∀ (a0 a1 a2 a3 b0 b1 b2 b3 : Bool), badB a0 a1 a2 a3 b0 b1 b2 b3 = false → (ranks a0 a1 a2 a3).length ≤ jTo (ranks a0 a1 a2 a3) (ranks b0 b1 b2 b3) (ranks b0 b1 b2 b3).length := by decide +kernel
theorem extra : ∀ (a0 a1 a2 a3 b0 b1 b2 b3 : Bool), badB a0 a1 a2 a3 b0 b1 b2 b3 = false →
    (ranks b0 b1 b2 b3).length = (ranks a0 a1 a2 a3).length + (b0 && !a0).toNat + (b1 && !a1).toNat + (b2 && !a2).toNat + (b3 && !a3).toNat := by decide +kernel
end Go.Proofs.Qxb6602235a
