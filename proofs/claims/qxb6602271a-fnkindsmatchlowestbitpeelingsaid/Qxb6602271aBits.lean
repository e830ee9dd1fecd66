import Derived.Test.Qxb6602271aRows
import Derived.WalkKit
import Derived.WalkSpells
import Derived.WalkLawsBesides
import Derived.Laws.BitsAllLaws
import Derived.BigQuiet
import Derived.Deep.QuietTactic
import Derived.Lib.SliceRun
import Derived.Maps.AppendAt
namespace Go.Proofs.Qxb6602271a
open Go.RowKit

/-! ### Plain: the bits of a word -/
/-- The flag of kind k (k from 1 to 64). -/
def flagOf (k : Nat) : Int := ((2 ^ (k - 1) : Nat) : Int)
/-- The bits that are set among the first j. -/
def bitsTo (f j : Nat) : List Nat := (List.range j).filter fun i => f.testBit i
/-- Kinds as values. -/
def kindVals (l : List Nat) : List Value := l.map fun i => Value.int .u16 ((i + 1 : Nat) : Int)

theorem bitsTo_yes {f j : Nat} (h : f.testBit j = true) : bitsTo f (j + 1) = bitsTo f j ++ [j] := by simp [bitsTo, List.range_succ, h]
theorem bitsTo_no {f j : Nat} (h : f.testBit j = false) : bitsTo f (j + 1) = bitsTo f j := by simp [bitsTo, List.range_succ, h]
theorem bitsTo_len (f j : Nat) : (bitsTo f j).length ≤ j := by
  have := List.length_filter_le (fun i => f.testBit i) (List.range j)
  simpa [bitsTo] using this
theorem flagOf_lt {k : Nat} (h1 : 1 ≤ k) (h2 : k ≤ 64) : 0 ≤ flagOf k ∧ flagOf k < 18446744073709551616 := by
  unfold flagOf
  have : 2 ^ (k - 1) < 2 ^ 64 := Nat.pow_lt_pow_right (by decide) (by omega)
  have e : (2 ^ 64 : Nat) = 18446744073709551616 := by decide
  rw [e] at this
  generalize 2 ^ (k - 1) = x at *
  omega
/-- 'flags & k.Flag() != 0'. -/
theorem and_flag {f j : Nat} (hf : f < 18446744073709551616) (hj : j < 64) : (bits .and .u64 (f : Int) (flagOf (j + 1)) != 0) = f.testBit j := by
  obtain ⟨g1, g2⟩ := flagOf_lt (k := j + 1) (by omega) (by omega)
  rw [u64_and (f : Int) (flagOf (j + 1)) (by omega) (by omega) g1 g2]
  have e : (flagOf (j + 1)).toNat = 2 ^ j := Int.toNat_natCast _
  rw [Int.toNat_natCast, e]
  have hb : f &&& 2 ^ j = f / 2 ^ j % 2 * 2 ^ j := nat_bit j f
  rw [hb, Nat.testBit_eq_decide_div_mod_eq]
  have hp : 0 < 2 ^ j := Nat.two_pow_pos j
  rcases Nat.mod_two_eq_zero_or_one (f / 2 ^ j) with h | h
  · simp [h]
  · have : ((1 * 2 ^ j : Nat) : Int) ≠ 0 := by omega
    simp only [h]
    rw [bne_iff_ne.2 this]; rfl

/-! ### Flag -/
theorem flag_any (k : Nat) (h1 : 1 ≤ k) (h2 : k ≤ 64) (w : World) : Calls Try.prog 31 #[.int .u16 (k : Int)] w fun e w' => e = .returned (.int .u64 (flagOf k)) ∧ w' = w := by
  have hw : IntKind.u64.wrap (2 ^ (k - 1)) = flagOf k := by
    obtain ⟨g1, g2⟩ := flagOf_lt h1 h2
    rw [IntKind.wrap_u64]
    have e : (2 ^ (k - 1) : Int) = flagOf k := by simp [flagOf]
    rw [e]; omega
  go_enter Try.func31, Try.ntmps31
  go_wp2
  go_ret
  exact ⟨rfl, rfl⟩

theorem info85 : (Try.prog.info? 85).map (fun i => (i.zero, i.size, i.bytes)) = some (some (.int .u16 0), 1, 2) := by kernel_rfl

theorem kinds_keep {f j B : Nat} {W w w1 : World} {v v' : Value} {o2 : Obj} (hf : f.testBit j = true) (hbel : Below (B + 1) W w) (hB : B + 1 ≤ w.heap.size)
    (hown : w.ownsRow (B + 1) 85 1 v (bitsTo f j).length (kindVals (bitsTo f j)))
    (hown' : w1.ownsRow (B + 1) 85 1 v' ((bitsTo f j).length + 1) (kindVals (bitsTo f j) ++ [.int .u16 ((j + 1 : Nat) : Int)])) (hg : (w.alloc o2).grownBy w1 v.ownBlock) :
    w1.ownsRow (B + 1) 85 1 v' (bitsTo f (j + 1)).length (kindVals (bitsTo f (j + 1))) ∧ Below (B + 1) W w1 := by
  rw [bitsTo_yes hf]
  refine ⟨by simpa [kindVals] using hown', ?_⟩
  exact (hbel.alloc hB o2).grown hg (by simp; omega) (fun k hk => (hown.lt k hk).1)

theorem ownsRow_drewN {w : World} {B e s n : Nat} {v : Value} {xs : List Value} (h : w.ownsRow B e s v n xs) (q : Nat) : (w.drewN q).ownsRow B e s v n xs := h
theorem below_drewN {B : Nat} {a w : World} (h : Below B a w) (n : Nat) : Below B a (w.drewN n) := ⟨h.os, h.tape, h.output, h.size, h.block⟩

set_option maxHeartbeats 4000000 in
set_option maxRecDepth 100000 in
/-- Kinds: the set bits, each one more, in rising order, in a row of the call's own; nil where no bit is set. -/
theorem kinds_any (x0 x1 : Int) (f : Nat) (hf : f < 18446744073709551616) (oe : Option Addr) (le ce : Nat) (w : World) :
    Calls Try.prog 29 #[.agg #[.int .u64 x0, .int .u64 x1, .int .u64 (f : Int), .slice oe le ce]] w fun r w' => ∃ v, r = .returned v ∧ w'.ownsRow (w.heap.size + 1) 85 1 v (bitsTo f 64).length (kindVals (bitsTo f 64)) ∧ (v = .slice none 0 0 ↔ bitsTo f 64 = []) ∧ Below w.heap.size w w' := by
  obtain ⟨i0, hi, hz0, hz1, hz2⟩ := info_parts info85
  go_enter Try.func29, Try.ntmps29
  go_wp2
  go_loopw [3, 4] (fun v i wr => ∃ j : Nat, j ≤ 64 ∧ i = .int .u16 ((j + 1 : Nat) : Int) ∧ wr.ownsRow (w.heap.size + 1) 85 1 v (bitsTo f j).length (kindVals (bitsTo f j)) ∧ (v = .slice none 0 0 ↔ bitsTo f j = []) ∧ Below (w.heap.size + 1) (w.alloc (.cells #[.int .u64 x0, .int .u64 x1, .int .u64 (f : Int), .slice oe le ce] 80)) wr) (fun _ i _ => 65 - (intOf i).toNat)
  case atStart => exact ⟨0, by omega, rfl, World.ownsRow_nil _ _ _ _, by simp [bitsTo], Below.refl _ _⟩
  case round =>
    obtain ⟨j, hj, rfl, hown, hnil, hbel⟩ := hrel
    by_cases hlt : j < 64
    · have hlen := bitsTo_len f j
      have hsz : w.heap.size + 1 ≤ wr.heap.size := by have := hbel.size; simpa using this
      have hc : wr.cell? ⟨w.heap.size, 2, none⟩ = some (.int .u64 (f : Int)) := by rw [hbel.cell (p := ⟨w.heap.size, 2, none⟩) (by simp)]; simp [go_sem]
      have hq := and_flag hf hlt
      clear hf
      cases htb : f.testBit j
      · rw [htb] at hq
        go_wp2
        go_quiet ((go_at_call 31; exact Calls.quiet_of_same (flag_any (j + 1) (by omega) (by omega) _)))
        go_wp2
        go_roundw
        case rel => exact ⟨j + 1, by omega, by go_num, by rw [bitsTo_no htb]; exact ownsRow_drewN hown _, by rw [bitsTo_no htb]; exact hnil, below_drewN hbel _⟩
        case measure => simp [intOf]; omega
      · rw [htb] at hq
        go_wp2
        go_quiet ((go_at_call 31; exact Calls.quiet_of_same (flag_any (j + 1) (by omega) (by omega) _)))
        go_wp2_with (at_builtin; refine wpList_append_own _ rfl _ _ 81 rfl (w.heap.size + 1) 85 i0 (.int .u16 0) 1 2 Try.underlying81 hi hz0 hz1 hz2 rfl (by decide) _ _ _ rfl (World.ownsRow.alloc (ownsRow_drewN hown _) _) ⟨wr.heap.size, 0, none⟩ 1 1 [.int .u16 ((j : Int) + 1)] rfl rfl ?c1 ?c2 ?c3 ?c4 ?c5 ?_)
        case c1 => exact cell_one_new (wr.drewN nq) _ _
        case c2 => intro u hu; simp at hu; subst hu; rfl
        case c3 => unfold maxLen; omega
        case c4 => omega
        case c5 => simp; omega
        intro v' w1 hown' hgrow hn'
        have R := kinds_keep (B := w.heap.size) htb (below_drewN hbel _) hsz (ownsRow_drewN hown _) hown' hgrow
        clear hown' hgrow hown hc hq
        go_wp2
        go_roundw
        case rel => exact ⟨j + 1, by omega, by go_num, R.1, by rw [bitsTo_yes htb]; simp [hn'], R.2⟩
        case measure => simp [intOf]; omega
    · obtain rfl : j = 64 := by omega
      go_wp2
      go_ret
      exact ⟨_, rfl, hown, hnil, ((Below.refl _ _).alloc (Nat.le_refl _) _).trans (hbel.mono (by omega))⟩
end Go.Proofs.Qxb6602271a
