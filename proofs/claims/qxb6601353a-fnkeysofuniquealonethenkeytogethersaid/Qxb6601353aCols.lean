import Derived.Test.Qxb6601353aRows
import Derived.WalkKit
import Derived.WalkSpells
import Derived.WalkLawsBesides
import Derived.Lib.SliceRun
import Derived.Deep.RegionHeld3
import Derived.Deep.Draws
import Derived.Laws.IdiomCopy
import Derived.BigQuiet
import Derived.Deep.QuietTactic
namespace Go.Proofs.Qxb6601353a
open Go.RowKit

def isS (v : Value) : Prop := ∃ s : ByteArray, v = .string s ∧ s.size ≤ maxLen
def isB (v : Value) : Prop := ∃ x : Bool, v = .bool x
/-- The call returns a bool. -/
def isBool (e : Ending) : Prop := ∃ b, e = .returned (.bool b)
theorem isBool_mk (b : Bool) : isBool (.returned (.bool b)) := ⟨b, rfl⟩

/-- A slice that can be read: its first len cells, at whatever place, are Q. -/
def rowOf (Q : Value → Prop) (w : World) (a : Option Addr) (len : Nat) : Prop :=
  ∀ i, i < len → ∃ b off v, a = some ⟨b, off, none⟩ ∧ b < w.heap.size ∧ w.cell? ⟨b, off + i, none⟩ = some v ∧ Q v
theorem rowOf.zero {Q : Value → Prop} {w : World} {len : Nat} (h : rowOf Q w none len) : len = 0 := by
  rcases Nat.eq_zero_or_pos len with h0 | h0
  · exact h0
  · obtain ⟨_, _, _, e, _⟩ := h 0 h0; cases e
theorem rowOf.below {Q : Value → Prop} {w w' : World} {a : Option Addr} {len B : Nat} (h : rowOf Q w a len) (hb : Below B w w') (hB : w.heap.size ≤ B) : rowOf Q w' a len := fun i hi => by
  obtain ⟨b, off, v, e, hg, hc, hq⟩ := h i hi
  exact ⟨b, off, v, e, Nat.lt_of_lt_of_le hg hb.size, by rw [hb.cell (p := ⟨b, off + i, none⟩) (Nat.lt_of_lt_of_le hg hB)]; exact hc, hq⟩

/-- A row of len cells that the call itself makes, at the head of block B. -/
def madeRow (Q : Value → Prop) (T : TypeId) (w : World) (B len : Nat) : Prop := ∃ xs, w.ownsRow B T 1 (.slice (some ⟨B, 0, none⟩) len len) len xs ∧ ∀ u ∈ xs, Q u
theorem madeRow.cell {Q : Value → Prop} {T : TypeId} {w : World} {B len k : Nat} (h : madeRow Q T w B len) (hk : k < len) : ∃ v, w.cell? ⟨B, k, none⟩ = some v ∧ Q v := by
  obtain ⟨xs, h, ha⟩ := h
  have hl := h.1
  rw [h.cellAt k (by omega)]
  exact ⟨xs[k]'(by omega), List.getElem?_eq_getElem (by omega), ha _ (List.getElem_mem _)⟩
theorem madeRow.frozen {Q : Value → Prop} {T : TypeId} {w : World} {B len : Nat} (h : madeRow Q T w B len) (k : Nat) : w.frozen? ⟨B, k, none⟩ = false := by
  obtain ⟨xs, h, _⟩ := h
  exact h.frozenAt k
theorem madeRow.stored {Q : Value → Prop} {T : TypeId} {w : World} {B len : Nat} (h : madeRow Q T w B len) (k : Nat) {v : Value} (hv : Q v) : madeRow Q T (w.setCell ⟨B, k, none⟩ v) B len := by
  obtain ⟨xs, h, ha⟩ := h
  refine ⟨_, (h.stored k _).1, fun u hu => ?_⟩
  rcases List.mem_or_eq_of_mem_set hu with h' | h'
  · exact ha u h'
  · rw [h']; exact hv
theorem madeRow.row {Q : Value → Prop} {T : TypeId} {w : World} {B len : Nat} (h : madeRow Q T w B len) : rowOf Q w (some ⟨B, 0, none⟩) len := fun i hi => by
  obtain ⟨v, hx, hq⟩ := h.cell hi
  exact ⟨B, 0, v, rfl, World.block_lt_of_cell? w _ hx, by rw [Nat.zero_add]; exact hx, hq⟩

theorem info9 : (Try.prog.info? 9).map (fun i => (i.zero, i.size, i.bytes)) = some (some (.string ⟨#[]⟩), 1, 16) := by kernel_rfl
theorem info4 : (Try.prog.info? 4).map (fun i => (i.zero, i.size, i.bytes)) = some (some (.bool false), 1, 1) := by kernel_rfl

set_option maxHeartbeats 4000000 in
set_option maxRecDepth 100000 in
theorem copy7_any (a : Option Addr) (len cap : Nat) (w : World) (hr : rowOf isS w a len) (hl : len ≤ 65536) :
    Calls Try.prog 7 #[.slice a len cap] w fun e w' => ∃ oa c', e = .returned (.slice oa len c') ∧ oa.isNone = a.isNone ∧ rowOf isS w' oa len ∧ Below w.heap.size w w' := by
  have kn := fun wx => Lib.run_eql_slice_nil (P := Try.prog) wx 22 9 a len cap 0 0 Try.underlying22
  obtain ⟨i0, hi, hz0, hz1, hz2⟩ := info_parts info9
  cases a with
  | none =>
    obtain rfl := hr.zero
    go_enter Try.func7, Try.ntmps7
    go_wp2
    go_ret
    exact ⟨none, 0, rfl, rfl, fun i hi => absurd hi (by omega), Below.refl _ _⟩
  | some ad =>
    go_enter Try.func7, Try.ntmps7
    go_wp2_with (at_make; refine wpList_make_full _ rfl _ _ 22 rfl w.heap.size 9 i0 (.string ⟨#[]⟩) 1 Try.underlying22 hi hz0 hz1 _ _ _ _ len rfl rfl rfl rfl ?b2 ?b3 (Nat.le_refl _) ?_)
    case b2 => rw [hz2]; omega
    case b3 => unfold maxLen; omega
    intro w1 hown hg
    have hbel : Below w.heap.size w w1 := (Below.refl _ _).grown hg (Nat.le_refl _) (fun _ h => by cases h)
    have hmade : madeRow isS 9 w1 w.heap.size len := ⟨_, hown, fun u hu => by
      rw [toList_madeCells_one] at hu
      rw [List.eq_of_mem_replicate hu]
      exact ⟨_, rfl, by decide⟩⟩
    clear hown hg kn hi hz0 hz1 hz2
    go_wp2
    go_loopw [4] (fun i wr => ∃ k : Nat, k ≤ len ∧ i = .int .i64 k ∧ madeRow isS 9 wr w.heap.size len ∧ Below w.heap.size w wr) (fun i _ => len - (intOf i).toNat)
    case atStart => exact ⟨0, by omega, rfl, hmade, hbel⟩
    case round =>
      obtain ⟨k, hk, rfl, hm, hb⟩ := hrel
      by_cases hlt : k < len
      · obtain ⟨b, off, v, he, hbl, hc, hq⟩ := hr k hlt
        obtain rfl : ad = ⟨b, off, none⟩ := by simpa using he
        have hst := hm.stored k hq
        obtain ⟨s, rfl, _⟩ := hq
        have hc' : wr.cell? ⟨b, off + k, none⟩ = some (.string s) := (hb.cell (p := ⟨b, off + k, none⟩) hbl).trans hc
        obtain ⟨v0, hv0, _⟩ := hm.cell hlt
        have hf := hm.frozen k
        have hbs : Below w.heap.size w (wr.setCell ⟨w.heap.size, k, none⟩ (.string s)) := hb.setCell (Nat.le_refl _) _
        have i1 : (k : Int) < (len : Int) := by omega
        have Hst : Hid _ := hst
        clear he hc hm hmade hbel hb hst
        go_wp2
        go_roundw
        case rel => exact ⟨k + 1, by omega, by go_num, Hst.out, hbs⟩
        case measure => simp [intOf]; omega
      · go_wp2
        go_ret
        exact ⟨_, _, rfl, rfl, hm.row, hb⟩

set_option maxHeartbeats 4000000 in
set_option maxRecDepth 100000 in
theorem copy8_any (a : Option Addr) (len cap : Nat) (w : World) (hr : rowOf isB w a len) (hl : len ≤ 65536) :
    Calls Try.prog 8 #[.slice a len cap] w fun e w' => ∃ oa c', e = .returned (.slice oa len c') ∧ oa.isNone = a.isNone ∧ rowOf isB w' oa len ∧ Below w.heap.size w w' := by
  have kn := fun wx => Lib.run_eql_slice_nil (P := Try.prog) wx 23 4 a len cap 0 0 Try.underlying23
  obtain ⟨i0, hi, hz0, hz1, hz2⟩ := info_parts info4
  cases a with
  | none =>
    obtain rfl := hr.zero
    go_enter Try.func8, Try.ntmps8
    go_wp2
    go_ret
    exact ⟨none, 0, rfl, rfl, fun i hi => absurd hi (by omega), Below.refl _ _⟩
  | some ad =>
    go_enter Try.func8, Try.ntmps8
    go_wp2_with (at_make; refine wpList_make_full _ rfl _ _ 23 rfl w.heap.size 4 i0 (.bool false) 1 Try.underlying23 hi hz0 hz1 _ _ _ _ len rfl rfl rfl rfl ?b2 ?b3 (Nat.le_refl _) ?_)
    case b2 => rw [hz2]; omega
    case b3 => unfold maxLen; omega
    intro w1 hown hg
    have hbel : Below w.heap.size w w1 := (Below.refl _ _).grown hg (Nat.le_refl _) (fun _ h => by cases h)
    have hmade : madeRow isB 4 w1 w.heap.size len := ⟨_, hown, fun u hu => by
      rw [toList_madeCells_one] at hu
      rw [List.eq_of_mem_replicate hu]
      exact ⟨_, rfl⟩⟩
    clear hown hg kn hi hz0 hz1 hz2
    go_wp2
    go_loopw [4] (fun i wr => ∃ k : Nat, k ≤ len ∧ i = .int .i64 k ∧ madeRow isB 4 wr w.heap.size len ∧ Below w.heap.size w wr) (fun i _ => len - (intOf i).toNat)
    case atStart => exact ⟨0, by omega, rfl, hmade, hbel⟩
    case round =>
      obtain ⟨k, hk, rfl, hm, hb⟩ := hrel
      by_cases hlt : k < len
      · obtain ⟨b, off, v, he, hbl, hc, hq⟩ := hr k hlt
        obtain rfl : ad = ⟨b, off, none⟩ := by simpa using he
        have hst := hm.stored k hq
        obtain ⟨s, rfl⟩ := hq
        have hc' : wr.cell? ⟨b, off + k, none⟩ = some (.bool s) := (hb.cell (p := ⟨b, off + k, none⟩) hbl).trans hc
        obtain ⟨v0, hv0, _⟩ := hm.cell hlt
        have hf := hm.frozen k
        have hbs : Below w.heap.size w (wr.setCell ⟨w.heap.size, k, none⟩ (.bool s)) := hb.setCell (Nat.le_refl _) _
        have i1 : (k : Int) < (len : Int) := by omega
        have Hst : Hid _ := hst
        clear he hc hm hmade hbel hb hst
        go_wp2
        go_roundw
        case rel => exact ⟨k + 1, by omega, by go_num, Hst.out, hbs⟩
        case measure => simp [intOf]; omega
      · go_wp2
        go_ret
        exact ⟨_, _, rfl, rfl, hm.row, hb⟩

set_option maxHeartbeats 8000000 in
set_option maxRecDepth 100000 in
/-- zzBytes: it answers a bool and changes nothing. -/
theorem bytes_any (a0 a1 a2 a3 a4 : Option Addr) (l0 c0 l1 c1 l2 c2 l3 c3 l4 c4 : Nat) (w : World) (r0 : rowOf isS w a0 l0) (r4 : rowOf isS w a4 l4) (h0 : l0 ≤ maxLen) (h1 : l1 ≤ maxLen) (h2 : l2 ≤ maxLen) (h3 : l3 ≤ maxLen) (h4 : l4 ≤ maxLen) :
    Calls Try.prog 6 #[.slice a0 l0 c0, .slice a1 l1 c1, .slice a2 l2 c2, .slice a3 l3 c3, .slice a4 l4 c4] w fun e w' => isBool e ∧ w = w' := by
  unfold maxLen at h0 h1 h2 h3 h4
  go_enter Try.func6, Try.ntmps6
  go_wp2
  all_goals try (go_ret; exact ⟨isBool_mk _, rfl⟩)
  go_loopw [11, 12] (fun z i wr => ∃ k : Nat, k ≤ l0 ∧ i = .int .i64 k ∧ w = wr ∧ ∃ y : Int, 0 ≤ y ∧ y ≤ 1048576 ∧ z = .int .i64 y) (fun _ i _ => l0 - (intOf i).toNat)
  case atStart => exact ⟨0, by omega, rfl, rfl, _, by omega, by omega, rfl⟩
  case round =>
    obtain ⟨k, hk, rfl, rfl, y, hy0, hy1, rfl⟩ := hrel
    by_cases hlt : k < l0
    · obtain ⟨b, off, v, rfl, hbl, hc, s, rfl, hz⟩ := r0 k hlt
      unfold maxLen at hz
      have i1 : (k : Int) < (l0 : Int) := by omega
      go_wp2
      all_goals first | (go_ret; exact ⟨isBool_mk _, rfl⟩) | (go_roundw; (case rel => exact ⟨k + 1, by omega, by go_num, trivial, _, by omega, by omega, rfl⟩); (case measure => simp [intOf]; omega))
    · clear r0
      go_wp2
      all_goals try (go_ret; exact ⟨isBool_mk _, rfl⟩)
      go_loopw [11, 13] (fun z i wr => ∃ k : Nat, k ≤ l4 ∧ i = .int .i64 k ∧ w = wr ∧ ∃ y : Int, 0 ≤ y ∧ y ≤ 1048576 ∧ z = .int .i64 y) (fun _ i _ => l4 - (intOf i).toNat)
      case atStart => exact ⟨0, by omega, rfl, rfl, _, by omega, by omega, rfl⟩
      case round =>
        obtain ⟨k, hk, rfl, rfl, y, hy0, hy1, rfl⟩ := hrel
        by_cases hlt : k < l4
        · obtain ⟨b, off, v, rfl, hbl, hc, s, rfl, hz⟩ := r4 k hlt
          unfold maxLen at hz
          have i1 : (k : Int) < (l4 : Int) := by omega
          go_wp2
          all_goals first | (go_ret; exact ⟨isBool_mk _, rfl⟩) | (go_roundw; (case rel => exact ⟨k + 1, by omega, by go_num, trivial, _, by omega, by omega, rfl⟩); (case measure => simp [intOf]; omega))
        · clear r4
          go_wp2
          all_goals try (go_ret; exact ⟨isBool_mk _, rfl⟩)
end Go.Proofs.Qxb6601353a
