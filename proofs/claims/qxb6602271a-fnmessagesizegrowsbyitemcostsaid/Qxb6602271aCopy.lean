import Derived.Test.Qxb6602271aRows
import Derived.WalkKit
import Derived.WalkSpells
import Derived.WalkLawsBesides
import Derived.Lib.SliceRun
namespace Go.Proofs.Qxb6602271a
open Go.RowKit

/-- A slice of bytes that can be read: its first len cells, at whatever place. -/
def byteRow (w : World) (a : Option Addr) (len : Nat) : Prop :=
  ∀ i, i < len → ∃ b off, a = some ⟨b, off, none⟩ ∧ b < w.heap.size ∧ ∃ x : Int, w.cell? ⟨b, off + i, none⟩ = some (.int .u8 x)

/-- The same, in a block from B on. -/
def freshRow (B : Nat) (w : World) (a : Option Addr) (len : Nat) : Prop :=
  ∀ i, i < len → ∃ g, a = some ⟨g, 0, none⟩ ∧ B ≤ g ∧ g < w.heap.size ∧ ∃ x : Int, w.cell? ⟨g, i, none⟩ = some (.int .u8 x)

theorem freshRow.bytes {B : Nat} {w : World} {a : Option Addr} {len : Nat} (h : freshRow B w a len) : byteRow w a len := fun i hi => by
  obtain ⟨g, e, _, hg, x, hc⟩ := h i hi
  exact ⟨g, 0, e, hg, x, by rw [Nat.zero_add]; exact hc⟩
theorem byteRow.zero {w : World} {len : Nat} (h : byteRow w none len) : len = 0 := by
  rcases Nat.eq_zero_or_pos len with h0 | h0
  · exact h0
  · obtain ⟨_, _, e, _⟩ := h 0 h0; cases e
theorem byteRow.below {w w' : World} {a : Option Addr} {len B : Nat} (h : byteRow w a len) (hb : Below B w w') (hB : w.heap.size ≤ B) : byteRow w' a len := fun i hi => by
  obtain ⟨b, off, e, hg, x, hc⟩ := h i hi
  exact ⟨b, off, e, Nat.lt_of_lt_of_le hg hb.size, x, by rw [hb.cell (p := ⟨b, off + i, none⟩) (Nat.lt_of_lt_of_le hg hB)]; exact hc⟩
theorem freshRow.below {w w' : World} {a : Option Addr} {len B C : Nat} (h : freshRow C w a len) (hb : Below B w w') (hB : w.heap.size ≤ B) : freshRow C w' a len := fun i hi => by
  obtain ⟨g, e, hC, hg, x, hc⟩ := h i hi
  exact ⟨g, e, hC, Nat.lt_of_lt_of_le hg hb.size, x, by rw [hb.cell (p := ⟨g, i, none⟩) (Nat.lt_of_lt_of_le hg hB)]; exact hc⟩

/-- A row of len bytes that the call itself makes, at the head of block B. -/
def madeBytes (w : World) (B len : Nat) : Prop := ∃ xs, w.ownsRow B 5 1 (.slice (some ⟨B, 0, none⟩) len len) len xs ∧ ∀ u ∈ xs, ∃ x : Int, u = .int .u8 x

theorem madeBytes.cell {w : World} {B len k : Nat} (h : madeBytes w B len) (hk : k < len) : ∃ x : Int, w.cell? ⟨B, k, none⟩ = some (.int .u8 x) := by
  obtain ⟨xs, h, ha⟩ := h
  have hl := h.1
  rw [h.cellAt k (by omega)]
  obtain ⟨x, hx⟩ := ha (xs[k]'(by omega)) (List.getElem_mem _)
  exact ⟨x, by rw [List.getElem?_eq_getElem (by omega), hx]⟩
theorem madeBytes.frozen {w : World} {B len : Nat} (h : madeBytes w B len) (k : Nat) : w.frozen? ⟨B, k, none⟩ = false := by
  obtain ⟨xs, h, _⟩ := h
  exact h.frozenAt k
theorem madeBytes.stored {w : World} {B len : Nat} (h : madeBytes w B len) (k : Nat) (x : Int) : madeBytes (w.setCell ⟨B, k, none⟩ (.int .u8 x)) B len := by
  obtain ⟨xs, h, ha⟩ := h
  refine ⟨_, (h.stored k _).1, fun u hu => ?_⟩
  rcases List.mem_or_eq_of_mem_set hu with h' | h'
  · exact ha u h'
  · exact ⟨x, h'⟩
theorem madeBytes.fresh {w : World} {B len : Nat} (h : madeBytes w B len) : freshRow B w (some ⟨B, 0, none⟩) len := fun i hi => by
  obtain ⟨x, hx⟩ := h.cell hi
  exact ⟨B, rfl, Nat.le_refl _, World.block_lt_of_cell? w _ hx, x, hx⟩

theorem info5 : (Try.prog.info? 5).map (fun i => (i.zero, i.size, i.bytes)) = some (some (.int .u8 0), 1, 1) := by kernel_rfl

set_option maxHeartbeats 4000000 in
set_option maxRecDepth 100000 in
/-- copyBytes: nil for nil; else a new row of as many bytes. -/
theorem copyBytes_any (a : Option Addr) (len cap : Nat) (w : World) (hr : byteRow w a len) (hl : len ≤ 1048576) :
    Calls Try.prog 28 #[.slice a len cap] w fun e w' => ∃ oa c', e = .returned (.slice oa len c') ∧ oa.isNone = a.isNone ∧ freshRow w.heap.size w' oa len ∧ Below w.heap.size w w' := by
  have kn := fun wx => Lib.run_eql_slice_nil (P := Try.prog) wx 29 5 a len cap 0 0 Try.underlying29
  obtain ⟨i0, hi, hz0, hz1, hz2⟩ := info_parts info5
  cases a with
  | none =>
    obtain rfl := hr.zero
    go_enter Try.func28, Try.ntmps28
    go_wp2
    go_ret
    exact ⟨none, 0, rfl, rfl, fun i hi => absurd hi (by omega), Below.refl _ _⟩
  | some ad =>
    go_enter Try.func28, Try.ntmps28
    go_wp2_with (at_make; refine wpList_make_full _ rfl _ _ 29 rfl w.heap.size 5 i0 (.int .u8 0) 1 Try.underlying29 hi hz0 hz1 _ _ _ _ len rfl rfl rfl rfl ?b2 ?b3 (Nat.le_refl _) ?_)
    case b2 => rw [hz2]; omega
    case b3 => unfold maxLen; omega
    intro w1 hown hg
    have hbel : Below w.heap.size w w1 := (Below.refl _ _).grown hg (Nat.le_refl _) (fun _ h => by cases h)
    have hmade : madeBytes w1 w.heap.size len := ⟨_, hown, fun u hu => by
      rw [toList_madeCells_one] at hu
      exact ⟨0, List.eq_of_mem_replicate hu⟩⟩
    clear hown hg kn hi hz0 hz1 hz2
    go_wp2
    go_loopw [4] (fun i wr => ∃ k : Nat, k ≤ len ∧ i = .int .i64 k ∧ madeBytes wr w.heap.size len ∧ Below w.heap.size w wr) (fun i _ => len - (intOf i).toNat)
    case atStart => exact ⟨0, by omega, rfl, hmade, hbel⟩
    case round =>
      obtain ⟨k, hk, rfl, hm, hb⟩ := hrel
      by_cases hlt : k < len
      · obtain ⟨b, off, he, hbl, x, hc⟩ := hr k hlt
        obtain rfl : ad = ⟨b, off, none⟩ := by simpa using he
        have hc' : wr.cell? ⟨b, off + k, none⟩ = some (.int .u8 x) := (hb.cell (p := ⟨b, off + k, none⟩) hbl).trans hc
        obtain ⟨v0, hv0⟩ := hm.cell hlt
        have hf := hm.frozen k
        have hst := hm.stored k x
        have hbs : Below w.heap.size w (wr.setCell ⟨w.heap.size, k, none⟩ (.int .u8 x)) := hb.setCell (Nat.le_refl _) _
        have i1 : (k : Int) < (len : Int) := by omega
        clear he hc hm hmade hbel hb
        go_wp2
        go_roundw
        case rel => exact ⟨k + 1, by omega, by go_num, hst, hbs⟩
        case measure => simp [intOf]; omega
      · go_wp2
        go_ret
        exact ⟨_, _, rfl, rfl, hm.fresh, hb⟩

/-- The two zzBytes over plain bytes: a bool; nothing changes. -/
theorem bytes27 (x0 x1 x2 : Int) (a : Option Addr) (len cap : Nat) (hl : len ≤ maxLen) (w : World) :
    Calls Try.prog 27 #[.int .u64 x0, .int .u64 x1, .int .u64 x2, .slice a len cap] w fun e w' => (∃ b, e = .returned (.bool b)) ∧ w = w' := by
  unfold maxLen at hl
  by_cases h : len ≤ 1048576
  · go_enter Try.func27, Try.ntmps27
    go_wp2
    go_ret
    exact ⟨⟨_, rfl⟩, rfl⟩
  · go_enter Try.func27, Try.ntmps27
    go_wp2
    go_ret
    exact ⟨⟨_, rfl⟩, rfl⟩
theorem bytes30 (x0 x1 x2 : Int) (a : Option Addr) (len cap : Nat) (hl : len ≤ maxLen) (w : World) :
    Calls Try.prog 30 #[.int .u64 x0, .int .u64 x1, .int .u64 x2, .slice a len cap] w fun e w' => (∃ b, e = .returned (.bool b)) ∧ w = w' := by
  unfold maxLen at hl
  by_cases h : len ≤ 1048576
  · go_enter Try.func30, Try.ntmps30
    go_wp2
    go_ret
    exact ⟨⟨_, rfl⟩, rfl⟩
  · go_enter Try.func30, Try.ntmps30
    go_wp2
    go_ret
    exact ⟨⟨_, rfl⟩, rfl⟩
end Go.Proofs.Qxb6602271a
