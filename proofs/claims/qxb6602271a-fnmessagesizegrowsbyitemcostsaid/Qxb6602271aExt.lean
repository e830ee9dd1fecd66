import Derived.Test.Qxb6602271aCopy
import Derived.Deep.RegionHeld3
import Derived.Deep.Draws
import Derived.Laws.IdiomCopy
import Derived.BigQuiet
import Derived.Deep.QuietTactic
namespace Go.Proofs.Qxb6602271a
open Go.RowKit

/-! ### addLen -/
def addL (t n : Int) : Int := if 1048576 < t ∨ 1048576 < n then 1048577 else t + n
theorem addL_le {t n : Int} (h : addL t n ≤ 1048576) : t ≤ 1048576 ∧ n ≤ 1048576 := by
  unfold addL at h
  split at h
  · omega
  · omega
theorem addL_nonneg {t n : Int} (h0 : 0 ≤ t) (h1 : 0 ≤ n) : 0 ≤ addL t n := by
  unfold addL; split <;> omega
theorem addL_bound {t n : Int} : addL t n ≤ 2097152 := by
  unfold addL; split <;> omega
theorem addLen_any (t n : Int) (h0 : 0 ≤ t) (h1 : 0 ≤ n) (w : World) : Calls Try.prog 24 #[.int .i64 t, .int .i64 n] w fun e w' => e = .returned (.int .i64 (addL t n)) ∧ w = w' := by
  unfold addL
  by_cases q0 : 1048576 < t
  · rw [if_pos (.inl q0)]
    go_enter Try.func24, Try.ntmps24
    go_wp2
    go_ret
    exact ⟨rfl, rfl⟩
  · by_cases q1 : 1048576 < n
    · rw [if_pos (.inr q1)]
      go_enter Try.func24, Try.ntmps24
      go_wp2
      go_ret
      exact ⟨rfl, rfl⟩
    · rw [if_neg (by omega)]
      go_enter Try.func24, Try.ntmps24
      go_wp2
      go_ret
      exact ⟨rfl, rfl⟩

/-! ### A row that the call itself makes: n elements of s cells of type T at the head of block B; whatever they hold -/
def outRow (w : World) (B : Nat) (T : TypeId) (s n : Nat) : Prop := ∃ xs, w.ownsRow B T s (.slice (some ⟨B, 0, none⟩) n n) n xs
theorem outRow.cell {w : World} {B T s n j : Nat} (h : outRow w B T s n) (hj : j < n * s) : ∃ v, w.cell? ⟨B, j, none⟩ = some v := by
  obtain ⟨xs, h⟩ := h
  have hl := h.1
  rw [h.cellAt j hj]
  exact ⟨_, List.getElem?_eq_getElem (by omega)⟩
theorem outRow.frozen {w : World} {B T s n : Nat} (h : outRow w B T s n) (j : Nat) : w.frozen? ⟨B, j, none⟩ = false := by
  obtain ⟨xs, h⟩ := h
  exact h.frozenAt j
theorem outRow.stored {w : World} {B T s n : Nat} (h : outRow w B T s n) (j : Nat) (u : Value) : outRow (w.setCell ⟨B, j, none⟩ u) B T s n := by
  obtain ⟨xs, h⟩ := h
  exact ⟨_, (h.stored j u).1⟩
theorem outRow.storeds {B T s n : Nat} : ∀ (vs : List Value) {w : World} (j : Nat), outRow w B T s n → outRow (w.setCells B j vs) B T s n
  | [], _, _, h => h
  | v :: r, _, j, h => outRow.storeds r (j + 1) (outRow.stored h j v)
theorem outRow.below {w w' : World} {B T s n C : Nat} (h : outRow w B T s n) (hb : Below C w w') (hC : B < C) : outRow w' B T s n := by
  obtain ⟨xs, h1, h2⟩ := h
  refine ⟨xs, h1, ?_⟩
  rcases h2 with h2 | ⟨g, cap, cur, hv, hg, hh, r⟩
  · exact .inl h2
  · refine .inr ⟨g, cap, cur, hv, hg, ?_, r⟩
    simp only [Value.slice.injEq, Option.some.injEq, Addr.mk.injEq] at hv
    obtain ⟨⟨rfl, _⟩, _⟩ := hv
    rw [hb.block _ hC]; exact hh
theorem below_setCells {B : Nat} {a : World} : ∀ (vs : List Value) {w : World} {b : Nat} (o : Nat), Below B a w → B ≤ b → Below B a (w.setCells b o vs)
  | [], _, _, _, h, _ => h
  | v :: r, _, _, o, h, hb => below_setCells r (o + 1) (h.setCell (p := ⟨_, o, none⟩) hb v) hb

/-- The call returns a bool. -/
def isBool (e : Ending) : Prop := ∃ b, e = .returned (.bool b)
theorem isBool_mk (b : Bool) : isBool (.returned (.bool b)) := ⟨b, rfl⟩

/-! ### Extensions -/
structure ExtV where
  ty : Int
  cr : Bool
  ca : Option Addr
  cl : Nat
  cc : Nat
def ExtV.cells (x : ExtV) : List Value := [.int .u16 x.ty, .bool x.cr, .slice x.ca x.cl x.cc]
def ExtV.zero : ExtV := ⟨0, false, none, 0, 0⟩
def extCells (w : World) (b o : Nat) (x : ExtV) : Prop := w.cell? ⟨b, o, none⟩ = some (.int .u16 x.ty) ∧ w.cell? ⟨b, o + 1, none⟩ = some (.bool x.cr) ∧ w.cell? ⟨b, o + 2, none⟩ = some (.slice x.ca x.cl x.cc)
def extRow (w : World) (a : Option Addr) (n : Nat) (E : Nat → ExtV) : Prop :=
  ∀ i, i < n → ∃ b off, a = some ⟨b, off, none⟩ ∧ b < w.heap.size ∧ extCells w b (off + i * 3) (E i) ∧ byteRow w (E i).ca (E i).cl ∧ (E i).cl ≤ maxLen

theorem extCells.below {w w' : World} {B b o : Nat} {x : ExtV} (h : extCells w b o x) (hb : Below B w w') (hB : b < B) : extCells w' b o x :=
  ⟨(hb.cell (p := ⟨b, o, none⟩) hB).trans h.1, (hb.cell (p := ⟨b, o + 1, none⟩) hB).trans h.2.1, (hb.cell (p := ⟨b, o + 2, none⟩) hB).trans h.2.2⟩
theorem extRow.below {w w' : World} {a : Option Addr} {n B : Nat} {E : Nat → ExtV} (h : extRow w a n E) (hb : Below B w w') (hB : w.heap.size ≤ B) : extRow w' a n E := fun i hi => by
  obtain ⟨b, off, e, hg, hc, hr, hm⟩ := h i hi
  exact ⟨b, off, e, Nat.lt_of_lt_of_le hg hb.size, hc.below hb (Nat.lt_of_lt_of_le hg hB), hr.below hb hB, hm⟩
theorem extRow.zero {w : World} {n : Nat} {E : Nat → ExtV} (h : extRow w none n E) : n = 0 := by
  rcases Nat.eq_zero_or_pos n with h0 | h0
  · exact h0
  · obtain ⟨_, _, e, _⟩ := h 0 h0; cases e

set_option maxHeartbeats 4000000 in
set_option maxRecDepth 100000 in
/-- zzBytes over extensions: a bool; nothing changes. -/
theorem bytes32 (a : Option Addr) (n cap : Nat) (E : Nat → ExtV) (t : Int) (w : World) (hr : extRow w a n E) (hl : n ≤ maxLen) :
    Calls Try.prog 32 #[.slice a n cap, .int .u16 t] w fun e w' => isBool e ∧ w = w' := by
  unfold maxLen at hl
  go_enter Try.func32, Try.ntmps32
  by_cases q1 : n ≤ 1048576
  · go_wp2
    go_loopw [5, 6] (fun z i wr => ∃ k : Nat, k ≤ n ∧ i = .int .i64 k ∧ w = wr ∧ ∃ y : Int, 0 ≤ y ∧ y ≤ 1048576 ∧ z = .int .i64 y) (fun _ i _ => n - (intOf i).toNat)
    case atStart => exact ⟨0, by omega, rfl, rfl, n, by omega, by omega, by simp⟩
    case round =>
      obtain ⟨k, hk, rfl, rfl, y, hy0, hy1, rfl⟩ := hrel
      by_cases hlt : k < n
      · obtain ⟨b, off, rfl, _, ⟨_, _, hc⟩, _, hz⟩ := hr k hlt
        unfold maxLen at hz
        generalize E k = x at *
        obtain ⟨x1, x2, x3, x4, x5⟩ := x
        simp only at hc hz
        have i1 : (k : Int) < (n : Int) := by omega
        go_wp2
        all_goals first | (go_ret; exact ⟨isBool_mk _, rfl⟩) | (go_roundw; (case rel => exact ⟨k + 1, by omega, by go_num, trivial, _, by omega, by omega, rfl⟩); (case measure => simp [intOf]; omega))
      · go_wp2
        all_goals (go_ret; exact ⟨isBool_mk _, rfl⟩)
  · go_wp2
    go_ret
    exact ⟨isBool_mk _, rfl⟩

set_option maxHeartbeats 4000000 in
set_option maxRecDepth 100000 in
/-- extBytes: where its answer stays within the bound, so does each content. -/
theorem extBytes_any (a : Option Addr) (n cap : Nat) (E : Nat → ExtV) (t : Int) (h0 : 0 ≤ t) (w : World) (hr : extRow w a n E) (hl : n ≤ maxLen) :
    Calls Try.prog 33 #[.slice a n cap, .int .i64 t] w fun e w' => (∃ y : Int, 0 ≤ y ∧ (y ≤ 1048576 → t ≤ 1048576 ∧ ∀ i, i < n → (E i).cl ≤ 1048576) ∧ e = .returned (.int .i64 y)) ∧ w = w' := by
  unfold maxLen at hl
  go_enter Try.func33, Try.ntmps33
  go_wp2
  go_loopw [1, 5] (fun z i wr => ∃ k : Nat, k ≤ n ∧ i = .int .i64 k ∧ w = wr ∧ ∃ y : Int, 0 ≤ y ∧ Hid (y ≤ 1048576 → t ≤ 1048576 ∧ ∀ i, i < k → (E i).cl ≤ 1048576) ∧ z = .int .i64 y) (fun _ i _ => n - (intOf i).toNat)
  case atStart => exact ⟨0, by omega, rfl, rfl, t, h0, fun h => ⟨h, fun i hi => absurd hi (by omega)⟩, rfl⟩
  case round =>
    obtain ⟨k, hk, rfl, rfl, y, hy0, hy, rfl⟩ := hrel
    by_cases hlt : k < n
    · obtain ⟨b, off, rfl, _, ⟨_, _, hc⟩, _, hz⟩ := hr k hlt
      unfold maxLen at hz
      have g1 := addL_nonneg (t := y) (n := 32) hy0 (by decide)
      have g2 := addL_nonneg (t := addL y 32) (n := (E k).cl) g1 (by omega)
      have hnew : Hid (addL (addL y 32) (E k).cl ≤ 1048576 → t ≤ 1048576 ∧ ∀ i, i < k + 1 → (E i).cl ≤ 1048576) := fun h => by
        obtain ⟨p1, p2⟩ := addL_le h
        obtain ⟨p3, _⟩ := addL_le p1
        obtain ⟨p4, p5⟩ := hy.out p3
        refine ⟨p4, fun i hi => ?_⟩
        by_cases hik : i = k
        · subst hik; omega
        · exact p5 i (by omega)
      generalize hx : E k = x at *
      obtain ⟨x1, x2, x3, x4, x5⟩ := x
      simp only at hc hz g2 hnew
      clear hx
      have i1 : (k : Int) < (n : Int) := by omega
      go_wp2_with fail
      refine (addLen_any y 32 hy0 (by decide) _).mono ?_
      rintro e w' ⟨rfl, rfl⟩
      generalize addL y 32 = y1 at *
      go_wp2_with fail
      refine (addLen_any y1 x4 g1 (by omega) _).mono ?_
      rintro e w' ⟨rfl, rfl⟩
      go_wp2
      go_roundw
      case rel => exact ⟨k + 1, by omega, by go_num, trivial, _, g2, hnew, rfl⟩
      case measure => simp [intOf]; omega
    · obtain rfl : k = n := by omega
      go_wp2
      go_ret
      exact ⟨⟨_, hy0, hy.out, rfl⟩, rfl⟩
end Go.Proofs.Qxb6602271a
