import Derived.Test.Qxb6602271aExtB
namespace Go.Proofs.Qxb6602271a
open Go.RowKit

def ExtV.val (x : ExtV) : Value := .agg #[.int .u16 x.ty, .bool x.cr, .slice x.ca x.cl x.cc]
/-- What extensionOf answers: the first extension of type t with true; else the zero extension with false. -/
def foundIs (E : Nat → ExtV) (t : Int) (n : Nat) (e : Ending) : Prop :=
  (∃ i, i < n ∧ (E i).ty = t ∧ (∀ j, j < i → (E j).ty ≠ t) ∧ e = .returned (.tuple #[(E i).val, .bool true])) ∨ ((∀ j, j < n → (E j).ty ≠ t) ∧ e = .returned (.tuple #[ExtV.zero.val, .bool false]))

theorem result_cells {w wr : World} {c : Array Value} {T : TypeId} (hb : Below (w.heap.size + 1) (w.alloc (.cells c T)) wr) :
    (∀ j, wr.cell? ⟨w.heap.size, j, none⟩ = c[j]?) ∧ (∀ j, wr.frozen? ⟨w.heap.size, j, none⟩ = false) ∧ w.heap.size < wr.heap.size := by
  have b1 : wr.heap[w.heap.size]? = some (.cells c T (0, 0)) := by
    rw [hb.block w.heap.size (by omega)]
    exact heap_alloc_new w _
  exact ⟨fun j => by simp [World.cell?, b1], fun j => by simp [World.frozen?, b1], (Array.getElem?_eq_some_iff.1 b1).1⟩

set_option maxHeartbeats 4000000 in
set_option maxRecDepth 100000 in
theorem extOf_any (a : Option Addr) (n cap : Nat) (E : Nat → ExtV) (t : Int) (w : World) (hr : extRow w a n E) (hn : n ≤ 65536) :
    Calls Try.prog 50 #[.slice a n cap, .int .u16 t] w fun e w' => foundIs E t n e ∧ Below w.heap.size w w' := by
  go_enter Try.func50, Try.ntmps50
  go_wp2
  go_loopw [10] (fun i wr => ∃ k : Nat, k ≤ n ∧ i = .int .i64 k ∧ Hid (∀ j, j < k → (E j).ty ≠ t) ∧ Below (w.heap.size + 1) (w.alloc (.cells #[.int .u16 0, .bool false, .slice none 0 0] 73)) wr) (fun i _ => n - (intOf i).toNat)
  case atStart => exact ⟨0, by omega, rfl, fun j hj => absurd hj (by omega), Below.refl _ _⟩
  case round =>
    obtain ⟨k, hk, rfl, hno, hbel⟩ := hrel
    obtain ⟨q0, q1, hsz⟩ := result_cells hbel
    have hall : Below w.heap.size w wr := ((Below.refl _ _).alloc (Nat.le_refl _) _).trans (hbel.mono (by omega))
    by_cases hlt : k < n
    · obtain ⟨b, off, rfl, hbl, hc, _, _⟩ := hr k hlt
      obtain ⟨c0, c1, c2⟩ := hc.below hall hbl
      have i1 : (k : Int) < (n : Int) := by omega
      have n1 : ¬ b = w.heap.size := by omega
      clear hc
      by_cases hty : (E k).ty = t
      · have hfound : Hid (foundIs E t n (.returned (.tuple #[(E k).val, .bool true]))) := .inl ⟨k, hlt, hty, hno.out, rfl⟩
        generalize E k = x at *
        obtain ⟨x1, x2, x3, x4, x5⟩ := x
        simp only at c0 c1 c2 hty
        subst hty
        clear hr
        go_wp2
        refine bodyPost_ret (v := .tuple #[.agg #[.int .u16 x1, .bool x2, .slice x3 x4 x5], .bool true]) (by simp [results, Try.results50, go_sem, q0, hsz]) rfl ⟨hfound.out, ?_⟩
        exact (below_setCells [.int .u16 x1, .bool x2, .slice x3 x4 x5] (b := w.heap.size) 0 hall (Nat.le_refl _)).alloc (by have := (below_setCells [.int .u16 x1, .bool x2, .slice x3 x4 x5] (b := w.heap.size) 0 hall (Nat.le_refl _)).size; exact this) _
      · have hq : ((E k).ty == t) = false := by simpa using hty
        have hno' : Hid (∀ j, j < k + 1 → (E j).ty ≠ t) := fun j hj => by
          by_cases hjk : j = k
          · subst hjk; exact hty
          · exact hno.out j (by omega)
        generalize E k = x at *
        obtain ⟨x1, x2, x3, x4, x5⟩ := x
        simp only at c0 c1 c2 hq
        clear hr hty
        go_wp2
        go_roundw
        case rel => exact ⟨k + 1, by omega, by go_num, hno', hbel.alloc (by omega) _⟩
        case measure => simp [intOf]; omega
    · obtain rfl : k = n := by omega
      have hfound : Hid (foundIs E t k (.returned (.tuple #[ExtV.zero.val, .bool false]))) := .inr ⟨hno.out, rfl⟩
      go_wp2
      refine bodyPost_ret (v := .tuple #[.agg #[.int .u16 0, .bool false, .slice none 0 0], .bool false]) (by simp [results, Try.results50, go_sem, q0]) rfl ⟨hfound.out, ?_⟩
      exact below_setCells [.int .u16 0, .bool false, .slice none 0 0] (b := w.heap.size) 0 hall (Nat.le_refl _)

set_option maxHeartbeats 4000000 in
set_option maxRecDepth 100000 in
/-- ZZExtensionOf. -/
theorem zzExtOf_any (a : Option Addr) (n cap : Nat) (E : Nat → ExtV) (t : Int) (w : World) (hr : extRow w a n E) (hn : n ≤ 65536) :
    Calls Try.prog 36 #[.slice a n cap, .int .u16 t] w fun e w' => foundIs E t n e ∧ Below w.heap.size w w' := by
  go_enter Try.func36, Try.ntmps36
  go_wp2_with fail
  refine (extOf_any a n cap E t _ (hr.below (B := w.heap.size) ((Below.refl _ _).alloc (Nat.le_refl _) _) (Nat.le_refl _)) hn).mono ?_
  rintro e w1 ⟨hf, hb⟩
  obtain ⟨q0, q1, hsz⟩ := result_cells (hb.mono (B' := w.heap.size + 1) (by simp))
  have hall : Below w.heap.size w w1 := ((Below.refl _ _).alloc (Nat.le_refl _) _).trans (hb.mono (by simp))
  have hfound : Hid (foundIs E t n e) := hf
  rcases hf with ⟨i, h1, h2, h3, rfl⟩ | ⟨h1, rfl⟩
  · clear h1 h2 h3 hr hb
    generalize E i = x at *
    obtain ⟨x1, x2, x3, x4, x5⟩ := x
    simp only [ExtV.val]
    go_wp2
    refine bodyPost_ret (v := .tuple #[.agg #[.int .u16 x1, .bool x2, .slice x3 x4 x5], .bool true]) (by simp [results, Try.results36, go_sem, q0]) rfl ⟨hfound.out, ?_⟩
    exact below_setCells [.int .u16 x1, .bool x2, .slice x3 x4 x5] (b := w.heap.size) 0 hall (Nat.le_refl _)
  · clear h1 hr hb
    simp only [ExtV.val, ExtV.zero]
    go_wp2
    refine bodyPost_ret (v := .tuple #[.agg #[.int .u16 0, .bool false, .slice none 0 0], .bool false]) (by simp [results, Try.results36, go_sem, q0]) rfl ⟨hfound.out, ?_⟩
    exact below_setCells [.int .u16 0, .bool false, .slice none 0 0] (b := w.heap.size) 0 hall (Nat.le_refl _)

set_option maxHeartbeats 4000000 in
set_option maxRecDepth 100000 in
/-- sameBytes of a slice with itself. -/
theorem sameBytes_any (a : Option Addr) (n c c' : Nat) (w : World) (hr : byteRow w a n) (hn : n ≤ maxLen) :
    Calls Try.prog 37 #[.slice a n c, .slice a n c'] w fun e w' => e = .returned (.bool true) ∧ ∃ q, w' = w.drewN q := by
  have k1 := fun wx => Lib.run_eql_slice_nil (P := Try.prog) wx 29 5 a n c 0 0 Try.underlying29
  have k2 := fun wx => Lib.run_eql_slice_nil (P := Try.prog) wx 29 5 a n c' 0 0 Try.underlying29
  unfold maxLen at hn
  go_enter Try.func37, Try.ntmps37
  go_wp2
  clear k1 k2
  go_loopw [5] (fun i wr => ∃ k : Nat, k ≤ n ∧ i = .int .i64 k ∧ ∃ q, wr = w.drewN q) (fun i _ => n - (intOf i).toNat)
  case atStart => exact ⟨0, by omega, rfl, 0, rfl⟩
  case round =>
    obtain ⟨k, hk, rfl, q, rfl⟩ := hrel
    by_cases hlt : k < n
    · obtain ⟨b, off, rfl, _, x, hc⟩ := hr k hlt
      have i1 : (k : Int) < (n : Int) := by omega
      go_wp2
      go_quiet (fail)
      go_wp2
      go_roundw
      case rel => exact ⟨k + 1, by omega, by go_num, _, rfl⟩
      case measure => simp [intOf]; omega
    · go_wp2
      go_ret
      exact ⟨rfl, _, rfl⟩
end Go.Proofs.Qxb6602271a
