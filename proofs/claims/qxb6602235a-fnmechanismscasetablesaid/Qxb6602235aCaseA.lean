import Derived.Test.Qxb6602235aPlain
import Derived.BigQuiet
import Derived.Deep.QuietTactic
import Derived.SliceStrings
import Derived.Lib.SliceRun
namespace Go.Proofs.Qxb6602235a
open Go.RowKit

/-- A slice of strings that came in: its first len cells, at whatever place. -/
def strRow (w : World) (a : Option Addr) (len : Nat) (ss : Nat → ByteArray) : Prop :=
  ∀ i, i < len → ∃ b off, a = some ⟨b, off, none⟩ ∧ b < w.heap.size ∧ w.cell? ⟨b, off + i, none⟩ = some (.string (ss i)) ∧ (ss i).size ≤ maxLen

set_option maxHeartbeats 8000000 in
set_option maxRecDepth 100000 in
/-- zzBytes: it answers a bool and changes nothing. -/
theorem bytes_any (a0 a2 a4 a6 : Bool) (a1 : Option Addr) (l1 c1 : Nat) (s3 s5 s7 : ByteArray) (p : Int) (ss : Nat → ByteArray) (w : World) (hr : strRow w a1 l1 ss) (h1 : l1 ≤ maxLen) (h3 : s3.size ≤ maxLen) (h5 : s5.size ≤ maxLen) (h7 : s7.size ≤ maxLen) :
    Calls Try.prog 9 #[.bool a0, .slice a1 l1 c1, .bool a2, .string s3, .bool a4, .string s5, .bool a6, .string s7, .int .i32 p] w fun e w' => (∃ b, e = .returned (.bool b)) ∧ w' = w := by
  unfold maxLen at h1 h3 h5 h7
  go_enter Try.func9, Try.ntmps9
  by_cases q1 : l1 ≤ 1048576
  · go_wp2
    go_loopw [19, 20] (fun z i wr => ∃ k : Nat, k ≤ l1 ∧ i = .int .i64 k ∧ w = wr ∧ ∃ y : Int, 0 ≤ y ∧ y ≤ 1048576 ∧ z = .int .i64 y) (fun _ i _ => l1 - (intOf i).toNat)
    case atStart => exact ⟨0, by omega, rfl, rfl, l1, by omega, by omega, by simp⟩
    case round =>
      obtain ⟨k, hk, rfl, rfl, y, hy0, hy1, rfl⟩ := hrel
      by_cases hlt : k < l1
      · obtain ⟨b, off, rfl, _, hc, hz⟩ := hr k hlt
        unfold maxLen at hz
        generalize ss k = s at *
        have i1 : (k : Int) < (l1 : Int) := by omega
        go_wp2
        all_goals first | (go_ret; exact ⟨⟨_, rfl⟩, rfl⟩) | (go_roundw; (case rel => exact ⟨k + 1, by omega, by go_num, trivial, _, by omega, by omega, rfl⟩); (case measure => simp [intOf]; omega))
      · go_wp2
        all_goals (go_ret; exact ⟨⟨_, rfl⟩, rfl⟩)
  · go_wp2
    go_ret
    exact ⟨⟨_, rfl⟩, rfl⟩

/-- The case table's code. -/
def code (e h t g : Bool) : Int := (if e then 8 else 0) + (if h then 4 else 0) + (if t then 2 else 0) + (if g then 1 else 0)

set_option maxHeartbeats 8000000 in
set_option maxRecDepth 100000 in
/-- mechanismsTable, at each of the sixteen codes. -/
theorem table_any (e h t g : Bool) (c : Int) (hc : c = code e h t g) (w : World) :
    Calls Try.prog 12 #[.int .i64 c] w fun r w' => ∃ v, r = .returned v ∧ w'.ownsRow w.heap.size 9 1 v (ranks e h t g).length (vals (ranks e h t g)) ∧ (v = .slice none 0 0 ↔ ranks e h t g = []) ∧ Below w.heap.size w w' := by
  cases e <;> cases h <;> cases t <;> cases g
  · obtain rfl : c = 0 := hc
    go_enter Try.func12, Try.ntmps12
    go_wp2
    go_ret
    exact ⟨_, rfl, World.ownsRow_nil _ _ _ _, ⟨fun _ => by decide, fun _ => rfl⟩, Below.refl _ _⟩
  · obtain rfl : c = 1 := hc
    go_enter Try.func12, Try.ntmps12
    go_wp2
    go_ret
    exact ⟨_, rfl, ⟨by decide, .inr ⟨w.heap.size, 1, _, rfl, Nat.le_refl _, heap_alloc_new w _, by decide, by decide, by decide, rfl⟩⟩, by simp [ranks, ranksTo, flag, List.range_succ], (Below.refl _ _).alloc (Nat.le_refl _) _⟩
  · obtain rfl : c = 2 := hc
    go_enter Try.func12, Try.ntmps12
    go_wp2
    go_ret
    exact ⟨_, rfl, ⟨by decide, .inr ⟨w.heap.size, 1, _, rfl, Nat.le_refl _, heap_alloc_new w _, by decide, by decide, by decide, rfl⟩⟩, by simp [ranks, ranksTo, flag, List.range_succ], (Below.refl _ _).alloc (Nat.le_refl _) _⟩
  · obtain rfl : c = 3 := hc
    go_enter Try.func12, Try.ntmps12
    go_wp2
    go_ret
    exact ⟨_, rfl, ⟨by decide, .inr ⟨w.heap.size, 2, _, rfl, Nat.le_refl _, heap_alloc_new w _, by decide, by decide, by decide, rfl⟩⟩, by simp [ranks, ranksTo, flag, List.range_succ], (Below.refl _ _).alloc (Nat.le_refl _) _⟩
  · obtain rfl : c = 4 := hc
    go_enter Try.func12, Try.ntmps12
    go_wp2
    go_ret
    exact ⟨_, rfl, ⟨by decide, .inr ⟨w.heap.size, 1, _, rfl, Nat.le_refl _, heap_alloc_new w _, by decide, by decide, by decide, rfl⟩⟩, by simp [ranks, ranksTo, flag, List.range_succ], (Below.refl _ _).alloc (Nat.le_refl _) _⟩
  · obtain rfl : c = 5 := hc
    go_enter Try.func12, Try.ntmps12
    go_wp2
    go_ret
    exact ⟨_, rfl, ⟨by decide, .inr ⟨w.heap.size, 2, _, rfl, Nat.le_refl _, heap_alloc_new w _, by decide, by decide, by decide, rfl⟩⟩, by simp [ranks, ranksTo, flag, List.range_succ], (Below.refl _ _).alloc (Nat.le_refl _) _⟩
  · obtain rfl : c = 6 := hc
    go_enter Try.func12, Try.ntmps12
    go_wp2
    go_ret
    exact ⟨_, rfl, ⟨by decide, .inr ⟨w.heap.size, 2, _, rfl, Nat.le_refl _, heap_alloc_new w _, by decide, by decide, by decide, rfl⟩⟩, by simp [ranks, ranksTo, flag, List.range_succ], (Below.refl _ _).alloc (Nat.le_refl _) _⟩
  · obtain rfl : c = 7 := hc
    go_enter Try.func12, Try.ntmps12
    go_wp2
    go_ret
    exact ⟨_, rfl, ⟨by decide, .inr ⟨w.heap.size, 3, _, rfl, Nat.le_refl _, heap_alloc_new w _, by decide, by decide, by decide, rfl⟩⟩, by simp [ranks, ranksTo, flag, List.range_succ], (Below.refl _ _).alloc (Nat.le_refl _) _⟩
  · obtain rfl : c = 8 := hc
    go_enter Try.func12, Try.ntmps12
    go_wp2
    go_ret
    exact ⟨_, rfl, ⟨by decide, .inr ⟨w.heap.size, 1, _, rfl, Nat.le_refl _, heap_alloc_new w _, by decide, by decide, by decide, rfl⟩⟩, by simp [ranks, ranksTo, flag, List.range_succ], (Below.refl _ _).alloc (Nat.le_refl _) _⟩
  · obtain rfl : c = 9 := hc
    go_enter Try.func12, Try.ntmps12
    go_wp2
    go_ret
    exact ⟨_, rfl, ⟨by decide, .inr ⟨w.heap.size, 2, _, rfl, Nat.le_refl _, heap_alloc_new w _, by decide, by decide, by decide, rfl⟩⟩, by simp [ranks, ranksTo, flag, List.range_succ], (Below.refl _ _).alloc (Nat.le_refl _) _⟩
  · obtain rfl : c = 10 := hc
    go_enter Try.func12, Try.ntmps12
    go_wp2
    go_ret
    exact ⟨_, rfl, ⟨by decide, .inr ⟨w.heap.size, 2, _, rfl, Nat.le_refl _, heap_alloc_new w _, by decide, by decide, by decide, rfl⟩⟩, by simp [ranks, ranksTo, flag, List.range_succ], (Below.refl _ _).alloc (Nat.le_refl _) _⟩
  · obtain rfl : c = 11 := hc
    go_enter Try.func12, Try.ntmps12
    go_wp2
    go_ret
    exact ⟨_, rfl, ⟨by decide, .inr ⟨w.heap.size, 3, _, rfl, Nat.le_refl _, heap_alloc_new w _, by decide, by decide, by decide, rfl⟩⟩, by simp [ranks, ranksTo, flag, List.range_succ], (Below.refl _ _).alloc (Nat.le_refl _) _⟩
  · obtain rfl : c = 12 := hc
    go_enter Try.func12, Try.ntmps12
    go_wp2
    go_ret
    exact ⟨_, rfl, ⟨by decide, .inr ⟨w.heap.size, 2, _, rfl, Nat.le_refl _, heap_alloc_new w _, by decide, by decide, by decide, rfl⟩⟩, by simp [ranks, ranksTo, flag, List.range_succ], (Below.refl _ _).alloc (Nat.le_refl _) _⟩
  · obtain rfl : c = 13 := hc
    go_enter Try.func12, Try.ntmps12
    go_wp2
    go_ret
    exact ⟨_, rfl, ⟨by decide, .inr ⟨w.heap.size, 3, _, rfl, Nat.le_refl _, heap_alloc_new w _, by decide, by decide, by decide, rfl⟩⟩, by simp [ranks, ranksTo, flag, List.range_succ], (Below.refl _ _).alloc (Nat.le_refl _) _⟩
  · obtain rfl : c = 14 := hc
    go_enter Try.func12, Try.ntmps12
    go_wp2
    go_ret
    exact ⟨_, rfl, ⟨by decide, .inr ⟨w.heap.size, 3, _, rfl, Nat.le_refl _, heap_alloc_new w _, by decide, by decide, by decide, rfl⟩⟩, by simp [ranks, ranksTo, flag, List.range_succ], (Below.refl _ _).alloc (Nat.le_refl _) _⟩
  · obtain rfl : c = 15 := hc
    go_enter Try.func12, Try.ntmps12
    go_wp2
    go_ret
    exact ⟨_, rfl, ⟨by decide, .inr ⟨w.heap.size, 4, _, rfl, Nat.le_refl _, heap_alloc_new w _, by decide, by decide, by decide, rfl⟩⟩, by simp [ranks, ranksTo, flag, List.range_succ], (Below.refl _ _).alloc (Nat.le_refl _) _⟩

set_option maxHeartbeats 8000000 in
set_option maxRecDepth 100000 in
/-- sameNames: two rows of the same names, both nil or both not nil. -/
theorem same_any (oa ob : Option Addr) (ca cb : Nat) (L : List Nat) (hl : L.length ≤ 4) (hn : oa.isNone = ob.isNone) (w : World) (ha : leads w oa L) (hb : leads w ob L) :
    Calls Try.prog 11 #[.slice oa L.length ca, .slice ob L.length cb] w fun e w' => e = .returned (.bool true) ∧ ∃ n, w' = w.drewN n := by
  have k1 := fun wx => Lib.run_eql_slice_nil (P := Try.prog) wx 25 9 oa L.length ca 0 0 Try.underlying25
  have k2 := fun wx => Lib.run_eql_slice_nil (P := Try.prog) wx 25 9 ob L.length cb 0 0 Try.underlying25
  go_enter Try.func11, Try.ntmps11
  go_wp2
  go_loopw [5] (fun i wr => ∃ k : Nat, k ≤ L.length ∧ i = .int .i64 k ∧ ∃ n, wr = w.drewN n) (fun i _ => L.length - (intOf i).toNat)
  case atStart => exact ⟨0, by omega, rfl, 0, rfl⟩
  case round =>
    obtain ⟨k, hk, rfl, n, rfl⟩ := hrel
    by_cases hlt : k < L.length
    · obtain ⟨g1, rfl, _, c1⟩ := ha k hlt
      obtain ⟨g2, rfl, _, c2⟩ := hb k hlt
      have i1 : (k : Int) < (L.length : Int) := by omega
      clear k1 k2
      generalize L.getD k 0 = x at *
      go_wp2
      go_quiet (fail)
      go_wp2
      go_roundw
      case rel => exact ⟨k + 1, by omega, by go_num, _, rfl⟩
      case measure => simp [intOf]; omega
    · go_wp2
      go_ret
      exact ⟨rfl, _, rfl⟩
end Go.Proofs.Qxb6602235a
