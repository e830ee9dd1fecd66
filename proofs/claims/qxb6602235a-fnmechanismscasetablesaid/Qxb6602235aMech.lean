import Derived.Test.Qxb6602235aRows
import Derived.WalkKit
import Derived.WalkSpells
import Derived.WalkLawsBesides
import Derived.Deep.RegionHeld3
namespace Go.Proofs.Qxb6602235a
open Go.RowKit

/-- The handler's pointer field at offset o of block b: set just where 'isSet' says. -/
def fieldIs (w : World) (b o : Nat) (isSet : Bool) : Prop := ∃ p : Option Addr, w.cell? ⟨b, o, none⟩ = some (.pointer p) ∧ p.isSome = isSet

set_option maxHeartbeats 4000000 in
/-- handlerWith: a new handler, its four fields set as the four bools say. -/
theorem handler_any (e h t g : Bool) (w : World) :
    Calls Try.prog 13 #[.bool e, .bool h, .bool t, .bool g] w fun r w' => r = .returned (.pointer (some ⟨w.heap.size, 0, none⟩)) ∧ Below w.heap.size w w' ∧ w.heap.size < w'.heap.size ∧
      fieldIs w' w.heap.size 0 e ∧ fieldIs w' w.heap.size 1 h ∧ fieldIs w' w.heap.size 2 t ∧ fieldIs w' w.heap.size 3 g := by
  cases e <;> cases h <;> cases t <;> cases g
  all_goals
    go_enter Try.func13, Try.ntmps13
    go_wp2
    go_ret
    refine ⟨rfl, ?_, by simp; try omega, ?_, ?_, ?_, ?_⟩
    · repeat (first | exact Below.refl _ _ | (refine Below.alloc ?_ (by simp; try omega) _))
    · simp [fieldIs, go_sem]
    · simp [fieldIs, go_sem]
    · simp [fieldIs, go_sem]
    · simp [fieldIs, go_sem]

/-- The names, by rank. -/
def nm : Nat → ByteArray
  | 0 => ⟨#[101, 120, 101, 99]⟩
  | 1 => ⟨#[104, 116, 116, 112, 71, 101, 116]⟩
  | 2 => ⟨#[116, 99, 112, 83, 111, 99, 107, 101, 116]⟩
  | _ => ⟨#[103, 114, 112, 99]⟩

/-- Is the field of rank k set? -/
def flag (e h t g : Bool) : Nat → Bool
  | 0 => e
  | 1 => h
  | 2 => t
  | 3 => g
  | _ => false
/-- The ranks of the fields that are set, of the first k. -/
def ranksTo (e h t g : Bool) (k : Nat) : List Nat := (List.range k).filter (flag e h t g)
/-- The ranks of the fields that are set. -/
def ranks (e h t g : Bool) : List Nat := ranksTo e h t g 4
def vals (l : List Nat) : List Value := l.map fun r => Value.string (nm r)

theorem ranksTo_yes {e h t g : Bool} {k : Nat} (hf : flag e h t g k = true) : ranksTo e h t g (k + 1) = ranksTo e h t g k ++ [k] := by
  simp [ranksTo, List.range_succ, hf]
theorem ranksTo_no {e h t g : Bool} {k : Nat} (hf : flag e h t g k = false) : ranksTo e h t g (k + 1) = ranksTo e h t g k := by
  simp [ranksTo, List.range_succ, hf]
theorem ranksTo_len (e h t g : Bool) (k : Nat) : (ranksTo e h t g k).length ≤ k := by
  have := List.length_filter_le (flag e h t g) (List.range k)
  simpa [ranksTo] using this

/-- The table that mechanisms ranges over. -/
def table (e h t g : Bool) : Obj := .cells #[.string (nm 0), .bool e, .string (nm 1), .bool h, .string (nm 2), .bool t, .string (nm 3), .bool g] 54
theorem table_cells {e h t g : Bool} {w wr : World} (hb : Below (w.heap.size + 1) (w.alloc (table e h t g)).drew wr) {k : Nat} (hk : k < 4) :
    wr.cell? ⟨w.heap.size, k * 2, none⟩ = some (.string (nm k)) ∧ wr.cell? ⟨w.heap.size, k * 2 + 1, none⟩ = some (.bool (flag e h t g k)) := by
  rw [hb.cell (p := ⟨w.heap.size, k * 2, none⟩) (by simp), hb.cell (p := ⟨w.heap.size, k * 2 + 1, none⟩) (by simp)]
  match k, hk with
  | 0, _ => simp [table, go_sem, flag]
  | 1, _ => simp [table, go_sem, flag]
  | 2, _ => simp [table, go_sem, flag]
  | 3, _ => simp [table, go_sem, flag]
end Go.Proofs.Qxb6602235a
