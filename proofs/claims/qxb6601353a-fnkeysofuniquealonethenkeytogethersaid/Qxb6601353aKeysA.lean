import Derived.Test.Qxb6601353aCols
import Derived.Deep.AppendLies
namespace Go.Proofs.Qxb6601353a
open Go.RowKit

/-! ### Columns -/
structure ColV where
  nm : ByteArray
  rq : Bool
  uq : Bool
  ky : Bool
  op : ByteArray
def ColV.cells (x : ColV) : List Value := [.string x.nm, .bool x.rq, .bool x.uq, .bool x.ky, .string x.op]
def ColV.zero : ColV := ⟨⟨#[]⟩, false, false, false, ⟨#[]⟩⟩
def colCells (w : World) (b o : Nat) (x : ColV) : Prop :=
  w.cell? ⟨b, o, none⟩ = some (.string x.nm) ∧ w.cell? ⟨b, o + 1, none⟩ = some (.bool x.rq) ∧ w.cell? ⟨b, o + 2, none⟩ = some (.bool x.uq) ∧ w.cell? ⟨b, o + 3, none⟩ = some (.bool x.ky) ∧ w.cell? ⟨b, o + 4, none⟩ = some (.string x.op)
theorem colCells.below {w w' : World} {B b o : Nat} {x : ColV} (h : colCells w b o x) (hb : Below B w w') (hB : b < B) : colCells w' b o x :=
  ⟨(hb.cell (p := ⟨b, o, none⟩) hB).trans h.1, (hb.cell (p := ⟨b, o + 1, none⟩) hB).trans h.2.1, (hb.cell (p := ⟨b, o + 2, none⟩) hB).trans h.2.2.1, (hb.cell (p := ⟨b, o + 3, none⟩) hB).trans h.2.2.2.1, (hb.cell (p := ⟨b, o + 4, none⟩) hB).trans h.2.2.2.2⟩
def colRow (w : World) (a : Option Addr) (n : Nat) (E : Nat → ColV) : Prop :=
  ∀ i, i < n → ∃ b, a = some ⟨b, 0, none⟩ ∧ b < w.heap.size ∧ colCells w b (i * 5) (E i)

/-- The places of the first k columns that are marked. -/
def placesTo (f : Nat → Bool) (k : Nat) : List Nat := (List.range k).filter f
theorem placesTo_yes {f : Nat → Bool} {k : Nat} (h : f k = true) : placesTo f (k + 1) = placesTo f k ++ [k] := by simp [placesTo, List.range_succ, h]
theorem placesTo_no {f : Nat → Bool} {k : Nat} (h : f k = false) : placesTo f (k + 1) = placesTo f k := by simp [placesTo, List.range_succ, h]
theorem placesTo_len (f : Nat → Bool) (k : Nat) : (placesTo f k).length ≤ k := by
  have := List.length_filter_le f (List.range k)
  simpa [placesTo] using this

def keyVals (gs : List Nat) : List Value := gs.map fun g => Value.slice (some ⟨g, 0, none⟩) 1 1
def intVals (ts : List Nat) : List Value := ts.map fun (t : Nat) => Value.int .i64 (t : Int)

/-- keysOf's two rows: the keys of one place (their blocks: gs) and the places that go together. -/
structure keysIs (B : Nat) (w : World) (gs : List Nat) (vk vt : Value) (us ts : List Nat) : Prop where
  len : gs.length = us.length
  keys : w.ownsRow B 33 1 vk us.length (keyVals gs)
  each : ∀ i, i < us.length → w.heap[gs.getD i 0]? = some (.cells #[.int .i64 ((us.getD i 0 : Nat) : Int)] 3 (0, 0))
  tog : w.ownsRow B 3 1 vt ts.length (intVals ts)
  far : ∀ i, i < us.length → vt.ownBlock ≠ some (gs.getD i 0)
  nilK : vk = .slice none 0 0 ↔ us = []
  nilT : vt = .slice none 0 0 ↔ ts = []

theorem grown_of_below {w w' : World} {C : Nat} (hb : Below C w w') (hC : w.heap.size ≤ C) (row : Option Nat) : w.grownBy w' row :=
  ⟨hb.os, hb.tape, hb.output, hb.size, fun k hk _ => hb.block k (Nat.lt_of_lt_of_le hk hC)⟩
theorem lt_of_block {w : World} {g : Nat} {o : Obj} (h : w.heap[g]? = some o) : g < w.heap.size := (Array.getElem?_eq_some_iff.1 h).1
theorem owns_type {w : World} {B : Nat} {e : TypeId} {s : Nat} {v : Value} {n : Nat} {xs : List Value} (h : w.ownsRow B e s v n xs) {g : Nat} (hg : v.ownBlock = some g) : ∃ cur, w.heap[g]? = some (.cells cur e (0, 0)) := by
  rcases h.2 with ⟨rfl, _⟩ | ⟨g', cap, cur, rfl, _, hgg, _⟩
  · simp [Value.ownBlock] at hg
  · simp [Value.ownBlock] at hg
    subst hg
    exact ⟨cur, hgg⟩

theorem keysIs.start (B : Nat) (w : World) : keysIs B w [] (.slice none 0 0) (.slice none 0 0) [] [] :=
  ⟨rfl, World.ownsRow_nil _ _ _ _, fun i hi => absurd hi (by simp), World.ownsRow_nil _ _ _ _, fun i hi => absurd hi (by simp), by simp, by simp⟩
theorem keysIs.below {B C : Nat} {w w' : World} {gs us ts : List Nat} {vk vt : Value} (h : keysIs B w gs vk vt us ts) (hb : Below C w w') (hC : w.heap.size ≤ C) : keysIs B w' gs vk vt us ts := by
  refine ⟨h.len, h.keys.kept (grown_of_below hb hC none) (by cases vk.ownBlock <;> simp), fun i hi => ?_, h.tog.kept (grown_of_below hb hC none) (by cases vt.ownBlock <;> simp), h.far, h.nilK, h.nilT⟩
  have := h.each i hi
  rw [hb.block _ (Nat.lt_of_lt_of_le (lt_of_block this) hC)]
  exact this
theorem keysIs.addKey {B : Nat} {w w1 : World} {gs us ts : List Nat} {vk vt : Value} {g cap g1 c : Nat} (h : keysIs B w gs vk vt us ts)
    (h1 : w.heap[g1]? = some (.cells #[.int .i64 (c : Int)] 3 (0, 0))) (hn : vt.ownBlock ≠ some g1)
    (hown : w1.ownsRow B 33 1 (.slice (some ⟨g, 0, none⟩) (us.length + 1) cap) (us.length + 1) (keyVals gs ++ [.slice (some ⟨g1, 0, none⟩) 1 1])) (hg : w.grownBy w1 vk.ownBlock) :
    keysIs B w1 (gs ++ [g1]) (.slice (some ⟨g, 0, none⟩) (us.length + 1) cap) vt (us ++ [c]) ts := by
  have hdiff : ∀ k cur, w.heap[k]? = some (.cells cur 3 (0, 0)) → some k ≠ vk.ownBlock := fun k cur hk he => by
    obtain ⟨cur', hc⟩ := owns_type h.keys he.symm
    rw [hc] at hk
    simp at hk
  refine ⟨by simp [h.len], by simpa [keyVals] using hown, fun i hi => ?_, ?_, fun i hi => ?_, by simp, h.nilT⟩
  · simp only [List.length_append, List.length_cons, List.length_nil] at hi
    by_cases hik : i < us.length
    · have := h.each i hik
      have e1 : (gs ++ [g1]).getD i 0 = gs.getD i 0 := by simp [List.getD, List.getElem?_append_left (show i < gs.length by rw [h.len]; exact hik)]
      have e2 : (us ++ [c]).getD i 0 = us.getD i 0 := by simp [List.getD, List.getElem?_append_left hik]
      rw [e1, e2, hg.block _ (lt_of_block this) (hdiff _ _ this)]
      exact this
    · obtain rfl : i = us.length := by omega
      have e1 : (gs ++ [g1]).getD us.length 0 = g1 := by rw [← h.len]; simp
      have e2 : (us ++ [c]).getD us.length 0 = c := by simp
      rw [e1, e2, hg.block _ (lt_of_block h1) (hdiff _ _ h1)]
      exact h1
  · refine h.tog.kept hg ?_
    cases hv : vt.ownBlock with
    | none => exact .inl rfl
    | some k =>
      obtain ⟨cur, hc⟩ := owns_type h.tog hv
      exact .inr (hdiff _ _ hc)
  · simp only [List.length_append, List.length_cons, List.length_nil] at hi
    by_cases hik : i < us.length
    · have e1 : (gs ++ [g1]).getD i 0 = gs.getD i 0 := by simp [List.getD, List.getElem?_append_left (show i < gs.length by rw [h.len]; exact hik)]
      rw [e1]; exact h.far i hik
    · obtain rfl : i = us.length := by omega
      have e1 : (gs ++ [g1]).getD us.length 0 = g1 := by rw [← h.len]; simp
      rw [e1]; exact hn
theorem keysIs.addTog {B H : Nat} {w w1 : World} {gs us ts : List Nat} {vk vt : Value} {g cap c : Nat} (h : keysIs B w gs vk vt us ts) (hH : w.heap.size = H)
    (hown : w1.ownsRow B 3 1 (.slice (some ⟨g, 0, none⟩) (ts.length + 1) cap) (ts.length + 1) (intVals ts ++ [.int .i64 (c : Int)])) (hg : w.grownBy w1 vt.ownBlock) (hl : vt.ownBlock = some g ∨ g = H) :
    keysIs B w1 gs vk (.slice (some ⟨g, 0, none⟩) (ts.length + 1) cap) us (ts ++ [c]) := by
  refine ⟨h.len, ?_, fun i hi => ?_, by simpa [intVals] using hown, fun i hi => ?_, h.nilK, by simp⟩
  · refine h.keys.kept hg ?_
    cases hv : vk.ownBlock with
    | none => exact .inl rfl
    | some k =>
      obtain ⟨cur, hc⟩ := owns_type h.keys hv
      refine .inr fun he => ?_
      obtain ⟨cur', hc'⟩ := owns_type h.tog he.symm
      rw [hc] at hc'
      simp at hc'
  · have := h.each i hi
    rw [hg.block _ (lt_of_block this) (fun e => h.far i hi e.symm)]
    exact this
  · intro he
    have he' : g = gs.getD i 0 := by simpa [Value.ownBlock] using he
    have hlt := lt_of_block (h.each i hi)
    rcases hl with hl | hl
    · exact h.far i hi (by rw [hl, he'])
    · omega

/-! ### What the caller reads -/
def keyRow (w : World) (ka : Option Addr) (us : List Nat) : Prop := ∀ i, i < us.length → ∃ g h, ka = some ⟨g, 0, none⟩ ∧ w.cell? ⟨g, i, none⟩ = some (.slice (some ⟨h, 0, none⟩) 1 1) ∧ w.cell? ⟨h, 0, none⟩ = some (.int .i64 ((us.getD i 0 : Nat) : Int))
def lastRow (w : World) (ka : Option Addr) (k : Nat) (ts : List Nat) : Prop := ts ≠ [] → ∃ g h cap, ka = some ⟨g, 0, none⟩ ∧ w.cell? ⟨g, k, none⟩ = some (.slice (some ⟨h, 0, none⟩) ts.length cap) ∧ ∀ j, j < ts.length → w.cell? ⟨h, j, none⟩ = some (.int .i64 ((ts.getD j 0 : Nat) : Int))
def lastLen (ts : List Nat) : Nat := if ts = [] then 0 else 1

theorem keysIs.keyRow_of {B : Nat} {w : World} {gs us ts : List Nat} {vt : Value} {g n cap : Nat} (h : keysIs B w gs (.slice (some ⟨g, 0, none⟩) n cap) vt us ts) : keyRow w (some ⟨g, 0, none⟩) us := fun i hi => by
  have hn : n = us.length := by
    rcases h.keys.2 with ⟨e, _⟩ | ⟨_, _, _, e, _⟩
    · simp at e
    · simp at e; exact e.2.1
  subst hn
  have hl := h.len
  refine ⟨g, gs.getD i 0, rfl, ?_, ?_⟩
  · rw [h.keys.cellAt i (by omega)]
    simp [keyVals, show i < gs.length by omega]
  · rw [cell_of_row _ _ 0 _ 3 (0, 0) (h.each i hi)]; rfl
theorem keysIs.endNone {B : Nat} {w : World} {gs us : List Nat} {vk vt : Value} (h : keysIs B w gs vk vt us []) : ∃ ka kc, vk = .slice ka (us.length + lastLen []) kc ∧ (us = [] → ka = none) ∧ keyRow w ka us ∧ lastRow w ka us.length [] := by
  rcases h.keys.2 with ⟨rfl, h0⟩ | ⟨g, cap, cur, rfl, _⟩
  · exact ⟨none, 0, by simp [h0, lastLen], fun _ => rfl, fun i hi => absurd hi (by omega), fun he => absurd rfl he⟩
  · refine ⟨_, cap, by simp [lastLen], fun he => ?_, h.keyRow_of, fun he => absurd rfl he⟩
    have := h.nilK.2 he
    simp at this
theorem keysIs.endSome {B : Nat} {w w1 : World} {gs us ts : List Nat} {vk : Value} {ht n0 ct g cap : Nat} (h : keysIs B w gs vk (.slice (some ⟨ht, 0, none⟩) n0 ct) us ts)
    (hown : w1.ownsRow B 33 1 (.slice (some ⟨g, 0, none⟩) (us.length + 1) cap) (us.length + 1) (keyVals gs ++ [.slice (some ⟨ht, 0, none⟩) n0 ct])) (hg : w.grownBy w1 vk.ownBlock) :
    keyRow w1 (some ⟨g, 0, none⟩) us ∧ lastRow w1 (some ⟨g, 0, none⟩) us.length ts := by
  have hl := h.len
  have hdiff : ∀ k cur, w.heap[k]? = some (.cells cur 3 (0, 0)) → some k ≠ vk.ownBlock := fun k cur hk he => by
    obtain ⟨cur', hc⟩ := owns_type h.keys he.symm
    rw [hc] at hk
    simp at hk
  have hn : n0 = ts.length := by
    rcases h.tog.2 with ⟨e, _⟩ | ⟨_, _, _, e, _⟩
    · simp at e
    · simp at e; exact e.2.1
  subst hn
  refine ⟨fun i hi => ⟨g, gs.getD i 0, rfl, ?_, ?_⟩, fun _ => ⟨g, ht, ct, rfl, ?_, fun j hj => ?_⟩⟩
  · rw [hown.cellAt i (by omega), List.getElem?_append_left (by simp [keyVals]; omega)]
    simp [keyVals, show i < gs.length by omega]
  · have := h.each i hi
    have e : w1.heap[gs.getD i 0]? = _ := (hg.block _ (lt_of_block this) (hdiff _ _ this)).trans this
    rw [cell_of_row _ _ 0 _ 3 (0, 0) e]; rfl
  · rw [hown.cellAt us.length (by omega), List.getElem?_append_right (by simp [keyVals]; omega)]
    simp [keyVals, hl]
  · have hc : w.cell? ⟨ht, j, none⟩ = (intVals ts)[j]? := h.tog.cellAt j (by omega)
    obtain ⟨cur, hcur⟩ := owns_type h.tog (g := ht) rfl
    have e : w1.heap[ht]? = w.heap[ht]? := hg.block _ (lt_of_block hcur) (hdiff _ _ hcur)
    rw [World.cell?_of_block (w := w) (a := ⟨ht, j, none⟩) e, hc]
    simp [intVals, hj]

theorem info33 : (Try.prog.info? 33).map (fun i => (i.zero, i.size, i.bytes)) = some (some (.slice none 0 0), 1, 24) := by kernel_rfl
theorem info3 : (Try.prog.info? 3).map (fun i => (i.zero, i.size, i.bytes)) = some (some (.int .i64 0), 1, 8) := by kernel_rfl
end Go.Proofs.Qxb6601353a
