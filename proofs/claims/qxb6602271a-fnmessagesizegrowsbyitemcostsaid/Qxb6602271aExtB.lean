import Derived.Test.Qxb6602271aExt
namespace Go.Proofs.Qxb6602271a
open Go.RowKit

/-- Behind a call that leaves all that was there: two blocks that were laid just ahead of it. -/
theorem after2 {w w1 : World} {c1 c2 : Array Value} {t1 t2 : TypeId} (hb : Below ((w.alloc (.cells c1 t1)).alloc (.cells c2 t2)).drew.heap.size ((w.alloc (.cells c1 t1)).alloc (.cells c2 t2)).drew w1) :
    (∀ j, w1.cell? ⟨w.heap.size, j, none⟩ = c1[j]?) ∧ (∀ j, w1.cell? ⟨w.heap.size + 1, j, none⟩ = c2[j]?) ∧ (∀ j, w1.frozen? ⟨w.heap.size + 1, j, none⟩ = false) := by
  have b1 : w1.heap[w.heap.size]? = some (.cells c1 t1 (0, 0)) := by
    rw [hb.block w.heap.size (by simp <;> omega)]
    show ((w.heap.push _).push _)[w.heap.size]? = _
    simp only [Array.getElem?_push, Array.size_push]
    rw [if_neg (by omega), if_pos trivial]
  have b2 : w1.heap[w.heap.size + 1]? = some (.cells c2 t2 (0, 0)) := by
    rw [hb.block (w.heap.size + 1) (by simp)]
    show ((w.heap.push _).push _)[w.heap.size + 1]? = _
    simp only [Array.getElem?_push, Array.size_push]
    rw [if_pos trivial]
  refine ⟨fun j => ?_, fun j => ?_, fun j => ?_⟩
  · simp [World.cell?, b1]
  · simp [World.cell?, b2]
  · simp [World.frozen?, b2]

theorem freshRow.setCells {B b : Nat} {w : World} {a : Option Addr} {len o : Nat} {vs : List Value} (h : freshRow B w a len) (hb : b < B) : freshRow B (w.setCells b o vs) a len := fun i hi => by
  obtain ⟨g, e, hC, hg, x, hc⟩ := h i hi
  have hs : Below w.heap.size w w := Below.refl _ _
  refine ⟨g, e, hC, ?_, x, ?_⟩
  · have := (below_setCells vs (b := b) o (Below.refl b w) (Nat.le_refl _)).size
    omega
  · rw [World.cell?_setCells_out b vs o w ⟨g, i, none⟩ (fun h _ => by simp at h; omega)]; exact hc
theorem freshRow.mono {B B' : Nat} {w : World} {a : Option Addr} {len : Nat} (h : freshRow B w a len) (hb : B' ≤ B) : freshRow B' w a len := fun i hi => by
  obtain ⟨g, e, hC, r⟩ := h i hi
  exact ⟨g, e, Nat.le_trans hb hC, r⟩

set_option maxHeartbeats 4000000 in
set_option maxRecDepth 100000 in
/-- copyExt: the same scalars, the content copied. -/
theorem copyExt_any (ty : Int) (cr : Bool) (ca : Option Addr) (cl cc : Nat) (w : World) (hr : byteRow w ca cl) (hl : cl ≤ 1048576) :
    Calls Try.prog 25 #[.agg #[.int .u16 ty, .bool cr, .slice ca cl cc]] w fun e w' => ∃ oa c', e = .returned (.agg #[.int .u16 ty, .bool cr, .slice oa cl c']) ∧ freshRow w.heap.size w' oa cl ∧ Below w.heap.size w w' := by
  go_enter Try.func25, Try.ntmps25
  go_wp2
  go_region_held3 (fun w' => w'.cell? ⟨w.heap.size, 0, none⟩ = some (.int .u16 ty) ∧ w'.cell? ⟨w.heap.size, 1, none⟩ = some (.bool cr) ∧ w'.cell? ⟨w.heap.size, 2, none⟩ = some (.slice ca cl cc)) (go_keep)
    ((go_at_call 28; refine (copyBytes_any ca cl cc _ (hr.below (B := w.heap.size) (by repeat (first | exact Below.refl _ _ | refine Below.drew ?_ | refine Below.alloc ?_ (by simp) _)) (Nat.le_refl _)) hl).mono ?_; rintro e w1 ⟨oa, c', rfl, hn, hf, hb⟩; obtain ⟨q0, q1, q2⟩ := after2 hb; clear hn))
  go_wp2
  refine bodyPost_ret (v := .agg #[.int .u16 ty, .bool cr, .slice oa cl c']) (by simp [results, Try.results25, go_sem, q1]) rfl ⟨oa, c', rfl, ?_, ?_⟩
  · exact (hf.setCells (b := w.heap.size + 1) (o := 0) (vs := [.int .u16 ty, .bool cr, .slice oa cl c']) (by simp)).mono (by simp; omega)
  · exact below_setCells [.int .u16 ty, .bool cr, .slice oa cl c'] (b := w.heap.size + 1) 0 ((((Below.refl _ _).alloc (Nat.le_refl _) _).alloc (by simp) _).drew.trans (hb.mono (by simp; omega))) (by omega)

/-! ### What lies in the row of extensions that the call makes: the first k are extensions whose contents are bytes in later blocks -/
def extDone (w : World) (B k : Nat) : Prop := ∀ i, i < k → ∃ x : ExtV, extCells w B (i * 3) x ∧ x.cl ≤ 1048576 ∧ freshRow (B + 1) w x.ca x.cl

theorem extCells.setCells_in {w : World} {B o T s n : Nat} {x : ExtV} (h : outRow w B T s n) (ho : o + 3 ≤ n * s) : extCells (w.setCells B o x.cells) B o x := by
  have hin := World.cell?_setCells_in B x.cells o w (fun j hj => by
    obtain ⟨v, hv⟩ := h.cell (j := o + j) (by simp [ExtV.cells] at hj; omega)
    rw [hv]; rfl)
  exact ⟨hin 0 (by simp [ExtV.cells]), hin 1 (by simp [ExtV.cells]), hin 2 (by simp [ExtV.cells])⟩
theorem extCells.setCells_out {w : World} {B o o' : Nat} {x : ExtV} {vs : List Value} (h : extCells w B o x) (ho : o + 3 ≤ o') : extCells (w.setCells B o' vs) B o x := by
  refine ⟨?_, ?_, ?_⟩
  · rw [World.cell?_setCells_out B vs o' w ⟨B, o, none⟩ (fun _ _ => .inl (by simp; omega))]; exact h.1
  · rw [World.cell?_setCells_out B vs o' w ⟨B, o + 1, none⟩ (fun _ _ => .inl (by simp; omega))]; exact h.2.1
  · rw [World.cell?_setCells_out B vs o' w ⟨B, o + 2, none⟩ (fun _ _ => .inl (by simp; omega))]; exact h.2.2

theorem extDone.step {w w1 : World} {B k n T C : Nat} {x : ExtV} (h : extDone w B k) (ho : outRow w B T 3 n) (hk : k < n) (hb : Below C w w1) (hC : w.heap.size ≤ C) (hBC : B < C) (hx : x.cl ≤ 1048576) (hf : freshRow (B + 1) w1 x.ca x.cl) :
    extDone (w1.setCells B (k * 3) x.cells) B (k + 1) ∧ outRow (w1.setCells B (k * 3) x.cells) B T 3 n := by
  have ho1 := ho.below hb hBC
  refine ⟨fun i hi => ?_, outRow.storeds _ _ ho1⟩
  by_cases hik : i = k
  · subst hik
    exact ⟨x, extCells.setCells_in ho1 (by omega), hx, hf.setCells (by omega)⟩
  · obtain ⟨y, hy, hl, hfy⟩ := h i (by omega)
    exact ⟨y, (hy.below hb hBC).setCells_out (by omega), hl, (hfy.below hb hC).setCells (by omega)⟩

theorem choose_ext {n : Nat} {p : Nat → ExtV → Prop} (h : ∀ i, i < n → ∃ x, p i x) : ∃ f : Nat → ExtV, ∀ i, i < n → p i (f i) := by
  classical
  refine ⟨fun i => if hi : i < n then Classical.choose (h i hi) else .zero, fun i hi => ?_⟩
  simp only [dif_pos hi]
  exact Classical.choose_spec (h i hi)

theorem info66 : (Try.prog.info? 66).map (fun i => (i.zero, i.size, i.bytes)) = some (some (.agg #[.int .u16 0, .bool false, .slice none 0 0]), 3, 32) := by kernel_rfl

set_option maxHeartbeats 4000000 in
set_option maxRecDepth 100000 in
/-- copyExts: nil for nil; else a new row of as many extensions, their contents copied. -/
theorem copyExts_any (a : Option Addr) (n cap : Nat) (E : Nat → ExtV) (w : World) (hr : extRow w a n E) (hn : n ≤ 65536) (hl : ∀ i, i < n → (E i).cl ≤ 1048576) :
    Calls Try.prog 34 #[.slice a n cap] w fun e w' => ∃ oa c', e = .returned (.slice oa n c') ∧ (∃ E', extRow w' oa n E' ∧ ∀ i, i < n → (E' i).cl ≤ 1048576) ∧ Below w.heap.size w w' := by
  have kn := fun wx => Lib.run_eql_slice_nil (P := Try.prog) wx 30 66 a n cap 0 0 Try.underlying30
  obtain ⟨i0, hi, hz0, hz1, hz2⟩ := info_parts info66
  cases a with
  | none =>
    obtain rfl := hr.zero
    go_enter Try.func34, Try.ntmps34
    go_wp2
    go_ret
    exact ⟨none, 0, rfl, ⟨fun _ => .zero, fun i hi => absurd hi (by omega), fun i hi => absurd hi (by omega)⟩, Below.refl _ _⟩
  | some ad =>
    go_enter Try.func34, Try.ntmps34
    go_wp2_with (at_make; refine wpList_make_full _ rfl _ _ 30 rfl w.heap.size 66 i0 (.agg #[.int .u16 0, .bool false, .slice none 0 0]) 3 Try.underlying30 hi hz0 hz1 _ _ _ _ n rfl rfl rfl rfl ?b2 ?b3 (Nat.le_refl _) ?_)
    case b2 => rw [hz2]; omega
    case b3 => unfold maxLen; omega
    intro w1 hown hg
    have hbel : Below w.heap.size w w1 := (Below.refl _ _).grown hg (Nat.le_refl _) (fun _ h => by cases h)
    have hout : outRow w1 w.heap.size 66 3 n := ⟨_, hown⟩
    have hsz : w.heap.size < w1.heap.size := by
      rcases hown.2 with ⟨h, _⟩ | ⟨g, _, _, h, _, hh, _⟩
      · simp at h
      · simp only [Value.slice.injEq, Option.some.injEq, Addr.mk.injEq] at h
        obtain ⟨⟨rfl, _⟩, _⟩ := h
        exact (Array.getElem?_eq_some_iff.1 hh).1
    clear hown hg kn hi hz0 hz1 hz2
    go_wp2
    go_loopw [4] (fun i wr => ∃ k : Nat, k ≤ n ∧ i = .int .i64 k ∧ outRow wr w.heap.size 66 3 n ∧ extDone wr w.heap.size k ∧ Below w.heap.size w wr ∧ w.heap.size < wr.heap.size) (fun i _ => n - (intOf i).toNat)
    case atStart => exact ⟨0, by omega, rfl, hout, fun i hi => absurd hi (by omega), hbel, hsz⟩
    case round =>
      clear hout hbel hsz
      obtain ⟨k, hk, rfl, hout, hdone, hbel, hsz⟩ := hrel
      by_cases hlt : k < n
      · obtain ⟨b, off, he, hbl, hc, hby, _⟩ := hr k hlt
        obtain rfl : ad = ⟨b, off, none⟩ := by simpa using he
        obtain ⟨c0, c1, c2⟩ := hc.below hbel hbl
        have hby' := hby.below hbel (Nat.le_refl _)
        have hlk := hl k hlt
        generalize E k = x at *
        obtain ⟨x1, x2, x3, x4, x5⟩ := x
        simp only at c0 c1 c2 hby' hlk
        have i1 : (k : Int) < (n : Int) := by omega
        clear he hc hby hr hl
        go_wp2_with fail
        refine (copyExt_any x1 x2 x3 x4 x5 _ hby' hlk).mono ?_
        rintro e w2 ⟨oa, c', rfl, hf, hb2⟩
        have ho2 := hout.below hb2 hsz
        obtain ⟨v0, hv0⟩ := ho2.cell (j := k * 3) (by omega)
        obtain ⟨v1, hv1⟩ := ho2.cell (j := k * 3 + 1) (by omega)
        obtain ⟨v2, hv2⟩ := ho2.cell (j := k * 3 + 2) (by omega)
        have f0 := ho2.frozen (k * 3)
        have f1 := ho2.frozen (k * 3 + 1)
        have f2 := ho2.frozen (k * 3 + 2)
        have hst := hdone.step (x := ⟨x1, x2, oa, x4, c'⟩) hout hlt hb2 (Nat.le_refl _) hsz hlk (hf.mono hsz)
        have hbs := below_setCells (ExtV.cells ⟨x1, x2, oa, x4, c'⟩) (b := w.heap.size) (k * 3) (hbel.trans (hb2.mono (Nat.le_of_lt hsz))) (Nat.le_refl _)
        have hss : w.heap.size < (w2.setCells w.heap.size (k * 3) (ExtV.cells ⟨x1, x2, oa, x4, c'⟩)).heap.size := by
          have h1 := (below_setCells (ExtV.cells ⟨x1, x2, oa, x4, c'⟩) (b := w.heap.size) (k * 3) (Below.refl w.heap.size w2) (Nat.le_refl _)).size
          have h2 := hb2.size
          omega
        clear hout hdone hbel hf hb2 ho2 c0 c1 c2 hby'
        go_wp2
        go_roundw
        case rel => exact ⟨k + 1, by omega, by go_num, hst.2, hst.1, hbs, hss⟩
        case measure => simp [intOf]; omega
      · obtain rfl : k = n := by omega
        go_wp2
        go_ret
        refine ⟨_, _, rfl, ?_, hbel⟩
        obtain ⟨E', hE⟩ := choose_ext hdone
        refine ⟨E', fun i hi => ?_, fun i hi => (hE i hi).2.1⟩
        obtain ⟨h1, h2, h3⟩ := hE i hi
        exact ⟨w.heap.size, 0, rfl, hsz, by rw [Nat.zero_add]; exact h1, h3.bytes, by unfold maxLen; omega⟩

theorem info73 : (Try.prog.info? 73).map (fun i => (i.zero, i.size, i.bytes)) = some (some (.agg #[.int .u16 0, .bool false, .slice none 0 0]), 3, 32) := by kernel_rfl

/-- The row of extensions that toExts makes: the first k are those of the source. -/
def extSame (w : World) (B k : Nat) (E : Nat → ExtV) : Prop := ∀ i, i < k → extCells w B (i * 3) (E i)
theorem extSame.step {w : World} {B k n T : Nat} {E : Nat → ExtV} (h : extSame w B k E) (ho : outRow w B T 3 n) (hk : k < n) :
    extSame (w.setCells B (k * 3) (E k).cells) B (k + 1) E := fun i hi => by
  by_cases hik : i = k
  · subst hik
    exact extCells.setCells_in ho (by omega)
  · exact (h i (by omega)).setCells_out (by omega)

set_option maxHeartbeats 4000000 in
set_option maxRecDepth 100000 in
/-- toExts: nil for nil; else a new row of the same extensions. -/
theorem toExts_any (a : Option Addr) (n cap : Nat) (E : Nat → ExtV) (w : World) (hr : extRow w a n E) (hn : n ≤ 65536) :
    Calls Try.prog 35 #[.slice a n cap] w fun e w' => ∃ oa c', e = .returned (.slice oa n c') ∧ extRow w' oa n E ∧ Below w.heap.size w w' := by
  have kn := fun wx => Lib.run_eql_slice_nil (P := Try.prog) wx 30 66 a n cap 0 0 Try.underlying30
  obtain ⟨i0, hi, hz0, hz1, hz2⟩ := info_parts info73
  cases a with
  | none =>
    obtain rfl := hr.zero
    go_enter Try.func35, Try.ntmps35
    go_wp2
    go_ret
    exact ⟨none, 0, rfl, fun i hi => absurd hi (by omega), Below.refl _ _⟩
  | some ad =>
    go_enter Try.func35, Try.ntmps35
    go_wp2_with (at_make; refine wpList_make_full _ rfl _ _ 47 rfl w.heap.size 73 i0 (.agg #[.int .u16 0, .bool false, .slice none 0 0]) 3 Try.underlying47 hi hz0 hz1 _ _ _ _ n rfl rfl rfl rfl ?b2 ?b3 (Nat.le_refl _) ?_)
    case b2 => rw [hz2]; omega
    case b3 => unfold maxLen; omega
    intro w1 hown hg
    have hbel : Below w.heap.size w w1 := (Below.refl _ _).grown hg (Nat.le_refl _) (fun _ h => by cases h)
    have hout : outRow w1 w.heap.size 73 3 n := ⟨_, hown⟩
    have hsz : w.heap.size < w1.heap.size := by
      rcases hown.2 with ⟨h, _⟩ | ⟨g, _, _, h, _, hh, _⟩
      · simp at h
      · simp only [Value.slice.injEq, Option.some.injEq, Addr.mk.injEq] at h
        obtain ⟨⟨rfl, _⟩, _⟩ := h
        exact (Array.getElem?_eq_some_iff.1 hh).1
    clear hown hg kn hi hz0 hz1 hz2
    go_wp2
    go_loopw [4] (fun i wr => ∃ k : Nat, k ≤ n ∧ i = .int .i64 k ∧ outRow wr w.heap.size 73 3 n ∧ extSame wr w.heap.size k E ∧ Below w.heap.size w wr ∧ w.heap.size < wr.heap.size) (fun i _ => n - (intOf i).toNat)
    case atStart => exact ⟨0, by omega, rfl, hout, fun i hi => absurd hi (by omega), hbel, hsz⟩
    case round =>
      clear hout hbel hsz
      obtain ⟨k, hk, rfl, hout, hdone, hbel, hsz⟩ := hrel
      by_cases hlt : k < n
      · obtain ⟨b, off, he, hbl, hc, _, _⟩ := hr k hlt
        obtain rfl : ad = ⟨b, off, none⟩ := by simpa using he
        obtain ⟨c0, c1, c2⟩ := hc.below hbel hbl
        obtain ⟨v0, hv0⟩ := hout.cell (j := k * 3) (by omega)
        obtain ⟨v1, hv1⟩ := hout.cell (j := k * 3 + 1) (by omega)
        obtain ⟨v2, hv2⟩ := hout.cell (j := k * 3 + 2) (by omega)
        have f0 := hout.frozen (k * 3)
        have f1 := hout.frozen (k * 3 + 1)
        have f2 := hout.frozen (k * 3 + 2)
        have hst := hdone.step hout hlt
        have ho2 := outRow.storeds (E k).cells (k * 3) hout
        have hbs := below_setCells (E k).cells (b := w.heap.size) (k * 3) hbel (Nat.le_refl _)
        have hss : w.heap.size < (wr.setCells w.heap.size (k * 3) (E k).cells).heap.size := by
          have h1 := (below_setCells (E k).cells (b := w.heap.size) (k * 3) (Below.refl w.heap.size wr) (Nat.le_refl _)).size
          omega
        have Hst : Hid _ := And.intro hst (And.intro ho2 (And.intro hbs hss))
        have i1 : (k : Int) < (n : Int) := by omega
        have i2 : (0 : Int) ≤ (k : Int) := by omega
        have n1 : ¬ b = w.heap.size := by omega
        have n2 : ¬ w.heap.size = b := by omega
        clear he hc hst ho2 hbs hss hout hdone hbel
        go_wp2
        go_region_held3 (fun w' => w'.cell? ⟨b, off + k * 3, none⟩ = some (.int .u16 (E k).ty) ∧ w'.cell? ⟨b, off + k * 3 + 1, none⟩ = some (.bool (E k).cr) ∧ w'.cell? ⟨b, off + k * 3 + 2, none⟩ = some (.slice (E k).ca (E k).cl (E k).cc)) (go_keep) (fail)
        go_wp2
        obtain ⟨hst, ho2, hbs, hss⟩ := Hst.out
        go_roundw
        case rel => exact ⟨k + 1, by omega, by go_num, ho2, hst, hbs.drew, hss⟩
        case measure => simp [intOf]; omega
      · obtain rfl : k = n := by omega
        go_wp2
        go_ret
        refine ⟨_, _, rfl, fun i hi => ?_, hbel⟩
        obtain ⟨b, off, he, hbl, hc, hby, hm⟩ := hr i hi
        exact ⟨w.heap.size, 0, rfl, hsz, by rw [Nat.zero_add]; exact hdone i hi, hby.below hbel (Nat.le_refl _), hm⟩
end Go.Proofs.Qxb6602271a
