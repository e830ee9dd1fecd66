import Derived.Test.Qxb6602271aExtB
namespace Go.Proofs.Qxb6602271a
open Go.RowKit

/-! ### DestV -/
structure DestV where
  ty : Int
  ca : Option Addr
  cl : Nat
  cc : Nat
def DestV.cells (x : DestV) : List Value := [.int .u8 x.ty, .slice x.ca x.cl x.cc]
def DestV.zero : DestV := ⟨0, none, 0, 0⟩
def destCells (w : World) (b o : Nat) (x : DestV) : Prop := w.cell? ⟨b, o, none⟩ = some (.int .u8 x.ty) ∧ w.cell? ⟨b, o + 1, none⟩ = some (.slice x.ca x.cl x.cc)
def destRow (w : World) (a : Option Addr) (n : Nat) (E : Nat → DestV) : Prop :=
  ∀ i, i < n → ∃ b off, a = some ⟨b, off, none⟩ ∧ b < w.heap.size ∧ destCells w b (off + i * 2) (E i) ∧ byteRow w (E i).ca (E i).cl ∧ (E i).cl ≤ maxLen
theorem destCells.below {w w' : World} {B b o : Nat} {x : DestV} (h : destCells w b o x) (hb : Below B w w') (hB : b < B) : destCells w' b o x :=
  ⟨(hb.cell (p := ⟨b, o, none⟩) hB).trans h.1, (hb.cell (p := ⟨b, o + 1, none⟩) hB).trans h.2⟩
theorem destRow.below {w w' : World} {a : Option Addr} {n B : Nat} {E : Nat → DestV} (h : destRow w a n E) (hb : Below B w w') (hB : w.heap.size ≤ B) : destRow w' a n E := fun i hi => by
  obtain ⟨b, off, e, hg, hc, hr, hm⟩ := h i hi
  exact ⟨b, off, e, Nat.lt_of_lt_of_le hg hb.size, hc.below hb (Nat.lt_of_lt_of_le hg hB), hr.below hb hB, hm⟩
theorem destRow.zero {w : World} {n : Nat} {E : Nat → DestV} (h : destRow w none n E) : n = 0 := by
  rcases Nat.eq_zero_or_pos n with h0 | h0
  · exact h0
  · obtain ⟨_, _, e, _⟩ := h 0 h0; cases e
def destDone (w : World) (B k : Nat) : Prop := ∀ i, i < k → ∃ x : DestV, destCells w B (i * 2) x ∧ x.cl ≤ 1048576 ∧ freshRow (B + 1) w x.ca x.cl
theorem destCells.setCells_in {w : World} {B o T s n : Nat} {x : DestV} (h : outRow w B T s n) (ho : o + 2 ≤ n * s) : destCells (w.setCells B o x.cells) B o x := by
  have hin := World.cell?_setCells_in B x.cells o w (fun j hj => by
    obtain ⟨v, hv⟩ := h.cell (j := o + j) (by simp [DestV.cells] at hj; omega)
    rw [hv]; rfl)
  exact ⟨hin 0 (by simp [DestV.cells]), hin 1 (by simp [DestV.cells])⟩
theorem destCells.setCells_out {w : World} {B o o' : Nat} {x : DestV} {vs : List Value} (h : destCells w B o x) (ho : o + 2 ≤ o') : destCells (w.setCells B o' vs) B o x := by
  refine ⟨?_, ?_⟩
  · rw [World.cell?_setCells_out B vs o' w ⟨B, o, none⟩ (fun _ _ => .inl (by simp; omega))]; exact h.1
  · rw [World.cell?_setCells_out B vs o' w ⟨B, o + 1, none⟩ (fun _ _ => .inl (by simp; omega))]; exact h.2
theorem destDone.step {w w1 : World} {B k n T C : Nat} {x : DestV} (h : destDone w B k) (ho : outRow w B T 2 n) (hk : k < n) (hb : Below C w w1) (hC : w.heap.size ≤ C) (hBC : B < C) (hx : x.cl ≤ 1048576) (hf : freshRow (B + 1) w1 x.ca x.cl) :
    destDone (w1.setCells B (k * 2) x.cells) B (k + 1) ∧ outRow (w1.setCells B (k * 2) x.cells) B T 2 n := by
  have ho1 := ho.below hb hBC
  refine ⟨fun i hi => ?_, outRow.storeds _ _ ho1⟩
  by_cases hik : i = k
  · subst hik
    exact ⟨x, destCells.setCells_in ho1 (by omega), hx, hf.setCells (by omega)⟩
  · obtain ⟨y, hy, hl, hfy⟩ := h i (by omega)
    exact ⟨y, (hy.below hb hBC).setCells_out (by omega), hl, (hfy.below hb hC).setCells (by omega)⟩
theorem choose_dest {n : Nat} {p : Nat → DestV → Prop} (h : ∀ i, i < n → ∃ x, p i x) : ∃ f : Nat → DestV, ∀ i, i < n → p i (f i) := by
  classical
  refine ⟨fun i => if hi : i < n then Classical.choose (h i hi) else .zero, fun i hi => ?_⟩
  simp only [dif_pos hi]
  exact Classical.choose_spec (h i hi)
def destSame (w : World) (B k : Nat) (E : Nat → DestV) : Prop := ∀ i, i < k → destCells w B (i * 2) (E i)
theorem destSame.step {w : World} {B k n T : Nat} {E : Nat → DestV} (h : destSame w B k E) (ho : outRow w B T 2 n) (hk : k < n) :
    destSame (w.setCells B (k * 2) (E k).cells) B (k + 1) E := fun i hi => by
  by_cases hik : i = k
  · subst hik
    exact destCells.setCells_in ho (by omega)
  · exact (h i (by omega)).setCells_out (by omega)

/-- A row all of whose blocks lie from C on. -/
def destRowF (C : Nat) (w : World) (a : Option Addr) (n : Nat) (E : Nat → DestV) : Prop :=
  ∀ i, i < n → ∃ b off, a = some ⟨b, off, none⟩ ∧ C ≤ b ∧ b < w.heap.size ∧ destCells w b (off + i * 2) (E i) ∧ freshRow C w (E i).ca (E i).cl ∧ (E i).cl ≤ 1048576
theorem destRowF.row {C : Nat} {w : World} {a : Option Addr} {n : Nat} {E : Nat → DestV} (h : destRowF C w a n E) : destRow w a n E := fun i hi => by
  obtain ⟨b, off, e, _, hg, hc, hf, hl⟩ := h i hi
  exact ⟨b, off, e, hg, hc, hf.bytes, by unfold maxLen; omega⟩
theorem destRowF.len {C : Nat} {w : World} {a : Option Addr} {n : Nat} {E : Nat → DestV} (h : destRowF C w a n E) : ∀ i, i < n → (E i).cl ≤ 1048576 := fun i hi => by
  obtain ⟨_, _, _, _, _, _, _, hl⟩ := h i hi
  exact hl
theorem destCells.other {w : World} {b b' o o' : Nat} {x : DestV} {vs : List Value} (h : destCells w b o x) (hne : b ≠ b') : destCells (w.setCells b' o' vs) b o x := by
  refine ⟨?_, ?_⟩
  · rw [World.cell?_setCells_out b' vs o' w ⟨b, o, none⟩ (fun h _ => by simp at h; omega)]; exact h.1
  · rw [World.cell?_setCells_out b' vs o' w ⟨b, o + 1, none⟩ (fun h _ => by simp at h; omega)]; exact h.2
theorem destRowF.setCells {C b' o' : Nat} {w : World} {a : Option Addr} {n : Nat} {E : Nat → DestV} {vs : List Value} (h : destRowF C w a n E) (hb : b' < C) : destRowF C (w.setCells b' o' vs) a n E := fun i hi => by
  obtain ⟨b, off, e, hC, hg, hc, hf, hl⟩ := h i hi
  have hs := (below_setCells vs (b := b') o' (Below.refl b' w) (Nat.le_refl _)).size
  exact ⟨b, off, e, hC, by omega, hc.other (by omega), hf.setCells hb, hl⟩
theorem destRowF.below {C B : Nat} {w w' : World} {a : Option Addr} {n : Nat} {E : Nat → DestV} (h : destRowF C w a n E) (hb : Below B w w') (hB : w.heap.size ≤ B) : destRowF C w' a n E := fun i hi => by
  obtain ⟨b, off, e, hC, hg, hc, hf, hl⟩ := h i hi
  exact ⟨b, off, e, hC, Nat.lt_of_lt_of_le hg hb.size, hc.below hb (Nat.lt_of_lt_of_le hg hB), hf.below hb hB, hl⟩
theorem destRowF.mono {C C' : Nat} {w : World} {a : Option Addr} {n : Nat} {E : Nat → DestV} (h : destRowF C w a n E) (hC : C' ≤ C) : destRowF C' w a n E := fun i hi => by
  obtain ⟨b, off, e, h1, hg, hc, hf, hl⟩ := h i hi
  exact ⟨b, off, e, Nat.le_trans hC h1, hg, hc, hf.mono hC, hl⟩

set_option maxHeartbeats 4000000 in
set_option maxRecDepth 100000 in
theorem destBytes_any (a : Option Addr) (n cap : Nat) (E : Nat → DestV) (t : Int) (h0 : 0 ≤ t) (w : World) (hr : destRow w a n E) (hl : n ≤ maxLen) :
    Calls Try.prog 40 #[.slice a n cap, .int .i64 t] w fun e w' => (∃ y : Int, 0 ≤ y ∧ (y ≤ 1048576 → t ≤ 1048576 ∧ ∀ i, i < n → (E i).cl ≤ 1048576) ∧ e = .returned (.int .i64 y)) ∧ w = w' := by
  unfold maxLen at hl
  go_enter Try.func40, Try.ntmps40
  go_wp2
  go_loopw [1, 5] (fun z i wr => ∃ k : Nat, k ≤ n ∧ i = .int .i64 k ∧ w = wr ∧ ∃ y : Int, 0 ≤ y ∧ Hid (y ≤ 1048576 → t ≤ 1048576 ∧ ∀ i, i < k → (E i).cl ≤ 1048576) ∧ z = .int .i64 y) (fun _ i _ => n - (intOf i).toNat)
  case atStart => exact ⟨0, by omega, rfl, rfl, t, h0, fun h => ⟨h, fun i hi => absurd hi (by omega)⟩, rfl⟩
  case round =>
    obtain ⟨k, hk, rfl, rfl, y, hy0, hy, rfl⟩ := hrel
    by_cases hlt : k < n
    · obtain ⟨b, off, rfl, _, ⟨_, hc⟩, _, hz⟩ := hr k hlt
      unfold maxLen at hz
      have g1 := addL_nonneg (t := y) (n := 32) hy0 (by decide)
      have g2 := addL_nonneg (t := addL y 32) (n := (E k).cl) g1 (by omega)
      have hnew : Hid (addL (addL y 32) (E k).cl ≤ 1048576 → t ≤ 1048576 ∧ ∀ i, i < k + 1 → (E i).cl ≤ 1048576) := fun h => by
        obtain ⟨p1, p2⟩ := addL_le h
        obtain ⟨p3, _⟩ := addL_le p1
        obtain ⟨p4, p5⟩ := hy.out p3
        refine ⟨p4, fun i hi => ?_⟩
        by_cases hik : i = k
        · subst hik; omega
        · exact p5 i (by omega)
      generalize hx : E k = x at *
      obtain ⟨x1, x2, x3, x4⟩ := x
      simp only at hc hz g2 hnew
      clear hx
      have i1 : (k : Int) < (n : Int) := by omega
      go_wp2_with fail
      refine (addLen_any y 32 hy0 (by decide) _).mono ?_
      rintro e w' ⟨rfl, rfl⟩
      generalize addL y 32 = y1 at *
      go_wp2_with fail
      refine (addLen_any y1 x3 g1 (by omega) _).mono ?_
      rintro e w' ⟨rfl, rfl⟩
      go_wp2
      go_roundw
      case rel => exact ⟨k + 1, by omega, by go_num, trivial, _, g2, hnew, rfl⟩
      case measure => simp [intOf]; omega
    · obtain rfl : k = n := by omega
      go_wp2
      go_ret
      exact ⟨⟨_, hy0, hy.out, rfl⟩, rfl⟩

set_option maxHeartbeats 4000000 in
set_option maxRecDepth 100000 in
theorem certBytes_any (a : Option Addr) (n cap : Nat) (E : Nat → DestV) (t : Int) (h0 : 0 ≤ t) (w : World) (hr : destRow w a n E) (hl : n ≤ maxLen) :
    Calls Try.prog 42 #[.slice a n cap, .int .i64 t] w fun e w' => (∃ y : Int, 0 ≤ y ∧ (y ≤ 1048576 → t ≤ 1048576 ∧ ∀ i, i < n → (E i).cl ≤ 1048576) ∧ e = .returned (.int .i64 y)) ∧ w = w' := by
  unfold maxLen at hl
  go_enter Try.func42, Try.ntmps42
  go_wp2
  go_loopw [1, 5] (fun z i wr => ∃ k : Nat, k ≤ n ∧ i = .int .i64 k ∧ w = wr ∧ ∃ y : Int, 0 ≤ y ∧ Hid (y ≤ 1048576 → t ≤ 1048576 ∧ ∀ i, i < k → (E i).cl ≤ 1048576) ∧ z = .int .i64 y) (fun _ i _ => n - (intOf i).toNat)
  case atStart => exact ⟨0, by omega, rfl, rfl, t, h0, fun h => ⟨h, fun i hi => absurd hi (by omega)⟩, rfl⟩
  case round =>
    obtain ⟨k, hk, rfl, rfl, y, hy0, hy, rfl⟩ := hrel
    by_cases hlt : k < n
    · obtain ⟨b, off, rfl, _, ⟨_, hc⟩, _, hz⟩ := hr k hlt
      unfold maxLen at hz
      have g1 := addL_nonneg (t := y) (n := 32) hy0 (by decide)
      have g2 := addL_nonneg (t := addL y 32) (n := (E k).cl) g1 (by omega)
      have hnew : Hid (addL (addL y 32) (E k).cl ≤ 1048576 → t ≤ 1048576 ∧ ∀ i, i < k + 1 → (E i).cl ≤ 1048576) := fun h => by
        obtain ⟨p1, p2⟩ := addL_le h
        obtain ⟨p3, _⟩ := addL_le p1
        obtain ⟨p4, p5⟩ := hy.out p3
        refine ⟨p4, fun i hi => ?_⟩
        by_cases hik : i = k
        · subst hik; omega
        · exact p5 i (by omega)
      generalize hx : E k = x at *
      obtain ⟨x1, x2, x3, x4⟩ := x
      simp only at hc hz g2 hnew
      clear hx
      have i1 : (k : Int) < (n : Int) := by omega
      go_wp2_with fail
      refine (addLen_any y 32 hy0 (by decide) _).mono ?_
      rintro e w' ⟨rfl, rfl⟩
      generalize addL y 32 = y1 at *
      go_wp2_with fail
      refine (addLen_any y1 x3 g1 (by omega) _).mono ?_
      rintro e w' ⟨rfl, rfl⟩
      go_wp2
      go_roundw
      case rel => exact ⟨k + 1, by omega, by go_num, trivial, _, g2, hnew, rfl⟩
      case measure => simp [intOf]; omega
    · obtain rfl : k = n := by omega
      go_wp2
      go_ret
      exact ⟨⟨_, hy0, hy.out, rfl⟩, rfl⟩

theorem info68 : (Try.prog.info? 68).map (fun i => (i.zero, i.size, i.bytes)) = some (some (.agg #[.int .u8 0, .slice none 0 0]), 2, 32) := by kernel_rfl

theorem info76 : (Try.prog.info? 76).map (fun i => (i.zero, i.size, i.bytes)) = some (some (.agg #[.int .u8 0, .slice none 0 0]), 2, 32) := by kernel_rfl

theorem info101 : (Try.prog.info? 101).map (fun i => (i.zero, i.size, i.bytes)) = some (some (.agg #[.int .u8 0, .slice none 0 0]), 2, 32) := by kernel_rfl

theorem info112 : (Try.prog.info? 112).map (fun i => (i.zero, i.size, i.bytes)) = some (some (.agg #[.int .u8 0, .slice none 0 0]), 2, 32) := by kernel_rfl

set_option maxHeartbeats 4000000 in
set_option maxRecDepth 100000 in
theorem copyDest_any (ty : Int) (ca : Option Addr) (cl cc : Nat) (w : World) (hr : byteRow w ca cl) (hl : cl ≤ 1048576) :
    Calls Try.prog 26 #[.agg #[.int .u8 ty, .slice ca cl cc]] w fun e w' => ∃ oa c', e = .returned (.agg #[.int .u8 ty, .slice oa cl c']) ∧ freshRow w.heap.size w' oa cl ∧ Below w.heap.size w w' := by
  go_enter Try.func26, Try.ntmps26
  go_wp2
  go_region_held3 (fun w' => w'.cell? ⟨w.heap.size, 0, none⟩ = some (.int .u8 ty) ∧ w'.cell? ⟨w.heap.size, 1, none⟩ = some (.slice ca cl cc)) (go_keep)
    ((go_at_call 28; refine (copyBytes_any ca cl cc _ (hr.below (B := w.heap.size) (by repeat (first | exact Below.refl _ _ | refine Below.drew ?_ | refine Below.alloc ?_ (by simp) _)) (Nat.le_refl _)) hl).mono ?_; rintro e w1 ⟨oa, c', rfl, hn, hf, hb⟩; obtain ⟨q0, q1, q2⟩ := after2 hb; clear hn))
  go_wp2
  refine bodyPost_ret (v := .agg #[.int .u8 ty, .slice oa cl c']) (by simp [results, Try.results26, go_sem, q1]) rfl ⟨oa, c', rfl, ?_, ?_⟩
  · exact (hf.setCells (b := w.heap.size + 1) (o := 0) (vs := [.int .u8 ty, .slice oa cl c']) (by simp)).mono (by simp; omega)
  · exact below_setCells [.int .u8 ty, .slice oa cl c'] (b := w.heap.size + 1) 0 ((((Below.refl _ _).alloc (Nat.le_refl _) _).alloc (by simp) _).drew.trans (hb.mono (by simp; omega))) (by omega)

set_option maxHeartbeats 4000000 in
set_option maxRecDepth 100000 in
theorem copyDests_any (a : Option Addr) (n cap : Nat) (E : Nat → DestV) (w : World) (hr : destRow w a n E) (hn : n ≤ 65536) (hl : ∀ i, i < n → (E i).cl ≤ 1048576) :
    Calls Try.prog 43 #[.slice a n cap] w fun e w' => ∃ oa c', e = .returned (.slice oa n c') ∧ (∃ E', destRowF w.heap.size w' oa n E') ∧ Below w.heap.size w w' := by
  have kn := fun wx => Lib.run_eql_slice_nil (P := Try.prog) wx 25 68 a n cap 0 0 Try.underlying25
  obtain ⟨i0, hi, hz0, hz1, hz2⟩ := info_parts info68
  cases a with
  | none =>
    obtain rfl := hr.zero
    go_enter Try.func43, Try.ntmps43
    go_wp2
    go_ret
    exact ⟨none, 0, rfl, ⟨fun _ => .zero, fun i hi => absurd hi (by omega)⟩, Below.refl _ _⟩
  | some ad =>
    go_enter Try.func43, Try.ntmps43
    go_wp2_with (at_make; refine wpList_make_full _ rfl _ _ 25 rfl w.heap.size 68 i0 (.agg #[.int .u8 0, .slice none 0 0]) 2 Try.underlying25 hi hz0 hz1 _ _ _ _ n rfl rfl rfl rfl ?b2 ?b3 (Nat.le_refl _) ?_)
    case b2 => rw [hz2]; omega
    case b3 => unfold maxLen; omega
    intro w1 hown hg
    have hbel : Below w.heap.size w w1 := (Below.refl _ _).grown hg (Nat.le_refl _) (fun _ h => by cases h)
    have hout : outRow w1 w.heap.size 68 2 n := ⟨_, hown⟩
    have hsz : w.heap.size < w1.heap.size := by
      rcases hown.2 with ⟨h, _⟩ | ⟨g, _, _, h, _, hh, _⟩
      · simp at h
      · simp only [Value.slice.injEq, Option.some.injEq, Addr.mk.injEq] at h
        obtain ⟨⟨rfl, _⟩, _⟩ := h
        exact (Array.getElem?_eq_some_iff.1 hh).1
    clear hown hg kn hi hz0 hz1 hz2
    go_wp2
    go_loopw [4] (fun i wr => ∃ k : Nat, k ≤ n ∧ i = .int .i64 k ∧ outRow wr w.heap.size 68 2 n ∧ destDone wr w.heap.size k ∧ Below w.heap.size w wr ∧ w.heap.size < wr.heap.size) (fun i _ => n - (intOf i).toNat)
    case atStart => exact ⟨0, by omega, rfl, hout, fun i hi => absurd hi (by omega), hbel, hsz⟩
    case round =>
      clear hout hbel hsz
      obtain ⟨k, hk, rfl, hout, hdone, hbel, hsz⟩ := hrel
      by_cases hlt : k < n
      · obtain ⟨b, off, he, hbl, hc, hby, _⟩ := hr k hlt
        obtain rfl : ad = ⟨b, off, none⟩ := by simpa using he
        obtain ⟨c0, c1⟩ := hc.below hbel hbl
        have hby' := hby.below hbel (Nat.le_refl _)
        have hlk := hl k hlt
        generalize E k = x at *
        obtain ⟨x1, x2, x3, x4⟩ := x
        simp only at c0 c1 hby' hlk
        have i1 : (k : Int) < (n : Int) := by omega
        have i2 : (0 : Int) ≤ (k : Int) := by omega
        have n1 : ¬ b = w.heap.size := by omega
        have n2 : ¬ w.heap.size = b := by omega
        clear he hc hby hr hl
        go_wp2_with fail
        refine (copyDest_any x1 x2 x3 x4 _ hby' hlk).mono ?_
        rintro e w2 ⟨oa, c', rfl, hf, hb2⟩
        have ho2 := hout.below hb2 hsz
        obtain ⟨v0, hv0⟩ := ho2.cell (j := k * 2) (by omega)
        obtain ⟨v1, hv1⟩ := ho2.cell (j := k * 2 + 1) (by omega)
        have f0 := ho2.frozen (k * 2)
        have f1 := ho2.frozen (k * 2 + 1)
        have hst := hdone.step (x := ⟨x1, oa, x3, c'⟩) hout hlt hb2 (Nat.le_refl _) hsz hlk (hf.mono hsz)
        have hbs := below_setCells (DestV.cells ⟨x1, oa, x3, c'⟩) (b := w.heap.size) (k * 2) (hbel.trans (hb2.mono (Nat.le_of_lt hsz))) (Nat.le_refl _)
        have hss : w.heap.size < (w2.setCells w.heap.size (k * 2) (DestV.cells ⟨x1, oa, x3, c'⟩)).heap.size := by
          have h1 := (below_setCells (DestV.cells ⟨x1, oa, x3, c'⟩) (b := w.heap.size) (k * 2) (Below.refl w.heap.size w2) (Nat.le_refl _)).size
          have h2 := hb2.size
          omega
        clear hout hdone hbel hf hb2 ho2 c0 c1 hby'
        go_wp2
        go_roundw
        case rel => exact ⟨k + 1, by omega, by go_num, hst.2, hst.1, hbs, hss⟩
        case measure => simp [intOf]; omega
      · obtain rfl : k = n := by omega
        go_wp2
        go_ret
        refine ⟨_, _, rfl, ?_, hbel⟩
        obtain ⟨E', hE⟩ := choose_dest hdone
        refine ⟨E', fun i hi => ?_⟩
        obtain ⟨h1, h2, h3⟩ := hE i hi
        exact ⟨w.heap.size, 0, rfl, Nat.le_refl _, hsz, by rw [Nat.zero_add]; exact h1, h3.mono (by omega), h2⟩
end Go.Proofs.Qxb6602271a
