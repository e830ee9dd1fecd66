import Derived.Test.Qxb6602271aDest
namespace Go.Proofs.Qxb6602271a
open Go.RowKit

set_option maxHeartbeats 4000000 in
set_option maxRecDepth 100000 in
theorem copyCerts_any (a : Option Addr) (n cap : Nat) (E : Nat → DestV) (w : World) (hr : destRow w a n E) (hn : n ≤ 65536) (hl : ∀ i, i < n → (E i).cl ≤ 1048576) :
    Calls Try.prog 45 #[.slice a n cap] w fun e w' => ∃ oa c', e = .returned (.slice oa n c') ∧ (∃ E', destRowF w.heap.size w' oa n E') ∧ Below w.heap.size w w' := by
  have kn := fun wx => Lib.run_eql_slice_nil (P := Try.prog) wx 33 101 a n cap 0 0 Try.underlying33
  obtain ⟨i0, hi, hz0, hz1, hz2⟩ := info_parts info101
  cases a with
  | none =>
    obtain rfl := hr.zero
    go_enter Try.func45, Try.ntmps45
    go_wp2
    go_ret
    exact ⟨none, 0, rfl, ⟨fun _ => .zero, fun i hi => absurd hi (by omega)⟩, Below.refl _ _⟩
  | some ad =>
    go_enter Try.func45, Try.ntmps45
    go_wp2_with (at_make; refine wpList_make_full _ rfl _ _ 33 rfl w.heap.size 101 i0 (.agg #[.int .u8 0, .slice none 0 0]) 2 Try.underlying33 hi hz0 hz1 _ _ _ _ n rfl rfl rfl rfl ?b2 ?b3 (Nat.le_refl _) ?_)
    case b2 => rw [hz2]; omega
    case b3 => unfold maxLen; omega
    intro w1 hown hg
    have hbel : Below w.heap.size w w1 := (Below.refl _ _).grown hg (Nat.le_refl _) (fun _ h => by cases h)
    have hout : outRow w1 w.heap.size 101 2 n := ⟨_, hown⟩
    have hsz : w.heap.size < w1.heap.size := by
      rcases hown.2 with ⟨h, _⟩ | ⟨g, _, _, h, _, hh, _⟩
      · simp at h
      · simp only [Value.slice.injEq, Option.some.injEq, Addr.mk.injEq] at h
        obtain ⟨⟨rfl, _⟩, _⟩ := h
        exact (Array.getElem?_eq_some_iff.1 hh).1
    clear hown hg kn hi hz0 hz1 hz2
    go_wp2
    go_loopw [4] (fun i wr => ∃ k : Nat, k ≤ n ∧ i = .int .i64 k ∧ outRow wr w.heap.size 101 2 n ∧ destDone wr w.heap.size k ∧ Below w.heap.size w wr ∧ w.heap.size < wr.heap.size) (fun i _ => n - (intOf i).toNat)
    case atStart => exact ⟨0, by omega, rfl, hout, fun i hi => absurd hi (by omega), hbel, hsz⟩
    case round =>
      clear hout hbel hsz
      obtain ⟨k, hk, rfl, hout, hdone, hbel, hsz⟩ := hrel
      by_cases hlt : k < n
      · obtain ⟨b, off, he, hbl, hc, hby, _⟩ := hr k hlt
        obtain rfl : ad = ⟨b, off, none⟩ := by simpa using he
        obtain ⟨c0, c1⟩ := hc.below hbel hbl
        have hby' := hby.below hbel (Nat.le_refl _)
        have hlk := hl k hlt
        generalize E k = x at *
        obtain ⟨x1, x2, x3, x4⟩ := x
        simp only at c0 c1 hby' hlk
        have i1 : (k : Int) < (n : Int) := by omega
        have i2 : (0 : Int) ≤ (k : Int) := by omega
        have n1 : ¬ b = w.heap.size := by omega
        have n2 : ¬ w.heap.size = b := by omega
        clear he hc hby hr hl
        have hbw : b < wr.heap.size := Nat.lt_trans hbl hsz
        go_wp2
        go_region_held3 (fun w' => w'.cell? ⟨b, off + k * 2, none⟩ = some (.int .u8 x1) ∧ w'.cell? ⟨b, off + k * 2 + 1, none⟩ = some (.slice x2 x3 x4)) (go_keep)
          ((go_at_call 28; refine (copyBytes_any x2 x3 x4 _ (hby'.below (B := wr.heap.size) (Below.refl _ _).drew (Nat.le_refl _)) hlk).mono ?_; rintro e w2 ⟨oa, c', rfl, _, hf, hb3⟩; have hb2 : Below wr.heap.size wr w2 := (Below.refl wr.heap.size wr).drew.trans hb3; clear hb3; have ho2 := hout.below hb2 hsz; have d0 := hb2.cell (p := ⟨b, off + k * 2, none⟩) hbw; have d1 := hb2.cell (p := ⟨b, off + k * 2 + 1, none⟩) hbw; obtain ⟨v0, hv0⟩ := ho2.cell (j := k * 2) (by omega); obtain ⟨v1, hv1⟩ := ho2.cell (j := k * 2 + 1) (by omega); have f0 := ho2.frozen (k * 2); have f1 := ho2.frozen (k * 2 + 1); simp [go_sem, c0, c1] at d0 d1))
        have hst := hdone.step (x := ⟨x1, oa, x3, c'⟩) hout hlt hb2 (Nat.le_refl _) hsz hlk (hf.mono hsz)
        have hbs := below_setCells (DestV.cells ⟨x1, oa, x3, c'⟩) (b := w.heap.size) (k * 2) (hbel.trans (hb2.mono (Nat.le_of_lt hsz))) (Nat.le_refl _)
        have hss : w.heap.size < (w2.setCells w.heap.size (k * 2) (DestV.cells ⟨x1, oa, x3, c'⟩)).heap.size := by
          have h1 := (below_setCells (DestV.cells ⟨x1, oa, x3, c'⟩) (b := w.heap.size) (k * 2) (Below.refl w.heap.size w2) (Nat.le_refl _)).size
          have h2 : wr.heap.size ≤ w2.heap.size := hb2.size
          omega
        have Hst : Hid _ := And.intro hst (And.intro hbs hss)
        clear hst hbs hss hout hdone hbel hf hb2 ho2
        go_wp2
        obtain ⟨hst, hbs, hss⟩ := Hst.out
        go_roundw
        case rel => exact ⟨k + 1, by omega, by go_num, hst.2, hst.1, hbs, hss⟩
        case measure => simp [intOf]; omega
      · obtain rfl : k = n := by omega
        go_wp2
        go_ret
        refine ⟨_, _, rfl, ?_, hbel⟩
        obtain ⟨E', hE⟩ := choose_dest hdone
        refine ⟨E', fun i hi => ?_⟩
        obtain ⟨h1, h2, h3⟩ := hE i hi
        exact ⟨w.heap.size, 0, rfl, Nat.le_refl _, hsz, by rw [Nat.zero_add]; exact h1, h3.mono (by omega), h2⟩

set_option maxHeartbeats 4000000 in
set_option maxRecDepth 100000 in
theorem toDests_any (a : Option Addr) (n cap : Nat) (E : Nat → DestV) (w : World) (hr : destRow w a n E) (hn : n ≤ 65536) :
    Calls Try.prog 46 #[.slice a n cap] w fun e w' => ∃ oa c', e = .returned (.slice oa n c') ∧ destRow w' oa n E ∧ Below w.heap.size w w' := by
  have kn := fun wx => Lib.run_eql_slice_nil (P := Try.prog) wx 25 68 a n cap 0 0 Try.underlying25
  obtain ⟨i0, hi, hz0, hz1, hz2⟩ := info_parts info76
  cases a with
  | none =>
    obtain rfl := hr.zero
    go_enter Try.func46, Try.ntmps46
    go_wp2
    go_ret
    exact ⟨none, 0, rfl, fun i hi => absurd hi (by omega), Below.refl _ _⟩
  | some ad =>
    go_enter Try.func46, Try.ntmps46
    go_wp2_with (at_make; refine wpList_make_full _ rfl _ _ 43 rfl w.heap.size 76 i0 (.agg #[.int .u8 0, .slice none 0 0]) 2 Try.underlying43 hi hz0 hz1 _ _ _ _ n rfl rfl rfl rfl ?b2 ?b3 (Nat.le_refl _) ?_)
    case b2 => rw [hz2]; omega
    case b3 => unfold maxLen; omega
    intro w1 hown hg
    have hbel : Below w.heap.size w w1 := (Below.refl _ _).grown hg (Nat.le_refl _) (fun _ h => by cases h)
    have hout : outRow w1 w.heap.size 76 2 n := ⟨_, hown⟩
    have hsz : w.heap.size < w1.heap.size := by
      rcases hown.2 with ⟨h, _⟩ | ⟨g, _, _, h, _, hh, _⟩
      · simp at h
      · simp only [Value.slice.injEq, Option.some.injEq, Addr.mk.injEq] at h
        obtain ⟨⟨rfl, _⟩, _⟩ := h
        exact (Array.getElem?_eq_some_iff.1 hh).1
    clear hown hg kn hi hz0 hz1 hz2
    go_wp2
    go_loopw [4] (fun i wr => ∃ k : Nat, k ≤ n ∧ i = .int .i64 k ∧ outRow wr w.heap.size 76 2 n ∧ destSame wr w.heap.size k E ∧ Below w.heap.size w wr ∧ w.heap.size < wr.heap.size) (fun i _ => n - (intOf i).toNat)
    case atStart => exact ⟨0, by omega, rfl, hout, fun i hi => absurd hi (by omega), hbel, hsz⟩
    case round =>
      clear hout hbel hsz
      obtain ⟨k, hk, rfl, hout, hdone, hbel, hsz⟩ := hrel
      by_cases hlt : k < n
      · obtain ⟨b, off, he, hbl, hc, _, _⟩ := hr k hlt
        obtain rfl : ad = ⟨b, off, none⟩ := by simpa using he
        obtain ⟨c0, c1⟩ := hc.below hbel hbl
        obtain ⟨v0, hv0⟩ := hout.cell (j := k * 2) (by omega)
        obtain ⟨v1, hv1⟩ := hout.cell (j := k * 2 + 1) (by omega)
        have f0 := hout.frozen (k * 2)
        have f1 := hout.frozen (k * 2 + 1)
        have hst := hdone.step hout hlt
        have ho2 := outRow.storeds (E k).cells (k * 2) hout
        have hbs := below_setCells (E k).cells (b := w.heap.size) (k * 2) hbel (Nat.le_refl _)
        have hss : w.heap.size < (wr.setCells w.heap.size (k * 2) (E k).cells).heap.size := by
          have h1 := (below_setCells (E k).cells (b := w.heap.size) (k * 2) (Below.refl w.heap.size wr) (Nat.le_refl _)).size
          omega
        have Hst : Hid _ := And.intro hst (And.intro ho2 (And.intro hbs hss))
        have i1 : (k : Int) < (n : Int) := by omega
        have i2 : (0 : Int) ≤ (k : Int) := by omega
        have n1 : ¬ b = w.heap.size := by omega
        have n2 : ¬ w.heap.size = b := by omega
        clear he hc hst ho2 hbs hss hout hdone hbel
        go_wp2
        go_region_held3 (fun w' => w'.cell? ⟨b, off + k * 2, none⟩ = some (.int .u8 (E k).ty) ∧ w'.cell? ⟨b, off + k * 2 + 1, none⟩ = some (.slice (E k).ca (E k).cl (E k).cc)) (go_keep) (fail)
        go_wp2
        obtain ⟨hst, ho2, hbs, hss⟩ := Hst.out
        go_roundw
        case rel => exact ⟨k + 1, by omega, by go_num, ho2, hst, hbs.drew, hss⟩
        case measure => simp [intOf]; omega
      · obtain rfl : k = n := by omega
        go_wp2
        go_ret
        refine ⟨_, _, rfl, fun i hi => ?_, hbel⟩
        obtain ⟨b, off, he, hbl, hc, hby, hm⟩ := hr i hi
        exact ⟨w.heap.size, 0, rfl, hsz, by rw [Nat.zero_add]; exact hdone i hi, hby.below hbel (Nat.le_refl _), hm⟩

set_option maxHeartbeats 4000000 in
set_option maxRecDepth 100000 in
theorem toCerts_any (a : Option Addr) (n cap : Nat) (E : Nat → DestV) (w : World) (hr : destRow w a n E) (hn : n ≤ 65536) :
    Calls Try.prog 48 #[.slice a n cap] w fun e w' => ∃ oa c', e = .returned (.slice oa n c') ∧ destRow w' oa n E ∧ Below w.heap.size w w' := by
  have kn := fun wx => Lib.run_eql_slice_nil (P := Try.prog) wx 33 101 a n cap 0 0 Try.underlying33
  obtain ⟨i0, hi, hz0, hz1, hz2⟩ := info_parts info112
  cases a with
  | none =>
    obtain rfl := hr.zero
    go_enter Try.func48, Try.ntmps48
    go_wp2
    go_ret
    exact ⟨none, 0, rfl, fun i hi => absurd hi (by omega), Below.refl _ _⟩
  | some ad =>
    go_enter Try.func48, Try.ntmps48
    go_wp2_with (at_make; refine wpList_make_full _ rfl _ _ 50 rfl w.heap.size 112 i0 (.agg #[.int .u8 0, .slice none 0 0]) 2 Try.underlying50 hi hz0 hz1 _ _ _ _ n rfl rfl rfl rfl ?b2 ?b3 (Nat.le_refl _) ?_)
    case b2 => rw [hz2]; omega
    case b3 => unfold maxLen; omega
    intro w1 hown hg
    have hbel : Below w.heap.size w w1 := (Below.refl _ _).grown hg (Nat.le_refl _) (fun _ h => by cases h)
    have hout : outRow w1 w.heap.size 112 2 n := ⟨_, hown⟩
    have hsz : w.heap.size < w1.heap.size := by
      rcases hown.2 with ⟨h, _⟩ | ⟨g, _, _, h, _, hh, _⟩
      · simp at h
      · simp only [Value.slice.injEq, Option.some.injEq, Addr.mk.injEq] at h
        obtain ⟨⟨rfl, _⟩, _⟩ := h
        exact (Array.getElem?_eq_some_iff.1 hh).1
    clear hown hg kn hi hz0 hz1 hz2
    go_wp2
    go_loopw [4] (fun i wr => ∃ k : Nat, k ≤ n ∧ i = .int .i64 k ∧ outRow wr w.heap.size 112 2 n ∧ destSame wr w.heap.size k E ∧ Below w.heap.size w wr ∧ w.heap.size < wr.heap.size) (fun i _ => n - (intOf i).toNat)
    case atStart => exact ⟨0, by omega, rfl, hout, fun i hi => absurd hi (by omega), hbel, hsz⟩
    case round =>
      clear hout hbel hsz
      obtain ⟨k, hk, rfl, hout, hdone, hbel, hsz⟩ := hrel
      by_cases hlt : k < n
      · obtain ⟨b, off, he, hbl, hc, _, _⟩ := hr k hlt
        obtain rfl : ad = ⟨b, off, none⟩ := by simpa using he
        obtain ⟨c0, c1⟩ := hc.below hbel hbl
        obtain ⟨v0, hv0⟩ := hout.cell (j := k * 2) (by omega)
        obtain ⟨v1, hv1⟩ := hout.cell (j := k * 2 + 1) (by omega)
        have f0 := hout.frozen (k * 2)
        have f1 := hout.frozen (k * 2 + 1)
        have hst := hdone.step hout hlt
        have ho2 := outRow.storeds (E k).cells (k * 2) hout
        have hbs := below_setCells (E k).cells (b := w.heap.size) (k * 2) hbel (Nat.le_refl _)
        have hss : w.heap.size < (wr.setCells w.heap.size (k * 2) (E k).cells).heap.size := by
          have h1 := (below_setCells (E k).cells (b := w.heap.size) (k * 2) (Below.refl w.heap.size wr) (Nat.le_refl _)).size
          omega
        have Hst : Hid _ := And.intro hst (And.intro ho2 (And.intro hbs hss))
        have i1 : (k : Int) < (n : Int) := by omega
        have i2 : (0 : Int) ≤ (k : Int) := by omega
        have n1 : ¬ b = w.heap.size := by omega
        have n2 : ¬ w.heap.size = b := by omega
        clear he hc hst ho2 hbs hss hout hdone hbel
        go_wp2
        go_region_held3 (fun w' => w'.cell? ⟨b, off + k * 2, none⟩ = some (.int .u8 (E k).ty) ∧ w'.cell? ⟨b, off + k * 2 + 1, none⟩ = some (.slice (E k).ca (E k).cl (E k).cc)) (go_keep) (fail)
        go_wp2
        obtain ⟨hst, ho2, hbs, hss⟩ := Hst.out
        go_roundw
        case rel => exact ⟨k + 1, by omega, by go_num, ho2, hst, hbs.drew, hss⟩
        case measure => simp [intOf]; omega
      · obtain rfl : k = n := by omega
        go_wp2
        go_ret
        refine ⟨_, _, rfl, fun i hi => ?_, hbel⟩
        obtain ⟨b, off, he, hbl, hc, hby, hm⟩ := hr i hi
        exact ⟨w.heap.size, 0, rfl, hsz, by rw [Nat.zero_add]; exact hdone i hi, hby.below hbel (Nat.le_refl _), hm⟩
end Go.Proofs.Qxb6602271a
