import Derived.Test.Qxb6601353aLawA
namespace Go.Proofs.Qxb6601353a
open Go.RowKit

theorem set5 (w : World) (B o : Nat) (x0 x4 : ByteArray) (x1 x2 x3 : Bool) : w.setCells B o (ColV.cells ⟨x0, x1, x2, x3, x4⟩) = (((((w.setCell ⟨B, o, none⟩ (.string x0)).setCell ⟨B, o + 1, none⟩ (.bool x1)).setCell ⟨B, o + 2, none⟩ (.bool x2)).setCell ⟨B, o + 3, none⟩ (.bool x3)).setCell ⟨B, o + 4, none⟩ (.string x4)) := rfl
theorem outRow.drew {w : World} {B T s n : Nat} (h : outRow w B T s n) : outRow w.drew B T s n := h
theorem colDone.drew {w : World} {B k : Nat} {fU fK : Nat → Bool} (h : colDone w B k fU fK) : colDone w.drew B k fU fK := h
theorem lt_drew {w : World} {n : Nat} (h : n < w.heap.size) : n < w.drew.heap.size := h
set_option maxHeartbeats 32000000 in
set_option maxRecDepth 100000 in
theorem law_any (a0 a1 a2 a3 a4 : Option Addr) (l0 c0 l1 c1 l2 c2 l3 c3 l4 c4 : Nat) (w : World) (r0 : rowOf isS w a0 l0) (r1 : rowOf isB w a1 l1) (r2 : rowOf isB w a2 l2) (r3 : rowOf isB w a3 l3) (r4 : rowOf isS w a4 l4)
    (h0 : l0 ≤ maxLen) (h1 : l1 ≤ maxLen) (h2 : l2 ≤ maxLen) (h3 : l3 ≤ maxLen) (h4 : l4 ≤ maxLen) :
    Calls Try.prog 3 #[.slice a0 l0 c0, .slice a1 l1 c1, .slice a2 l2 c2, .slice a3 l3 c3, .slice a4 l4 c4] w fun e w' => e = .returned (.bool true) ∧ Below w.heap.size w w' := by
  go_enter Try.func3, Try.ntmps3
  go_wp2_with fail
  refine (bytes_any a0 a1 a2 a3 a4 l0 c0 l1 c1 l2 c2 l3 c3 l4 c4 w r0 r4 h0 h1 h2 h3 h4).mono ?_
  rintro e w' ⟨⟨b, rfl⟩, rfl⟩
  unfold maxLen at h0 h1 h2 h3 h4
  cases b
  · go_wp2
    go_ret
    exact ⟨rfl, Below.refl _ _⟩
  rcases (show 65536 < l0 ∨ (l0 ≤ 65536 ∧ 65536 < l1) ∨ (l0 ≤ 65536 ∧ l1 ≤ 65536 ∧ 65536 < l2) ∨ (l0 ≤ 65536 ∧ l1 ≤ 65536 ∧ l2 ≤ 65536 ∧ 65536 < l3) ∨ (l0 ≤ 65536 ∧ l1 ≤ 65536 ∧ l2 ≤ 65536 ∧ l3 ≤ 65536 ∧ 65536 < l4) ∨ (l0 ≤ 65536 ∧ l1 ≤ 65536 ∧ l2 ≤ 65536 ∧ l3 ≤ 65536 ∧ l4 ≤ 65536) by omega) with q | ⟨q0, q⟩ | ⟨q0, q1, q⟩ | ⟨q0, q1, q2, q⟩ | ⟨q0, q1, q2, q3, q⟩ | ⟨q0, q1, q2, q3, q4⟩
  · go_wp2
    go_ret
    exact ⟨rfl, Below.refl _ _⟩
  · go_wp2
    go_ret
    exact ⟨rfl, Below.refl _ _⟩
  · go_wp2
    go_ret
    exact ⟨rfl, Below.refl _ _⟩
  · go_wp2
    go_ret
    exact ⟨rfl, Below.refl _ _⟩
  · go_wp2
    go_ret
    exact ⟨rfl, Below.refl _ _⟩
  by_cases q : 1048576 < 16 * l0 + l1 + l2 + l3 + 16 * l4
  · go_wp2
    go_ret
    exact ⟨rfl, Below.refl _ _⟩
  go_wp2
  go_loopw [11, 12] (fun z i wr => ∃ k : Nat, k ≤ l0 ∧ i = .int .i64 k ∧ w = wr ∧ ∃ y : Int, 0 ≤ y ∧ y ≤ 1048576 ∧ z = .int .i64 y) (fun _ i _ => l0 - (intOf i).toNat)
  case atStart => exact ⟨0, by omega, rfl, rfl, _, by omega, by omega, rfl⟩
  case round =>
    obtain ⟨k, hk, rfl, rfl, y, hy0, hy1, rfl⟩ := hrel
    by_cases hlt : k < l0
    · obtain ⟨b, off, v, rfl, hbl, hc, s, rfl, hz⟩ := r0 k hlt
      unfold maxLen at hz
      have i1 : (k : Int) < (l0 : Int) := by omega
      go_wp2
      all_goals first | (go_ret; exact ⟨rfl, Below.refl _ _⟩) | (go_roundw; (case rel => exact ⟨k + 1, by omega, by go_num, trivial, _, by omega, by omega, rfl⟩); (case measure => simp [intOf]; omega))
    · skip
      go_wp2
      go_loopw [11, 13] (fun z i wr => ∃ k : Nat, k ≤ l4 ∧ i = .int .i64 k ∧ w = wr ∧ ∃ y : Int, 0 ≤ y ∧ y ≤ 1048576 ∧ z = .int .i64 y) (fun _ i _ => l4 - (intOf i).toNat)
      case atStart => exact ⟨0, by omega, rfl, rfl, _, by omega, by omega, rfl⟩
      case round =>
        obtain ⟨k, hk, rfl, rfl, y, hy0, hy1, rfl⟩ := hrel
        by_cases hlt : k < l4
        · obtain ⟨b, off, v, rfl, hbl, hc, s, rfl, hz⟩ := r4 k hlt
          unfold maxLen at hz
          have i1 : (k : Int) < (l4 : Int) := by omega
          go_wp2
          all_goals first | (go_ret; exact ⟨rfl, Below.refl _ _⟩) | (go_roundw; (case rel => exact ⟨k + 1, by omega, by go_num, trivial, _, by omega, by omega, rfl⟩); (case measure => simp [intOf]; omega))
        · skip
          rcases (show l1 ≠ l0 ∨ (l1 = l0 ∧ l2 ≠ l0) ∨ (l1 = l0 ∧ l2 = l0 ∧ l3 ≠ l0) ∨ (l1 = l0 ∧ l2 = l0 ∧ l3 = l0 ∧ l4 ≠ l0) ∨ (l1 = l0 ∧ l2 = l0 ∧ l3 = l0 ∧ l4 = l0) by omega) with e | ⟨e1, e⟩ | ⟨e1, e2, e⟩ | ⟨e1, e2, e3, e⟩ | ⟨e1, e2, e3, e4⟩
          · go_wp2
            go_ret
            exact ⟨rfl, Below.refl _ _⟩
          · go_wp2
            go_ret
            exact ⟨rfl, Below.refl _ _⟩
          · go_wp2
            go_ret
            exact ⟨rfl, Below.refl _ _⟩
          · go_wp2
            go_ret
            exact ⟨rfl, Below.refl _ _⟩
          subst e1 e2 e3 e4
          have hn : l4 ≤ 65536 := q4
          clear q h0 h1 h2 h3 h4 q0 q1 q2 q3
          have G0 := Below.refl w.heap.size w
          go_wp2_with fail
          refine (copy7_any a0 l4 c0 _ r0 hn).mono ?_
          rintro e w1 ⟨b0, d0, rfl, -, s0, g1⟩
          clear r0
          replace r1 := r1.below g1 (Nat.le_refl _)
          replace r2 := r2.below g1 (Nat.le_refl _)
          replace r3 := r3.below g1 (Nat.le_refl _)
          replace r4 := r4.below g1 (Nat.le_refl _)
          have G1 := G0.trans (g1.mono G0.size)
          clear G0 g1
          go_wp2_with fail
          refine (copy8_any a1 l4 c1 _ r1 hn).mono ?_
          rintro e w2 ⟨b1, d1, rfl, -, s1, g2⟩
          clear r1
          replace s0 := s0.below g2 (Nat.le_refl _)
          replace r2 := r2.below g2 (Nat.le_refl _)
          replace r3 := r3.below g2 (Nat.le_refl _)
          replace r4 := r4.below g2 (Nat.le_refl _)
          have G2 := G1.trans (g2.mono G1.size)
          clear G1 g2
          go_wp2_with fail
          refine (copy8_any a2 l4 c2 _ r2 hn).mono ?_
          rintro e w3 ⟨b2, d2, rfl, -, s2, g3⟩
          clear r2
          replace s0 := s0.below g3 (Nat.le_refl _)
          replace s1 := s1.below g3 (Nat.le_refl _)
          replace r3 := r3.below g3 (Nat.le_refl _)
          replace r4 := r4.below g3 (Nat.le_refl _)
          have G3 := G2.trans (g3.mono G2.size)
          clear G2 g3
          go_wp2_with fail
          refine (copy8_any a3 l4 c3 _ r3 hn).mono ?_
          rintro e w4 ⟨b3, d3, rfl, -, s3, g4⟩
          clear r3
          replace s0 := s0.below g4 (Nat.le_refl _)
          replace s1 := s1.below g4 (Nat.le_refl _)
          replace s2 := s2.below g4 (Nat.le_refl _)
          replace r4 := r4.below g4 (Nat.le_refl _)
          have G4 := G3.trans (g4.mono G3.size)
          clear G3 g4
          go_wp2_with fail
          refine (copy7_any a4 l4 c4 _ r4 hn).mono ?_
          rintro e w5 ⟨b4, d4, rfl, -, s4, g5⟩
          clear r4
          replace s0 := s0.below g5 (Nat.le_refl _)
          replace s1 := s1.below g5 (Nat.le_refl _)
          replace s2 := s2.below g5 (Nat.le_refl _)
          replace s3 := s3.below g5 (Nat.le_refl _)
          have G5 := G4.trans (g5.mono G4.size)
          clear G4 g5
          obtain ⟨fU, hU⟩ := bools_of s2
          obtain ⟨fK, hK⟩ := bools_of s3
          clear s2 s3
          have kn := fun wx => run_neq_slice_nil_any (P := Try.prog) wx 22 9 b0 l4 d0 0 0 Try.underlying22
          obtain ⟨i0, hi, hz0, hz1, hz2⟩ := info_parts info29
          go_upto_if 153 with fail
          go_cut [15, 16] from 28 to 184 (fun s15 s16 wx => (∃ oa cc, s15 = .slice oa l4 cc ∧ colsIs wx oa l4 fU fK) ∧ Below w5.heap.size w5 wx)
          case first =>
            cases b0 with
            | none =>
              obtain rfl := s0.zero
              go_wp2
              go_meet
              exact ⟨⟨none, 0, rfl, fun _ => .zero, fun i hi => absurd hi (by omega), fun i hi => absurd hi (by omega)⟩, Below.refl _ _⟩
            | some ad =>
              go_wp2_with (at_make; refine wpList_make_full _ rfl _ _ 27 rfl w5.heap.size 29 i0 (.agg #[.string ⟨#[]⟩, .bool false, .bool false, .bool false, .string ⟨#[]⟩]) 5 Try.underlying27 hi hz0 hz1 _ _ _ _ l4 rfl rfl rfl rfl ?b2 ?b3 (Nat.le_refl _) ?_)
              case b2 => rw [hz2]; omega
              case b3 => unfold maxLen; omega
              intro w6 hown hg
              have hbel : Below w5.heap.size w5 w6 := (Below.refl _ _).grown hg (Nat.le_refl _) (fun _ h => by cases h)
              have hout : outRow w6 w5.heap.size 29 5 l4 := ⟨_, hown⟩
              have hsz : w5.heap.size < w6.heap.size := by
                rcases hown.2 with ⟨h, _⟩ | ⟨g, _, _, h, _, hh, _⟩
                · simp at h
                · simp only [Value.slice.injEq, Option.some.injEq, Addr.mk.injEq] at h
                  obtain ⟨⟨rfl, _⟩, _⟩ := h
                  exact (Array.getElem?_eq_some_iff.1 hh).1
              clear hown hg kn hi hz0 hz1 hz2
              go_wp2
              go_loopw [16] (fun i wr => ∃ k : Nat, k ≤ l4 ∧ i = .int .i64 k ∧ outRow wr w5.heap.size 29 5 l4 ∧ colDone wr w5.heap.size k fU fK ∧ Below w5.heap.size w5 wr ∧ w5.heap.size < wr.heap.size) (fun i _ => l4 - (intOf i).toNat)
              case atStart => exact ⟨0, by omega, rfl, hout, fun i hi => absurd hi (by omega), hbel, hsz⟩
              case round =>
                clear hout hbel hsz
                obtain ⟨k, hk, rfl, hout, hdone, hbel, hsz⟩ := hrel
                by_cases hlt : k < l4
                · obtain ⟨p0, o0, v0, he0, lt0, cc0, x0, rfl, _⟩ := s0 k hlt
                  obtain ⟨p1, o1, v1, he1, lt1, cc1, x1, rfl⟩ := s1 k hlt
                  obtain ⟨p2, o2, he2, lt2, cc2⟩ := hU k hlt
                  obtain ⟨p3, o3, he3, lt3, cc3⟩ := hK k hlt
                  obtain ⟨p4, o4, v4, he4, lt4, cc4, x4, rfl, _⟩ := s4 k hlt
                  obtain rfl : ad = ⟨p0, o0, none⟩ := by simpa using he0
                  subst he1 he2 he3 he4
                  replace cc0 := (hbel.cell (p := ⟨p0, o0 + k, none⟩) lt0).trans cc0
                  replace cc1 := (hbel.cell (p := ⟨p1, o1 + k, none⟩) lt1).trans cc1
                  replace cc2 := (hbel.cell (p := ⟨p2, o2 + k, none⟩) lt2).trans cc2
                  replace cc3 := (hbel.cell (p := ⟨p3, o3 + k, none⟩) lt3).trans cc3
                  replace cc4 := (hbel.cell (p := ⟨p4, o4 + k, none⟩) lt4).trans cc4
                  obtain ⟨y0, hy0⟩ := hout.cell (j := k * 5) (by omega)
                  obtain ⟨y1, hy1⟩ := hout.cell (j := k * 5 + 1) (by omega)
                  obtain ⟨y2, hy2⟩ := hout.cell (j := k * 5 + 2) (by omega)
                  obtain ⟨y3, hy3⟩ := hout.cell (j := k * 5 + 3) (by omega)
                  obtain ⟨y4, hy4⟩ := hout.cell (j := k * 5 + 4) (by omega)
                  have f0 := hout.frozen (k * 5)
                  have f1 := hout.frozen (k * 5 + 1)
                  have f2 := hout.frozen (k * 5 + 2)
                  have f3 := hout.frozen (k * 5 + 3)
                  have f4 := hout.frozen (k * 5 + 4)
                  have hst := hdone.step (x := ⟨x0, x1, fU k, fK k, x4⟩) hout hlt rfl rfl
                  have ho2 := outRow.storeds (ColV.cells ⟨x0, x1, fU k, fK k, x4⟩) (k * 5) hout
                  have hbs := below_setCells (ColV.cells ⟨x0, x1, fU k, fK k, x4⟩) (b := w5.heap.size) (k * 5) hbel (Nat.le_refl _)
                  have hss : w5.heap.size < (wr.setCells w5.heap.size (k * 5) (ColV.cells ⟨x0, x1, fU k, fK k, x4⟩)).heap.size := by
                    have h1 := (below_setCells (ColV.cells ⟨x0, x1, fU k, fK k, x4⟩) (b := w5.heap.size) (k * 5) (Below.refl w5.heap.size wr) (Nat.le_refl _)).size
                    omega
                  have Hst : Hid _ := And.intro hst (And.intro ho2 (And.intro hbs hss))
                  have i1 : (k : Int) < (l4 : Int) := by omega
                  have i2 : (0 : Int) ≤ (k : Int) := by omega
                  have n0 : ¬ p0 = w5.heap.size := by omega
                  have n1 : ¬ p1 = w5.heap.size := by omega
                  have n2 : ¬ p2 = w5.heap.size := by omega
                  have n3 : ¬ p3 = w5.heap.size := by omega
                  have n4 : ¬ p4 = w5.heap.size := by omega
                  have m0 : ¬ w5.heap.size = p0 := by omega
                  have m1 : ¬ w5.heap.size = p1 := by omega
                  have m2 : ¬ w5.heap.size = p2 := by omega
                  have m3 : ¬ w5.heap.size = p3 := by omega
                  have m4 : ¬ w5.heap.size = p4 := by omega
                  clear he0 hst ho2 hbs hss hout hdone hbel s0 s1 s4 hU hK
                  generalize fU k = z2 at *
                  generalize fK k = z3 at *
                  go_wp2
                  go_region_held3 (fun w' => w'.cell? ⟨p0, o0 + k, none⟩ = some (.string x0) ∧ w'.cell? ⟨p1, o1 + k, none⟩ = some (.bool x1) ∧ w'.cell? ⟨p2, o2 + k, none⟩ = some (.bool z2) ∧ w'.cell? ⟨p3, o3 + k, none⟩ = some (.bool z3) ∧ w'.cell? ⟨p4, o4 + k, none⟩ = some (.string x4)) (go_keep) (fail)
                  go_wp2
                  obtain ⟨hst, ho2, hbs, hss⟩ := Hst.out
                  rw [set5] at hst ho2 hbs hss
                  go_roundw
                  case rel => exact ⟨k + 1, by omega, by go_num, outRow.drew ho2, colDone.drew hst, hbs.drew, lt_drew hss⟩
                  case measure => simp [intOf]; omega
                · obtain rfl : k = l4 := by omega
                  go_wp2
                  go_meet
                  exact ⟨⟨_, _, rfl, hdone.cols hsz⟩, hbel⟩
          case rest =>
          obtain ⟨⟨oa, cc, rfl, hcols⟩, gc⟩ := hcut
          have hU7 := hU.below gc (Nat.le_refl _)
          have hK7 := hK.below gc (Nat.le_refl _)
          have G6 := G5.trans (gc.mono G5.size)
          clear s0 s1 s4 hU hK kn hi hz0 hz1 hz2 gc G5
          go_wp2_with fail
          refine (keys_f oa l4 cc fU fK _ hcols hn).mono ?_
          rintro e w7 ⟨ka, kc, rfl, hnil, kr, lr, g7⟩
          have hU := hU7.below g7 (Nat.le_refl _)
          have hK := hK7.below g7 (Nat.le_refl _)
          have G7 := G6.trans (g7.mono G6.size)
          clear hU7 hK7 hcols g7 G6
          have lu := placesTo_len fU l4
          have lt := placesTo_len fK l4
          go_wp2
          go_loopw [18, 19, 20] (fun u t i wr => ∃ k : Nat, k ≤ l4 ∧ i = .int .i64 k ∧ w7 = wr ∧ u = .int .i64 ((placesTo fU k).length : Nat) ∧ t = .int .i64 ((placesTo fK k).length : Nat)) (fun _ _ i _ => l4 - (intOf i).toNat)
          case atStart => exact ⟨0, by omega, rfl, rfl, rfl, rfl⟩
          case round =>
            obtain ⟨k, hk, rfl, rfl, rfl, rfl⟩ := hrel
            by_cases hlt : k < l4
            · obtain ⟨p2, o2, rfl, _, cc2⟩ := hU k hlt
              obtain ⟨p3, o3, rfl, _, cc3⟩ := hK k hlt
              have i1 : (k : Int) < (l4 : Int) := by omega
              have e1 := placesTo_len fU k
              have e2 := placesTo_len fK k
              clear hU hK hnil kr lr lu lt
              cases z2 : fU k <;> cases z3 : fK k
              · rw [z2] at cc2; rw [z3] at cc3
                have Z : Hid _ := And.intro (places_len_no z2) (places_len_no z3)
                go_wp2
                go_roundw
                case rel => exact ⟨k + 1, by omega, by go_num, trivial, by rw [Z.out.1], by rw [Z.out.2]⟩
                case measure => simp [intOf]; omega
              · rw [z2] at cc2; rw [z3] at cc3
                have Z : Hid _ := And.intro (places_len_no z2) (places_len_yes z3)
                go_wp2
                go_roundw
                case rel => exact ⟨k + 1, by omega, by go_num, trivial, by rw [Z.out.1], by rw [Z.out.2]; go_num⟩
                case measure => simp [intOf]; omega
              · rw [z2] at cc2; rw [z3] at cc3
                have Z : Hid _ := And.intro (places_len_yes z2) (places_len_no z3)
                go_wp2
                go_roundw
                case rel => exact ⟨k + 1, by omega, by go_num, trivial, by rw [Z.out.1]; go_num, by rw [Z.out.2]⟩
                case measure => simp [intOf]; omega
              · rw [z2] at cc2; rw [z3] at cc3
                have Z : Hid _ := And.intro (places_len_yes z2) (places_len_yes z3)
                go_wp2
                go_roundw
                case rel => exact ⟨k + 1, by omega, by go_num, trivial, by rw [Z.out.1]; go_num, by rw [Z.out.2]; go_num⟩
                case measure => simp [intOf]; omega
            · obtain rfl : l4 = k := by omega
              by_cases hts : placesTo fK l4 = []
              · have t0 : (placesTo fK l4).length = 0 := by rw [hts]; rfl
                have ll0 : lastLen (placesTo fK l4) = 0 := by rw [hts]; rfl
                rw [ll0]
                by_cases hus : placesTo fU l4 = []
                · obtain rfl := hnil hus hts
                  have u0 : (placesTo fU l4).length = 0 := by rw [hus]; rfl
                  have kn3 := fun wx => Lib.run_eql_slice_nil (P := Try.prog) wx 30 33 none 0 kc 0 0 Try.underlying30
                  go_wp2
                  go_ret
                  exact ⟨rfl, G7⟩
                · have u0 : 0 < (placesTo fU l4).length := List.length_pos_iff.2 hus
                  go_wp2
                  go_loopw [22, 23] (fun p i wr => ∃ k : Nat, k ≤ (placesTo fU l4).length ∧ i = .int .i64 k ∧ w7 = wr ∧ p = .int .i64 (prevI (placesTo fU l4) k)) (fun _ i _ => (placesTo fU l4).length - (intOf i).toNat)
                  case atStart => exact ⟨0, by omega, rfl, rfl, rfl⟩
                  case round =>
                    obtain ⟨k, hk, rfl, rfl, rfl⟩ := hrel
                    by_cases hlt : k < (placesTo fU l4).length
                    · obtain ⟨g, h, rfl, p1, p2⟩ := kr k hlt
                      obtain ⟨m1, m2, m3⟩ := places_at hlt
                      have hnext : Hid (prevI (placesTo fU l4) (k + 1) = (((placesTo fU l4).getD k 0 : Nat) : Int)) := rfl
                      generalize (placesTo fU l4).getD k 0 = c at m1 m2 m3 p2 hnext
                      generalize prevI (placesTo fU l4) k = p at m3
                      obtain ⟨b, off, rfl, _, hc⟩ := hU c m1
                      rw [m2] at hc
                      have i1 : (k : Int) < (((placesTo fU l4).length : Nat) : Int) := by omega
                      have i2 : ¬ ((c : Int) ≤ p) := by omega
                      have i3 : ¬ ((l4 : Int) ≤ (c : Int)) := by omega
                      have i4 : (c : Int) < (l4 : Int) := by omega
                      skip
                      go_wp2
                      go_roundw
                      case rel => exact ⟨k + 1, by omega, by go_num, trivial, by rw [hnext.out]⟩
                      case measure => simp [intOf]; omega
                    · have i1 : ¬ ((k : Int) < (((placesTo fU l4).length : Nat) : Int)) := by omega
                      go_wp2
                      go_ret
                      exact ⟨rfl, G7⟩
              · have t0 : 0 < (placesTo fK l4).length := List.length_pos_iff.2 hts
                have ll0 : lastLen (placesTo fK l4) = 1 := if_neg hts
                rw [ll0]
                go_wp2
                go_loopw [22, 23] (fun p i wr => ∃ k : Nat, k ≤ (placesTo fU l4).length ∧ i = .int .i64 k ∧ w7 = wr ∧ p = .int .i64 (prevI (placesTo fU l4) k)) (fun _ i _ => (placesTo fU l4).length - (intOf i).toNat)
                case atStart => exact ⟨0, by omega, rfl, rfl, rfl⟩
                case round =>
                  obtain ⟨k, hk, rfl, rfl, rfl⟩ := hrel
                  by_cases hlt : k < (placesTo fU l4).length
                  · obtain ⟨g, h, rfl, p1, p2⟩ := kr k hlt
                    obtain ⟨m1, m2, m3⟩ := places_at hlt
                    have hnext : Hid (prevI (placesTo fU l4) (k + 1) = (((placesTo fU l4).getD k 0 : Nat) : Int)) := rfl
                    generalize (placesTo fU l4).getD k 0 = c at m1 m2 m3 p2 hnext
                    generalize prevI (placesTo fU l4) k = p at m3
                    obtain ⟨b, off, rfl, _, hc⟩ := hU c m1
                    rw [m2] at hc
                    have i1 : (k : Int) < (((placesTo fU l4).length : Nat) : Int) := by omega
                    have i2 : ¬ ((c : Int) ≤ p) := by omega
                    have i3 : ¬ ((l4 : Int) ≤ (c : Int)) := by omega
                    have i4 : (c : Int) < (l4 : Int) := by omega
                    have i5 : (k : Int) < (((placesTo fU l4).length + 1 : Nat) : Int) := by omega
                    go_wp2
                    go_roundw
                    case rel => exact ⟨k + 1, by omega, by go_num, trivial, by rw [hnext.out]⟩
                    case measure => simp [intOf]; omega
                  · have i1 : ¬ ((k : Int) < (((placesTo fU l4).length : Nat) : Int)) := by omega
                    obtain ⟨g, h, cp, rfl, p1, p3⟩ := lr hts
                    go_wp2
                    go_loopw [22, 26] (fun p i wr => ∃ k : Nat, k ≤ (placesTo fK l4).length ∧ i = .int .i64 k ∧ w7 = wr ∧ p = .int .i64 (prevI (placesTo fK l4) k)) (fun _ i _ => (placesTo fK l4).length - (intOf i).toNat)
                    case atStart => exact ⟨0, by omega, rfl, rfl, rfl⟩
                    case round =>
                      obtain ⟨k, hk, rfl, rfl, rfl⟩ := hrel
                      by_cases hlt : k < (placesTo fK l4).length
                      · have p2 := p3 k hlt
                        obtain ⟨m1, m2, m3⟩ := places_at hlt
                        have hnext : Hid (prevI (placesTo fK l4) (k + 1) = (((placesTo fK l4).getD k 0 : Nat) : Int)) := rfl
                        generalize (placesTo fK l4).getD k 0 = c at m1 m2 m3 p2 hnext
                        generalize prevI (placesTo fK l4) k = p at m3
                        obtain ⟨b, off, rfl, _, hc⟩ := hK c m1
                        rw [m2] at hc
                        have i1 : (k : Int) < (((placesTo fK l4).length : Nat) : Int) := by omega
                        have i2 : ¬ ((c : Int) ≤ p) := by omega
                        have i3 : ¬ ((l4 : Int) ≤ (c : Int)) := by omega
                        have i4 : (c : Int) < (l4 : Int) := by omega
                        clear p3
                        go_wp2
                        go_roundw
                        case rel => exact ⟨k + 1, by omega, by go_num, trivial, by rw [hnext.out]⟩
                        case measure => simp [intOf]; omega
                      · have i1 : ¬ ((k : Int) < (((placesTo fK l4).length : Nat) : Int)) := by omega
                        go_wp2
                        go_ret
                        exact ⟨rfl, G7⟩
end Go.Proofs.Qxb6601353a
