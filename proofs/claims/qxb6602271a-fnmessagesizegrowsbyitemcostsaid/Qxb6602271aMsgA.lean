import Derived.Test.Qxb6602271aDest2
import Derived.Test.Qxb6602271aOpt
namespace Go.Proofs.Qxb6602271a
open Go.RowKit

theorem below_cells {W w1 : World} (hb : Below W.heap.size W w1) {N : Nat} (hN : N < W.heap.size) : (∀ j, w1.cell? ⟨N, j, none⟩ = W.cell? ⟨N, j, none⟩) ∧ (∀ j, w1.frozen? ⟨N, j, none⟩ = W.frozen? ⟨N, j, none⟩) :=
  ⟨fun j => hb.cell (p := ⟨N, j, none⟩) hN, fun j => hb.frozen (p := ⟨N, j, none⟩) hN⟩

/-- A bool; where it is false, P. -/
def boolThen (P : Prop) (e : Ending) : Prop := ∃ b, e = .returned (.bool b) ∧ (b = false → P)
theorem boolThen_true {P : Prop} : boolThen P (.returned (.bool true)) := ⟨true, rfl, fun h => by cases h⟩

section
variable (i0 i1 i2 i3 i4 i5 i6 j0 k0 k1 k2 : Int) (va da oa ba ea ca sa ta : Option Addr) (vl vc dl dc ol oc bl bc el ec cl cc sl sc tl tc : Nat)

/-- The three arguments as values. -/
def hdrV : Value := .agg #[.int .u32 i0, .int .u16 i1, .int .u8 i2, .int .u8 i3, .int .u32 i4, .int .u64 i5, .int .u32 i6, .slice va vl vc, .slice da dl dc, .slice oa ol oc]
def conV : Value := .agg #[.int .u16 j0, .slice ba bl bc, .slice ea el ec]
def secV : Value := .agg #[.slice ca cl cc, .int .u8 k0, .int .u8 k1, .int .u8 k2, .slice sa sl sc, .slice ta tl tc]

set_option maxHeartbeats 4000000 in
set_option maxRecDepth 100000 in
theorem counts_any (w : World) (h1 : vl ≤ maxLen) (h2 : dl ≤ maxLen) (h3 : ol ≤ maxLen) (h4 : el ≤ maxLen) (h5 : cl ≤ maxLen) :
    Calls Try.prog 11 #[hdrV i0 i1 i2 i3 i4 i5 i6 va da oa vl vc dl dc ol oc, conV j0 ba ea bl bc el ec, secV k0 k1 k2 ca sa ta cl cc sl sc tl tc] w fun e w' => boolThen (vl ≤ 65536 ∧ dl ≤ 65536 ∧ ol ≤ 65536 ∧ el ≤ 65536 ∧ cl ≤ 65536) e ∧ Below w.heap.size w w' := by
  unfold maxLen at h1 h2 h3 h4 h5
  unfold hdrV conV secV
  have hb : ∀ o1 o2 o3, Below w.heap.size w (((w.alloc o1).alloc o2).alloc o3) := fun o1 o2 o3 => (((Below.refl _ _).alloc (Nat.le_refl _) _).alloc (by simp) _).alloc (by simp; omega) _
  rcases (show 65536 < vl ∨ (vl ≤ 65536 ∧ 65536 < dl) ∨ (vl ≤ 65536 ∧ dl ≤ 65536 ∧ 65536 < ol) ∨ (vl ≤ 65536 ∧ dl ≤ 65536 ∧ ol ≤ 65536 ∧ 65536 < el) ∨ (vl ≤ 65536 ∧ dl ≤ 65536 ∧ ol ≤ 65536 ∧ el ≤ 65536 ∧ 65536 < cl) ∨ (vl ≤ 65536 ∧ dl ≤ 65536 ∧ ol ≤ 65536 ∧ el ≤ 65536 ∧ cl ≤ 65536) by omega) with q | ⟨q1, q⟩ | ⟨q1, q2, q⟩ | ⟨q1, q2, q3, q⟩ | ⟨q1, q2, q3, q4, q⟩ | ⟨q1, q2, q3, q4, q5⟩
  · go_enter Try.func11, Try.ntmps11
    go_wp2
    go_ret
    exact ⟨boolThen_true, hb _ _ _⟩
  · go_enter Try.func11, Try.ntmps11
    go_wp2
    go_ret
    exact ⟨boolThen_true, hb _ _ _⟩
  · go_enter Try.func11, Try.ntmps11
    go_wp2
    go_ret
    exact ⟨boolThen_true, hb _ _ _⟩
  · go_enter Try.func11, Try.ntmps11
    go_wp2
    go_ret
    exact ⟨boolThen_true, hb _ _ _⟩
  · have qd : decide ((65536 : Int) < (cl : Int)) = true := by simp; omega
    go_enter Try.func11, Try.ntmps11
    go_wp2
    go_ret
    exact ⟨boolThen_true, hb _ _ _⟩
  · have hp : Hid (vl ≤ 65536 ∧ dl ≤ 65536 ∧ ol ≤ 65536 ∧ el ≤ 65536 ∧ cl ≤ 65536) := ⟨q1, q2, q3, q4, q5⟩
    go_enter Try.func11, Try.ntmps11
    go_wp2
    go_ret
    exact ⟨⟨_, rfl, fun _ => hp.out⟩, hb _ _ _⟩

theorem below3 (w : World) (o1 o2 o3 : Obj) : Below w.heap.size w (((w.alloc o1).alloc o2).alloc o3) := (((Below.refl _ _).alloc (Nat.le_refl _) _).alloc (by simp) _).alloc (by simp; omega) _

/-- What messageBytes answers: where it stays within the bound, so does every length. -/
def sumThen (P : Prop) (e : Ending) : Prop := ∃ y : Int, 0 ≤ y ∧ (y ≤ 1048576 → P) ∧ e = .returned (.int .i64 y)

set_option maxHeartbeats 4000000 in
set_option maxRecDepth 100000 in
theorem msgBytes_any (V D C : Nat → DestV) (O : Nat → OptV) (X : Nat → ExtV) (w : World) (h1 : vl ≤ maxLen) (h2 : dl ≤ maxLen) (h3 : ol ≤ maxLen) (h4 : el ≤ maxLen) (h5 : cl ≤ maxLen)
    (rV : destRow w va vl V) (rD : destRow w da dl D) (rO : optRow w oa ol O) (rX : extRow w ea el X) (rC : destRow w ca cl C) :
    Calls Try.prog 12 #[hdrV i0 i1 i2 i3 i4 i5 i6 va da oa vl vc dl dc ol oc, conV j0 ba ea bl bc el ec, secV k0 k1 k2 ca sa ta cl cc sl sc tl tc] w fun e w' =>
      sumThen ((∀ i, i < vl → (V i).cl ≤ 1048576) ∧ (∀ i, i < dl → (D i).cl ≤ 1048576) ∧ (∀ i, i < ol → (O i).cl ≤ 1048576) ∧ (∀ i, i < el → (X i).cl ≤ 1048576) ∧ (∀ i, i < cl → (C i).cl ≤ 1048576) ∧ bl ≤ 1048576 ∧ sl ≤ 1048576 ∧ tl ≤ 1048576) e ∧ Below w.heap.size w w' := by
  unfold hdrV conV secV
  go_enter Try.func12, Try.ntmps12
  go_wp2_with fail
  refine (destBytes_any va vl vc V 0 (by decide) _ (rV.below (below3 _ _ _ _) (Nat.le_refl _)) h1).mono ?_
  rintro e w' ⟨⟨y1, g1, p1, rfl⟩, rfl⟩
  have P1 : Hid _ := p1
  clear p1
  go_wp2_with fail
  refine (destBytes_any da dl dc D y1 g1 _ (rD.below (below3 _ _ _ _) (Nat.le_refl _)) h2).mono ?_
  rintro e w' ⟨⟨y2, g2, p2, rfl⟩, rfl⟩
  have P2 : Hid _ := p2
  clear p2
  go_wp2_with fail
  refine (optBytes_any oa ol oc O y2 g2 _ (rO.below (below3 _ _ _ _) (Nat.le_refl _)) h3).mono ?_
  rintro e w' ⟨⟨y3, g3, p3, rfl⟩, rfl⟩
  have P3 : Hid _ := p3
  clear p3
  go_wp2_with fail
  refine (addLen_any y3 bl g3 (by omega) _).mono ?_
  rintro e w' ⟨rfl, rfl⟩
  have g4 := addL_nonneg (t := y3) (n := bl) g3 (by omega)
  have P4 : Hid _ := @addL_le y3 bl
  generalize addL y3 bl = y4 at *
  go_wp2_with fail
  refine (extBytes_any ea el ec X y4 g4 _ (rX.below (below3 _ _ _ _) (Nat.le_refl _)) h4).mono ?_
  rintro e w' ⟨⟨y5, g5, p5, rfl⟩, rfl⟩
  have P5 : Hid _ := p5
  clear p5
  go_wp2_with fail
  refine (certBytes_any ca cl cc C y5 g5 _ (rC.below (below3 _ _ _ _) (Nat.le_refl _)) h5).mono ?_
  rintro e w' ⟨⟨y6, g6, p6, rfl⟩, rfl⟩
  have P6 : Hid _ := p6
  clear p6
  go_wp2_with fail
  refine (addLen_any y6 sl g6 (by omega) _).mono ?_
  rintro e w' ⟨rfl, rfl⟩
  have g7 := addL_nonneg (t := y6) (n := sl) g6 (by omega)
  have P7 : Hid _ := @addL_le y6 sl
  generalize addL y6 sl = y7 at *
  go_wp2_with fail
  refine (addLen_any y7 tl g7 (by omega) _).mono ?_
  rintro e w' ⟨rfl, rfl⟩
  have g8 := addL_nonneg (t := y7) (n := tl) g7 (by omega)
  have P8 : Hid _ := @addL_le y7 tl
  generalize addL y7 tl = y8 at *
  clear rV rD rO rX rC
  go_wp2
  go_ret
  refine ⟨⟨y8, g8, fun h => ?_, rfl⟩, below3 _ _ _ _⟩
  obtain ⟨a7, b8⟩ := P8.out h
  obtain ⟨a6, b7⟩ := P7.out a7
  obtain ⟨a5, b6⟩ := P6.out a6
  obtain ⟨a4, b5⟩ := P5.out a5
  obtain ⟨a3, b4⟩ := P4.out a4
  obtain ⟨a2, b3⟩ := P3.out a3
  obtain ⟨a1, b2⟩ := P2.out a2
  obtain ⟨_, b1⟩ := P1.out a1
  exact ⟨b1, b2, b3, b5, b6, by omega, by omega, by omega⟩
end
end Go.Proofs.Qxb6602271a
