import Derived.Test.Qxb6602271aMsgT
import Derived.Test.Qxb6602271aMsgZ
import Derived.Deep.CutRange
namespace Go.Proofs.Qxb6602271a
open Go.RowKit

section
variable (i0 i1 i2 i3 i4 i5 i6 j0 k0 k1 k2 : Int) (va da oa ba ea ca sa ta : Option Addr) (vl vc dl dc ol oc bl bc el ec cl cc sl sc tl tc : Nat)
set_option maxHeartbeats 32000000 in
set_option maxRecDepth 100000 in
theorem law_any (V D C : Nat → DestV) (O : Nat → OptV) (X : Nat → ExtV) (e1 : Int) (e2 : Bool) (xa : Option Addr) (xl xc : Nat) (d1 : Int) (ga : Option Addr) (gl gc : Nat) (w : World) (h1 : vl ≤ maxLen) (h2 : dl ≤ maxLen) (h3 : ol ≤ maxLen) (h4 : el ≤ maxLen) (h5 : cl ≤ maxLen)
    (h6 : bl ≤ maxLen) (h7 : sl ≤ maxLen) (h8 : tl ≤ maxLen) (h9 : xl ≤ maxLen) (h10 : gl ≤ maxLen) (rV : destRow w va vl V) (rD : destRow w da dl D) (rO : optRow w oa ol O) (rX : extRow w ea el X) (rC : destRow w ca cl C)
    (rb : byteRow w ba bl) (rs : byteRow w sa sl) (rt : byteRow w ta tl) (rx : byteRow w xa xl) (rg : byteRow w ga gl) :
    Calls Try.prog 4 #[hdrV i0 i1 i2 i3 i4 i5 i6 va da oa vl vc dl dc ol oc, conV j0 ba ea bl bc el ec, secV k0 k1 k2 ca sa ta cl cc sl sc tl tc, .agg #[.int .u16 e1, .bool e2, .slice xa xl xc], .agg #[.int .u8 d1, .slice ga gl gc]] w fun e w' => e = .returned (.bool true) ∧ Below w.heap.size w w' := by
  have t0 : ∀ o1 o2 o3 o4 o5, Below w.heap.size w (((((w.alloc o1).alloc o2).alloc o3).alloc o4).alloc o5) := below5 w
  have bx0 := boxes_init w #[.int .u32 i0, .int .u16 i1, .int .u8 i2, .int .u8 i3, .int .u32 i4, .int .u64 i5, .int .u32 i6, .slice va vl vc, .slice da dl dc, .slice oa ol oc] #[.int .u16 j0, .slice ba bl bc, .slice ea el ec] #[.slice ca cl cc, .int .u8 k0, .int .u8 k1, .int .u8 k2, .slice sa sl sc, .slice ta tl tc] #[.int .u16 e1, .bool e2, .slice xa xl xc] #[.int .u8 d1, .slice ga gl gc]
  have T0 := below5 w (.cells #[.int .u32 i0, .int .u16 i1, .int .u8 i2, .int .u8 i3, .int .u32 i4, .int .u64 i5, .int .u32 i6, .slice va vl vc, .slice da dl dc, .slice oa ol oc] 28) (.cells #[.int .u16 j0, .slice ba bl bc, .slice ea el ec] 32) (.cells #[.slice ca cl cc, .int .u8 k0, .int .u8 k1, .int .u8 k2, .slice sa sl sc, .slice ta tl tc] 35) (.cells #[.int .u16 e1, .bool e2, .slice xa xl xc] 66) (.cells #[.int .u8 d1, .slice ga gl gc] 68)
  have z := zz23_any i0 i1 i2 i3 i4 i5 i6 j0 k0 k1 k2 va da oa ba ea ca sa ta vl vc dl dc ol oc bl bc el ec cl cc sl sc tl tc V D C O X e1 e2 xa xl xc d1 ga gl gc _ h1 h2 h3 h4 h5 h6 h7 h8 h9 h10 (rV.below T0 (Nat.le_refl _)) (rD.below T0 (Nat.le_refl _)) (rO.below T0 (Nat.le_refl _)) (rX.below T0 (Nat.le_refl _)) (rC.below T0 (Nat.le_refl _))
  simp only [hdrV, conV, secV] at z
  have Z : Hid _ := z
  clear z t0
  unfold hdrV conV secV
  go_enter Try.func4, Try.ntmps4
  go_wp2_with fail
  refine Calls.mono Z.out ?_
  rintro e w1 ⟨⟨b, rfl⟩, b1⟩
  have U1 : w.heap.size + 4 < w1.heap.size := Nat.lt_of_lt_of_le bx0.size b1.size
  have bx1 := bx0.below b1 bx0.size
  have T1 : Below w.heap.size w w1 := step_below T0 b1 T0.size
  clear Z bx0 T0 b1
  obtain ⟨y0, y1, y2, y3, y4⟩ := bx1.cells
  cases b
  · go_wp2
    go_ret
    exact ⟨rfl, T1⟩
  go_wp2_with fail
  refine Calls.mono (counts_any i0 i1 i2 i3 i4 i5 i6 j0 k0 k1 k2 va da oa ba ea ca sa ta vl vc dl dc ol oc bl bc el ec cl cc sl sc tl tc w1 h1 h2 h3 h4 h5) ?_
  rintro e w2 ⟨⟨b, rfl, hcnt⟩, b2⟩
  have Hcnt : Hid _ := hcnt
  clear hcnt y0 y1 y2 y3 y4
  have U2 : w.heap.size + 4 < w2.heap.size := Nat.lt_of_lt_of_le U1 b2.size
  have bx2 := bx1.below b2 U1
  have T2 : Below w.heap.size w w2 := step_below T1 b2 T1.size
  clear bx1 T1 b2 U1
  obtain ⟨y0, y1, y2, y3, y4⟩ := bx2.cells
  cases b
  rotate_left
  · go_wp2
    go_ret
    exact ⟨rfl, T2⟩
  obtain ⟨n1, n2, n3, n4, n5⟩ := Hcnt.out rfl
  clear Hcnt h1 h2 h3 h4 h5
  unfold maxLen at h6 h7 h8 h9 h10
  rcases (show 1048576 < xl ∨ (xl ≤ 1048576 ∧ 1048576 < gl) ∨ (xl ≤ 1048576 ∧ gl ≤ 1048576) by omega) with q | ⟨q1, q⟩ | ⟨n9, n10⟩
  · go_wp2
    go_ret
    exact ⟨rfl, T2⟩
  · go_wp2
    go_ret
    exact ⟨rfl, T2⟩
  go_wp2
  have m := fun (wx : World) (hb : Below w.heap.size w wx) => msgBytes_any i0 i1 i2 i3 i4 i5 i6 j0 k0 k1 k2 va da oa ba ea ca sa ta vl vc dl dc ol oc bl bc el ec cl cc sl sc tl tc V D C O X wx (by unfold maxLen; omega) (by unfold maxLen; omega) (by unfold maxLen; omega) (by unfold maxLen; omega) (by unfold maxLen; omega) (rV.below hb (Nat.le_refl _)) (rD.below hb (Nat.le_refl _)) (rO.below hb (Nat.le_refl _)) (rX.below hb (Nat.le_refl _)) (rC.below hb (Nat.le_refl _))
  simp only [hdrV, conV, secV] at m
  have M : Hid _ := m
  clear m
  go_region_held3 (fun w' => (∀ j, w'.cell? ⟨w.heap.size, j, none⟩ = #[.int .u32 i0, .int .u16 i1, .int .u8 i2, .int .u8 i3, .int .u32 i4, .int .u64 i5, .int .u32 i6, .slice va vl vc, .slice da dl dc, .slice oa ol oc][j]?) ∧ (∀ j, w'.cell? ⟨w.heap.size + 1, j, none⟩ = #[.int .u16 j0, .slice ba bl bc, .slice ea el ec][j]?) ∧ (∀ j, w'.cell? ⟨w.heap.size + 2, j, none⟩ = #[.slice ca cl cc, .int .u8 k0, .int .u8 k1, .int .u8 k2, .slice sa sl sc, .slice ta tl tc][j]?) ∧ (∀ j, w'.cell? ⟨w.heap.size + 3, j, none⟩ = #[.int .u16 e1, .bool e2, .slice xa xl xc][j]?) ∧ (∀ j, w'.cell? ⟨w.heap.size + 4, j, none⟩ = #[.int .u8 d1, .slice ga gl gc][j]?)) (first | exact bx2.drew.cells | exact bx3.cells)
    (first
      | (go_at_call 12; refine Calls.mono (M.out _ T2.drew) ?_; rintro e w3 ⟨⟨y, hy0, hy, rfl⟩, b3⟩; have U3 : w.heap.size + 4 < w3.heap.size := Nat.lt_of_lt_of_le U2 b3.size; have bx3 := bx2.drew.below b3 U2; have T3 : Below w.heap.size w w3 := step_below T2.drew b3 T2.size; have Hy : Hid _ := hy; clear hy)
      | (go_at_call_of 24 gl; refine (addLen_any _ _ (addL_nonneg hy0 (by omega)) (by omega) _).mono ?_; rintro e w' ⟨rfl, rfl⟩)
      | (go_at_call 24; refine (addLen_any _ _ hy0 (by omega) _).mono ?_; rintro e w' ⟨rfl, rfl⟩))
  generalize hq : addL (addL y (xl : Int)) (gl : Int) = yy
  have Hq : Hid _ := hq
  clear hq
  by_cases qy : 1048576 < yy
  · go_wp2
    go_ret
    exact ⟨rfl, T3⟩
  obtain ⟨p1, p2⟩ := addL_le (t := addL y (xl : Int)) (n := (gl : Int)) (by rw [Hq.out]; omega)
  obtain ⟨p3, p4⟩ := addL_le p1
  obtain ⟨lV, lD, lO, lX, lC, n6, n7, n8⟩ := Hy.out p3
  have LV : Hid _ := lV
  have LD : Hid _ := lD
  have LO : Hid _ := lO
  have LX : Hid _ := lX
  have LC : Hid _ := lC
  have T3' := T3
  have U3' := U3
  have bx3' := bx3
  obtain ⟨y0, y1, y2, y3, y4⟩ := bx3.cells
  clear lV lD lO lX lC p1 p2 p3 p4 Hq Hy M T2 bx2 U2 h6 h7 h8 h9 h10 T3 U3 bx3
  go_wp2_with fail
  clear y0 y1 y2 y3 y4
  refine Calls.mono (copyHdr_any i0 i1 i2 i3 i4 i5 i6 va da oa vl vc dl dc ol oc V D O _ (rV.below T3' (Nat.le_refl _)) n1 LV.out (rD.below T3' (Nat.le_refl _)) n2 LD.out (rO.below T3' (Nat.le_refl _)) n3 LO.out) ?_
  rintro e w4 ⟨va', vc', da', dc', oa', oc', rfl, ⟨V', sV⟩, ⟨D', sD⟩, ⟨O', sO⟩, b4⟩
  have U4 : w.heap.size + 4 < w4.heap.size := Nat.lt_of_lt_of_le U3' b4.size
  have bx4 := bx3'.below b4 U3'
  have T4 : Below w.heap.size w w4 := step_below T3' b4 T3'.size
  have sV := sV.mono (show w.heap.size + 5 ≤ _ from U3')
  have sD := sD.mono (show w.heap.size + 5 ≤ _ from U3')
  have sO := sO.mono (show w.heap.size + 5 ≤ _ from U3')
  have sV := sV.setCells (b' := w.heap.size) (o' := 0) (vs := [.int .u32 i0, .int .u16 i1, .int .u8 i2, .int .u8 i3, .int .u32 i4, .int .u64 i5, .int .u32 i6, .slice va' vl vc', .slice da' dl dc', .slice oa' ol oc']) (by omega)
  have sD := sD.setCells (b' := w.heap.size) (o' := 0) (vs := [.int .u32 i0, .int .u16 i1, .int .u8 i2, .int .u8 i3, .int .u32 i4, .int .u64 i5, .int .u32 i6, .slice va' vl vc', .slice da' dl dc', .slice oa' ol oc']) (by omega)
  have sO := sO.setCells (b' := w.heap.size) (o' := 0) (vs := [.int .u32 i0, .int .u16 i1, .int .u8 i2, .int .u8 i3, .int .u32 i4, .int .u64 i5, .int .u32 i6, .slice va' vl vc', .slice da' dl dc', .slice oa' ol oc']) (by omega)
  have bx4' := bx4.setH [.int .u32 i0, .int .u16 i1, .int .u8 i2, .int .u8 i3, .int .u32 i4, .int .u64 i5, .int .u32 i6, .slice va' vl vc', .slice da' dl dc', .slice oa' ol oc'] rfl
  have T4' := below_setCells [.int .u32 i0, .int .u16 i1, .int .u8 i2, .int .u8 i3, .int .u32 i4, .int .u64 i5, .int .u32 i6, .slice va' vl vc', .slice da' dl dc', .slice oa' ol oc'] (b := w.heap.size) 0 T4 (by omega)
  have U4' := bx4'.size
  obtain ⟨y0, y1, y2, y3, y4⟩ := bx4.cells
  obtain ⟨f0, f1, f2, f3, f4⟩ := bx4.free
  clear bx3' T3' U3' b4
  simp only [hdrV]
  go_wp2_with fail
  clear y0 y1 y2 y3 y4 f0 f1 f2 f3 f4 bx4 T4 U4
  refine Calls.mono (copyCon_any j0 ba ea bl bc el ec X _ (rb.below T4' (Nat.le_refl _)) n6 (rX.below T4' (Nat.le_refl _)) n4 LX.out) ?_
  rintro e w5 ⟨ba', bc', ea', ec', rfl, sb, ⟨X', sX⟩, b5⟩
  have U5 : w.heap.size + 4 < w5.heap.size := Nat.lt_of_lt_of_le U4' b5.size
  have bx5 := bx4'.below b5 U4'
  have T5 : Below w.heap.size w w5 := step_below T4' b5 T4'.size
  have sV := sV.below b5 (Nat.le_refl _)
  have sD := sD.below b5 (Nat.le_refl _)
  have sO := sO.below b5 (Nat.le_refl _)
  have sb := sb.mono (show w.heap.size + 5 ≤ _ from U4')
  have sX := sX.mono (show w.heap.size + 5 ≤ _ from U4')
  have sV := sV.setCells (b' := w.heap.size + 1) (o' := 0) (vs := [.int .u16 j0, .slice ba' bl bc', .slice ea' el ec']) (by omega)
  have sD := sD.setCells (b' := w.heap.size + 1) (o' := 0) (vs := [.int .u16 j0, .slice ba' bl bc', .slice ea' el ec']) (by omega)
  have sO := sO.setCells (b' := w.heap.size + 1) (o' := 0) (vs := [.int .u16 j0, .slice ba' bl bc', .slice ea' el ec']) (by omega)
  have sb := sb.setCells (b := w.heap.size + 1) (o := 0) (vs := [.int .u16 j0, .slice ba' bl bc', .slice ea' el ec']) (by omega)
  have sX := sX.setCells (b' := w.heap.size + 1) (o' := 0) (vs := [.int .u16 j0, .slice ba' bl bc', .slice ea' el ec']) (by omega)
  have bx5' := bx5.setC [.int .u16 j0, .slice ba' bl bc', .slice ea' el ec'] rfl
  have T5' := below_setCells [.int .u16 j0, .slice ba' bl bc', .slice ea' el ec'] (b := w.heap.size + 1) 0 T5 (by omega)
  have U5' := bx5'.size
  obtain ⟨y0, y1, y2, y3, y4⟩ := bx5.cells
  obtain ⟨f0, f1, f2, f3, f4⟩ := bx5.free
  clear bx4' T4' U4' b5
  simp only [conV]
  go_wp2_with fail
  clear y0 y1 y2 y3 y4 f0 f1 f2 f3 f4 bx5 T5 U5
  refine Calls.mono (copySec_any k0 k1 k2 ca sa ta cl cc sl sc tl tc C _ (rC.below T5' (Nat.le_refl _)) n5 LC.out (rs.below T5' (Nat.le_refl _)) n7 (rt.below T5' (Nat.le_refl _)) n8) ?_
  rintro e w6 ⟨ca', cc', sa', sc', ta', tc', rfl, ⟨C', sC⟩, ss, st, b6⟩
  have U6 : w.heap.size + 4 < w6.heap.size := Nat.lt_of_lt_of_le U5' b6.size
  have bx6 := bx5'.below b6 U5'
  have T6 : Below w.heap.size w w6 := step_below T5' b6 T5'.size
  have sV := sV.below b6 (Nat.le_refl _)
  have sD := sD.below b6 (Nat.le_refl _)
  have sO := sO.below b6 (Nat.le_refl _)
  have sb := sb.below b6 (Nat.le_refl _)
  have sX := sX.below b6 (Nat.le_refl _)
  have sC := sC.mono (show w.heap.size + 5 ≤ _ from U5')
  have ss := ss.mono (show w.heap.size + 5 ≤ _ from U5')
  have st := st.mono (show w.heap.size + 5 ≤ _ from U5')
  have sV := sV.setCells (b' := w.heap.size + 2) (o' := 0) (vs := [.slice ca' cl cc', .int .u8 k0, .int .u8 k1, .int .u8 k2, .slice sa' sl sc', .slice ta' tl tc']) (by omega)
  have sD := sD.setCells (b' := w.heap.size + 2) (o' := 0) (vs := [.slice ca' cl cc', .int .u8 k0, .int .u8 k1, .int .u8 k2, .slice sa' sl sc', .slice ta' tl tc']) (by omega)
  have sO := sO.setCells (b' := w.heap.size + 2) (o' := 0) (vs := [.slice ca' cl cc', .int .u8 k0, .int .u8 k1, .int .u8 k2, .slice sa' sl sc', .slice ta' tl tc']) (by omega)
  have sb := sb.setCells (b := w.heap.size + 2) (o := 0) (vs := [.slice ca' cl cc', .int .u8 k0, .int .u8 k1, .int .u8 k2, .slice sa' sl sc', .slice ta' tl tc']) (by omega)
  have sX := sX.setCells (b' := w.heap.size + 2) (o' := 0) (vs := [.slice ca' cl cc', .int .u8 k0, .int .u8 k1, .int .u8 k2, .slice sa' sl sc', .slice ta' tl tc']) (by omega)
  have sC := sC.setCells (b' := w.heap.size + 2) (o' := 0) (vs := [.slice ca' cl cc', .int .u8 k0, .int .u8 k1, .int .u8 k2, .slice sa' sl sc', .slice ta' tl tc']) (by omega)
  have ss := ss.setCells (b := w.heap.size + 2) (o := 0) (vs := [.slice ca' cl cc', .int .u8 k0, .int .u8 k1, .int .u8 k2, .slice sa' sl sc', .slice ta' tl tc']) (by omega)
  have st := st.setCells (b := w.heap.size + 2) (o := 0) (vs := [.slice ca' cl cc', .int .u8 k0, .int .u8 k1, .int .u8 k2, .slice sa' sl sc', .slice ta' tl tc']) (by omega)
  have bx6' := bx6.setS [.slice ca' cl cc', .int .u8 k0, .int .u8 k1, .int .u8 k2, .slice sa' sl sc', .slice ta' tl tc'] rfl
  have T6' := below_setCells [.slice ca' cl cc', .int .u8 k0, .int .u8 k1, .int .u8 k2, .slice sa' sl sc', .slice ta' tl tc'] (b := w.heap.size + 2) 0 T6 (by omega)
  have U6' := bx6'.size
  obtain ⟨y0, y1, y2, y3, y4⟩ := bx6.cells
  obtain ⟨f0, f1, f2, f3, f4⟩ := bx6.free
  clear bx5' T5' U5' b6
  simp only [secV]
  go_wp2_with fail
  clear y0 y1 y2 y3 y4 f0 f1 f2 f3 f4 bx6 T6 U6
  refine Calls.mono (copyExt_any e1 e2 xa xl xc _ (rx.below T6' (Nat.le_refl _)) n9) ?_
  rintro e w7 ⟨xa', xc', rfl, sx, b7⟩
  have U7 : w.heap.size + 4 < w7.heap.size := Nat.lt_of_lt_of_le U6' b7.size
  have bx7 := bx6'.below b7 U6'
  have T7 : Below w.heap.size w w7 := step_below T6' b7 T6'.size
  have sV := sV.below b7 (Nat.le_refl _)
  have sD := sD.below b7 (Nat.le_refl _)
  have sO := sO.below b7 (Nat.le_refl _)
  have sb := sb.below b7 (Nat.le_refl _)
  have sX := sX.below b7 (Nat.le_refl _)
  have sC := sC.below b7 (Nat.le_refl _)
  have ss := ss.below b7 (Nat.le_refl _)
  have st := st.below b7 (Nat.le_refl _)
  have sx := sx.mono (show w.heap.size + 5 ≤ _ from U6')
  have sV := sV.setCells (b' := w.heap.size + 3) (o' := 0) (vs := [.int .u16 e1, .bool e2, .slice xa' xl xc']) (by omega)
  have sD := sD.setCells (b' := w.heap.size + 3) (o' := 0) (vs := [.int .u16 e1, .bool e2, .slice xa' xl xc']) (by omega)
  have sO := sO.setCells (b' := w.heap.size + 3) (o' := 0) (vs := [.int .u16 e1, .bool e2, .slice xa' xl xc']) (by omega)
  have sb := sb.setCells (b := w.heap.size + 3) (o := 0) (vs := [.int .u16 e1, .bool e2, .slice xa' xl xc']) (by omega)
  have sX := sX.setCells (b' := w.heap.size + 3) (o' := 0) (vs := [.int .u16 e1, .bool e2, .slice xa' xl xc']) (by omega)
  have sC := sC.setCells (b' := w.heap.size + 3) (o' := 0) (vs := [.int .u16 e1, .bool e2, .slice xa' xl xc']) (by omega)
  have ss := ss.setCells (b := w.heap.size + 3) (o := 0) (vs := [.int .u16 e1, .bool e2, .slice xa' xl xc']) (by omega)
  have st := st.setCells (b := w.heap.size + 3) (o := 0) (vs := [.int .u16 e1, .bool e2, .slice xa' xl xc']) (by omega)
  have sx := sx.setCells (b := w.heap.size + 3) (o := 0) (vs := [.int .u16 e1, .bool e2, .slice xa' xl xc']) (by omega)
  have bx7' := bx7.setE [.int .u16 e1, .bool e2, .slice xa' xl xc'] rfl
  have T7' := below_setCells [.int .u16 e1, .bool e2, .slice xa' xl xc'] (b := w.heap.size + 3) 0 T7 (by omega)
  have U7' := bx7'.size
  obtain ⟨y0, y1, y2, y3, y4⟩ := bx7.cells
  obtain ⟨f0, f1, f2, f3, f4⟩ := bx7.free
  clear bx6' T6' U6' b7
  go_wp2_with fail
  clear y0 y1 y2 y3 y4 f0 f1 f2 f3 f4 bx7 T7 U7
  refine Calls.mono (copyDest_any d1 ga gl gc _ (rg.below T7' (Nat.le_refl _)) n10) ?_
  rintro e w8 ⟨ga', gc', rfl, sg, b8⟩
  have U8 : w.heap.size + 4 < w8.heap.size := Nat.lt_of_lt_of_le U7' b8.size
  have bx8 := bx7'.below b8 U7'
  have T8 : Below w.heap.size w w8 := step_below T7' b8 T7'.size
  have sV := sV.below b8 (Nat.le_refl _)
  have sD := sD.below b8 (Nat.le_refl _)
  have sO := sO.below b8 (Nat.le_refl _)
  have sb := sb.below b8 (Nat.le_refl _)
  have sX := sX.below b8 (Nat.le_refl _)
  have sC := sC.below b8 (Nat.le_refl _)
  have ss := ss.below b8 (Nat.le_refl _)
  have st := st.below b8 (Nat.le_refl _)
  have sx := sx.below b8 (Nat.le_refl _)
  have sg := sg.mono (show w.heap.size + 5 ≤ _ from U7')
  have sV := sV.setCells (b' := w.heap.size + 4) (o' := 0) (vs := [.int .u8 d1, .slice ga' gl gc']) (by omega)
  have sD := sD.setCells (b' := w.heap.size + 4) (o' := 0) (vs := [.int .u8 d1, .slice ga' gl gc']) (by omega)
  have sO := sO.setCells (b' := w.heap.size + 4) (o' := 0) (vs := [.int .u8 d1, .slice ga' gl gc']) (by omega)
  have sb := sb.setCells (b := w.heap.size + 4) (o := 0) (vs := [.int .u8 d1, .slice ga' gl gc']) (by omega)
  have sX := sX.setCells (b' := w.heap.size + 4) (o' := 0) (vs := [.int .u8 d1, .slice ga' gl gc']) (by omega)
  have sC := sC.setCells (b' := w.heap.size + 4) (o' := 0) (vs := [.int .u8 d1, .slice ga' gl gc']) (by omega)
  have ss := ss.setCells (b := w.heap.size + 4) (o := 0) (vs := [.int .u8 d1, .slice ga' gl gc']) (by omega)
  have st := st.setCells (b := w.heap.size + 4) (o := 0) (vs := [.int .u8 d1, .slice ga' gl gc']) (by omega)
  have sx := sx.setCells (b := w.heap.size + 4) (o := 0) (vs := [.int .u8 d1, .slice ga' gl gc']) (by omega)
  have sg := sg.setCells (b := w.heap.size + 4) (o := 0) (vs := [.int .u8 d1, .slice ga' gl gc']) (by omega)
  have bx8' := bx8.setD [.int .u8 d1, .slice ga' gl gc'] rfl
  have T8' := below_setCells [.int .u8 d1, .slice ga' gl gc'] (b := w.heap.size + 4) 0 T8 (by omega)
  have U8' := bx8'.size
  obtain ⟨y0, y1, y2, y3, y4⟩ := bx8.cells
  obtain ⟨f0, f1, f2, f3, f4⟩ := bx8.free
  clear bx7' T7' U7' b8
  go_wp2_with fail
  clear y0 y1 y2 y3 y4 f0 f1 f2 f3 f4 bx8 T8 U8
  show Calls Try.prog 16 _ (w8.setCells (w.heap.size + 4) 0 [.int .u8 d1, .slice ga' gl gc']) _
  generalize w8.setCells (w.heap.size + 4) 0 [.int .u8 d1, .slice ga' gl gc'] = W8 at *
  have rV8 := sV.row
  have rD8 := sD.row
  have rO8 := sO.row
  have rX8 := sX.row
  have rC8 := sC.row
  have LV' : Hid _ := sV.len
  have LD' : Hid _ := sD.len
  have LO' : Hid _ := sO.len
  have LX' : Hid _ := sX.len
  have LC' : Hid _ := sC.len
  have QX : Hid (∀ i, i < el → byteRow W8 (X' i).ca (X' i).cl ∧ (X' i).cl ≤ maxLen) := fun i hi => by obtain ⟨_, _, _, _, _, _, hf, hl⟩ := sX i hi; exact ⟨hf.bytes, by unfold maxLen; omega⟩
  have QD : Hid (∀ i, i < dl → byteRow W8 (D' i).ca (D' i).cl ∧ (D' i).cl ≤ maxLen) := fun i hi => by obtain ⟨_, _, _, _, _, _, hf, hl⟩ := sD i hi; exact ⟨hf.bytes, by unfold maxLen; omega⟩
  have rx8 := sx.bytes
  have rg8 := sg.bytes
  clear sV sD sO sX sC sb ss st sx sg LV LD LO LX LC rV rD rO rX rC rb rs rt rx rg
  -- the first message and its size
  refine Calls.mono (build_any i0 i1 i2 i3 i4 i5 i6 j0 k0 k1 k2 va' da' oa' ba' ea' ca' sa' ta' vl vc' dl dc' ol oc' bl bc' el ec' cl cc' sl sc' tl tc' V' D' C' O' X' W8 rV8 rD8 rO8 rX8 rC8 n1 n2 n3 n4 n5) ?_
  rintro e w9 ⟨B1, va1, vc1, da1, dc1, oa1, oc1, ea1, ec1, ca1, cc1, rfl, hB1, hm1, ⟨u1, hu1, hbu1, a1V, a1D, a1O, a1X, a1C⟩, b9⟩
  have rdy1 := ready_of (V := V') (D := D') (C := C') (O := O') (X := X') hm1 (a1V.below hbu1 (by omega)) (a1D.below hbu1 (by omega)) (a1O.below hbu1 (by omega)) (a1X.below hbu1 (by omega)) (a1C.below hbu1 (by omega)) (by omega) (by omega) (by omega) (by omega) (by omega) n6 n7 n8 LV'.out LD'.out LO'.out LX'.out LC'.out
  have cap1 := total_cap (vl := vl) (dl := dl) (ol := ol) (el := el) (cl := cl) (V := fun i => (V' i).cl) (D := fun i => (D' i).cl) (O := fun i => (O' i).cl) (X := fun i => (X' i).cl) (C := fun i => (C' i).cl) (by omega) (by omega) (by omega) (by omega) (by omega) n6 n7 n8 LV'.out LD'.out LO'.out LX'.out LC'.out
  obtain ⟨tot1, ht1⟩ : ∃ t, t = total bl sl tl vl dl ol el cl (fun i => (V' i).cl) (fun i => (D' i).cl) (fun i => (O' i).cl) (fun i => (X' i).cl) (fun i => (C' i).cl) := ⟨_, rfl⟩
  rw [← ht1] at rdy1 cap1
  have Ht1 : Hid _ := ht1
  clear ht1 hm1 a1V a1D a1O a1X a1C hu1 hbu1 hB1
  go_wp2_with fail
  refine Calls.mono (zzSize_any B1 tot1 w9 rdy1) ?_
  rintro e w10 ⟨rfl, b10⟩
  have G10 : Below W8.heap.size W8 w10 := step_below b9 b10 b9.size
  have bx10 := bx8'.below G10 U8'
  obtain ⟨y0, y1, y2, y3, y4⟩ := bx10.cells
  clear b9 b10 rdy1
  -- the second message
  go_wp2_with fail
  clear y0 y1 y2 y3 y4 bx10
  refine Calls.mono (build_any i0 i1 i2 i3 i4 i5 i6 j0 k0 k1 k2 va' da' oa' ba' ea' ca' sa' ta' vl vc' dl dc' ol oc' bl bc' el ec' cl cc' sl sc' tl tc' V' D' C' O' X' w10 (rV8.below G10 (Nat.le_refl _)) (rD8.below G10 (Nat.le_refl _)) (rO8.below G10 (Nat.le_refl _)) (rX8.below G10 (Nat.le_refl _)) (rC8.below G10 (Nat.le_refl _)) n1 n2 n3 n4 n5) ?_
  rintro e w11 ⟨B2, va2, vc2, da2, dc2, oa2, oc2, ea2, ec2, ca2, cc2, rfl, hB2, hm2, ⟨u2, hu2, hbu2, a2V, a2D, a2O, a2X, a2C⟩, b11⟩
  have G11 : Below W8.heap.size W8 w11 := step_below G10 b11 G10.size
  have bx11 := bx8'.below G11 U8'
  have hB2' : B2 < w11.heap.size := (Array.getElem?_eq_some_iff.1 hm2).1
  have hB2s : W8.heap.size ≤ B2 := Nat.le_trans G10.size hB2
  obtain ⟨y0, y1, y2, y3, y4⟩ := bx11.cells
  obtain ⟨ix, hix, hx0, hx1, hx2⟩ := info_parts info73
  clear b11
  go_wp2_with (at_make; refine wpList_make_full _ rfl _ _ 47 rfl w11.heap.size 73 ix (.agg #[.int .u16 0, .bool false, .slice none 0 0]) 3 Try.underlying47 hix hx0 hx1 _ _ _ _ (el + 1) rfl rfl (by omega) (by omega) ?b2 ?b3 (Nat.le_refl _) ?_)
  case b2 => rw [hx2]; omega
  case b3 => unfold maxLen; omega
  intro w12 hown hg
  have hb12 : Below w11.heap.size w11 w12 := (Below.refl _ _).grown hg (Nat.le_refl _) (fun _ h => by cases h)
  have hout : outRow w12 w11.heap.size 73 3 (el + 1) := ⟨_, hown⟩
  have hsz : w11.heap.size < w12.heap.size := by
    rcases hown.2 with ⟨h, _⟩ | ⟨g, _, _, h, _, hh, _⟩
    · simp at h
    · simp only [Value.slice.injEq, Option.some.injEq, Addr.mk.injEq] at h
      obtain ⟨⟨rfl, _⟩, _⟩ := h
      exact (Array.getElem?_eq_some_iff.1 hh).1
  clear hown hg hix hx0 hx1 hx2 y0 y1 y2 y3 y4
  have rX11 := a2X.below hbu2 (Nat.le_of_eq hu2)
  go_wp2
  go_loopw [14] (fun i wr => ∃ k : Nat, k ≤ el ∧ i = .int .i64 k ∧ outRow wr w11.heap.size 73 3 (el + 1) ∧ extSame wr w11.heap.size k X' ∧ Below w11.heap.size w11 wr ∧ w11.heap.size < wr.heap.size) (fun i _ => el - (intOf i).toNat)
  case atStart => exact ⟨0, by omega, rfl, hout, fun i hi => absurd hi (by omega), hb12, hsz⟩
  case round =>
    clear hout hb12 hsz
    obtain ⟨k, hk, rfl, hout, hsame, hb, hsz⟩ := hrel
    have Gr : Below W8.heap.size W8 wr := step_below G11 hb G11.size
    have bxr := bx8'.below Gr U8'
    obtain ⟨y0, y1, y2, y3, y4⟩ := bxr.cells
    have hm2r := (hb.block B2 hB2').trans hm2
    have c12 : wr.cell? ⟨B2, 12, none⟩ = some (.slice ea2 el ec2) := cell_of_row _ _ 12 _ _ (0, 0) hm2r
    have g12 := free_of_block hm2r 12
    by_cases hlt : k < el
    · obtain ⟨b, off, he, hbl, hc, _, _⟩ := rX11 k hlt
      obtain ⟨e0, e1', e2'⟩ := hc.below hb hbl
      obtain ⟨v0, hv0⟩ := hout.cell (j := k * 3) (by omega)
      obtain ⟨v1, hv1⟩ := hout.cell (j := k * 3 + 1) (by omega)
      obtain ⟨v2, hv2⟩ := hout.cell (j := k * 3 + 2) (by omega)
      have f0 := hout.frozen (k * 3)
      have f1 := hout.frozen (k * 3 + 1)
      have f2 := hout.frozen (k * 3 + 2)
      have hst := hsame.step hout (show k < el + 1 by omega)
      have ho2 := outRow.storeds (X' k).cells (k * 3) hout
      have hbs := below_setCells (X' k).cells (b := w11.heap.size) (k * 3) hb (Nat.le_refl _)
      have hss : w11.heap.size < (wr.setCells w11.heap.size (k * 3) (X' k).cells).heap.size := by
        have h1 := (below_setCells (X' k).cells (b := w11.heap.size) (k * 3) (Below.refl w11.heap.size wr) (Nat.le_refl _)).size
        omega
      have Hst : Hid _ := And.intro hst (And.intro ho2 (And.intro hbs hss))
      have i1' : (k : Int) < (el : Int) := by omega
      have i2' : (k : Int) < (el : Int) + 1 := by omega
      rw [he] at c12
      clear he hc hst ho2 hbs hss hout hsame hb Gr bxr hm2r y0 y2 y3 y4
      go_wp2
      obtain ⟨hst, ho2, hbs, hss⟩ := Hst.out
      go_roundw
      case rel => exact ⟨k + 1, by omega, by go_num, ho2, hst, hbs, hss⟩
      case measure => simp [intOf]; omega
    · obtain rfl : el = k := by omega
      have hG := G11.size
      have na0 : ¬ w.heap.size = B2 := by omega
      have nb0 : ¬ B2 = w.heap.size := by omega
      have nc0 : ¬ w.heap.size = w11.heap.size := by omega
      have nd0 : ¬ w11.heap.size = w.heap.size := by omega
      have na1 : ¬ w.heap.size + 1 = B2 := by omega
      have nb1 : ¬ B2 = w.heap.size + 1 := by omega
      have nc1 : ¬ w.heap.size + 1 = w11.heap.size := by omega
      have nd1 : ¬ w11.heap.size = w.heap.size + 1 := by omega
      have na2 : ¬ w.heap.size + 2 = B2 := by omega
      have nb2 : ¬ B2 = w.heap.size + 2 := by omega
      have nc2 : ¬ w.heap.size + 2 = w11.heap.size := by omega
      have nd2 : ¬ w11.heap.size = w.heap.size + 2 := by omega
      have na3 : ¬ w.heap.size + 3 = B2 := by omega
      have nb3 : ¬ B2 = w.heap.size + 3 := by omega
      have nc3 : ¬ w.heap.size + 3 = w11.heap.size := by omega
      have nd3 : ¬ w11.heap.size = w.heap.size + 3 := by omega
      have na4 : ¬ w.heap.size + 4 = B2 := by omega
      have nb4 : ¬ B2 = w.heap.size + 4 := by omega
      have nc4 : ¬ w.heap.size + 4 = w11.heap.size := by omega
      have nd4 : ¬ w11.heap.size = w.heap.size + 4 := by omega
      have ne1 : ¬ w11.heap.size = B2 := by omega
      have ne2 : ¬ B2 = w11.heap.size := by omega
      obtain ⟨v0, hv0⟩ := hout.cell (j := el * 3) (by omega)
      obtain ⟨v1, hv1⟩ := hout.cell (j := el * 3 + 1) (by omega)
      obtain ⟨v2, hv2⟩ := hout.cell (j := el * 3 + 2) (by omega)
      have f0 := hout.frozen (el * 3)
      have f1 := hout.frozen (el * 3 + 1)
      have f2 := hout.frozen (el * 3 + 2)
      have G12 : Below W8.heap.size W8 ((wr.setCells w11.heap.size (el * 3) (ExtV.cells (⟨e1, e2, xa', xl, xc'⟩ : ExtV))).setCells B2 12 [(Value.slice (some ⟨w11.heap.size, 0, none⟩) (el + 1) (el + 1))]) := below_setCells [(Value.slice (some ⟨w11.heap.size, 0, none⟩) (el + 1) (el + 1))] (b := B2) 12 (below_setCells (ExtV.cells (⟨e1, e2, xa', xl, xc'⟩ : ExtV)) (b := w11.heap.size) (el * 3) Gr G11.size) hB2s
      have L2 : Below B2 u2 ((wr.setCells w11.heap.size (el * 3) (ExtV.cells (⟨e1, e2, xa', xl, xc'⟩ : ExtV))).setCells B2 12 [(Value.slice (some ⟨w11.heap.size, 0, none⟩) (el + 1) (el + 1))]) := below_setCells [(Value.slice (some ⟨w11.heap.size, 0, none⟩) (el + 1) (el + 1))] (b := B2) 12 (below_setCells (ExtV.cells (⟨e1, e2, xa', xl, xc'⟩ : ExtV)) (b := w11.heap.size) (el * 3) (hbu2.trans (hb.mono (Nat.le_of_lt hB2'))) (Nat.le_of_lt hB2')) (Nat.le_refl _)
      have hm12 := msg_set12 (v' := (Value.slice (some ⟨w11.heap.size, 0, none⟩) (el + 1) (el + 1))) ((heap_setCells_other (ExtV.cells (⟨e1, e2, xa', xl, xc'⟩ : ExtV)) (b := w11.heap.size) (el * 3) ne2).trans hm2r)
      have rX12 := moreX_row (w := W8) (x := (⟨e1, e2, xa', xl, xc'⟩ : ExtV)) (v := (Value.slice (some ⟨w11.heap.size, 0, none⟩) (el + 1) (el + 1))) (o := 12) hsame hout hsz (fun h => ne1 h) G12 QX.out ⟨rx8, show xl ≤ maxLen by unfold maxLen; omega⟩
      have rdy2 := ready_of (V := V') (D := D') (C := C') (O := O') (X := moreX X' el (⟨e1, e2, xa', xl, xc'⟩ : ExtV)) hm12 (a2V.below L2 (Nat.le_of_eq hu2)) (a2D.below L2 (Nat.le_of_eq hu2)) (a2O.below L2 (Nat.le_of_eq hu2)) rX12 (a2C.below L2 (Nat.le_of_eq hu2)) (by omega) (by omega) (by omega) (by omega) (by omega) n6 n7 n8 LV'.out LD'.out LO'.out (moreX_cl LX'.out n9) LC'.out
      rw [total_moreX, ← Ht1.out] at rdy2
      have rdy2 : sizeReady ((wr.setCells w11.heap.size (el * 3) (ExtV.cells (⟨e1, e2, xa', xl, xc'⟩ : ExtV))).setCells B2 12 [(Value.slice (some ⟨w11.heap.size, 0, none⟩) (el + 1) (el + 1))]) B2 (tot1 + 7 + xl) := rdy2
      clear rX12 hm12 L2 hm2 hu2 hbu2 a2V a2D a2O a2X a2C rX11 hm2r hsame hout hb hk hlt G10 G11 bx11
      go_wp2_with fail
      clear na0 nb0 nc0 nd0 na1 nb1 nc1 nd1 na2 nb2 nc2 nd2 na3 nb3 nc3 nd3 na4 nb4 nc4 nd4 ne1 ne2 v0 v1 v2 hv0 hv1 hv2 f0 f1 f2 y0 y1 y2 y3 y4 c12 g12 Gr bxr hsz hB2'
      show Calls Try.prog 16 _ ((wr.setCells w11.heap.size (el * 3) (ExtV.cells (⟨e1, e2, xa', xl, xc'⟩ : ExtV))).setCells B2 12 [(Value.slice (some ⟨w11.heap.size, 0, none⟩) (el + 1) (el + 1))]) _
      generalize ((wr.setCells w11.heap.size (el * 3) (ExtV.cells (⟨e1, e2, xa', xl, xc'⟩ : ExtV))).setCells B2 12 [(Value.slice (some ⟨w11.heap.size, 0, none⟩) (el + 1) (el + 1))]) = W12 at *
      refine Calls.mono (build_any i0 i1 i2 i3 i4 i5 i6 j0 k0 k1 k2 va' da' oa' ba' ea' ca' sa' ta' vl vc' dl dc' ol oc' bl bc' el ec' cl cc' sl sc' tl tc' V' D' C' O' X' W12 (rV8.below G12 (Nat.le_refl _)) (rD8.below G12 (Nat.le_refl _)) (rO8.below G12 (Nat.le_refl _)) (rX8.below G12 (Nat.le_refl _)) (rC8.below G12 (Nat.le_refl _)) n1 n2 n3 n4 n5) ?_
      rintro e w13 ⟨B3, va3, vc3, da3, dc3, oa3, oc3, ea3, ec3, ca3, cc3, rfl, hB3, hm3, ⟨u3, hu3, hbu3, a3V, a3D, a3O, a3X, a3C⟩, b13⟩
      have G13 : Below W8.heap.size W8 w13 := step_below G12 b13 G12.size
      have bx13 := bx8'.below G13 U8'
      have hB3' : B3 < w13.heap.size := (Array.getElem?_eq_some_iff.1 hm3).1
      have hB3s : W8.heap.size ≤ B3 := Nat.le_trans G12.size hB3
      obtain ⟨y0, y1, y2, y3, y4⟩ := bx13.cells
      obtain ⟨ix, hix, hx0, hx1, hx2⟩ := info_parts info76
      go_wp2_with (at_make; refine wpList_make_full _ rfl _ _ 43 rfl w13.heap.size 76 ix (.agg #[.int .u8 0, .slice none 0 0]) 2 Try.underlying43 hix hx0 hx1 _ _ _ _ (dl + 1) rfl rfl (by omega) (by omega) ?c2 ?c3 (Nat.le_refl _) ?_)
      case c2 => rw [hx2]; omega
      case c3 => unfold maxLen; omega
      intro w14 hown hg
      have hb14 : Below w13.heap.size w13 w14 := (Below.refl _ _).grown hg (Nat.le_refl _) (fun _ h => by cases h)
      have hout : outRow w14 w13.heap.size 76 2 (dl + 1) := ⟨_, hown⟩
      have hsz : w13.heap.size < w14.heap.size := by
        rcases hown.2 with ⟨h, _⟩ | ⟨g, _, _, h, _, hh, _⟩
        · simp at h
        · simp only [Value.slice.injEq, Option.some.injEq, Addr.mk.injEq] at h
          obtain ⟨⟨rfl, _⟩, _⟩ := h
          exact (Array.getElem?_eq_some_iff.1 hh).1
      clear hown hg hix hx0 hx1 hx2 y0 y1 y2 y3 y4
      have rD13 := a3D.below hbu3 (Nat.le_of_eq hu3)
      go_wp2
      go_loopw [17] (fun i wr => ∃ k : Nat, k ≤ dl ∧ i = .int .i64 k ∧ outRow wr w13.heap.size 76 2 (dl + 1) ∧ destSame wr w13.heap.size k D' ∧ Below w13.heap.size w13 wr ∧ w13.heap.size < wr.heap.size) (fun i _ => dl - (intOf i).toNat)
      case atStart => exact ⟨0, by omega, rfl, hout, fun i hi => absurd hi (by omega), hb14, hsz⟩
      case round =>
        clear hout hb14 hsz
        obtain ⟨k, hk, rfl, hout, hsame, hb, hsz⟩ := hrel
        have Gr : Below W8.heap.size W8 wr := step_below G13 hb G13.size
        have bxr := bx8'.below Gr U8'
        obtain ⟨y0, y1, y2, y3, y4⟩ := bxr.cells
        have hm3r := (hb.block B3 hB3').trans hm3
        have c8' : wr.cell? ⟨B3, 8, none⟩ = some (.slice da3 dl dc3) := cell_of_row _ _ 8 _ _ (0, 0) hm3r
        have g8' := free_of_block hm3r 8
        by_cases hlt : k < dl
        · obtain ⟨b, off, he, hbl, hc, _, _⟩ := rD13 k hlt
          obtain ⟨e0, e1'⟩ := hc.below hb hbl
          obtain ⟨v0, hv0⟩ := hout.cell (j := k * 2) (by omega)
          obtain ⟨v1, hv1⟩ := hout.cell (j := k * 2 + 1) (by omega)
          have f0 := hout.frozen (k * 2)
          have f1 := hout.frozen (k * 2 + 1)
          have hst := hsame.step hout (show k < dl + 1 by omega)
          have ho2 := outRow.storeds (D' k).cells (k * 2) hout
          have hbs := below_setCells (D' k).cells (b := w13.heap.size) (k * 2) hb (Nat.le_refl _)
          have hss : w13.heap.size < (wr.setCells w13.heap.size (k * 2) (D' k).cells).heap.size := by
            have h1 := (below_setCells (D' k).cells (b := w13.heap.size) (k * 2) (Below.refl w13.heap.size wr) (Nat.le_refl _)).size
            omega
          have Hst : Hid _ := And.intro hst (And.intro ho2 (And.intro hbs hss))
          have i1' : (k : Int) < (dl : Int) := by omega
          have i2' : (k : Int) < (dl : Int) + 1 := by omega
          rw [he] at c8'
          clear he hc hst ho2 hbs hss hout hsame hb Gr bxr hm3r y1 y2 y3 y4
          go_wp2
          obtain ⟨hst, ho2, hbs, hss⟩ := Hst.out
          go_roundw
          case rel => exact ⟨k + 1, by omega, by go_num, ho2, hst, hbs, hss⟩
          case measure => simp [intOf]; omega
        · obtain rfl : dl = k := by omega
          have hG := G13.size
          have na0 : ¬ w.heap.size = B3 := by omega
          have nb0 : ¬ B3 = w.heap.size := by omega
          have nc0 : ¬ w.heap.size = w13.heap.size := by omega
          have nd0 : ¬ w13.heap.size = w.heap.size := by omega
          have na1 : ¬ w.heap.size + 1 = B3 := by omega
          have nb1 : ¬ B3 = w.heap.size + 1 := by omega
          have nc1 : ¬ w.heap.size + 1 = w13.heap.size := by omega
          have nd1 : ¬ w13.heap.size = w.heap.size + 1 := by omega
          have na2 : ¬ w.heap.size + 2 = B3 := by omega
          have nb2 : ¬ B3 = w.heap.size + 2 := by omega
          have nc2 : ¬ w.heap.size + 2 = w13.heap.size := by omega
          have nd2 : ¬ w13.heap.size = w.heap.size + 2 := by omega
          have na3 : ¬ w.heap.size + 3 = B3 := by omega
          have nb3 : ¬ B3 = w.heap.size + 3 := by omega
          have nc3 : ¬ w.heap.size + 3 = w13.heap.size := by omega
          have nd3 : ¬ w13.heap.size = w.heap.size + 3 := by omega
          have na4 : ¬ w.heap.size + 4 = B3 := by omega
          have nb4 : ¬ B3 = w.heap.size + 4 := by omega
          have nc4 : ¬ w.heap.size + 4 = w13.heap.size := by omega
          have nd4 : ¬ w13.heap.size = w.heap.size + 4 := by omega
          have ne1 : ¬ w13.heap.size = B3 := by omega
          have ne2 : ¬ B3 = w13.heap.size := by omega
          obtain ⟨v0, hv0⟩ := hout.cell (j := dl * 2) (by omega)
          obtain ⟨v1, hv1⟩ := hout.cell (j := dl * 2 + 1) (by omega)
          have f0 := hout.frozen (dl * 2)
          have f1 := hout.frozen (dl * 2 + 1)
          have G14 : Below W8.heap.size W8 ((wr.setCells w13.heap.size (dl * 2) (DestV.cells (⟨d1, ga', gl, gc'⟩ : DestV))).setCells B3 8 [(Value.slice (some ⟨w13.heap.size, 0, none⟩) (dl + 1) (dl + 1))]) := below_setCells [(Value.slice (some ⟨w13.heap.size, 0, none⟩) (dl + 1) (dl + 1))] (b := B3) 8 (below_setCells (DestV.cells (⟨d1, ga', gl, gc'⟩ : DestV)) (b := w13.heap.size) (dl * 2) Gr G13.size) hB3s
          have L3 : Below B3 u3 ((wr.setCells w13.heap.size (dl * 2) (DestV.cells (⟨d1, ga', gl, gc'⟩ : DestV))).setCells B3 8 [(Value.slice (some ⟨w13.heap.size, 0, none⟩) (dl + 1) (dl + 1))]) := below_setCells [(Value.slice (some ⟨w13.heap.size, 0, none⟩) (dl + 1) (dl + 1))] (b := B3) 8 (below_setCells (DestV.cells (⟨d1, ga', gl, gc'⟩ : DestV)) (b := w13.heap.size) (dl * 2) (hbu3.trans (hb.mono (Nat.le_of_lt hB3'))) (Nat.le_of_lt hB3')) (Nat.le_refl _)
          have R14 : Below W12.heap.size W12 ((wr.setCells w13.heap.size (dl * 2) (DestV.cells (⟨d1, ga', gl, gc'⟩ : DestV))).setCells B3 8 [(Value.slice (some ⟨w13.heap.size, 0, none⟩) (dl + 1) (dl + 1))]) := below_setCells [(Value.slice (some ⟨w13.heap.size, 0, none⟩) (dl + 1) (dl + 1))] (b := B3) 8 (below_setCells (DestV.cells (⟨d1, ga', gl, gc'⟩ : DestV)) (b := w13.heap.size) (dl * 2) (step_below b13 hb b13.size) b13.size) hB3
          have hm14 := msg_set8 (v' := (Value.slice (some ⟨w13.heap.size, 0, none⟩) (dl + 1) (dl + 1))) ((heap_setCells_other (DestV.cells (⟨d1, ga', gl, gc'⟩ : DestV)) (b := w13.heap.size) (dl * 2) ne2).trans hm3r)
          have rD14 := moreD_row (w := W8) (x := (⟨d1, ga', gl, gc'⟩ : DestV)) (v := (Value.slice (some ⟨w13.heap.size, 0, none⟩) (dl + 1) (dl + 1))) (o := 8) hsame hout hsz (fun h => ne1 h) G14 QD.out ⟨rg8, show gl ≤ maxLen by unfold maxLen; omega⟩
          have rdy3 := ready_of (V := V') (D := moreD D' dl (⟨d1, ga', gl, gc'⟩ : DestV)) (C := C') (O := O') (X := X') hm14 (a3V.below L3 (Nat.le_of_eq hu3)) rD14 (a3O.below L3 (Nat.le_of_eq hu3)) (a3X.below L3 (Nat.le_of_eq hu3)) (a3C.below L3 (Nat.le_of_eq hu3)) (by omega) (by omega) (by omega) (by omega) (by omega) n6 n7 n8 LV'.out (moreD_cl LD'.out n10) LO'.out LX'.out LC'.out
          rw [total_moreD, ← Ht1.out] at rdy3
          have rdy3 : sizeReady ((wr.setCells w13.heap.size (dl * 2) (DestV.cells (⟨d1, ga', gl, gc'⟩ : DestV))).setCells B3 8 [(Value.slice (some ⟨w13.heap.size, 0, none⟩) (dl + 1) (dl + 1))]).drew B3 (tot1 + 3 + gl) := rdy3.below (Below.refl _ _).drew (Nat.le_refl _)
          have rdy2 : sizeReady ((wr.setCells w13.heap.size (dl * 2) (DestV.cells (⟨d1, ga', gl, gc'⟩ : DestV))).setCells B3 8 [(Value.slice (some ⟨w13.heap.size, 0, none⟩) (dl + 1) (dl + 1))]).drew B2 (tot1 + 7 + xl) := (rdy2.below R14 (Nat.le_refl _)).below (Below.refl _ _).drew (Nat.le_refl _)
          have bx14 := (bx8'.below G14 U8').drew
          have T14 : Below w.heap.size w ((wr.setCells w13.heap.size (dl * 2) (DestV.cells (⟨d1, ga', gl, gc'⟩ : DestV))).setCells B3 8 [(Value.slice (some ⟨w13.heap.size, 0, none⟩) (dl + 1) (dl + 1))]).drew := (T8'.trans (G14.mono T8'.size)).drew
          have hs14 := bx14.size
          obtain ⟨z2, hz2⟩ : ∃ z : Int, z = ((tot1 + 7 + xl : Nat) : Int) := ⟨_, rfl⟩
          obtain ⟨z3, hz3⟩ : ∃ z : Int, z = ((tot1 + 3 + gl : Nat) : Int) := ⟨_, rfl⟩
          have eq2 : (z2 == (tot1 : Int) + 7 + (xl : Int)) = true := by rw [beq_iff_eq]; omega
          have eq3 : (z3 == (tot1 : Int) + 3 + (gl : Int)) = true := by rw [beq_iff_eq]; omega
          have Hz2 : Hid (z2 = ((tot1 + 7 + xl : Nat) : Int)) := hz2
          have Hz3 : Hid (z3 = ((tot1 + 3 + gl : Nat) : Int)) := hz3
          clear hz2 hz3
          have wr1 : IntKind.i64.wrap ((tot1 : Int) + 7) = (tot1 : Int) + 7 := by rw [IntKind.wrap_i64]; omega
          have wr2 : IntKind.i64.wrap ((tot1 : Int) + 7 + (xl : Int)) = (tot1 : Int) + 7 + (xl : Int) := by rw [IntKind.wrap_i64]; omega
          have wr3 : IntKind.i64.wrap ((tot1 : Int) + 3) = (tot1 : Int) + 3 := by rw [IntKind.wrap_i64]; omega
          have wr4 : IntKind.i64.wrap ((tot1 : Int) + 3 + (gl : Int)) = (tot1 : Int) + 3 + (gl : Int) := by rw [IntKind.wrap_i64]; omega
          clear rD14 hm14 L3 hm3 hu3 hbu3 a3V a3D a3O a3X a3C rD13 hm3r hsame hout hb hk hlt G12 G13 G14 R14 bx13 rV8 rD8 rO8 rX8 rC8 bx8' Gr b13
          go_wp2
          go_region_held3 (fun w' => (∀ j, w'.cell? ⟨w.heap.size + 3, j, none⟩ = #[.int .u16 e1, .bool e2, .slice xa' xl xc'][j]?) ∧ (∀ j, w'.cell? ⟨w.heap.size + 4, j, none⟩ = #[.int .u8 d1, .slice ga' gl gc'][j]?) ∧ sizeReady w' B2 (tot1 + 7 + xl) ∧ sizeReady w' B3 (tot1 + 3 + gl)) (first | exact ⟨bx14.cells.2.2.2.1, bx14.cells.2.2.2.2, rdy2, rdy3⟩ | exact ⟨bx15.cells.2.2.2.1, bx15.cells.2.2.2.2, rdy2b, rdy3b⟩ | exact ⟨bx16.cells.2.2.2.1, bx16.cells.2.2.2.2, rdy2c, rdy3c⟩)
            (first
              | (go_at_call_of 22 B2; refine Calls.mono (zzSizeI B2 _ z2 Hz2.out _ rdy2) ?_; rintro e w15 ⟨rfl, b15⟩; have bx15 := bx14.below b15 hs14; have rdy2b := rdy2.below b15 (Nat.le_refl _); have rdy3b := rdy3.below b15 (Nat.le_refl _); have hs15 := bx15.size; have T15 : Below w.heap.size w w15 := step_below T14 b15 T14.size)
              | (go_at_call_of 22 B3; refine Calls.mono (zzSizeI B3 _ z3 Hz3.out _ rdy3b) ?_; rintro e w16 ⟨rfl, b16⟩; have bx16 := bx15.below b16 hs15; have rdy2c := rdy2b.below b16 (Nat.le_refl _); have rdy3c := rdy3b.below b16 (Nat.le_refl _); have T16 : Below w.heap.size w w16 := step_below T15 b16 T15.size))
          go_wp2
          go_ret
          exact ⟨rfl, T16⟩
end
end Go.Proofs.Qxb6602271a
