import Derived.Test.Qxb6602271aMsgA
import Derived.Test.Qxb6602271aExtF
namespace Go.Proofs.Qxb6602271a
open Go.RowKit

/-- One step of a copy: behind a call that leaves all that was there. -/
theorem step_below {w W w1 : World} {B : Nat} (h : Below B w W) (hb : Below W.heap.size W w1) (hB : B ≤ W.heap.size) : Below B w w1 := h.trans (hb.mono hB)

theorem freshBytes_any (a : Option Addr) (n cap : Nat) (w : World) (h : byteRow w a n) (hn : n ≤ 1048576) : Calls Try.prog 28 #[.slice a n cap] w fun e w' => ∃ oa c', e = .returned (.slice oa n c') ∧ freshRow w.heap.size w' oa n ∧ Below w.heap.size w w' :=
  (copyBytes_any a n cap w h hn).mono fun _ _ ⟨oa, c', h1, _, h2, h3⟩ => ⟨oa, c', h1, h2, h3⟩

section
variable (i0 i1 i2 i3 i4 i5 i6 j0 k0 k1 k2 : Int) (va da oa ba ea ca sa ta : Option Addr) (vl vc dl dc ol oc bl bc el ec cl cc sl sc tl tc : Nat)

set_option maxHeartbeats 8000000 in
set_option maxRecDepth 100000 in
theorem copyCon_any (X : Nat → ExtV) (w : World) (hb : byteRow w ba bl) (hlb : bl ≤ 1048576) (he : extRow w ea el X) (hne : el ≤ 65536) (hle : ∀ i, i < el → (X i).cl ≤ 1048576) :
    Calls Try.prog 14 #[conV j0 ba ea bl bc el ec] w fun e w' => ∃ ba' bc' ea' ec', e = .returned (conV j0 ba' ea' bl bc' el ec') ∧ freshRow w.heap.size w' ba' bl ∧ (∃ E', extRowF w.heap.size w' ea' el E') ∧ Below w.heap.size w w' := by
  unfold conV
  go_enter Try.func14, Try.ntmps14
  go_wp2_with fail
  have t0 : Below w.heap.size w ((w.alloc (.cells #[.int .u16 j0, .slice ba bl bc, .slice ea el ec] 32)).alloc (.cells #[.int .u16 0, .slice none 0 0, .slice none 0 0] 32)) := ((Below.refl _ _).alloc (Nat.le_refl _) _).alloc (by simp) _
  have s0 : w.heap.size + 1 < ((w.alloc (.cells #[.int .u16 j0, .slice ba bl bc, .slice ea el ec] 32)).alloc (.cells #[.int .u16 0, .slice none 0 0, .slice none 0 0] 32)).heap.size := by simp
  refine (freshBytes_any ba bl bc _ (hb.below t0 (Nat.le_refl _)) hlb).mono ?_
  rintro e w1 ⟨ba', bc', rfl, rb, b0⟩
  have u0 : w.heap.size + 1 < w1.heap.size := Nat.lt_of_lt_of_le s0 b0.size
  have u0' : w.heap.size < w1.heap.size := by omega
  obtain ⟨q0, f0⟩ := below_cells b0 (N := w.heap.size) (by omega)
  obtain ⟨p0, g0⟩ := below_cells b0 (N := w.heap.size + 1) s0
  have t0' : Below w.heap.size w w1 := step_below t0 b0 (by omega)
  have rb := rb.mono (show w.heap.size + 2 ≤ _ by omega)
  have rb : freshRow (w.heap.size + 2) (w1.setCell ⟨w.heap.size, 1, none⟩ (.slice ba' bl bc')) ba' bl := rb.setCells (b := w.heap.size) (o := 1) (vs := [.slice ba' bl bc']) (by omega)
  have t1 : Below w.heap.size w (w1.setCell ⟨w.heap.size, 1, none⟩ (.slice ba' bl bc')) := t0'.setCell (p := ⟨w.heap.size, 1, none⟩) (Nat.le_refl _) _
  have s1 : w.heap.size + 1 < (w1.setCell ⟨w.heap.size, 1, none⟩ (.slice ba' bl bc')).heap.size := by
    have := (below_setCells [.slice ba' bl bc'] (b := w.heap.size) 1 (Below.refl w.heap.size w1) (Nat.le_refl _)).size
    exact Nat.lt_of_lt_of_le u0 this
  clear t0 b0 t0' s0 u0 hb
  go_wp2_with fail
  refine (copyExtsF_any ea el ec X _ (he.below t1 (Nat.le_refl _)) hne hle).mono ?_
  rintro e w2 ⟨ea', ec', rfl, ⟨Ee, re⟩, b1⟩
  have u1 : w.heap.size + 1 < w2.heap.size := Nat.lt_of_lt_of_le s1 b1.size
  have u1' : w.heap.size < w2.heap.size := by omega
  obtain ⟨q1, f1⟩ := below_cells b1 (N := w.heap.size) (by omega)
  obtain ⟨p1, g1⟩ := below_cells b1 (N := w.heap.size + 1) s1
  have t1' : Below w.heap.size w w2 := step_below t1 b1 (by omega)
  have rb := rb.below b1 (Nat.le_refl _)
  have re := re.mono (show w.heap.size + 2 ≤ _ by omega)
  have rb : freshRow (w.heap.size + 2) (w2.setCell ⟨w.heap.size, 2, none⟩ (.slice ea' el ec')) ba' bl := rb.setCells (b := w.heap.size) (o := 2) (vs := [.slice ea' el ec']) (by omega)
  have re : extRowF (w.heap.size + 2) (w2.setCell ⟨w.heap.size, 2, none⟩ (.slice ea' el ec')) ea' el Ee := re.setCells (b' := w.heap.size) (o' := 2) (vs := [.slice ea' el ec']) (by omega)
  have t2 : Below w.heap.size w (w2.setCell ⟨w.heap.size, 2, none⟩ (.slice ea' el ec')) := t1'.setCell (p := ⟨w.heap.size, 2, none⟩) (Nat.le_refl _) _
  have s2 : w.heap.size + 1 < (w2.setCell ⟨w.heap.size, 2, none⟩ (.slice ea' el ec')).heap.size := by
    have := (below_setCells [.slice ea' el ec'] (b := w.heap.size) 2 (Below.refl w.heap.size w2) (Nat.le_refl _)).size
    exact Nat.lt_of_lt_of_le u1 this
  clear t1 b1 t1' s1 u1 he
  go_wp2_with fail
  refine bodyPost_ret (v := .agg #[.int .u16 j0, .slice ba' bl bc', .slice ea' el ec']) (by simp [results, Try.results14, go_sem, p0, p1]) rfl ⟨ba', bc', ea', ec', rfl, (rb.setCells (b := w.heap.size + 1) (o := 0) (vs := [.int .u16 j0, .slice ba' bl bc', .slice ea' el ec']) (by omega)).mono (by omega), ⟨Ee, (re.setCells (b' := w.heap.size + 1) (o' := 0) (vs := [.int .u16 j0, .slice ba' bl bc', .slice ea' el ec']) (by omega)).mono (by omega)⟩, ?_⟩
  exact below_setCells [.int .u16 j0, .slice ba' bl bc', .slice ea' el ec'] (b := w.heap.size + 1) 0 t2 (by omega)

set_option maxHeartbeats 8000000 in
set_option maxRecDepth 100000 in
theorem copySec_any (C : Nat → DestV) (w : World) (hc : destRow w ca cl C) (hnc : cl ≤ 65536) (hlc : ∀ i, i < cl → (C i).cl ≤ 1048576) (hs : byteRow w sa sl) (hls : sl ≤ 1048576) (ht : byteRow w ta tl) (hlt : tl ≤ 1048576) :
    Calls Try.prog 15 #[secV k0 k1 k2 ca sa ta cl cc sl sc tl tc] w fun e w' => ∃ ca' cc' sa' sc' ta' tc', e = .returned (secV k0 k1 k2 ca' sa' ta' cl cc' sl sc' tl tc') ∧ (∃ E', destRowF w.heap.size w' ca' cl E') ∧ freshRow w.heap.size w' sa' sl ∧ freshRow w.heap.size w' ta' tl ∧ Below w.heap.size w w' := by
  unfold secV
  go_enter Try.func15, Try.ntmps15
  go_wp2_with fail
  have t0 : Below w.heap.size w ((w.alloc (.cells #[.slice ca cl cc, .int .u8 k0, .int .u8 k1, .int .u8 k2, .slice sa sl sc, .slice ta tl tc] 35)).alloc (.cells #[.slice none 0 0, .int .u8 0, .int .u8 0, .int .u8 0, .slice none 0 0, .slice none 0 0] 35)) := ((Below.refl _ _).alloc (Nat.le_refl _) _).alloc (by simp) _
  have s0 : w.heap.size + 1 < ((w.alloc (.cells #[.slice ca cl cc, .int .u8 k0, .int .u8 k1, .int .u8 k2, .slice sa sl sc, .slice ta tl tc] 35)).alloc (.cells #[.slice none 0 0, .int .u8 0, .int .u8 0, .int .u8 0, .slice none 0 0, .slice none 0 0] 35)).heap.size := by simp
  refine (copyCerts_any ca cl cc C _ (hc.below t0 (Nat.le_refl _)) hnc hlc).mono ?_
  rintro e w1 ⟨ca', cc', rfl, ⟨Ec, rc⟩, b0⟩
  have u0 : w.heap.size + 1 < w1.heap.size := Nat.lt_of_lt_of_le s0 b0.size
  have u0' : w.heap.size < w1.heap.size := by omega
  obtain ⟨q0, f0⟩ := below_cells b0 (N := w.heap.size) (by omega)
  obtain ⟨p0, g0⟩ := below_cells b0 (N := w.heap.size + 1) s0
  have t0' : Below w.heap.size w w1 := step_below t0 b0 (by omega)
  have rc := rc.mono (show w.heap.size + 2 ≤ _ by omega)
  have rc : destRowF (w.heap.size + 2) (w1.setCell ⟨w.heap.size, 0, none⟩ (.slice ca' cl cc')) ca' cl Ec := rc.setCells (b' := w.heap.size) (o' := 0) (vs := [.slice ca' cl cc']) (by omega)
  have t1 : Below w.heap.size w (w1.setCell ⟨w.heap.size, 0, none⟩ (.slice ca' cl cc')) := t0'.setCell (p := ⟨w.heap.size, 0, none⟩) (Nat.le_refl _) _
  have s1 : w.heap.size + 1 < (w1.setCell ⟨w.heap.size, 0, none⟩ (.slice ca' cl cc')).heap.size := by
    have := (below_setCells [.slice ca' cl cc'] (b := w.heap.size) 0 (Below.refl w.heap.size w1) (Nat.le_refl _)).size
    exact Nat.lt_of_lt_of_le u0 this
  clear t0 b0 t0' s0 u0 hc
  go_wp2_with fail
  refine (freshBytes_any sa sl sc _ (hs.below t1 (Nat.le_refl _)) hls).mono ?_
  rintro e w2 ⟨sa', sc', rfl, rs, b1⟩
  have u1 : w.heap.size + 1 < w2.heap.size := Nat.lt_of_lt_of_le s1 b1.size
  have u1' : w.heap.size < w2.heap.size := by omega
  obtain ⟨q1, f1⟩ := below_cells b1 (N := w.heap.size) (by omega)
  obtain ⟨p1, g1⟩ := below_cells b1 (N := w.heap.size + 1) s1
  have t1' : Below w.heap.size w w2 := step_below t1 b1 (by omega)
  have rc := rc.below b1 (Nat.le_refl _)
  have rs := rs.mono (show w.heap.size + 2 ≤ _ by omega)
  have rc : destRowF (w.heap.size + 2) (w2.setCell ⟨w.heap.size, 4, none⟩ (.slice sa' sl sc')) ca' cl Ec := rc.setCells (b' := w.heap.size) (o' := 4) (vs := [.slice sa' sl sc']) (by omega)
  have rs : freshRow (w.heap.size + 2) (w2.setCell ⟨w.heap.size, 4, none⟩ (.slice sa' sl sc')) sa' sl := rs.setCells (b := w.heap.size) (o := 4) (vs := [.slice sa' sl sc']) (by omega)
  have t2 : Below w.heap.size w (w2.setCell ⟨w.heap.size, 4, none⟩ (.slice sa' sl sc')) := t1'.setCell (p := ⟨w.heap.size, 4, none⟩) (Nat.le_refl _) _
  have s2 : w.heap.size + 1 < (w2.setCell ⟨w.heap.size, 4, none⟩ (.slice sa' sl sc')).heap.size := by
    have := (below_setCells [.slice sa' sl sc'] (b := w.heap.size) 4 (Below.refl w.heap.size w2) (Nat.le_refl _)).size
    exact Nat.lt_of_lt_of_le u1 this
  clear t1 b1 t1' s1 u1 hs
  go_wp2_with fail
  refine (freshBytes_any ta tl tc _ (ht.below t2 (Nat.le_refl _)) hlt).mono ?_
  rintro e w3 ⟨ta', tc', rfl, rt, b2⟩
  have u2 : w.heap.size + 1 < w3.heap.size := Nat.lt_of_lt_of_le s2 b2.size
  have u2' : w.heap.size < w3.heap.size := by omega
  obtain ⟨q2, f2⟩ := below_cells b2 (N := w.heap.size) (by omega)
  obtain ⟨p2, g2⟩ := below_cells b2 (N := w.heap.size + 1) s2
  have t2' : Below w.heap.size w w3 := step_below t2 b2 (by omega)
  have rc := rc.below b2 (Nat.le_refl _)
  have rs := rs.below b2 (Nat.le_refl _)
  have rt := rt.mono (show w.heap.size + 2 ≤ _ by omega)
  have rc : destRowF (w.heap.size + 2) (w3.setCell ⟨w.heap.size, 5, none⟩ (.slice ta' tl tc')) ca' cl Ec := rc.setCells (b' := w.heap.size) (o' := 5) (vs := [.slice ta' tl tc']) (by omega)
  have rs : freshRow (w.heap.size + 2) (w3.setCell ⟨w.heap.size, 5, none⟩ (.slice ta' tl tc')) sa' sl := rs.setCells (b := w.heap.size) (o := 5) (vs := [.slice ta' tl tc']) (by omega)
  have rt : freshRow (w.heap.size + 2) (w3.setCell ⟨w.heap.size, 5, none⟩ (.slice ta' tl tc')) ta' tl := rt.setCells (b := w.heap.size) (o := 5) (vs := [.slice ta' tl tc']) (by omega)
  have t3 : Below w.heap.size w (w3.setCell ⟨w.heap.size, 5, none⟩ (.slice ta' tl tc')) := t2'.setCell (p := ⟨w.heap.size, 5, none⟩) (Nat.le_refl _) _
  have s3 : w.heap.size + 1 < (w3.setCell ⟨w.heap.size, 5, none⟩ (.slice ta' tl tc')).heap.size := by
    have := (below_setCells [.slice ta' tl tc'] (b := w.heap.size) 5 (Below.refl w.heap.size w3) (Nat.le_refl _)).size
    exact Nat.lt_of_lt_of_le u2 this
  clear t2 b2 t2' s2 u2 ht
  go_wp2_with fail
  refine bodyPost_ret (v := .agg #[.slice ca' cl cc', .int .u8 k0, .int .u8 k1, .int .u8 k2, .slice sa' sl sc', .slice ta' tl tc']) (by simp [results, Try.results15, go_sem, p0, p1, p2]) rfl ⟨ca', cc', sa', sc', ta', tc', rfl, ⟨Ec, (rc.setCells (b' := w.heap.size + 1) (o' := 0) (vs := [.slice ca' cl cc', .int .u8 k0, .int .u8 k1, .int .u8 k2, .slice sa' sl sc', .slice ta' tl tc']) (by omega)).mono (by omega)⟩, (rs.setCells (b := w.heap.size + 1) (o := 0) (vs := [.slice ca' cl cc', .int .u8 k0, .int .u8 k1, .int .u8 k2, .slice sa' sl sc', .slice ta' tl tc']) (by omega)).mono (by omega), (rt.setCells (b := w.heap.size + 1) (o := 0) (vs := [.slice ca' cl cc', .int .u8 k0, .int .u8 k1, .int .u8 k2, .slice sa' sl sc', .slice ta' tl tc']) (by omega)).mono (by omega), ?_⟩
  exact below_setCells [.slice ca' cl cc', .int .u8 k0, .int .u8 k1, .int .u8 k2, .slice sa' sl sc', .slice ta' tl tc'] (b := w.heap.size + 1) 0 t3 (by omega)

set_option maxHeartbeats 8000000 in
set_option maxRecDepth 100000 in
theorem copyHdr_any (V D : Nat → DestV) (O : Nat → OptV) (w : World) (hv : destRow w va vl V) (hnv : vl ≤ 65536) (hlv : ∀ i, i < vl → (V i).cl ≤ 1048576) (hd : destRow w da dl D) (hnd : dl ≤ 65536) (hld : ∀ i, i < dl → (D i).cl ≤ 1048576) (ho : optRow w oa ol O) (hno : ol ≤ 65536) (hlo : ∀ i, i < ol → (O i).cl ≤ 1048576) :
    Calls Try.prog 13 #[hdrV i0 i1 i2 i3 i4 i5 i6 va da oa vl vc dl dc ol oc] w fun e w' => ∃ va' vc' da' dc' oa' oc', e = .returned (hdrV i0 i1 i2 i3 i4 i5 i6 va' da' oa' vl vc' dl dc' ol oc') ∧ (∃ E', destRowF w.heap.size w' va' vl E') ∧ (∃ E', destRowF w.heap.size w' da' dl E') ∧ (∃ E', optRowF w.heap.size w' oa' ol E') ∧ Below w.heap.size w w' := by
  unfold hdrV
  go_enter Try.func13, Try.ntmps13
  go_wp2_with fail
  have t0 : Below w.heap.size w ((w.alloc (.cells #[.int .u32 i0, .int .u16 i1, .int .u8 i2, .int .u8 i3, .int .u32 i4, .int .u64 i5, .int .u32 i6, .slice va vl vc, .slice da dl dc, .slice oa ol oc] 28)).alloc (.cells #[.int .u32 0, .int .u16 0, .int .u8 0, .int .u8 0, .int .u32 0, .int .u64 0, .int .u32 0, .slice none 0 0, .slice none 0 0, .slice none 0 0] 28)) := ((Below.refl _ _).alloc (Nat.le_refl _) _).alloc (by simp) _
  have s0 : w.heap.size + 1 < ((w.alloc (.cells #[.int .u32 i0, .int .u16 i1, .int .u8 i2, .int .u8 i3, .int .u32 i4, .int .u64 i5, .int .u32 i6, .slice va vl vc, .slice da dl dc, .slice oa ol oc] 28)).alloc (.cells #[.int .u32 0, .int .u16 0, .int .u8 0, .int .u8 0, .int .u32 0, .int .u64 0, .int .u32 0, .slice none 0 0, .slice none 0 0, .slice none 0 0] 28)).heap.size := by simp
  refine (copyDests_any va vl vc V _ (hv.below t0 (Nat.le_refl _)) hnv hlv).mono ?_
  rintro e w1 ⟨va', vc', rfl, ⟨Ev, rv⟩, b0⟩
  have u0 : w.heap.size + 1 < w1.heap.size := Nat.lt_of_lt_of_le s0 b0.size
  have u0' : w.heap.size < w1.heap.size := by omega
  obtain ⟨q0, f0⟩ := below_cells b0 (N := w.heap.size) (by omega)
  obtain ⟨p0, g0⟩ := below_cells b0 (N := w.heap.size + 1) s0
  have t0' : Below w.heap.size w w1 := step_below t0 b0 (by omega)
  have rv := rv.mono (show w.heap.size + 2 ≤ _ by omega)
  have rv : destRowF (w.heap.size + 2) (w1.setCell ⟨w.heap.size, 7, none⟩ (.slice va' vl vc')) va' vl Ev := rv.setCells (b' := w.heap.size) (o' := 7) (vs := [.slice va' vl vc']) (by omega)
  have t1 : Below w.heap.size w (w1.setCell ⟨w.heap.size, 7, none⟩ (.slice va' vl vc')) := t0'.setCell (p := ⟨w.heap.size, 7, none⟩) (Nat.le_refl _) _
  have s1 : w.heap.size + 1 < (w1.setCell ⟨w.heap.size, 7, none⟩ (.slice va' vl vc')).heap.size := by
    have := (below_setCells [.slice va' vl vc'] (b := w.heap.size) 7 (Below.refl w.heap.size w1) (Nat.le_refl _)).size
    exact Nat.lt_of_lt_of_le u0 this
  clear t0 b0 t0' s0 u0 hv
  go_wp2_with fail
  refine (copyDests_any da dl dc D _ (hd.below t1 (Nat.le_refl _)) hnd hld).mono ?_
  rintro e w2 ⟨da', dc', rfl, ⟨Ed, rd⟩, b1⟩
  have u1 : w.heap.size + 1 < w2.heap.size := Nat.lt_of_lt_of_le s1 b1.size
  have u1' : w.heap.size < w2.heap.size := by omega
  obtain ⟨q1, f1⟩ := below_cells b1 (N := w.heap.size) (by omega)
  obtain ⟨p1, g1⟩ := below_cells b1 (N := w.heap.size + 1) s1
  have t1' : Below w.heap.size w w2 := step_below t1 b1 (by omega)
  have rv := rv.below b1 (Nat.le_refl _)
  have rd := rd.mono (show w.heap.size + 2 ≤ _ by omega)
  have rv : destRowF (w.heap.size + 2) (w2.setCell ⟨w.heap.size, 8, none⟩ (.slice da' dl dc')) va' vl Ev := rv.setCells (b' := w.heap.size) (o' := 8) (vs := [.slice da' dl dc']) (by omega)
  have rd : destRowF (w.heap.size + 2) (w2.setCell ⟨w.heap.size, 8, none⟩ (.slice da' dl dc')) da' dl Ed := rd.setCells (b' := w.heap.size) (o' := 8) (vs := [.slice da' dl dc']) (by omega)
  have t2 : Below w.heap.size w (w2.setCell ⟨w.heap.size, 8, none⟩ (.slice da' dl dc')) := t1'.setCell (p := ⟨w.heap.size, 8, none⟩) (Nat.le_refl _) _
  have s2 : w.heap.size + 1 < (w2.setCell ⟨w.heap.size, 8, none⟩ (.slice da' dl dc')).heap.size := by
    have := (below_setCells [.slice da' dl dc'] (b := w.heap.size) 8 (Below.refl w.heap.size w2) (Nat.le_refl _)).size
    exact Nat.lt_of_lt_of_le u1 this
  clear t1 b1 t1' s1 u1 hd
  go_wp2_with fail
  refine (copyOpts_any oa ol oc O _ (ho.below t2 (Nat.le_refl _)) hno hlo).mono ?_
  rintro e w3 ⟨oa', oc', rfl, ⟨Eo, ro⟩, b2⟩
  have u2 : w.heap.size + 1 < w3.heap.size := Nat.lt_of_lt_of_le s2 b2.size
  have u2' : w.heap.size < w3.heap.size := by omega
  obtain ⟨q2, f2⟩ := below_cells b2 (N := w.heap.size) (by omega)
  obtain ⟨p2, g2⟩ := below_cells b2 (N := w.heap.size + 1) s2
  have t2' : Below w.heap.size w w3 := step_below t2 b2 (by omega)
  have rv := rv.below b2 (Nat.le_refl _)
  have rd := rd.below b2 (Nat.le_refl _)
  have ro := ro.mono (show w.heap.size + 2 ≤ _ by omega)
  have rv : destRowF (w.heap.size + 2) (w3.setCell ⟨w.heap.size, 9, none⟩ (.slice oa' ol oc')) va' vl Ev := rv.setCells (b' := w.heap.size) (o' := 9) (vs := [.slice oa' ol oc']) (by omega)
  have rd : destRowF (w.heap.size + 2) (w3.setCell ⟨w.heap.size, 9, none⟩ (.slice oa' ol oc')) da' dl Ed := rd.setCells (b' := w.heap.size) (o' := 9) (vs := [.slice oa' ol oc']) (by omega)
  have ro : optRowF (w.heap.size + 2) (w3.setCell ⟨w.heap.size, 9, none⟩ (.slice oa' ol oc')) oa' ol Eo := ro.setCells (b' := w.heap.size) (o' := 9) (vs := [.slice oa' ol oc']) (by omega)
  have t3 : Below w.heap.size w (w3.setCell ⟨w.heap.size, 9, none⟩ (.slice oa' ol oc')) := t2'.setCell (p := ⟨w.heap.size, 9, none⟩) (Nat.le_refl _) _
  have s3 : w.heap.size + 1 < (w3.setCell ⟨w.heap.size, 9, none⟩ (.slice oa' ol oc')).heap.size := by
    have := (below_setCells [.slice oa' ol oc'] (b := w.heap.size) 9 (Below.refl w.heap.size w3) (Nat.le_refl _)).size
    exact Nat.lt_of_lt_of_le u2 this
  clear t2 b2 t2' s2 u2 ho
  go_wp2_with fail
  refine bodyPost_ret (v := .agg #[.int .u32 i0, .int .u16 i1, .int .u8 i2, .int .u8 i3, .int .u32 i4, .int .u64 i5, .int .u32 i6, .slice va' vl vc', .slice da' dl dc', .slice oa' ol oc']) (by simp [results, Try.results13, go_sem, p0, p1, p2]) rfl ⟨va', vc', da', dc', oa', oc', rfl, ⟨Ev, (rv.setCells (b' := w.heap.size + 1) (o' := 0) (vs := [.int .u32 i0, .int .u16 i1, .int .u8 i2, .int .u8 i3, .int .u32 i4, .int .u64 i5, .int .u32 i6, .slice va' vl vc', .slice da' dl dc', .slice oa' ol oc']) (by omega)).mono (by omega)⟩, ⟨Ed, (rd.setCells (b' := w.heap.size + 1) (o' := 0) (vs := [.int .u32 i0, .int .u16 i1, .int .u8 i2, .int .u8 i3, .int .u32 i4, .int .u64 i5, .int .u32 i6, .slice va' vl vc', .slice da' dl dc', .slice oa' ol oc']) (by omega)).mono (by omega)⟩, ⟨Eo, (ro.setCells (b' := w.heap.size + 1) (o' := 0) (vs := [.int .u32 i0, .int .u16 i1, .int .u8 i2, .int .u8 i3, .int .u32 i4, .int .u64 i5, .int .u32 i6, .slice va' vl vc', .slice da' dl dc', .slice oa' ol oc']) (by omega)).mono (by omega)⟩, ?_⟩
  exact below_setCells [.int .u32 i0, .int .u16 i1, .int .u8 i2, .int .u8 i3, .int .u32 i4, .int .u64 i5, .int .u32 i6, .slice va' vl vc', .slice da' dl dc', .slice oa' ol oc'] (b := w.heap.size + 1) 0 t3 (by omega)
end
end Go.Proofs.Qxb6602271a
