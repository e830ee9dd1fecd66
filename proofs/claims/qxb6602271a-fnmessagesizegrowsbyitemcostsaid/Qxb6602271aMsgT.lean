import Derived.Test.Qxb6602271aMsgR
import Derived.Test.Qxb6602271aExtF
namespace Go.Proofs.Qxb6602271a
open Go.RowKit

theorem zzSizeI (B tot : Nat) (z : Int) (hz : z = (tot : Int)) (w : World) (h : sizeReady w B tot) : Calls Try.prog 22 #[.pointer (some ⟨B, 0, none⟩)] w fun e w' => e = .returned (.int .i64 z) ∧ Below w.heap.size w w' := by
  rw [hz]; exact zzSize_any B tot w h

/-- The cells of a message. -/
def msgArr (i0 i1 i2 i3 i4 i5 i6 j0 k0 k1 k2 : Int) (v d o b e c s t : Value) : Array Value :=
  #[.int .u32 i0, .int .u16 i1, .int .u8 i2, .int .u8 i3, .int .u32 i4, .int .u64 i5, .int .u32 i6, v, d, o, .int .u16 j0, b, e, c, .int .u8 k0, .int .u8 k1, .int .u8 k2, s, t]

theorem ready_of {i0 i1 i2 i3 i4 i5 i6 j0 k0 k1 k2 : Int} {va da oa ba ea ca sa ta : Option Addr} {vl vc dl dc ol oc bl bc el ec cl cc sl sc tl tc : Nat} {V D C : Nat → DestV} {O : Nat → OptV} {X : Nat → ExtV} {w : World} {B : Nat}
    (hB : w.heap[B]? = some (.cells (msgArr i0 i1 i2 i3 i4 i5 i6 j0 k0 k1 k2 (.slice va vl vc) (.slice da dl dc) (.slice oa ol oc) (.slice ba bl bc) (.slice ea el ec) (.slice ca cl cc) (.slice sa sl sc) (.slice ta tl tc)) 58 (0, 0)))
    (r1 : destRow w va vl V) (r2 : destRow w da dl D) (r3 : optRow w oa ol O) (r4 : extRow w ea el X) (r5 : destRow w ca cl C) (n1 : vl ≤ 65537) (n2 : dl ≤ 65537) (n3 : ol ≤ 65537) (n4 : el ≤ 65537) (n5 : cl ≤ 65537) (n6 : bl ≤ 1048576) (n7 : sl ≤ 1048576) (n8 : tl ≤ 1048576)
    (l1 : ∀ i, i < vl → (V i).cl ≤ 1048576) (l2 : ∀ i, i < dl → (D i).cl ≤ 1048576) (l3 : ∀ i, i < ol → (O i).cl ≤ 1048576) (l4 : ∀ i, i < el → (X i).cl ≤ 1048576) (l5 : ∀ i, i < cl → (C i).cl ≤ 1048576) :
    sizeReady w B (total bl sl tl vl dl ol el cl (fun i => (V i).cl) (fun i => (D i).cl) (fun i => (O i).cl) (fun i => (X i).cl) (fun i => (C i).cl)) := by
  have hc : ∀ j, w.cell? ⟨B, j, none⟩ = _ := fun j => cell_of_row _ _ j _ _ (0, 0) hB
  exact ⟨va, da, oa, ba, ea, ca, sa, ta, vl, vc, dl, dc, ol, oc, bl, bc, el, ec, cl, cc, sl, sc, tl, tc, V, D, C, O, X, (Array.getElem?_eq_some_iff.1 hB).1, ⟨hc 7, hc 8, hc 9, hc 11, hc 12, hc 13, hc 17, hc 18⟩, r1, r2, r3, r4, r5, ⟨n1, n2, n3, n4, n5, n6, n7, n8⟩, ⟨l1, l2, l3, l4, l5⟩, rfl⟩

theorem heap_setCell_at {w : World} {b o : Nat} {cur : Array Value} {T : TypeId} {v : Value} (h : w.heap[b]? = some (.cells cur T (0, 0))) : (w.setCells b o [v]).heap[b]? = some (.cells (cur.setIfInBounds o v) T (0, 0)) := by
  show (w.setCell ⟨b, o, none⟩ v).heap[b]? = _
  simp only [World.setCell, Array.getElem?_modify, if_true, h, Option.map_some]
  rfl
theorem msg_set12 {i0 i1 i2 i3 i4 i5 i6 j0 k0 k1 k2 : Int} {v d o b e c s t v' : Value} {w : World} {B : Nat} (h : w.heap[B]? = some (.cells (msgArr i0 i1 i2 i3 i4 i5 i6 j0 k0 k1 k2 v d o b e c s t) 58 (0, 0))) :
    (w.setCells B 12 [v']).heap[B]? = some (.cells (msgArr i0 i1 i2 i3 i4 i5 i6 j0 k0 k1 k2 v d o b v' c s t) 58 (0, 0)) := heap_setCell_at h
theorem msg_set8 {i0 i1 i2 i3 i4 i5 i6 j0 k0 k1 k2 : Int} {v d o b e c s t v' : Value} {w : World} {B : Nat} (h : w.heap[B]? = some (.cells (msgArr i0 i1 i2 i3 i4 i5 i6 j0 k0 k1 k2 v d o b e c s t) 58 (0, 0))) :
    (w.setCells B 8 [v']).heap[B]? = some (.cells (msgArr i0 i1 i2 i3 i4 i5 i6 j0 k0 k1 k2 v v' o b e c s t) 58 (0, 0)) := heap_setCell_at h

theorem total_cap {bl sl tl vl dl ol el cl : Nat} {V D O X C : Nat → Nat} (n1 : vl ≤ 65537) (n2 : dl ≤ 65537) (n3 : ol ≤ 65537) (n4 : el ≤ 65537) (n5 : cl ≤ 65537) (n6 : bl ≤ 1048576) (n7 : sl ≤ 1048576) (n8 : tl ≤ 1048576)
    (l1 : ∀ i, i < vl → V i ≤ 1048576) (l2 : ∀ i, i < dl → D i ≤ 1048576) (l3 : ∀ i, i < ol → O i ≤ 1048576) (l4 : ∀ i, i < el → X i ≤ 1048576) (l5 : ∀ i, i < cl → C i ≤ 1048576) : total bl sl tl vl dl ol el cl V D O X C ≤ 400000000000 := by
  have a1 := cost_cap (c := 3) (by decide) n1 l1 (Nat.le_refl _)
  have a2 := cost_cap (c := 3) (by decide) n2 l2 (Nat.le_refl _)
  have a3 := cost_cap (c := 4) (by decide) n3 l3 (Nat.le_refl _)
  have a4 := cost_cap (c := 7) (by decide) n4 l4 (Nat.le_refl _)
  have a5 := cost_cap (c := 3) (by decide) n5 l5 (Nat.le_refl _)
  unfold total
  omega

/-- One element more. -/
def moreX (X : Nat → ExtV) (n : Nat) (x : ExtV) : Nat → ExtV := fun i => if i < n then X i else x
def moreD (D : Nat → DestV) (n : Nat) (x : DestV) : Nat → DestV := fun i => if i < n then D i else x
theorem total_moreX {bl sl tl vl dl ol el cl : Nat} {V D O C : Nat → Nat} {X : Nat → ExtV} {x : ExtV} :
    total bl sl tl vl dl ol (el + 1) cl V D O (fun i => (moreX X el x i).cl) C = total bl sl tl vl dl ol el cl V D O (fun i => (X i).cl) C + 7 + x.cl := by
  have h1 : cost 7 (fun i => (moreX X el x i).cl) el = cost 7 (fun i => (X i).cl) el := cost_congr fun i hi => by simp [moreX, hi]
  have h2 : (moreX X el x el).cl = x.cl := by simp [moreX]
  unfold total
  rw [cost, h1, h2]
  omega
theorem total_moreD {bl sl tl vl dl ol el cl : Nat} {V O X C : Nat → Nat} {D : Nat → DestV} {x : DestV} :
    total bl sl tl vl (dl + 1) ol el cl V (fun i => (moreD D dl x i).cl) O X C = total bl sl tl vl dl ol el cl V (fun i => (D i).cl) O X C + 3 + x.cl := by
  have h1 : cost 3 (fun i => (moreD D dl x i).cl) dl = cost 3 (fun i => (D i).cl) dl := cost_congr fun i hi => by simp [moreD, hi]
  have h2 : (moreD D dl x dl).cl = x.cl := by simp [moreD]
  unfold total
  rw [cost, h1, h2]
  omega
theorem moreX_cl {X : Nat → ExtV} {n : Nat} {x : ExtV} (h : ∀ i, i < n → (X i).cl ≤ 1048576) (hx : x.cl ≤ 1048576) : ∀ i, i < n + 1 → (moreX X n x i).cl ≤ 1048576 := fun i _ => by
  unfold moreX
  split
  · rename_i hi; exact h i hi
  · exact hx
theorem moreD_cl {D : Nat → DestV} {n : Nat} {x : DestV} (h : ∀ i, i < n → (D i).cl ≤ 1048576) (hx : x.cl ≤ 1048576) : ∀ i, i < n + 1 → (moreD D n x i).cl ≤ 1048576 := fun i _ => by
  unfold moreD
  split
  · rename_i hi; exact h i hi
  · exact hx

/-- The new row of extensions: the n old ones and x behind them; the message's pointer set to it afterwards (block B2, another). -/
theorem moreX_row {w wr : World} {Be B2 n : Nat} {X : Nat → ExtV} {x : ExtV} {v : Value} {o : Nat} (hs : extSame wr Be n X) (ho : outRow wr Be 73 3 (n + 1)) (hsz : Be < wr.heap.size) (hne : Be ≠ B2)
    (hW : Below w.heap.size w ((wr.setCells Be (n * 3) x.cells).setCells B2 o [v])) (hX : ∀ i, i < n → byteRow w (X i).ca (X i).cl ∧ (X i).cl ≤ maxLen) (hx : byteRow w x.ca x.cl ∧ x.cl ≤ maxLen) :
    extRow ((wr.setCells Be (n * 3) x.cells).setCells B2 o [v]) (some ⟨Be, 0, none⟩) (n + 1) (moreX X n x) := by
  have hs' : extSame wr Be n (moreX X n x) := fun i hi => by
    have e : moreX X n x i = X i := by simp [moreX, hi]
    rw [e]; exact hs i hi
  have en : moreX X n x n = x := by simp [moreX]
  have hs2 := hs'.step ho (Nat.lt_succ_self n)
  rw [en] at hs2
  intro i hi
  have hcells := hs2 i (by omega)
  have hsize : Be < ((wr.setCells Be (n * 3) x.cells).setCells B2 o [v]).heap.size := by
    have h1 := (below_setCells x.cells (b := Be) (n * 3) (Below.refl Be wr) (Nat.le_refl _)).size
    have h2 := (below_setCells [v] (b := B2) o (Below.refl B2 (wr.setCells Be (n * 3) x.cells)) (Nat.le_refl _)).size
    omega
  refine ⟨Be, 0, rfl, hsize, by rw [Nat.zero_add]; exact hcells.other hne, ?_⟩
  by_cases h : i < n
  · have e : moreX X n x i = X i := by simp [moreX, h]
    rw [e]
    exact ⟨(hX i h).1.below hW (Nat.le_refl _), (hX i h).2⟩
  · have e : moreX X n x i = x := by simp [moreX, h]
    rw [e]
    exact ⟨hx.1.below hW (Nat.le_refl _), hx.2⟩
theorem moreD_row {w wr : World} {Be B2 n : Nat} {X : Nat → DestV} {x : DestV} {v : Value} {o : Nat} (hs : destSame wr Be n X) (ho : outRow wr Be 76 2 (n + 1)) (hsz : Be < wr.heap.size) (hne : Be ≠ B2)
    (hW : Below w.heap.size w ((wr.setCells Be (n * 2) x.cells).setCells B2 o [v])) (hX : ∀ i, i < n → byteRow w (X i).ca (X i).cl ∧ (X i).cl ≤ maxLen) (hx : byteRow w x.ca x.cl ∧ x.cl ≤ maxLen) :
    destRow ((wr.setCells Be (n * 2) x.cells).setCells B2 o [v]) (some ⟨Be, 0, none⟩) (n + 1) (moreD X n x) := by
  have hs' : destSame wr Be n (moreD X n x) := fun i hi => by
    have e : moreD X n x i = X i := by simp [moreD, hi]
    rw [e]; exact hs i hi
  have en : moreD X n x n = x := by simp [moreD]
  have hs2 := hs'.step ho (Nat.lt_succ_self n)
  rw [en] at hs2
  intro i hi
  have hcells := hs2 i (by omega)
  have hsize : Be < ((wr.setCells Be (n * 2) x.cells).setCells B2 o [v]).heap.size := by
    have h1 := (below_setCells x.cells (b := Be) (n * 2) (Below.refl Be wr) (Nat.le_refl _)).size
    have h2 := (below_setCells [v] (b := B2) o (Below.refl B2 (wr.setCells Be (n * 2) x.cells)) (Nat.le_refl _)).size
    omega
  refine ⟨Be, 0, rfl, hsize, by rw [Nat.zero_add]; exact hcells.other hne, ?_⟩
  by_cases h : i < n
  · have e : moreD X n x i = X i := by simp [moreD, h]
    rw [e]
    exact ⟨(hX i h).1.below hW (Nat.le_refl _), (hX i h).2⟩
  · have e : moreD X n x i = x := by simp [moreD, h]
    rw [e]
    exact ⟨hx.1.below hW (Nat.le_refl _), hx.2⟩
end Go.Proofs.Qxb6602271a
