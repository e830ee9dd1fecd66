import Derived.Test.Qxb6602271aKinds
import Derived.Test.Qxb6602271aRows
import Derived.WalkKit
import Derived.ProofKit
import Derived.OpenShut
import Derived.ShutString
import Derived.ChangeOld
import Derived.Below
namespace Go.Proofs.Qxb6602271a.fnKindsRebuildFlagsInIncreasingOrder
open Go.ChangeShapes Go.WideShapes Go.ChangeAt Go.RowKit
open Go.ChangeMaps (open_string shut_string)
set_option linter.unusedVariables false

theorem own : ownKnob Try.prog.godebug = none := by kernel_rfl
theorem laidOut : laidOutB Try.prog = true := by kernel_rfl

/-- WHAT THE WALK IS TOLD OF A SLICE OF INTEGERS THAT CAME IN: it is nil; or it leads to a row of 'cap' cells, the numbers 'zs' (the first 'len' are its elements, the rest its spare room), each fitting its kind. -/
def IsRow (k : IntKind) (w : World) (a : Option Addr) (len cap : Nat) (zs : List Int) : Prop :=
  (a = none ∧ len = 0 ∧ cap = 0 ∧ zs = []) ∨
  ∃ x, a = some x ∧ len ≤ cap ∧ cap ≤ maxLen ∧ zs.length = cap ∧ (∀ i, i < zs.length → w.cell? (x.add i) = some (.int k (zs.getD i 0))) ∧ ∀ n ∈ zs, (Lit.int k n).wf = true

set_option maxHeartbeats 8000000 in
set_option maxRecDepth 100000 in
theorem core (x0 x1 : Int) (f : Nat) (hf : f < 18446744073709551616) (a3 : Option Addr) (len3 cap3 : Nat) (w : World) (hr : byteRow w a3 len3) (hl : len3 ≤ maxLen) :
    Calls Try.prog 6 #[.int .u64 x0, .int .u64 x1, .int .u64 (f : Int), .slice a3 len3 cap3] w fun e w' => e = .returned (.bool true) ∧ Below w.heap.size w w' := by
  go_enter Try.func6, Try.ntmps6
  go_wp2_with fail
  refine (bytes30 x0 x1 f a3 len3 cap3 hl w).mono ?_
  rintro e w' ⟨⟨b, rfl⟩, rfl⟩
  unfold maxLen at hl
  cases b
  · go_wp2
    go_ret
    exact ⟨rfl, Below.refl _ _⟩
  by_cases q : 1048576 < len3
  · go_wp2
    go_ret
    exact ⟨rfl, Below.refl _ _⟩
  go_wp2_with fail
  refine (copyBytes_any a3 len3 cap3 w hr (by omega)).mono ?_
  rintro e w1 ⟨oe, ce, rfl, _, _, hb1⟩
  go_wp2_with fail
  refine (kinds_any x0 x1 f hf oe len3 ce _).mono ?_
  rintro e w2 ⟨v, rfl, hown, hnil, hb2⟩
  obtain ⟨oa, ca, rfl, hk⟩ := kindRow_of_owns hown
  have hbel : Below w.heap.size w w2 := by
    refine Below.trans ?_ (hb2.mono ?_)
    · exact hb1.alloc hb1.size _
    · have := hb1.size; simp; omega
  clear hown hnil hb1 hb2 hr
  have hlen := bitsTo_len f 64
  have Hlt : Hid _ := fun k hk => bitsTo_lt (f := f) (k := k) hk
  have Hpr : Hid _ := fun k hk => prev_lt (f := f) (k := k) hk
  have Hor : Hid _ := fun k hk => or_flag (f := f) (k := k) hk
  have Hend : Hid _ := accTo_end hf
  have hps : Hid (∀ k, prevTo (bitsTo f 64) (k + 1) = (bitsTo f 64).getD k 0 + 1) := fun _ => rfl
  clear hf
  generalize bitsTo f 64 = L at *
  go_wp2
  go_loopw [11, 12, 13] (fun acc prev i wr => ∃ k : Nat, k ≤ L.length ∧ i = .int .i64 k ∧ acc = .int .u64 (accTo L k : Int) ∧ prev = .int .u16 (prevTo L k : Int) ∧ w2 = wr) (fun _ _ i _ => L.length - (intOf i).toNat)
  case atStart => exact ⟨0, by omega, rfl, by simp [accTo], by simp [prevTo], rfl⟩
  case round =>
    obtain ⟨k, hk', rfl, rfl, rfl, rfl⟩ := hrel
    by_cases hlt : k < L.length
    · obtain ⟨g1, rfl, _, c1⟩ := hk k hlt
      have h1 := Hlt.out k hlt
      have h2 := Hpr.out k hlt
      have h3 := Hor.out k hlt
      have H4 : Hid _ := hps.out k
      obtain ⟨x, hx⟩ : ∃ x, x = L.getD k 0 := ⟨_, rfl⟩
      rw [← hx] at c1 h1 h2 h3 H4
      have i1 : (k : Int) < (L.length : Int) := by omega
      generalize prevTo L k = pv at *
      clear hx
      go_wp2_with (go_at_call 31; refine (flag_any (x + 1) (by omega) (by omega) _).mono ?_; rintro e w' ⟨rfl, rfl⟩)
      go_roundw
      case rel => exact ⟨k + 1, by omega, by go_num, rfl, by rw [H4.out]; go_num, trivial⟩
      case measure => simp [intOf]; omega
    · obtain rfl : k = L.length := by omega
      have he := Hend.out
      go_wp2
      go_ret
      exact ⟨rfl, hbel⟩

theorem byteRow_of {w : World} {a : Option Addr} {len cap : Nat} {zs : List Int} (h : IsRow .u8 w a len cap zs) : byteRow w a len ∧ len ≤ maxLen := by
  rcases h with ⟨rfl, rfl, rfl, rfl⟩ | ⟨x, rfl, hl, hm, hz, hcell, _⟩
  · exact ⟨fun i hi => absurd hi (by omega), by decide⟩
  · refine ⟨fun i hi => ?_, by omega⟩
    obtain ⟨b, off, spot⟩ := x
    have hc := hcell i (by omega)
    have hspot : spot = none := by simpa [Addr.add] using World.cell?_spot (hcell 0 (by omega))
    subst hspot
    rw [add_plain] at hc
    exact ⟨b, off, rfl, World.block_lt_of_cell? w _ hc, _, hc⟩

theorem walk (a0 : Int) (a1 : Int) (a2 : Int) (a3 : Option Addr) (len3 cap3 : Nat) (z3 : List Int) (w : World) (w0 : (Lit.int .u64 a0).wf = true) (w1 : (Lit.int .u64 a1).wf = true) (w2 : (Lit.int .u64 a2).wf = true) (w3 : IsRow .u8 w a3 len3 cap3 z3) :
    Calls Try.prog 6 #[.int .u64 a0, .int .u64 a1, .int .u64 a2, .slice a3 len3 cap3] w fun e w' => e = .returned (.bool true) ∧ Below w.heap.size w w' := by
  obtain ⟨hr, hl⟩ := byteRow_of w3
  have hb := bounds_u64 w2
  obtain ⟨f, rfl⟩ := Int.eq_ofNat_of_zero_le hb.1
  exact core a0 a1 f (by omega) a3 len3 cap3 w hr hl

/-! ### THE ROW's STEP: WRITTEN OUT: LEAVE IT -/
set_option maxRecDepth 100000 in
theorem lifted (os : Os) (started : os.Started) (H : Type) (enc : TypeId × Value → H) :
    ReturnsInHanded {} Try.checked os 6 .any (Rows.fnKindsRebuildFlagsInIncreasingOrderSpec.pre6 enc Try.prog Try.f6 Rows.fnKindsRebuildFlagsInIncreasingOrderRow.domain false) (Rows.fnKindsRebuildFlagsInIncreasingOrderSpec.post enc Try.prog Try.f6 false true false false) := by
  refine returnsInHanded_of_change (C := Try.checked) own started (by kernel_rfl) Try.func6
    (ChangeSpec.witness6 (enc := enc) (C := Try.checked) false ⟨#[], #[.int .u64 0, .int .u64 0, .int .u64 0, .slice none 0 0], []⟩ 8 (by kernel_rfl) (by kernel_rfl) (by kernel_rfl) (by kernel_rfl)) ?_
  intro W base args ds gs before hval0 hW hcnd _
  have hval : ∀ (j : Nat) t v, Try.f6.params[j]? = some t → args[j]? = some v → Value.okWide Try.prog W .any base t v := hval0
  have hW' := hW
  obtain ⟨p, q, hA0, hV, rfl, hfz, hnd⟩ := hW
  have hA : DataW.TrodAll enc Try.prog W 0 (fun _ => true) true Try.f6.params.toList args.toList ds p := hA0
  rw [Try.params6] at hA hval
  obtain ⟨v0, vs0, d0, ds0, p0, q0, hargs, rfl, rfl, h0, r0⟩ := trodAll_cons hA
  obtain ⟨v1, vs1, d1, ds1, p1, q1, rfl, rfl, rfl, h1, r1⟩ := trodAll_cons r0
  obtain ⟨v2, vs2, d2, ds2, p2, q2, rfl, rfl, rfl, h2, r2⟩ := trodAll_cons r1
  obtain ⟨v3, vs3, d3, ds3, p3, q3, rfl, rfl, rfl, h3, r3⟩ := trodAll_cons r2
  obtain ⟨rfl, rfl, rfl⟩ := trodAll_nil r3
  obtain rfl : args = #[v0, v1, v2, v3] := by cases args; simp_all
  obtain ⟨rfl, rfl⟩ := trodVars_none hV
  obtain ⟨a0, rfl, rfl, rfl, w0⟩ := open_int Try.underlying24 (hval 0 24 v0 rfl rfl) h0
  obtain ⟨a1, rfl, rfl, rfl, w1⟩ := open_int Try.underlying24 (hval 1 24 v1 rfl rfl) h1
  obtain ⟨a2, rfl, rfl, rfl, w2⟩ := open_int Try.underlying24 (hval 2 24 v2 rfl rfl) h2
  obtain ⟨a3, len3, cap3, rfl⟩ := okWide_slice Try.underlying29 (hval 3 29 v3 rfl rfl)
  have k3 := h3
  have lt3 : ∀ x ∈ p3, x.block < W.heap.size := by obtain ⟨m, hm⟩ := k3; exact DataW.trod_lt m _ _ _ hm
  obtain ⟨z3, w3⟩ : ∃ zs, IsRow .u8 W a3 len3 cap3 zs := by
    obtain ⟨fuel, hf⟩ := h3
    rcases open_ints Try.underlying29 Try.underlying5 (by kernel_rfl) hf with ⟨hcs, _⟩ | ⟨x, l, c, zs, hcs, _, hl, hm, hz, _, hcell, hwz⟩
    · simp [Value.cells] at hcs
      obtain ⟨rfl, rfl, rfl⟩ := hcs
      exact ⟨[], .inl ⟨rfl, rfl, rfl, rfl⟩⟩
    · simp [Value.cells] at hcs
      obtain ⟨rfl, rfl, rfl⟩ := hcs
      exact ⟨zs, .inr ⟨_, rfl, hl, hm, by simpa using hz, hcell, hwz⟩⟩
  clear hA0 hval0
  refine (walk a0 a1 a2 a3 len3 cap3 z3 W w0 w1 w2 w3).mono fun e W' ⟨he, bel⟩ => ?_
  subst he
  exact ⟨_, rfl, _, _, _, [], _, [], hW', trodAll_mk1 (shut_bool Try.underlying4 _), (trodAll_cons_mk (shut_int Try.underlying24 w0) (trodAll_cons_mk (shut_int Try.underlying24 w1) (trodAll_cons_mk (shut_int Try.underlying24 w2) (trodAll_cons_mk (Below.trod laidOut (by kernel_rfl) (of_decide_eq_true (by kernel_rfl)) k3 bel lt3) trodAll_mk0)))), rfl, bel.frame _, fun h => by cases h⟩

theorem over : Rows.fnKindsRebuildFlagsInIncreasingOrderRow.holds Try.pinned (OpenSpec.ofChange Rows.fnKindsRebuildFlagsInIncreasingOrderSpec) :=
  OpenClaim.holds_of_wide 6 Try.f6 rfl rfl rfl rfl rfl rfl rfl ⟨rfl, rfl, rfl, rfl, rfl⟩ rfl rfl rfl rfl rfl (by kernel_rfl) Try.func6 (by kernel_rfl)
    (of_decide_eq_true (by kernel_rfl)) (by unfold Func.isWrapper; first | (rw [if_pos (by decide +kernel)]; kernel_rfl) | (rw [if_neg (by decide +kernel)]; exact ⟨rfl, rfl⟩))
    (fun os started H enc _ => lifted os started H enc)

/-- ████ THE STATEMENT ████ -/
theorem proved : Rows.FnKindsRebuildFlagsInIncreasingOrderSaid := over
#print axioms proved
end Go.Proofs.Qxb6602271a.fnKindsRebuildFlagsInIncreasingOrder
