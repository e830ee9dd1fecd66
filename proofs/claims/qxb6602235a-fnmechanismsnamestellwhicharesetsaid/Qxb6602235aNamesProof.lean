import Derived.Test.Qxb6602235aPlain
import Derived.BigQuiet
import Derived.Deep.QuietTactic
import Derived.ProofKit
import Derived.OpenShut
import Derived.ShutString
import Derived.ChangeOld
namespace Go.Proofs.Qxb6602235a.fnMechanismsNamesTellWhichAreSet
open Go.ChangeShapes Go.WideShapes Go.ChangeAt Go.RowKit
set_option linter.unusedVariables false

theorem own : ownKnob Try.prog.godebug = none := by kernel_rfl

/-- mechanismRank, at each of the four names. -/
theorem rank_any (r : Nat) (hr : r < 4) (w : World) : Calls Try.prog 14 #[.string (nm r)] w fun e w' => e = .returned (.int .i64 (r : Int)) ∧ w' = w := by
  match r, hr with
  | 0, _ =>
    have q0 : ((nm 0).toList == [101, 120, 101, 99]) = true := by decide +kernel
    go_enter Try.func14, Try.ntmps14; go_wp2; go_ret; exact ⟨rfl, rfl⟩
  | 1, _ =>
    have q0 : ((nm 1).toList == [101, 120, 101, 99]) = false := by decide +kernel
    have q1 : ((nm 1).toList == [104, 116, 116, 112, 71, 101, 116]) = true := by decide +kernel
    go_enter Try.func14, Try.ntmps14; go_wp2; go_ret; exact ⟨rfl, rfl⟩
  | 2, _ =>
    have q0 : ((nm 2).toList == [101, 120, 101, 99]) = false := by decide +kernel
    have q1 : ((nm 2).toList == [104, 116, 116, 112, 71, 101, 116]) = false := by decide +kernel
    have q2 : ((nm 2).toList == [116, 99, 112, 83, 111, 99, 107, 101, 116]) = true := by decide +kernel
    go_enter Try.func14, Try.ntmps14; go_wp2; go_ret; exact ⟨rfl, rfl⟩
  | 3, _ =>
    have q0 : ((nm 3).toList == [101, 120, 101, 99]) = false := by decide +kernel
    have q1 : ((nm 3).toList == [104, 116, 116, 112, 71, 101, 116]) = false := by decide +kernel
    have q2 : ((nm 3).toList == [116, 99, 112, 83, 111, 99, 107, 101, 116]) = false := by decide +kernel
    have q3 : ((nm 3).toList == [103, 114, 112, 99]) = true := by decide +kernel
    go_enter Try.func14, Try.ntmps14; go_wp2; go_ret; exact ⟨rfl, rfl⟩

/-- The last rank that the law has met behind k rounds. -/
def lastTo (L : List Nat) : Nat → Int
  | 0 => -1
  | k + 1 => (L.getD k 0 : Nat)
def cnt (L : List Nat) (k r : Nat) : Nat := (L.take k).count r
theorem cnt_le (L : List Nat) (k r : Nat) : cnt L k r ≤ k := Nat.le_trans List.count_le_length (List.length_take_le _ _)
theorem cnt_same {L : List Nat} {k r : Nat} (hk : k < L.length) (h : L.getD k 0 = r) : cnt L (k + 1) r = cnt L k r + 1 := by
  have e : L[k] = r := by simpa [List.getD, hk] using h
  rw [cnt, List.take_succ_eq_append_getElem hk, List.count_append, e]; simp [cnt]
theorem cnt_other {L : List Nat} {k r : Nat} (hk : k < L.length) (h : L.getD k 0 ≠ r) : cnt L (k + 1) r = cnt L k r := by
  have e : L[k] ≠ r := by simpa [List.getD, hk] using h
  rw [cnt, List.take_succ_eq_append_getElem hk, List.count_append]; simp [cnt, e]
theorem rises : ∀ (e h t g : Bool) (k : Fin 4), k.val < (ranks e h t g).length → lastTo (ranks e h t g) k < ((ranks e h t g).getD k 0 : Nat) := by decide +kernel
theorem ends0 : ∀ (e h t g : Bool), ((cnt (ranks e h t g) (ranks e h t g).length 0 : Int) == 1) = e := by decide +kernel
theorem ends1 : ∀ (e h t g : Bool), ((cnt (ranks e h t g) (ranks e h t g).length 1 : Int) == 1) = h := by decide +kernel
theorem ends2 : ∀ (e h t g : Bool), ((cnt (ranks e h t g) (ranks e h t g).length 2 : Int) == 1) = t := by decide +kernel
theorem ends3 : ∀ (e h t g : Bool), ((cnt (ranks e h t g) (ranks e h t g).length 3 : Int) == 1) = g := by decide +kernel

set_option maxHeartbeats 8000000 in
set_option maxRecDepth 100000 in
theorem walk (a0 a1 a2 a3 : Bool) (w : World) :
    Calls Try.prog 5 #[.bool a0, .bool a1, .bool a2, .bool a3] w fun e w' => e = .returned (.bool true) ∧ Below w.heap.size w w' := by
  have hl := ranks_len a0 a1 a2 a3
  have z0 := ends0 a0 a1 a2 a3
  have z1 := ends1 a0 a1 a2 a3
  have z2 := ends2 a0 a1 a2 a3
  have z3 := ends3 a0 a1 a2 a3
  have hlt4 := fun i hi => ranks_lt' a0 a1 a2 a3 (i := i) hi
  have hris := fun (i : Nat) (hi : i < (ranks a0 a1 a2 a3).length) => rises a0 a1 a2 a3 ⟨i, Nat.lt_of_lt_of_le hi hl⟩ hi
  have HZ : Hid ((((cnt (ranks a0 a1 a2 a3) (ranks a0 a1 a2 a3).length 0 : Int) == 1) = a0) ∧ (((cnt (ranks a0 a1 a2 a3) (ranks a0 a1 a2 a3).length 1 : Int) == 1) = a1) ∧ (((cnt (ranks a0 a1 a2 a3) (ranks a0 a1 a2 a3).length 2 : Int) == 1) = a2) ∧ (((cnt (ranks a0 a1 a2 a3) (ranks a0 a1 a2 a3).length 3 : Int) == 1) = a3)) := ⟨z0, z1, z2, z3⟩
  have HL : Hid (∀ i, i < (ranks a0 a1 a2 a3).length → (ranks a0 a1 a2 a3).getD i 0 < 4 ∧ lastTo (ranks a0 a1 a2 a3) i < ((ranks a0 a1 a2 a3).getD i 0 : Nat)) := fun i hi => ⟨hlt4 i hi, hris i hi⟩
  clear z0 z1 z2 z3 hlt4 hris
  go_enter Try.func5, Try.ntmps5
  go_wp2_with fail
  refine (handler_any a0 a1 a2 a3 w).mono ?_
  rintro e w1 ⟨rfl, hb1, hs1, f0, f1, f2, f3⟩
  go_wp2_with fail
  refine (zz_any a0 a1 a2 a3 _ _ f0 f1 f2 f3).mono ?_
  rintro e w2 ⟨va, rfl, howna, hnila, hb2⟩
  obtain ⟨oa, ca, rfl, la⟩ := leads_of_owns howna
  have hbel : Below w.heap.size w w2 := hb1.trans (hb2.mono (Nat.le_of_lt hs1))
  clear howna hnila f0 f1 f2 f3 hb1 hb2 hs1
  generalize ranks a0 a1 a2 a3 = L at *
  go_wp2
  go_loopw [10, 11, 12, 13, 14, 15] (fun n0 n1 n2 n3 l i wr => ∃ k : Nat, k ≤ L.length ∧ i = .int .i64 k ∧ n0 = .int .i64 (cnt L k 0 : Int) ∧ n1 = .int .i64 (cnt L k 1 : Int) ∧ n2 = .int .i64 (cnt L k 2 : Int) ∧ n3 = .int .i64 (cnt L k 3 : Int) ∧ l = .int .i64 (lastTo L k) ∧ w2 = wr) (fun _ _ _ _ _ i _ => L.length - (intOf i).toNat)
  case atStart => exact ⟨0, by omega, rfl, by simp [cnt], by simp [cnt], by simp [cnt], by simp [cnt], rfl, rfl⟩
  case round =>
    obtain ⟨k, hk, rfl, rfl, rfl, rfl, rfl, rfl, rfl⟩ := hrel
    by_cases hlt : k < L.length
    · obtain ⟨g1, rfl, _, c1⟩ := la k hlt
      obtain ⟨hx4, hxl⟩ := HL.out k hlt
      have b0 := cnt_le L k 0
      have b1 := cnt_le L k 1
      have b2 := cnt_le L k 2
      have b3 := cnt_le L k 3
      have hlast : lastTo L (k + 1) = (L.getD k 0 : Nat) := rfl
      have e0 := @cnt_same L k
      have e1 := @cnt_other L k
      obtain ⟨x, hx⟩ : ∃ x, x = L.getD k 0 := ⟨_, rfl⟩
      have H : Hid (lastTo L (k + 1) = (x : Int) ∧ (∀ r, x = r → cnt L (k + 1) r = cnt L k r + 1) ∧ (∀ r, x ≠ r → cnt L (k + 1) r = cnt L k r)) := ⟨by rw [hx]; rfl, fun r h => cnt_same hlt (by rw [← h, hx]), fun r h => cnt_other hlt (by rw [← hx]; exact h)⟩
      rw [← hx] at c1 hx4 hxl
      clear hlast e0 e1 hx
      generalize lastTo L k = l at *
      have hr4 := rank_any x hx4
      have i1 : (k : Int) < (L.length : Int) := by omega
      rcases (show x = 0 ∨ x = 1 ∨ x = 2 ∨ x = 3 by omega) with rfl | rfl | rfl | rfl
      all_goals
        go_wp2_with (go_at_call 14; refine (rank_any _ (by decide) _).mono ?_; rintro e w' ⟨rfl, rfl⟩)
        obtain ⟨hl1, hl2, hl3⟩ := H.out
        go_roundw
        case rel => exact ⟨k + 1, by omega, by go_num, by first | rw [hl2 0 rfl]; go_num | rw [hl3 0 (by decide)], by first | rw [hl2 1 rfl]; go_num | rw [hl3 1 (by decide)], by first | rw [hl2 2 rfl]; go_num | rw [hl3 2 (by decide)], by first | rw [hl2 3 rfl]; go_num | rw [hl3 3 (by decide)], by rw [hl1]; rfl, trivial⟩
        case measure => simp [intOf]; omega
    · obtain rfl : k = L.length := by omega
      obtain ⟨z0, z1, z2, z3⟩ := HZ.out
      have b0 := cnt_le L L.length 0
      have b1 := cnt_le L L.length 1
      have b2 := cnt_le L L.length 2
      have b3 := cnt_le L L.length 3
      go_wp2
      go_ret
      exact ⟨rfl, hbel⟩

/-! ### THE ROW's STEP: WRITTEN OUT: LEAVE IT -/
set_option maxRecDepth 100000 in
theorem lifted (os : Os) (started : os.Started) (H : Type) (enc : TypeId × Value → H) :
    ReturnsInHanded {} Try.checked os 5 .any (Rows.fnMechanismsNamesTellWhichAreSetSpec.pre6 enc Try.prog Try.f5 Rows.fnMechanismsNamesTellWhichAreSetRow.domain false) (Rows.fnMechanismsNamesTellWhichAreSetSpec.post enc Try.prog Try.f5 false true false false) := by
  refine returnsInHanded_of_change (C := Try.checked) own started (by kernel_rfl) Try.func5
    (ChangeSpec.witness6 (enc := enc) (C := Try.checked) false ⟨#[], #[.bool false, .bool false, .bool false, .bool false], []⟩ 8 (by kernel_rfl) (by kernel_rfl) (by kernel_rfl) (by kernel_rfl)) ?_
  intro W base args ds gs before hval0 hW hcnd _
  have hval : ∀ (j : Nat) t v, Try.f5.params[j]? = some t → args[j]? = some v → Value.okWide Try.prog W .any base t v := hval0
  have hW' := hW
  obtain ⟨p, q, hA0, hV, rfl, hfz, hnd⟩ := hW
  have hA : DataW.TrodAll enc Try.prog W 0 (fun _ => true) true Try.f5.params.toList args.toList ds p := hA0
  rw [Try.params5] at hA hval
  obtain ⟨v0, vs0, d0, ds0, p0, q0, hargs, rfl, rfl, h0, r0⟩ := trodAll_cons hA
  obtain ⟨v1, vs1, d1, ds1, p1, q1, rfl, rfl, rfl, h1, r1⟩ := trodAll_cons r0
  obtain ⟨v2, vs2, d2, ds2, p2, q2, rfl, rfl, rfl, h2, r2⟩ := trodAll_cons r1
  obtain ⟨v3, vs3, d3, ds3, p3, q3, rfl, rfl, rfl, h3, r3⟩ := trodAll_cons r2
  obtain ⟨rfl, rfl, rfl⟩ := trodAll_nil r3
  obtain rfl : args = #[v0, v1, v2, v3] := by cases args; simp_all
  obtain ⟨rfl, rfl⟩ := trodVars_none hV
  obtain ⟨a0, rfl, rfl, rfl⟩ := open_bool Try.underlying4 (hval 0 4 v0 rfl rfl) h0
  obtain ⟨a1, rfl, rfl, rfl⟩ := open_bool Try.underlying4 (hval 1 4 v1 rfl rfl) h1
  obtain ⟨a2, rfl, rfl, rfl⟩ := open_bool Try.underlying4 (hval 2 4 v2 rfl rfl) h2
  obtain ⟨a3, rfl, rfl, rfl⟩ := open_bool Try.underlying4 (hval 3 4 v3 rfl rfl) h3
  clear hA0 hval0
  simp only [List.append_nil] at hW'
  refine (walk a0 a1 a2 a3 W).mono fun e W' ⟨he, hg⟩ => ?_
  subst he
  exact ⟨_, rfl, _, _, _, [], _, [], hW', trodAll_mk1 (shut_bool Try.underlying4 _), (trodAll_cons_mk (shut_bool Try.underlying4 _) (trodAll_cons_mk (shut_bool Try.underlying4 _) (trodAll_cons_mk (shut_bool Try.underlying4 _) (trodAll_cons_mk (shut_bool Try.underlying4 _) trodAll_mk0)))), rfl, hg.frame _, fun h => by cases h⟩

theorem over : Rows.fnMechanismsNamesTellWhichAreSetRow.holds Try.pinned (OpenSpec.ofChange Rows.fnMechanismsNamesTellWhichAreSetSpec) :=
  OpenClaim.holds_of_wide 5 Try.f5 rfl rfl rfl rfl rfl rfl rfl ⟨rfl, rfl, rfl, rfl, rfl⟩ rfl rfl rfl rfl rfl (by kernel_rfl) Try.func5 (by kernel_rfl)
    (of_decide_eq_true (by kernel_rfl)) (by unfold Func.isWrapper; first | (rw [if_pos (by decide +kernel)]; kernel_rfl) | (rw [if_neg (by decide +kernel)]; exact ⟨rfl, rfl⟩))
    (fun os started H enc _ => lifted os started H enc)

/-- ████ THE STATEMENT ████ -/
theorem proved : Rows.FnMechanismsNamesTellWhichAreSetSaid :=
  over
#print axioms proved
end Go.Proofs.Qxb6602235a.fnMechanismsNamesTellWhichAreSet
