/- FnMechanismsGrowWithSetFields returns true for every input: the walk of the law, out of the contracts of handlerWith and mechanisms. -/
import Derived.Test.Qxb6602235aPlain
import Derived.Deep.CutRange
import Derived.BigQuiet
import Derived.Deep.QuietTactic
import Derived.ProofKit
import Derived.OpenShut
import Derived.ShutString
import Derived.ChangeOld
namespace Go.Proofs.Qxb6602235a.fnMechanismsGrowWithSetFields
open Go.ChangeShapes Go.WideShapes Go.ChangeAt Go.RowKit
set_option linter.unusedVariables false

theorem own : ownKnob Try.prog.godebug = none := by kernel_rfl

theorem ret_true {b : Bool} (h : b = true) : Ending.returned (.bool b) = .returned (.bool true) := by rw [h]

set_option maxHeartbeats 8000000 in
set_option maxRecDepth 100000 in
theorem walk (a0 a1 a2 a3 b0 b1 b2 b3 : Bool) (w : World) :
    Calls Try.prog 6 #[.bool a0, .bool a1, .bool a2, .bool a3, .bool b0, .bool b1, .bool b2, .bool b3] w fun e w' => e = .returned (.bool true) ∧ Below w.heap.size w w' := by
  obtain ⟨bad, hbad⟩ : ∃ x, x = badB a0 a1 a2 a3 b0 b1 b2 b3 := ⟨_, rfl⟩
  have Hbad : Hid (bad = badB a0 a1 a2 a3 b0 b1 b2 b3) := hbad
  clear hbad
  go_enter Try.func6, Try.ntmps6
  go_upto_region 1 with fail
  go_cut [0, 1, 2, 3, 4, 5, 6, 7, 47] from 22 to 47 (fun s0 s1 s2 s3 s4 s5 s6 s7 s47 wx => s0 = .bool a0 ∧ s1 = .bool a1 ∧ s2 = .bool a2 ∧ s3 = .bool a3 ∧ s4 = .bool b0 ∧ s5 = .bool b1 ∧ s6 = .bool b2 ∧ s7 = .bool b3 ∧ s47 = .bool bad ∧ w = wx)
  case first =>
    go_wp2_with fail
    all_goals (go_meet; rw [Hbad.out]; simp [*, badB])
  case rest =>
  obtain ⟨rfl, rfl, rfl, rfl, rfl, rfl, rfl, rfl, rfl, rfl⟩ := hcut
  cases hb : bad
  · rw [hb] at Hbad
    have hv : badB a0 a1 a2 a3 b0 b1 b2 b3 = false := Hbad.out.symm
    have hend := scan_end a0 a1 a2 a3 b0 b1 b2 b3 hv
    have hext := extra a0 a1 a2 a3 b0 b1 b2 b3 hv
    have hla := ranks_len a0 a1 a2 a3
    have hlb := ranks_len b0 b1 b2 b3
    have hra := fun i hi => ranks_lt' a0 a1 a2 a3 (i := i) hi
    have hrb := fun i hi => ranks_lt' b0 b1 b2 b3 (i := i) hi
    clear hv Hbad hb
    go_wp2_with fail
    refine (handler_any a0 a1 a2 a3 w).mono ?_
    rintro e w1 ⟨rfl, hb1, hs1, f0, f1, f2, f3⟩
    go_wp2_with fail
    refine (zz_any a0 a1 a2 a3 _ _ f0 f1 f2 f3).mono ?_
    rintro e w2 ⟨va, rfl, howna, hnila, hb2⟩
    obtain ⟨oa, ca, rfl, la⟩ := leads_of_owns howna
    clear howna hnila f0 f1 f2 f3
    go_wp2_with fail
    refine (handler_any b0 b1 b2 b3 w2).mono ?_
    rintro e w3 ⟨rfl, hb3, hs3, f0, f1, f2, f3⟩
    go_wp2_with fail
    refine (zz_any b0 b1 b2 b3 _ _ f0 f1 f2 f3).mono ?_
    rintro e w4 ⟨vb, rfl, hownb, hnilb, hb4⟩
    obtain ⟨ob, cb, rfl, lb⟩ := leads_of_owns hownb
    clear hownb hnilb f0 f1 f2 f3
    have hbel : Below w.heap.size w w4 := ((hb1.trans (hb2.mono (Nat.le_of_lt hs1))).trans (hb3.mono (Nat.le_trans (Nat.le_of_lt hs1) hb2.size))).trans (hb4.mono (by have := hb2.size; have := hb3.size; omega))
    have la' : leads w4 oa (ranks a0 a1 a2 a3) := leads_below (leads_below la hb3 (Nat.le_refl _)) hb4 (Nat.le_refl _)
    clear la hb1 hb2 hb3 hb4 hs1 hs3
    obtain ⟨d0, hd0⟩ : ∃ x, x = (b0 && !a0) := ⟨_, rfl⟩
    obtain ⟨d1, hd1⟩ : ∃ x, x = (b1 && !a1) := ⟨_, rfl⟩
    obtain ⟨d2, hd2⟩ : ∃ x, x = (b2 && !a2) := ⟨_, rfl⟩
    obtain ⟨d3, hd3⟩ : ∃ x, x = (b3 && !a3) := ⟨_, rfl⟩
    rw [← hd0, ← hd1, ← hd2, ← hd3] at hext
    generalize ranks a0 a1 a2 a3 = La at *
    generalize ranks b0 b1 b2 b3 = Lb at *
    have Hd0 : Hid (d0 = (b0 && !a0)) := hd0
    have Hd1 : Hid (d1 = (b1 && !a1)) := hd1
    have Hd2 : Hid (d2 = (b2 && !a2)) := hd2
    have Hd3 : Hid (d3 = (b3 && !a3)) := hd3
    have Hext : Hid (Lb.length = La.length + d0.toNat + d1.toNat + d2.toNat + d3.toNat) := hext
    obtain ⟨c0, hc0⟩ : ∃ x, x = d0.toNat := ⟨_, rfl⟩
    obtain ⟨c1, hc1⟩ : ∃ x, x = c0 + d1.toNat := ⟨_, rfl⟩
    obtain ⟨c2, hc2⟩ : ∃ x, x = c1 + d2.toNat := ⟨_, rfl⟩
    obtain ⟨c3, hc3⟩ : ∃ x, x = c2 + d3.toNat := ⟨_, rfl⟩
    have q0 : c0 ≤ 1 := by rw [hc0]; exact Bool.toNat_le d0
    have q1 : c1 ≤ 2 := by have := Bool.toNat_le d1; omega
    have q2 : c2 ≤ 3 := by have := Bool.toNat_le d2; omega
    have q3 : c3 ≤ 4 := by have := Bool.toNat_le d3; omega
    have Hc0 : Hid (c0 = d0.toNat) := hc0
    have Hc1 : Hid (c1 = c0 + d1.toNat) := hc1
    have Hc2 : Hid (c2 = c1 + d2.toNat) := hc2
    have Hc3 : Hid (c3 = c2 + d3.toNat) := hc3
    have Hext' : Hid (Lb.length = La.length + c3) := by show Lb.length = La.length + c3; omega
    clear hc0 hc1 hc2 hc3
    have Hend : Hid (La.length ≤ jTo La Lb Lb.length) := hend
    have Hra : Hid (∀ i, i < La.length → La.getD i 0 < 4) := hra
    have Hrb : Hid (∀ i, i < Lb.length → Lb.getD i 0 < 4) := hrb
    clear hd0 hd1 hd2 hd3 hext hend hra hrb
    go_wp2
    go_loopw [19, 20] (fun j i wr => ∃ k : Nat, k ≤ Lb.length ∧ i = .int .i64 k ∧ j = .int .i64 (jTo La Lb k) ∧ jTo La Lb k ≤ La.length ∧ ∃ n, wr = w4.drewN n) (fun _ i _ => Lb.length - (intOf i).toNat)
    case atStart => exact ⟨0, by omega, rfl, rfl, by simp [jTo], 0, rfl⟩
    case round =>
      obtain ⟨k, hk, rfl, rfl, hj, n, rfl⟩ := hrel
      have hjk := jTo_le La Lb k
      by_cases hin : k < Lb.length ∧ jTo La Lb k < La.length
      · obtain ⟨hk1, hj1⟩ := hin
        obtain ⟨g1, rfl, _, c1⟩ := lb k hk1
        obtain ⟨g2, rfl, _, c2⟩ := la' _ hj1
        have hs := nm_eq
        obtain ⟨x, hx⟩ : ∃ x, x = Lb.getD k 0 := ⟨_, rfl⟩
        obtain ⟨y, hy⟩ : ∃ y, y = La.getD (jTo La Lb k) 0 := ⟨_, rfl⟩
        have hx4 : x < 4 := by rw [hx]; exact Hrb.out k hk1
        have hy4 : y < 4 := by rw [hy]; exact Hra.out _ hj1
        rw [← hx] at c1
        rw [← hy] at c2
        have hst : jTo La Lb (k + 1) = if x = y then jTo La Lb k + 1 else jTo La Lb k := by rw [hx, hy]; rfl
        have Hst : Hid (jTo La Lb (k + 1) = if x = y then jTo La Lb k + 1 else jTo La Lb k) := hst
        clear hst hx hy hs
        generalize jTo La Lb k = j at *
        have i1 : (k : Int) < (Lb.length : Int) := by omega
        have i2 : (j : Int) < (La.length : Int) := by omega
        by_cases hxy : x = y
        · have hq := nm_same hxy
          go_wp2
          go_quiet (fail)
          go_wp2
          go_roundw
          case rel => exact ⟨k + 1, by omega, by go_num, by rw [Hst.out, if_pos hxy]; go_num, by rw [Hst.out, if_pos hxy]; omega, _, rfl⟩
          case measure => simp [intOf]; omega
        · have hq := nm_other hx4 hy4 hxy
          go_wp2
          go_quiet (fail)
          go_wp2
          go_roundw
          case rel => exact ⟨k + 1, by omega, by go_num, by rw [Hst.out, if_neg hxy], by rw [Hst.out, if_neg hxy]; omega, _, rfl⟩
          case measure => simp [intOf]; omega
      · obtain ⟨j, hjj⟩ : ∃ j, j = jTo La Lb k := ⟨_, rfl⟩
        have hjl : j = La.length := by
          have := Hend.out
          by_cases hk1 : k < Lb.length
          · omega
          · obtain rfl : k = Lb.length := by omega
            omega
        rw [← hjj]
        clear hjj hjk hj
        subst hjl
        
        by_cases hk1 : k < Lb.length
        all_goals
          go_upto_region 14 with fail
          go_cut [0, 1, 2, 3, 4, 5, 6, 7, 91] from 22 to 91 (fun s0 s1 s2 s3 s4 s5 s6 s7 s91 wx => s0 = .bool a0 ∧ s1 = .bool a1 ∧ s2 = .bool a2 ∧ s3 = .bool a3 ∧ s4 = .bool b0 ∧ s5 = .bool b1 ∧ s6 = .bool b2 ∧ s7 = .bool b3 ∧ s91 = .bool d0 ∧ w4.drewN n = wx)
          case first =>
            go_wp2_with fail
            all_goals (go_meet; rw [Hd0.out]; simp [*])
          case rest =>
          obtain ⟨rfl, rfl, rfl, rfl, rfl, rfl, rfl, rfl, rfl, rfl⟩ := hcut
          go_upto_if 91 with fail
          go_cut [21, 91] from 22 to 93 (fun s21 s91 wx => s21 = .int .i64 (c0 : Int) ∧ s91 = .bool d0 ∧ w4.drewN n = wx)
          case first =>
            cases hd : d0
            all_goals
              go_wp2_with fail
              go_meet
              exact ⟨by rw [Hc0.out, hd]; simp, by rw [hd], rfl⟩
          case rest =>
          obtain ⟨rfl, rfl, rfl⟩ := hcut
          go_upto_region 16 with fail
          go_cut [0, 1, 2, 3, 4, 5, 6, 7, 98] from 22 to 98 (fun s0 s1 s2 s3 s4 s5 s6 s7 s98 wx => s0 = .bool a0 ∧ s1 = .bool a1 ∧ s2 = .bool a2 ∧ s3 = .bool a3 ∧ s4 = .bool b0 ∧ s5 = .bool b1 ∧ s6 = .bool b2 ∧ s7 = .bool b3 ∧ s98 = .bool d1 ∧ w4.drewN n = wx)
          case first =>
            go_wp2_with fail
            all_goals (go_meet; rw [Hd1.out]; simp [*])
          case rest =>
          obtain ⟨rfl, rfl, rfl, rfl, rfl, rfl, rfl, rfl, rfl, rfl⟩ := hcut
          go_upto_if 98 with fail
          go_cut [21, 98] from 22 to 100 (fun s21 s98 wx => s21 = .int .i64 (c1 : Int) ∧ s98 = .bool d1 ∧ w4.drewN n = wx)
          case first =>
            cases hd : d1
            all_goals
              go_wp2_with fail
              go_meet
              exact ⟨by rw [Hc1.out, hd]; simp, by rw [hd], rfl⟩
          case rest =>
          obtain ⟨rfl, rfl, rfl⟩ := hcut
          go_upto_region 18 with fail
          go_cut [0, 1, 2, 3, 4, 5, 6, 7, 105] from 22 to 105 (fun s0 s1 s2 s3 s4 s5 s6 s7 s105 wx => s0 = .bool a0 ∧ s1 = .bool a1 ∧ s2 = .bool a2 ∧ s3 = .bool a3 ∧ s4 = .bool b0 ∧ s5 = .bool b1 ∧ s6 = .bool b2 ∧ s7 = .bool b3 ∧ s105 = .bool d2 ∧ w4.drewN n = wx)
          case first =>
            go_wp2_with fail
            all_goals (go_meet; rw [Hd2.out]; simp [*])
          case rest =>
          obtain ⟨rfl, rfl, rfl, rfl, rfl, rfl, rfl, rfl, rfl, rfl⟩ := hcut
          go_upto_if 105 with fail
          go_cut [21, 105] from 22 to 107 (fun s21 s105 wx => s21 = .int .i64 (c2 : Int) ∧ s105 = .bool d2 ∧ w4.drewN n = wx)
          case first =>
            cases hd : d2
            all_goals
              go_wp2_with fail
              go_meet
              exact ⟨by rw [Hc2.out, hd]; simp, by rw [hd], rfl⟩
          case rest =>
          obtain ⟨rfl, rfl, rfl⟩ := hcut
          go_upto_region 20 with fail
          go_cut [0, 1, 2, 3, 4, 5, 6, 7, 112] from 22 to 112 (fun s0 s1 s2 s3 s4 s5 s6 s7 s112 wx => s0 = .bool a0 ∧ s1 = .bool a1 ∧ s2 = .bool a2 ∧ s3 = .bool a3 ∧ s4 = .bool b0 ∧ s5 = .bool b1 ∧ s6 = .bool b2 ∧ s7 = .bool b3 ∧ s112 = .bool d3 ∧ w4.drewN n = wx)
          case first =>
            go_wp2_with fail
            all_goals (go_meet; rw [Hd3.out]; simp [*])
          case rest =>
          obtain ⟨rfl, rfl, rfl, rfl, rfl, rfl, rfl, rfl, rfl, rfl⟩ := hcut
          go_upto_if 112 with fail
          go_cut [21, 112] from 22 to 114 (fun s21 s112 wx => s21 = .int .i64 (c3 : Int) ∧ s112 = .bool d3 ∧ w4.drewN n = wx)
          case first =>
            cases hd : d3
            all_goals
              go_wp2_with fail
              go_meet
              exact ⟨by rw [Hc3.out, hd]; simp, by rw [hd], rfl⟩
          case rest =>
          obtain ⟨rfl, rfl, rfl⟩ := hcut
          go_wp2
          go_ret
          exact ⟨ret_true (by rw [beq_iff_eq]; have := Hext'.out; omega), below_drewN hbel n⟩
  · go_wp2
    go_ret
    exact ⟨rfl, Below.refl _ _⟩

/-! ### THE ROW's STEP: WRITTEN OUT: LEAVE IT -/
set_option maxRecDepth 100000 in
theorem lifted (os : Os) (started : os.Started) (H : Type) (enc : TypeId × Value → H) :
    ReturnsInHanded {} Try.checked os 6 .any (Rows.fnMechanismsGrowWithSetFieldsSpec.pre6 enc Try.prog Try.f6 Rows.fnMechanismsGrowWithSetFieldsRow.domain false) (Rows.fnMechanismsGrowWithSetFieldsSpec.post enc Try.prog Try.f6 false true false false) := by
  refine returnsInHanded_of_change (C := Try.checked) own started (by kernel_rfl) Try.func6
    (ChangeSpec.witness6 (enc := enc) (C := Try.checked) false ⟨#[], #[.bool false, .bool false, .bool false, .bool false, .bool false, .bool false, .bool false, .bool false], []⟩ 8 (by kernel_rfl) (by kernel_rfl) (by kernel_rfl) (by kernel_rfl)) ?_
  intro W base args ds gs before hval0 hW hcnd _
  have hval : ∀ (j : Nat) t v, Try.f6.params[j]? = some t → args[j]? = some v → Value.okWide Try.prog W .any base t v := hval0
  have hW' := hW
  obtain ⟨p, q, hA0, hV, rfl, hfz, hnd⟩ := hW
  have hA : DataW.TrodAll enc Try.prog W 0 (fun _ => true) true Try.f6.params.toList args.toList ds p := hA0
  rw [Try.params6] at hA hval
  obtain ⟨v0, vs0, d0, ds0, p0, q0, hargs, rfl, rfl, h0, r0⟩ := trodAll_cons hA
  obtain ⟨v1, vs1, d1, ds1, p1, q1, rfl, rfl, rfl, h1, r1⟩ := trodAll_cons r0
  obtain ⟨v2, vs2, d2, ds2, p2, q2, rfl, rfl, rfl, h2, r2⟩ := trodAll_cons r1
  obtain ⟨v3, vs3, d3, ds3, p3, q3, rfl, rfl, rfl, h3, r3⟩ := trodAll_cons r2
  obtain ⟨v4, vs4, d4, ds4, p4, q4, rfl, rfl, rfl, h4, r4⟩ := trodAll_cons r3
  obtain ⟨v5, vs5, d5, ds5, p5, q5, rfl, rfl, rfl, h5, r5⟩ := trodAll_cons r4
  obtain ⟨v6, vs6, d6, ds6, p6, q6, rfl, rfl, rfl, h6, r6⟩ := trodAll_cons r5
  obtain ⟨v7, vs7, d7, ds7, p7, q7, rfl, rfl, rfl, h7, r7⟩ := trodAll_cons r6
  obtain ⟨rfl, rfl, rfl⟩ := trodAll_nil r7
  obtain rfl : args = #[v0, v1, v2, v3, v4, v5, v6, v7] := by cases args; simp_all
  obtain ⟨rfl, rfl⟩ := trodVars_none hV
  obtain ⟨a0, rfl, rfl, rfl⟩ := open_bool Try.underlying4 (hval 0 4 v0 rfl rfl) h0
  obtain ⟨a1, rfl, rfl, rfl⟩ := open_bool Try.underlying4 (hval 1 4 v1 rfl rfl) h1
  obtain ⟨a2, rfl, rfl, rfl⟩ := open_bool Try.underlying4 (hval 2 4 v2 rfl rfl) h2
  obtain ⟨a3, rfl, rfl, rfl⟩ := open_bool Try.underlying4 (hval 3 4 v3 rfl rfl) h3
  obtain ⟨a4, rfl, rfl, rfl⟩ := open_bool Try.underlying4 (hval 4 4 v4 rfl rfl) h4
  obtain ⟨a5, rfl, rfl, rfl⟩ := open_bool Try.underlying4 (hval 5 4 v5 rfl rfl) h5
  obtain ⟨a6, rfl, rfl, rfl⟩ := open_bool Try.underlying4 (hval 6 4 v6 rfl rfl) h6
  obtain ⟨a7, rfl, rfl, rfl⟩ := open_bool Try.underlying4 (hval 7 4 v7 rfl rfl) h7
  clear hA0 hval0
  simp only [List.append_nil] at hW'
  refine (walk a0 a1 a2 a3 a4 a5 a6 a7 W).mono fun e W' ⟨he, hg⟩ => ?_
  subst he
  exact ⟨_, rfl, _, _, _, [], _, [], hW', trodAll_mk1 (shut_bool Try.underlying4 _), (trodAll_cons_mk (shut_bool Try.underlying4 _) (trodAll_cons_mk (shut_bool Try.underlying4 _) (trodAll_cons_mk (shut_bool Try.underlying4 _) (trodAll_cons_mk (shut_bool Try.underlying4 _) (trodAll_cons_mk (shut_bool Try.underlying4 _) (trodAll_cons_mk (shut_bool Try.underlying4 _) (trodAll_cons_mk (shut_bool Try.underlying4 _) (trodAll_cons_mk (shut_bool Try.underlying4 _) trodAll_mk0)))))))), rfl, hg.frame _, fun h => by cases h⟩

theorem over : Rows.fnMechanismsGrowWithSetFieldsRow.holds Try.pinned (OpenSpec.ofChange Rows.fnMechanismsGrowWithSetFieldsSpec) :=
  OpenClaim.holds_of_wide 6 Try.f6 rfl rfl rfl rfl rfl rfl rfl ⟨rfl, rfl, rfl, rfl, rfl⟩ rfl rfl rfl rfl rfl (by kernel_rfl) Try.func6 (by kernel_rfl)
    (of_decide_eq_true (by kernel_rfl)) (by unfold Func.isWrapper; first | (rw [if_pos (by decide +kernel)]; kernel_rfl) | (rw [if_neg (by decide +kernel)]; exact ⟨rfl, rfl⟩))
    (fun os started H enc _ => lifted os started H enc)

/-- ████ THE STATEMENT ████ -/
theorem proved : Rows.FnMechanismsGrowWithSetFieldsSaid :=
  over
#print axioms proved
end Go.Proofs.Qxb6602235a.fnMechanismsGrowWithSetFields
