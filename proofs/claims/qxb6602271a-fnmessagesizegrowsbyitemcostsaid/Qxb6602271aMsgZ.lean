import Derived.Test.Qxb6602271aMsgA
namespace Go.Proofs.Qxb6602271a
open Go.RowKit
theorem below5 (w : World) (o1 o2 o3 o4 o5 : Obj) : Below w.heap.size w (((((w.alloc o1).alloc o2).alloc o3).alloc o4).alloc o5) :=
  (((((Below.refl _ _).alloc (Nat.le_refl _) _).alloc (by simp) _).alloc (by simp; omega) _).alloc (by simp; omega) _).alloc (by simp; omega) _

section
variable (i0 i1 i2 i3 i4 i5 i6 j0 k0 k1 k2 : Int) (va da oa ba ea ca sa ta : Option Addr) (vl vc dl dc ol oc bl bc el ec cl cc sl sc tl tc : Nat)
set_option maxHeartbeats 16000000 in
set_option maxRecDepth 100000 in
theorem zz23_any (V D C : Nat → DestV) (O : Nat → OptV) (X : Nat → ExtV) (e1 : Int) (e2 : Bool) (xa : Option Addr) (xl xc : Nat) (d1 : Int) (ga : Option Addr) (gl gc : Nat) (w : World) (h1 : vl ≤ maxLen) (h2 : dl ≤ maxLen) (h3 : ol ≤ maxLen) (h4 : el ≤ maxLen) (h5 : cl ≤ maxLen)
    (h6 : bl ≤ maxLen) (h7 : sl ≤ maxLen) (h8 : tl ≤ maxLen) (h9 : xl ≤ maxLen) (h10 : gl ≤ maxLen) (rV : destRow w va vl V) (rD : destRow w da dl D) (rO : optRow w oa ol O) (rX : extRow w ea el X) (rC : destRow w ca cl C) :
    Calls Try.prog 23 #[hdrV i0 i1 i2 i3 i4 i5 i6 va da oa vl vc dl dc ol oc, conV j0 ba ea bl bc el ec, secV k0 k1 k2 ca sa ta cl cc sl sc tl tc, .agg #[.int .u16 e1, .bool e2, .slice xa xl xc], .agg #[.int .u8 d1, .slice ga gl gc]] w fun e w' => isBool e ∧ Below w.heap.size w w' := by
  unfold hdrV conV secV
  unfold maxLen at h1 h2 h3 h4 h5 h6 h7 h8 h9 h10
  go_enter Try.func23, Try.ntmps23
  go_wp2
  all_goals try (go_ret; exact ⟨isBool_mk _, below5 _ _ _ _ _ _⟩)
  go_loop [11, 12] (fun z i => ∃ k : Nat, k ≤ vl ∧ i = .int .i64 k ∧ ∃ y : Int, 0 ≤ y ∧ y ≤ 1048576 ∧ z = .int .i64 y) (fun _ i => vl - (intOf i).toNat)
  case atStart => exact ⟨0, by omega, rfl, _, by omega, by omega, rfl⟩
  case round =>
    obtain ⟨k, hk, rfl, y, hy0, hy1, rfl⟩ := hrel
    by_cases hlt : k < vl
    · obtain ⟨b, off, rfl, hbl, ⟨_, hc⟩, _, hz⟩ := rV k hlt
      unfold maxLen at hz
      generalize V k = x at *
      obtain ⟨x1, x2, x3, x4⟩ := x
      simp only at hc hz
      have i1 : (k : Int) < (vl : Int) := by omega
      have hc' := fun o1 o2 o3 o4 o5 => ((below5 w o1 o2 o3 o4 o5).cell (p := ⟨b, off + k * 2 + 1, none⟩) hbl).trans hc
      go_wp2
      all_goals first | (go_ret; exact ⟨isBool_mk _, below5 _ _ _ _ _ _⟩) | (go_round; (case rel => exact ⟨k + 1, by omega, by go_num, _, by omega, by omega, rfl⟩); (case measure => simp [intOf]; omega))
    · clear rV
      go_wp2
      all_goals try (go_ret; exact ⟨isBool_mk _, below5 _ _ _ _ _ _⟩)
      go_loop [11, 13] (fun z i => ∃ k : Nat, k ≤ dl ∧ i = .int .i64 k ∧ ∃ y : Int, 0 ≤ y ∧ y ≤ 1048576 ∧ z = .int .i64 y) (fun _ i => dl - (intOf i).toNat)
      case atStart => exact ⟨0, by omega, rfl, _, by omega, by omega, rfl⟩
      case round =>
        obtain ⟨k, hk, rfl, y, hy0, hy1, rfl⟩ := hrel
        by_cases hlt : k < dl
        · obtain ⟨b, off, rfl, hbl, ⟨_, hc⟩, _, hz⟩ := rD k hlt
          unfold maxLen at hz
          generalize D k = x at *
          obtain ⟨x1, x2, x3, x4⟩ := x
          simp only at hc hz
          have i1 : (k : Int) < (dl : Int) := by omega
          have hc' := fun o1 o2 o3 o4 o5 => ((below5 w o1 o2 o3 o4 o5).cell (p := ⟨b, off + k * 2 + 1, none⟩) hbl).trans hc
          go_wp2
          all_goals first | (go_ret; exact ⟨isBool_mk _, below5 _ _ _ _ _ _⟩) | (go_round; (case rel => exact ⟨k + 1, by omega, by go_num, _, by omega, by omega, rfl⟩); (case measure => simp [intOf]; omega))
        · clear rD
          go_wp2
          all_goals try (go_ret; exact ⟨isBool_mk _, below5 _ _ _ _ _ _⟩)
          go_loop [11, 14] (fun z i => ∃ k : Nat, k ≤ ol ∧ i = .int .i64 k ∧ ∃ y : Int, 0 ≤ y ∧ y ≤ 1048576 ∧ z = .int .i64 y) (fun _ i => ol - (intOf i).toNat)
          case atStart => exact ⟨0, by omega, rfl, _, by omega, by omega, rfl⟩
          case round =>
            obtain ⟨k, hk, rfl, y, hy0, hy1, rfl⟩ := hrel
            by_cases hlt : k < ol
            · obtain ⟨b, off, rfl, hbl, ⟨_, _, hc⟩, _, hz⟩ := rO k hlt
              unfold maxLen at hz
              generalize O k = x at *
              obtain ⟨x1, x2, x3, x4, x5⟩ := x
              simp only at hc hz
              have i1 : (k : Int) < (ol : Int) := by omega
              have hc' := fun o1 o2 o3 o4 o5 => ((below5 w o1 o2 o3 o4 o5).cell (p := ⟨b, off + k * 3 + 2, none⟩) hbl).trans hc
              go_wp2
              all_goals first | (go_ret; exact ⟨isBool_mk _, below5 _ _ _ _ _ _⟩) | (go_round; (case rel => exact ⟨k + 1, by omega, by go_num, _, by omega, by omega, rfl⟩); (case measure => simp [intOf]; omega))
            · clear rO
              go_wp2
              all_goals try (go_ret; exact ⟨isBool_mk _, below5 _ _ _ _ _ _⟩)
              go_loop [11, 15] (fun z i => ∃ k : Nat, k ≤ el ∧ i = .int .i64 k ∧ ∃ y : Int, 0 ≤ y ∧ y ≤ 1048576 ∧ z = .int .i64 y) (fun _ i => el - (intOf i).toNat)
              case atStart => exact ⟨0, by omega, rfl, _, by omega, by omega, rfl⟩
              case round =>
                obtain ⟨k, hk, rfl, y, hy0, hy1, rfl⟩ := hrel
                by_cases hlt : k < el
                · obtain ⟨b, off, rfl, hbl, ⟨_, _, hc⟩, _, hz⟩ := rX k hlt
                  unfold maxLen at hz
                  generalize X k = x at *
                  obtain ⟨x1, x2, x3, x4, x5⟩ := x
                  simp only at hc hz
                  have i1 : (k : Int) < (el : Int) := by omega
                  have hc' := fun o1 o2 o3 o4 o5 => ((below5 w o1 o2 o3 o4 o5).cell (p := ⟨b, off + k * 3 + 2, none⟩) hbl).trans hc
                  go_wp2
                  all_goals first | (go_ret; exact ⟨isBool_mk _, below5 _ _ _ _ _ _⟩) | (go_round; (case rel => exact ⟨k + 1, by omega, by go_num, _, by omega, by omega, rfl⟩); (case measure => simp [intOf]; omega))
                · clear rX
                  go_wp2
                  all_goals try (go_ret; exact ⟨isBool_mk _, below5 _ _ _ _ _ _⟩)
                  go_loop [11, 16] (fun z i => ∃ k : Nat, k ≤ cl ∧ i = .int .i64 k ∧ ∃ y : Int, 0 ≤ y ∧ y ≤ 1048576 ∧ z = .int .i64 y) (fun _ i => cl - (intOf i).toNat)
                  case atStart => exact ⟨0, by omega, rfl, _, by omega, by omega, rfl⟩
                  case round =>
                    obtain ⟨k, hk, rfl, y, hy0, hy1, rfl⟩ := hrel
                    by_cases hlt : k < cl
                    · obtain ⟨b, off, rfl, hbl, ⟨_, hc⟩, _, hz⟩ := rC k hlt
                      unfold maxLen at hz
                      generalize C k = x at *
                      obtain ⟨x1, x2, x3, x4⟩ := x
                      simp only at hc hz
                      have i1 : (k : Int) < (cl : Int) := by omega
                      have hc' := fun o1 o2 o3 o4 o5 => ((below5 w o1 o2 o3 o4 o5).cell (p := ⟨b, off + k * 2 + 1, none⟩) hbl).trans hc
                      go_wp2
                      all_goals first | (go_ret; exact ⟨isBool_mk _, below5 _ _ _ _ _ _⟩) | (go_round; (case rel => exact ⟨k + 1, by omega, by go_num, _, by omega, by omega, rfl⟩); (case measure => simp [intOf]; omega))
                    · clear rC
                      go_wp2
                      all_goals try (go_ret; exact ⟨isBool_mk _, below5 _ _ _ _ _ _⟩)
end
end Go.Proofs.Qxb6602271a
