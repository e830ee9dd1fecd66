import Derived.Test.Qxb6602235aCaseA
import Derived.Deep.CutRange
import Derived.ProofKit
import Derived.OpenShut
import Derived.ShutString
import Derived.ChangeOld
namespace Go.Proofs.Qxb6602235a.fnMechanismsCaseTable
open Go.ChangeShapes Go.WideShapes Go.ChangeAt Go.RowKit
open Go.ChangeMaps (open_string shut_string)
set_option linter.unusedVariables false

theorem own : ownKnob Try.prog.godebug = none := by kernel_rfl
theorem laidOut : laidOutB Try.prog = true := by kernel_rfl

theorem owns_store {w wr : World} {n k : Nat} {B : Nat} {xs : List Value} (h : wr.ownsRow B 9 1 (.slice (some ⟨B, 0, none⟩) n n) n xs) (hb : Below B w wr) (u : Value) :
    (∃ xs', (wr.setCell ⟨B, k, none⟩ u).ownsRow B 9 1 (.slice (some ⟨B, 0, none⟩) n n) n xs') ∧ Below B w (wr.setCell ⟨B, k, none⟩ u) :=
  ⟨⟨_, (h.stored k u).1⟩, hb.setCell (Nat.le_refl _) u⟩
theorem owns_cell {wr : World} {n k B : Nat} {xs : List Value} (h : wr.ownsRow B 9 1 (.slice (some ⟨B, 0, none⟩) n n) n xs) (hk : k < n) : ∃ v, wr.cell? ⟨B, k, none⟩ = some v := by
  have hl := h.1
  rw [h.cellAt k (by omega)]
  exact ⟨xs[k]'(by omega), by simp [show k < xs.length by omega]⟩

theorem nil_same {w : World} {ga : Option Addr} {cga : Nat} {L : List Nat} (la : leads w ga L) (h : Value.slice ga L.length cga = .slice none 0 0 ↔ L = []) : ga.isNone = L.isEmpty := by
  cases L with
  | nil => have := h.2 rfl; simp at this; simp [this.1]
  | cons x l => obtain ⟨g, e, _⟩ := la 0 (by simp); simp [e]

set_option maxHeartbeats 16000000 in
set_option maxRecDepth 100000 in
theorem walk (a0 a2 a4 a6 : Bool) (a1 : Option Addr) (l1 c1 : Nat) (s3 s5 s7 : ByteArray) (p : Int) (ss : Nat → ByteArray) (w : World) (hr : strRow w a1 l1 ss) (h1 : l1 ≤ maxLen) (h3 : s3.size ≤ maxLen) (h5 : s5.size ≤ maxLen) (h7 : s7.size ≤ maxLen) :
    Calls Try.prog 4 #[.bool a0, .slice a1 l1 c1, .bool a2, .string s3, .bool a4, .string s5, .bool a6, .string s7, .int .i32 p] w fun e w' => e = .returned (.bool true) ∧ Below w.heap.size w w' := by
  have kn := fun wx => run_neq_slice_nil_any (P := Try.prog) wx 25 9 a1 l1 c1 0 0 Try.underlying25
  obtain ⟨i0, hi, hz0, hz1, hz2⟩ := info_parts info9
  go_enter Try.func4, Try.ntmps4
  go_wp2_with fail
  refine (bytes_any a0 a2 a4 a6 a1 l1 c1 s3 s5 s7 p ss w hr h1 h3 h5 h7).mono ?_
  rintro e w' ⟨⟨b, rfl⟩, rfl⟩
  unfold maxLen at h1 h3 h5 h7
  cases b
  · go_wp2
    go_ret
    exact ⟨rfl, Below.refl _ _⟩
  rcases (show 65536 < l1 ∨ (l1 ≤ 65536 ∧ 1048576 < s3.size) ∨ (l1 ≤ 65536 ∧ s3.size ≤ 1048576 ∧ 1048576 < s5.size) ∨ (l1 ≤ 65536 ∧ s3.size ≤ 1048576 ∧ s5.size ≤ 1048576 ∧ 1048576 < s7.size) ∨ (l1 ≤ 65536 ∧ s3.size ≤ 1048576 ∧ s5.size ≤ 1048576 ∧ s7.size ≤ 1048576) by omega) with q | ⟨q1, q⟩ | ⟨q1, q3, q⟩ | ⟨q1, q3, q5, q⟩ | ⟨q1, q3, q5, q7⟩
  · go_wp2
    go_ret
    exact ⟨rfl, Below.refl _ _⟩
  · go_wp2
    go_ret
    exact ⟨rfl, Below.refl _ _⟩
  · go_wp2
    go_ret
    exact ⟨rfl, Below.refl _ _⟩
  · go_wp2
    go_ret
    exact ⟨rfl, Below.refl _ _⟩
  by_cases q : 1048576 < 16 * l1 + s3.size + s5.size + s7.size
  · go_wp2
    go_ret
    exact ⟨rfl, Below.refl _ _⟩
  go_wp2
  go_loopw [19, 20] (fun z i wr => ∃ k : Nat, k ≤ l1 ∧ i = .int .i64 k ∧ w' = wr ∧ ∃ y : Int, 0 ≤ y ∧ y ≤ 1048576 ∧ z = .int .i64 y) (fun _ i _ => l1 - (intOf i).toNat)
  case atStart => exact ⟨0, by omega, rfl, rfl, 16 * l1 + s3.size + s5.size + s7.size, by omega, by omega, rfl⟩
  case round =>
    obtain ⟨k, hk, rfl, rfl, y, hy0, hy1, rfl⟩ := hrel
    by_cases hlt : k < l1
    · obtain ⟨b, off, rfl, _, hc, hz⟩ := hr k hlt
      unfold maxLen at hz
      generalize ss k = s at *
      have i1 : (k : Int) < (l1 : Int) := by omega
      clear kn
      go_wp2
      all_goals first | (go_ret; exact ⟨rfl, Below.refl _ _⟩) | (go_roundw; (case rel => exact ⟨k + 1, by omega, by go_num, trivial, _, by omega, by omega, rfl⟩); (case measure => simp [intOf]; omega))
    · go_upto_if 91 with fail
      go_cut [1, 21, 22] from 26 to 108 (fun s1 s21 s22 wx => (∃ oa n c, s1 = .slice oa n c) ∧ Below w'.heap.size w' wx)
      case first =>
        cases a1 with
        | none =>
          go_wp2
          go_meet
          exact ⟨⟨_, _, _, rfl⟩, Below.refl _ _⟩
        | some ad =>
          go_wp2_with (at_make; refine wpList_make_full _ rfl _ _ 25 rfl w'.heap.size 9 i0 (.string ⟨#[]⟩) 1 Try.underlying25 hi hz0 hz1 _ _ _ _ l1 rfl rfl rfl rfl ?b2 ?b3 (Nat.le_refl _) ?_)
          case b2 => rw [hz2]; omega
          case b3 => unfold maxLen; omega
          intro w1 hown hg
          have hbel : Below w'.heap.size w' w1 := (Below.refl _ _).grown hg (Nat.le_refl _) (fun _ h => by cases h)
          have hown' : ∃ xs, w1.ownsRow w'.heap.size 9 1 (.slice (some ⟨w'.heap.size, 0, none⟩) l1 l1) l1 xs := ⟨_, hown⟩
          clear hown hg
          go_wp2
          go_loopw [22] (fun i wr => ∃ k : Nat, k ≤ l1 ∧ i = .int .i64 k ∧ (∃ xs, wr.ownsRow w'.heap.size 9 1 (.slice (some ⟨w'.heap.size, 0, none⟩) l1 l1) l1 xs) ∧ Below w'.heap.size w' wr) (fun i _ => l1 - (intOf i).toNat)
          case atStart => exact ⟨0, by omega, rfl, hown', hbel⟩
          case round =>
            obtain ⟨k, hk, rfl, ⟨xs, hown⟩, hb⟩ := hrel
            by_cases hlt : k < l1
            · obtain ⟨b, off, he, hbl, hc, hz⟩ := hr k hlt
              obtain rfl : ad = ⟨b, off, none⟩ := by simpa using he
              have hc' : wr.cell? ⟨b, off + k, none⟩ = some (.string (ss k)) := (hb.cell (p := ⟨b, off + k, none⟩) hbl).trans hc
              obtain ⟨v0, hv0⟩ := owns_cell hown hlt
              have hf := hown.frozenAt k
              have hst := owns_store (k := k) hown hb (.string (ss k))
              have i1 : (k : Int) < (l1 : Int) := by omega
              have Hst : Hid ((∃ xs', (wr.setCell ⟨w'.heap.size, k, none⟩ (.string (ss k))).ownsRow w'.heap.size 9 1 (.slice (some ⟨w'.heap.size, 0, none⟩) l1 l1) l1 xs') ∧ Below w'.heap.size w' (wr.setCell ⟨w'.heap.size, k, none⟩ (.string (ss k)))) := hst
              clear hst he kn hc hz hown hown' hbel
              go_wp2
              go_roundw
              case rel => exact ⟨k + 1, by omega, by go_num, Hst.out.1, Hst.out.2⟩
              case measure => simp [intOf]; omega
            · go_wp2
              go_meet
              exact ⟨⟨_, _, _, rfl⟩, hb⟩
      case rest =>
      obtain ⟨⟨oa, n, c, rfl⟩, hbel⟩ := hcut
      clear hr kn
      have hs := hbel.size
      have Z : Hid _ := zz_any a0 a2 a4 a6
      have T : Hid _ := table_any a0 a2 a4 a6
      have hlen := ranks_len a0 a2 a4 a6
      clear hi hz0 hz1 hz2 hk hlt hy0 hy1 q q1 q3 q5 q7 h1 h3 h5 h7
      cases a0 <;> cases a2 <;> cases a4 <;> cases a6
      all_goals
        go_wp2_with fail
        refine (Z.out wc.heap.size _ (by simp [fieldIs, go_sem]) (by simp [fieldIs, go_sem]) (by simp [fieldIs, go_sem]) (by simp [fieldIs, go_sem])).mono ?_
        rintro e w2 ⟨v, rfl, hown, hnil, hb2⟩
        obtain ⟨ga, cga, rfl, la⟩ := leads_of_owns hown
        have na := nil_same la hnil
        have Na : Hid _ := na
        have hbel2 : Below w'.heap.size w' w2 := by
          refine Below.trans ?_ (hb2.mono ?_)
          · repeat (first | exact hbel | refine Below.alloc ?_ (by first | omega | (simp; omega)) _)
          · simp; omega
        clear hown hnil na hb2
        go_wp2_with fail
        refine (T.out _ (by rfl) _).mono ?_
        rintro e w3 ⟨v, rfl, hown, hnil, hb3⟩
        obtain ⟨gb, cgb, rfl, lb⟩ := leads_of_owns hown
        have nb := nil_same lb hnil
        have Nb : Hid _ := nb
        have hbel3 : Below w'.heap.size w' w3 := hbel2.trans (hb3.mono hbel2.size)
        have la3 := leads_below la hb3 (Nat.le_refl _)
        clear hown hnil nb hb3 la
        go_wp2_with fail
        refine (same_any ga gb cga cgb _ hlen (Na.out.trans Nb.out.symm) w3 la3 lb).mono ?_
        rintro e w4 ⟨rfl, n, rfl⟩
        go_wp2
        go_ret
        exact ⟨rfl, below_drewN hbel3 _⟩
end Go.Proofs.Qxb6602235a.fnMechanismsCaseTable
