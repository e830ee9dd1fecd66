import Derived.Test.Qxb6602235aMech
import Derived.Maps.AppendAt
namespace Go.Proofs.Qxb6602235a
open Go.RowKit
theorem info9 : (Try.prog.info? 9).map (fun i => (i.zero, i.size, i.bytes)) = some (some (.string ⟨#[]⟩), 1, 16) := by kernel_rfl

theorem rel_keep {e h t g : Bool} {k B : Nat} {W w w1 : World} {v v' : Value} {o1 o2 : Obj} (hf : flag e h t g k = true) (hbel : Below (B + 1) W w) (hB : B + 1 ≤ w.heap.size)
    (hown : w.ownsRow (B + 1) 9 1 v (ranksTo e h t g k).length (vals (ranksTo e h t g k)))
    (hown' : w1.ownsRow (B + 1) 9 1 v' ((ranksTo e h t g k).length + 1) (vals (ranksTo e h t g k) ++ [.string (nm k)])) (hg : ((w.alloc o1).alloc o2).grownBy w1 v.ownBlock) :
    w1.ownsRow (B + 1) 9 1 v' (ranksTo e h t g (k + 1)).length (vals (ranksTo e h t g (k + 1))) ∧ Below (B + 1) W w1 := by
  rw [ranksTo_yes hf]
  refine ⟨by simpa [vals] using hown', ?_⟩
  exact ((hbel.alloc hB o1).alloc (by simp; omega) o2).grown hg (by simp; omega) (fun k hk => (hown.lt k hk).1)

set_option maxHeartbeats 4000000 in
/-- mechanisms: the names of the fields that are set, in a row of the call's own; nil where none is set. -/
theorem mechs_any (e h t g : Bool) (b : Nat) (w : World) (h0 : fieldIs w b 0 e) (h1 : fieldIs w b 1 h) (h2 : fieldIs w b 2 t) (h3 : fieldIs w b 3 g) :
    Calls Try.prog 15 #[.pointer (some ⟨b, 0, none⟩)] w fun r w' => ∃ v, r = .returned v ∧ w'.ownsRow (w.heap.size + 1) 9 1 v (ranks e h t g).length (vals (ranks e h t g)) ∧ (v = .slice none 0 0 ↔ ranks e h t g = []) ∧ Below w.heap.size w w' := by
  obtain ⟨p0, c0, e0⟩ := h0
  obtain ⟨p1, c1, e1⟩ := h1
  obtain ⟨p2, c2, e2⟩ := h2
  obtain ⟨p3, c3, e3⟩ := h3
  obtain ⟨i0, hi, hz0, hz1, hz2⟩ := info_parts info9
  go_enter Try.func15, Try.ntmps15
  go_wp2
  go_region_held3 (fun w' => w'.cell? ⟨b, 0, none⟩ = some (.pointer p0) ∧ w'.cell? ⟨b, 1, none⟩ = some (.pointer p1) ∧ w'.cell? ⟨b, 2, none⟩ = some (.pointer p2) ∧ w'.cell? ⟨b, 3, none⟩ = some (.pointer p3)) (go_keep) (fail)
  go_wp2
  clear c0 c1 c2 c3 e0 e1 e2 e3
  go_loopw [3, 32] (fun v i wr => ∃ k : Nat, k ≤ 4 ∧ i = .int .i64 k ∧ wr.ownsRow (w.heap.size + 1) 9 1 v (ranksTo e h t g k).length (vals (ranksTo e h t g k)) ∧ (v = .slice none 0 0 ↔ ranksTo e h t g k = []) ∧ Below (w.heap.size + 1) (w.alloc (table e h t g)).drew wr) (fun _ i _ => 4 - (intOf i).toNat)
  case atStart => exact ⟨0, by omega, rfl, World.ownsRow_nil _ _ _ _, by simp [ranksTo], Below.refl _ _⟩
  case round =>
    obtain ⟨k, hk, rfl, hown, hnil, hbel⟩ := hrel
    by_cases hlt : k < 4
    · have hlen := ranksTo_len e h t g k
      have hsz : w.heap.size + 1 ≤ wr.heap.size := by have := hbel.size; simpa using this
      obtain ⟨hc1, hc2⟩ := table_cells hbel hlt
      by_cases hf : flag e h t g k = true
      · rw [hf] at hc2
        go_wp2_with (at_builtin; refine wpList_append_own _ rfl _ _ 25 rfl (w.heap.size + 1) 9 i0 (.string ⟨#[]⟩) 1 16 Try.underlying25 hi hz0 hz1 hz2 rfl (by decide) _ _ _ rfl ((hown.alloc _).alloc _) ⟨wr.heap.size + 1, 0, none⟩ 1 1 [.string (nm k)] rfl rfl ?c1 ?c2 ?c3 ?c4 ?c5 ?_)
        case c1 =>
          intro j u hj
          match j, hj with
          | 0, hj => simp at hj; subst hj; simp [Addr.add]
        case c2 => intro u hu; simp at hu; subst hu; rfl
        case c3 => unfold maxLen; omega
        case c4 => omega
        case c5 => simp; omega
        intro v' w1 hown' hgrow hn'
        have R := rel_keep hf hbel hsz hown hown' hgrow
        clear hown' hgrow hown hc1 hc2
        go_wp2
        go_roundw
        case rel => exact ⟨k + 1, by omega, by go_num, R.1, by rw [ranksTo_yes hf]; simp [hn'], R.2⟩
        case measure => simp [intOf]; omega
      · have hf' : flag e h t g k = false := by simpa using hf
        rw [hf'] at hc2
        go_wp2
        go_roundw
        case rel => exact ⟨k + 1, by omega, by go_num, by rw [ranksTo_no hf']; exact hown.alloc _, by rw [ranksTo_no hf']; exact hnil, hbel.alloc (by omega) _⟩
        case measure => simp [intOf]; omega
    · obtain rfl : k = 4 := by omega
      go_wp2
      go_ret
      exact ⟨_, rfl, hown, hnil, (((Below.refl _ _).alloc (Nat.le_refl _) _).drew).trans (hbel.mono (by omega))⟩
end Go.Proofs.Qxb6602235a
