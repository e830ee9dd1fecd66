import Derived.Test.Qxb6602271aMsgC
namespace Go.Proofs.Qxb6602271a
open Go.RowKit

/-! ### Plain: sums of costs -/
def cost (c : Nat) (f : Nat → Nat) : Nat → Nat
  | 0 => 0
  | n + 1 => cost c f n + (c + f n)
theorem cost_le {c : Nat} {f : Nat → Nat} {M : Nat} : ∀ {n : Nat}, (∀ i, i < n → f i ≤ M) → cost c f n ≤ n * (c + M)
  | 0, _ => by simp [cost]
  | n + 1, h => by
    have h1 := cost_le (c := c) (n := n) fun i hi => h i (by omega)
    have h2 := h n (by omega)
    rw [cost, Nat.add_mul, Nat.one_mul]
    omega
theorem cost_cap {c n : Nat} {f : Nat → Nat} (hc : c ≤ 7) (hn : n ≤ 65537) (h : ∀ i, i < n → f i ≤ 1048576) {k : Nat} (hk : k ≤ n) : cost c f k ≤ 68720984071 := by
  have h1 := cost_le (c := c) (n := k) (M := 1048576) fun i hi => h i (by omega)
  have h2 : k * (c + 1048576) ≤ 65537 * (7 + 1048576) := Nat.mul_le_mul (by omega) (by omega)
  omega
theorem cost_congr {c : Nat} {f g : Nat → Nat} : ∀ {n : Nat}, (∀ i, i < n → f i = g i) → cost c f n = cost c g n
  | 0, _ => rfl
  | n + 1, h => by rw [cost, cost, cost_congr fun i hi => h i (by omega), h n (by omega)]

/-- What size() answers. -/
def total (bl sl tl vl dl ol el cl : Nat) (V D O X C : Nat → Nat) : Nat := 64 + bl + cost 3 V vl + cost 3 D dl + cost 4 O ol + cost 7 X el + cost 3 C cl + 16 + sl + tl

section
variable (va da oa ba ea ca sa ta : Option Addr) (vl vc dl dc ol oc bl bc el ec cl cc sl sc tl tc : Nat)
/-- What size() reads of a message at block B. -/
def msgCells (w : World) (B : Nat) : Prop := w.cell? ⟨B, 7, none⟩ = some (.slice va vl vc) ∧ w.cell? ⟨B, 8, none⟩ = some (.slice da dl dc) ∧ w.cell? ⟨B, 9, none⟩ = some (.slice oa ol oc) ∧ w.cell? ⟨B, 11, none⟩ = some (.slice ba bl bc) ∧ w.cell? ⟨B, 12, none⟩ = some (.slice ea el ec) ∧ w.cell? ⟨B, 13, none⟩ = some (.slice ca cl cc) ∧ w.cell? ⟨B, 17, none⟩ = some (.slice sa sl sc) ∧ w.cell? ⟨B, 18, none⟩ = some (.slice ta tl tc)

set_option maxHeartbeats 16000000 in
set_option maxRecDepth 100000 in
theorem size_any (V D C : Nat → DestV) (O : Nat → OptV) (X : Nat → ExtV) (B : Nat) (w : World) (hB : B < w.heap.size) (hc : msgCells va da oa ba ea ca sa ta vl vc dl dc ol oc bl bc el ec cl cc sl sc tl tc w B)
    (rV : destRow w va vl V) (rD : destRow w da dl D) (rO : optRow w oa ol O) (rX : extRow w ea el X) (rC : destRow w ca cl C)
    (hnv : vl ≤ 65537) (hnd : dl ≤ 65537) (hno : ol ≤ 65537) (hne : el ≤ 65537) (hnc : cl ≤ 65537) (hb : bl ≤ 1048576) (hs : sl ≤ 1048576) (ht : tl ≤ 1048576)
    (lV : ∀ i, i < vl → (V i).cl ≤ 1048576) (lD : ∀ i, i < dl → (D i).cl ≤ 1048576) (lO : ∀ i, i < ol → (O i).cl ≤ 1048576) (lX : ∀ i, i < el → (X i).cl ≤ 1048576) (lC : ∀ i, i < cl → (C i).cl ≤ 1048576) :
    Calls Try.prog 49 #[.pointer (some ⟨B, 0, none⟩)] w fun e w' => e = .returned (.int .i64 (total bl sl tl vl dl ol el cl (fun i => (V i).cl) (fun i => (D i).cl) (fun i => (O i).cl) (fun i => (X i).cl) (fun i => (C i).cl) : Int)) ∧ Below w.heap.size w w' := by
  obtain ⟨c7, c8, c9, c11, c12, c13, c17, c18⟩ := hc
  go_enter Try.func49, Try.ntmps49
  go_wp2
  go_region_held3 (fun w' => w'.cell? ⟨B, 7, none⟩ = some (.slice va vl vc) ∧ w'.cell? ⟨B, 8, none⟩ = some (.slice da dl dc)) (go_keep) (fail)
  obtain ⟨A0, hA0⟩ : ∃ x, x = 64 + bl := ⟨_, rfl⟩
  obtain ⟨A1, hA1⟩ : ∃ x, x = A0 + cost 3 (fun i => (V i).cl) vl := ⟨_, rfl⟩
  obtain ⟨A2, hA2⟩ : ∃ x, x = A1 + cost 3 (fun i => (D i).cl) dl := ⟨_, rfl⟩
  have kV := cost_cap (c := 3) (by decide) hnv lV (Nat.le_refl _)
  have kD := cost_cap (c := 3) (by decide) hnd lD (Nat.le_refl _)
  have kO := cost_cap (c := 4) (by decide) hno lO (Nat.le_refl _)
  have kX := cost_cap (c := 7) (by decide) hne lX (Nat.le_refl _)
  have kC := cost_cap (c := 3) (by decide) hnc lC (Nat.le_refl _)
  have bA0 : A0 ≤ 2000000 := by omega
  have bA1 : A1 ≤ 68722984071 := by omega
  have bA2 : A2 ≤ 137443968142 := by omega
  obtain ⟨A3, hA3⟩ : ∃ x, x = A2 + cost 4 (fun i => (O i).cl) ol := ⟨_, rfl⟩
  obtain ⟨A4, hA4⟩ : ∃ x, x = A3 + cost 7 (fun i => (X i).cl) el := ⟨_, rfl⟩
  have bA3 : A3 ≤ 206164952213 := by omega
  have bA4 : A4 ≤ 274885936284 := by omega
  have HA3 : Hid (A3 = A2 + cost 4 (fun i => (O i).cl) ol) := hA3
  have HA4 : Hid (A4 = A3 + cost 7 (fun i => (X i).cl) el) := hA4
  clear hA3 hA4
  have HA0 : Hid (A0 = 64 + bl) := hA0
  have HA1 : Hid (A1 = A0 + cost 3 (fun i => (V i).cl) vl) := hA1
  have HA2 : Hid (A2 = A1 + cost 3 (fun i => (D i).cl) dl) := hA2
  have KO : Hid _ := kO
  have KX : Hid _ := kX
  have KC : Hid _ := kC
  clear hA0 hA1 hA2 kV kD kO kX kC
  go_wp2
  go_loopw [3, 33] (fun s3 i wr => ∃ c : Nat, c ≤ 2 ∧ i = .int .i64 c ∧ s3 = .int .i64 ((match c with | 0 => A0 | 1 => A1 | _ => A2 : Nat) : Int) ∧ Below (w.heap.size + 1) (w.alloc (.cells #[.slice va vl vc, .slice da dl dc] 43)).drew wr) (fun _ i _ => 2 - (intOf i).toNat)
  case atStart => exact ⟨0, by omega, rfl, congrArg (Value.int .i64) (by have := HA0.out; show _ = (A0 : Int); omega), Below.refl _ _⟩
  case round =>
    obtain ⟨c, hc2, rfl, rfl, hbel⟩ := hrel
    have q0 : wr.cell? ⟨w.heap.size, 0, none⟩ = some (.slice va vl vc) := (hbel.cell (p := ⟨w.heap.size, 0, none⟩) (by simp)).trans (by simp [go_sem])
    have q1 : wr.cell? ⟨w.heap.size, 1, none⟩ = some (.slice da dl dc) := (hbel.cell (p := ⟨w.heap.size, 1, none⟩) (by simp)).trans (by simp [go_sem])
    rcases (show c = 0 ∨ c = 1 ∨ c = 2 by omega) with rfl | rfl | rfl
    · show Code.wp _ _ _ _ _
      simp only
      go_wp2
      go_loopw [3, 39] (fun s3 i wr => ∃ k y : Nat, k ≤ vl ∧ i = .int .i64 k ∧ s3 = .int .i64 (y : Int) ∧ Hid (y = A0 + cost 3 (fun i => (V i).cl) k) ∧ Below (w.heap.size + 1) (w.alloc (.cells #[.slice va vl vc, .slice da dl dc] 43)).drew wr) (fun _ i _ => vl - (intOf i).toNat)
      case atStart => exact ⟨0, A0, by omega, rfl, rfl, rfl, hbel⟩
      case round =>
        obtain ⟨k, y, hk, rfl, rfl, hy, hbel2⟩ := hrel
        have hcap := cost_cap (c := 3) (by decide) hnv lV hk
        have hyb : y ≤ 68722984071 := by have := hy.out; omega
        have hall2 : Below w.heap.size w wr := (((Below.refl _ _).alloc (Nat.le_refl _) _).drew).trans (hbel2.mono (by omega))
        have hsz2 : w.heap.size < wr.heap.size := by have := hbel2.size; simp at this; omega
        by_cases hlt : k < vl
        · obtain ⟨b, off, rfl, hbl, hcc, _, _⟩ := rV k hlt
          obtain ⟨e0, e1⟩ := hcc.below hall2 hbl
          have hlk := lV k hlt
          have hnew : Hid (y + (3 + (V k).cl) = A0 + cost 3 (fun i => (V i).cl) (k + 1)) := by show _ = _; rw [cost, hy.out]; omega
          generalize V k = x at *
          obtain ⟨x1, x2, x3, x4⟩ := x
          simp only at e0 e1 hlk hnew
          have i1 : (k : Int) < (vl : Int) := by omega
          clear hcc hcap
          go_wp2
          go_roundw
          case rel => exact ⟨k + 1, y + (3 + x3), by omega, by go_num, by go_num, hnew, hbel2.alloc (by omega) _⟩
          case measure => simp [intOf]; omega
        · obtain rfl : vl = k := by omega
          clear hcap hlt
          go_wp2
          obtain rfl : A1 = y := by have h1 := hy.out; have h2 := HA1.out; omega
          go_roundw
          case rel => exact ⟨1, by omega, rfl, rfl, hbel2⟩
          case measure => simp [intOf]
    · show Code.wp _ _ _ _ _
      simp only
      go_wp2
      go_loopw [3, 39] (fun s3 i wr => ∃ k y : Nat, k ≤ dl ∧ i = .int .i64 k ∧ s3 = .int .i64 (y : Int) ∧ Hid (y = A1 + cost 3 (fun i => (D i).cl) k) ∧ Below (w.heap.size + 1) (w.alloc (.cells #[.slice va vl vc, .slice da dl dc] 43)).drew wr) (fun _ i _ => dl - (intOf i).toNat)
      case atStart => exact ⟨0, A1, by omega, rfl, rfl, rfl, hbel⟩
      case round =>
        obtain ⟨k, y, hk, rfl, rfl, hy, hbel2⟩ := hrel
        have hcap := cost_cap (c := 3) (by decide) hnd lD hk
        have hyb : y ≤ 137443968142 := by have := hy.out; omega
        have hall2 : Below w.heap.size w wr := (((Below.refl _ _).alloc (Nat.le_refl _) _).drew).trans (hbel2.mono (by omega))
        have hsz2 : w.heap.size < wr.heap.size := by have := hbel2.size; simp at this; omega
        by_cases hlt : k < dl
        · obtain ⟨b, off, rfl, hbl, hcc, _, _⟩ := rD k hlt
          obtain ⟨e0, e1⟩ := hcc.below hall2 hbl
          have hlk := lD k hlt
          have hnew : Hid (y + (3 + (D k).cl) = A1 + cost 3 (fun i => (D i).cl) (k + 1)) := by show _ = _; rw [cost, hy.out]; omega
          generalize D k = x at *
          obtain ⟨x1, x2, x3, x4⟩ := x
          simp only at e0 e1 hlk hnew
          have i1 : (k : Int) < (dl : Int) := by omega
          clear hcc hcap
          go_wp2
          go_roundw
          case rel => exact ⟨k + 1, y + (3 + x3), by omega, by go_num, by go_num, hnew, hbel2.alloc (by omega) _⟩
          case measure => simp [intOf]; omega
        · obtain rfl : dl = k := by omega
          clear hcap hlt
          go_wp2
          obtain rfl : A2 = y := by have h1 := hy.out; have h2 := HA2.out; omega
          go_roundw
          case rel => exact ⟨2, by omega, rfl, rfl, hbel2⟩
          case measure => simp [intOf]
    · simp only
      have hall : Below w.heap.size w wr := (((Below.refl _ _).alloc (Nat.le_refl _) _).drew).trans (hbel.mono (by omega))
      have d9 : wr.cell? ⟨B, 9, none⟩ = _ := (hall.cell (p := ⟨B, 9, none⟩) hB).trans c9
      go_wp2
      go_loopw [3, 57] (fun s3 i wr => ∃ k y : Nat, k ≤ ol ∧ i = .int .i64 k ∧ s3 = .int .i64 (y : Int) ∧ Hid (y = A2 + cost 4 (fun i => (O i).cl) k) ∧ Below (w.heap.size + 1) (w.alloc (.cells #[.slice va vl vc, .slice da dl dc] 43)).drew wr) (fun _ i _ => ol - (intOf i).toNat)
      case atStart => exact ⟨0, A2, by omega, rfl, rfl, rfl, hbel⟩
      case round =>
        obtain ⟨k, y, hk, rfl, rfl, hy, hbel2⟩ := hrel
        have hcap := cost_cap (c := 4) (by decide) hno lO hk
        have hyb : y ≤ 206164952213 := by have := hy.out; omega
        have hall2 : Below w.heap.size w wr := (((Below.refl _ _).alloc (Nat.le_refl _) _).drew).trans (hbel2.mono (by omega))
        have hsz2 : w.heap.size < wr.heap.size := by have := hbel2.size; simp at this; omega
        by_cases hlt : k < ol
        · obtain ⟨b, off, rfl, hbl, hcc, _, _⟩ := rO k hlt
          obtain ⟨e0, e1, e2⟩ := hcc.below hall2 hbl
          have hlk := lO k hlt
          have hnew : Hid (y + (4 + (O k).cl) = A2 + cost 4 (fun i => (O i).cl) (k + 1)) := by show _ = _; rw [cost, hy.out]; omega
          generalize O k = x at *
          obtain ⟨x1, x2, x3, x4, x5⟩ := x
          simp only at e0 e1 e2 hlk hnew
          have i1 : (k : Int) < (ol : Int) := by omega
          clear hcc hcap
          go_wp2
          go_roundw
          case rel => exact ⟨k + 1, y + (4 + x4), by omega, by go_num, by go_num, hnew, hbel2.alloc (by omega) _⟩
          case measure => simp [intOf]; omega
        · obtain rfl : ol = k := by omega
          clear hcap hlt
          obtain rfl : A3 = y := by have h1 := hy.out; have h2 := HA3.out; omega
          have hbel := hbel2
          have d12 : wr.cell? ⟨B, 12, none⟩ = _ := (hall2.cell (p := ⟨B, 12, none⟩) hB).trans c12
          clear hall
          go_wp2
          go_loopw [3, 74] (fun s3 i wr => ∃ k y : Nat, k ≤ el ∧ i = .int .i64 k ∧ s3 = .int .i64 (y : Int) ∧ Hid (y = A3 + cost 7 (fun i => (X i).cl) k) ∧ Below (w.heap.size + 1) (w.alloc (.cells #[.slice va vl vc, .slice da dl dc] 43)).drew wr) (fun _ i _ => el - (intOf i).toNat)
          case atStart => exact ⟨0, A3, by omega, rfl, rfl, rfl, hbel⟩
          case round =>
            obtain ⟨k, y, hk, rfl, rfl, hy, hbel2⟩ := hrel
            have hcap := cost_cap (c := 7) (by decide) hne lX hk
            have hyb : y ≤ 274885936284 := by have := hy.out; omega
            have hall2 : Below w.heap.size w wr := (((Below.refl _ _).alloc (Nat.le_refl _) _).drew).trans (hbel2.mono (by omega))
            have hsz2 : w.heap.size < wr.heap.size := by have := hbel2.size; simp at this; omega
            by_cases hlt : k < el
            · obtain ⟨b, off, rfl, hbl, hcc, _, _⟩ := rX k hlt
              obtain ⟨e0, e1, e2⟩ := hcc.below hall2 hbl
              have hlk := lX k hlt
              have hnew : Hid (y + (7 + (X k).cl) = A3 + cost 7 (fun i => (X i).cl) (k + 1)) := by show _ = _; rw [cost, hy.out]; omega
              generalize X k = x at *
              obtain ⟨x1, x2, x3, x4, x5⟩ := x
              simp only at e0 e1 e2 hlk hnew
              have i1 : (k : Int) < (el : Int) := by omega
              clear hcc hcap
              go_wp2
              go_roundw
              case rel => exact ⟨k + 1, y + (7 + x4), by omega, by go_num, by go_num, hnew, hbel2.alloc (by omega) _⟩
              case measure => simp [intOf]; omega
            · obtain rfl : el = k := by omega
              clear hcap hlt
              obtain rfl : A4 = y := by have h1 := hy.out; have h2 := HA4.out; omega
              have hbel := hbel2
              have d13 : wr.cell? ⟨B, 13, none⟩ = _ := (hall2.cell (p := ⟨B, 13, none⟩) hB).trans c13
              go_wp2
              go_loopw [3, 91] (fun s3 i wr => ∃ k y : Nat, k ≤ cl ∧ i = .int .i64 k ∧ s3 = .int .i64 (y : Int) ∧ Hid (y = A4 + cost 3 (fun i => (C i).cl) k) ∧ Below (w.heap.size + 1) (w.alloc (.cells #[.slice va vl vc, .slice da dl dc] 43)).drew wr) (fun _ i _ => cl - (intOf i).toNat)
              case atStart => exact ⟨0, A4, by omega, rfl, rfl, rfl, hbel⟩
              case round =>
                obtain ⟨k, y, hk, rfl, rfl, hy, hbel2⟩ := hrel
                have hcap := cost_cap (c := 3) (by decide) hnc lC hk
                have hyb : y ≤ 343606920355 := by have := hy.out; omega
                have hall2 : Below w.heap.size w wr := (((Below.refl _ _).alloc (Nat.le_refl _) _).drew).trans (hbel2.mono (by omega))
                have hsz2 : w.heap.size < wr.heap.size := by have := hbel2.size; simp at this; omega
                by_cases hlt : k < cl
                · obtain ⟨b, off, rfl, hbl, hcc, _, _⟩ := rC k hlt
                  obtain ⟨e0, e1⟩ := hcc.below hall2 hbl
                  have hlk := lC k hlt
                  have hnew : Hid (y + (3 + (C k).cl) = A4 + cost 3 (fun i => (C i).cl) (k + 1)) := by show _ = _; rw [cost, hy.out]; omega
                  generalize C k = x at *
                  obtain ⟨x1, x2, x3, x4⟩ := x
                  simp only at e0 e1 hlk hnew
                  have i1 : (k : Int) < (cl : Int) := by omega
                  clear hcc hcap
                  go_wp2
                  go_roundw
                  case rel => exact ⟨k + 1, y + (3 + x3), by omega, by go_num, by go_num, hnew, hbel2.alloc (by omega) _⟩
                  case measure => simp [intOf]; omega
                · obtain rfl : cl = k := by omega
                  clear hcap hlt
                  have htot : (y : Int) + 16 + (sl : Int) + (tl : Int) = (total bl sl tl vl dl ol el cl (fun i => (V i).cl) (fun i => (D i).cl) (fun i => (O i).cl) (fun i => (X i).cl) (fun i => (C i).cl) : Nat) := by
                    have h0 := HA0.out; have h1 := HA1.out; have h2 := HA2.out; have h3 := HA3.out; have h4 := HA4.out; have h5 := hy.out
                    unfold total; omega
                  have Htot : Hid _ := htot
                  clear htot
                  have d17 : wr.cell? ⟨B, 17, none⟩ = _ := (hall2.cell (p := ⟨B, 17, none⟩) hB).trans c17
                  have d18 : wr.cell? ⟨B, 18, none⟩ = _ := (hall2.cell (p := ⟨B, 18, none⟩) hB).trans c18
                  go_wp2
                  go_quiet (fail)
                  go_wp2
                  go_ret
                  exact ⟨by refine congrArg (fun x => Ending.returned (Value.int .i64 x)) ?_; exact Htot.out, ⟨hall2.os, hall2.tape, hall2.output, hall2.size, hall2.block⟩⟩
end
end Go.Proofs.Qxb6602271a
