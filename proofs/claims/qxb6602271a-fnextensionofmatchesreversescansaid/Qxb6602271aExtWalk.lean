import Derived.Test.Qxb6602271aExtC
namespace Go.Proofs.Qxb6602271a.fnExtensionOfMatchesReverseScan
open Go.RowKit

theorem below_drewN {B : Nat} {a w : World} (h : Below B a w) (n : Nat) : Below B a (w.drewN n) := ⟨h.os, h.tape, h.output, h.size, h.block⟩

/-- The law's own scan from the end: the index behind d rounds. -/
def scan (E : Nat → ExtV) (t : Int) (n : Nat) : Nat → Int
  | 0 => -1
  | d + 1 => if (E (n - 1 - d)).ty = t then ((n - 1 - d : Nat) : Int) else scan E t n d
theorem scan_none {E : Nat → ExtV} {t : Int} {n : Nat} (h : ∀ j, j < n → (E j).ty ≠ t) : ∀ d, d ≤ n → scan E t n d = -1
  | 0, _ => rfl
  | d + 1, hd => by rw [scan, if_neg (h _ (by omega))]; exact scan_none h d (by omega)
theorem scan_found {E : Nat → ExtV} {t : Int} {n i : Nat} (hi : i < n) (ht : (E i).ty = t) (h : ∀ j, j < i → (E j).ty ≠ t) : ∀ d, n - i ≤ d → d ≤ n → scan E t n d = (i : Int)
  | 0, h0, _ => by omega
  | d + 1, h1, h2 => by
    rw [scan]
    by_cases hd : n - i = d + 1
    · have e : n - 1 - d = i := by omega
      rw [e, if_pos ht]
    · rw [if_neg (h _ (by omega))]
      exact scan_found hi ht h d (by omega) (by omega)

set_option maxHeartbeats 8000000 in
set_option maxRecDepth 100000 in
theorem core (a : Option Addr) (n cap : Nat) (E : Nat → ExtV) (t : Int) (w : World) (hr : extRow w a n E) (hl : n ≤ maxLen) :
    Calls Try.prog 8 #[.slice a n cap, .int .u16 t] w fun e w' => e = .returned (.bool true) ∧ Below w.heap.size w w' := by
  go_enter Try.func8, Try.ntmps8
  go_wp2_with fail
  refine (bytes32 a n cap E t w hr hl).mono ?_
  rintro e w' ⟨⟨b, rfl⟩, rfl⟩
  cases b
  · go_wp2
    go_ret
    exact ⟨rfl, Below.refl _ _⟩
  by_cases q : 65536 < n
  · unfold maxLen at hl
    go_wp2
    go_ret
    exact ⟨rfl, Below.refl _ _⟩
  go_wp2_with fail
  refine (extBytes_any a n cap E 0 (by decide) w hr hl).mono ?_
  rintro e w' ⟨⟨y, hy0, hy, rfl⟩, rfl⟩
  unfold maxLen at hl
  by_cases qy : 1048576 < y
  · clear hy
    go_wp2
    go_ret
    exact ⟨rfl, Below.refl _ _⟩
  have hcl := (hy (by omega)).2
  clear hy
  go_wp2_with fail
  refine (copyExts_any a n cap E w hr (by omega) hcl).mono ?_
  rintro e w1 ⟨oa, c1, rfl, ⟨E', hr1, hcl'⟩, hb1⟩
  clear hr hcl
  go_wp2_with fail
  refine (toExts_any oa n c1 E' w1 hr1 (by omega)).mono ?_
  rintro e w2 ⟨ob, c2, rfl, hr2, hb2⟩
  go_wp2_with fail
  refine (zzExtOf_any ob n c2 E' t w2 hr2 (by omega)).mono ?_
  rintro e w3 ⟨hf, hb3⟩
  have hr3 : extRow w3 oa n E' := (hr1.below hb2 (Nat.le_refl _)).below hb3 (Nat.le_refl _)
  have hbel : Below w.heap.size w w3 := (hb1.trans (hb2.mono hb1.size)).trans (hb3.mono (Nat.le_trans hb1.size hb2.size))
  clear hr1 hr2 hb1 hb2 hb3
  have kn := fun wx => Lib.run_eql_slice_nil (P := Try.prog) wx 29 5 none 0 0 0 0 Try.underlying29
  rcases hf with ⟨i, h1, h2, h3, rfl⟩ | ⟨h1, rfl⟩
  · have hend := scan_found h1 h2 h3 n (by omega) (Nat.le_refl _)
    have Hend : Hid _ := hend
    clear hend h3 kn
    obtain ⟨x, hx⟩ : ∃ x, x = E' i := ⟨_, rfl⟩
    rw [← hx] at h2
    rw [← hx]
    have Hx : Hid _ := hx
    clear hx
    obtain ⟨x1, x2, x3, x4, x5⟩ := x
    simp only at h2
    simp only [ExtV.val]
    subst h2
    go_wp2
    go_loopw [8, 9] (fun s8 s9 wr => ∃ m d : Nat, m + d = n ∧ s9 = .int .i64 ((m : Int) - 1) ∧ s8 = .int .i64 (scan E' x1 n d) ∧ w3.alloc (.cells #[.int .u16 x1, .bool x2, .slice x3 x4 x5] 73) = wr) (fun _ s9 _ => (intOf s9 + 1).toNat)
    case atStart => exact ⟨n, 0, by omega, rfl, rfl, rfl⟩
    case round =>
      obtain ⟨m, d, hmd, rfl, rfl, rfl⟩ := hrel
      cases m with
      | zero =>
        obtain rfl : d = n := by omega
        rw [Hend.out]
        clear hmd
        obtain ⟨b, off, rfl, hbl, hc, hby, _⟩ := hr3 i h1
        rw [← Hx.out] at hc hby
        obtain ⟨c0, c1, c2⟩ := hc
        simp only at c0 c1 c2 hby
        have i1 : (i : Int) < (d : Int) := by omega
        have hx4 : x4 ≤ 1048576 := by have := hcl' i h1; rw [← Hx.out] at this; exact this
        clear hr3 hcl'
        go_wp2_with fail
        refine (sameBytes_any x3 x4 x5 x5 _ ?_ ?_).mono ?_
        · exact hby.below (B := w3.heap.size) (((Below.refl _ _).alloc (Nat.le_refl _) _).alloc (by simp) _) (Nat.le_refl _)
        · unfold maxLen; omega
        rintro e w4 ⟨rfl, q', rfl⟩
        go_wp2
        go_ret
        exact ⟨rfl, (below_drewN ((hbel.alloc hbel.size _).alloc (by have := hbel.size; simp; omega) _) q')⟩
      | succ m =>
        obtain ⟨b, off, rfl, hbl, hc, _, _⟩ := hr3 m (by omega)
        obtain ⟨c0, _, _⟩ := hc
        have hs : scan E' x1 n (d + 1) = if (E' m).ty = x1 then ((m : Nat) : Int) else scan E' x1 n d := by
          rw [scan, show n - 1 - d = m by omega]
        have hm1 : (((m + 1 : Nat) : Int) - 1) = (m : Int) := by omega
        rw [hm1]
        have i1 : (m : Int) < (n : Int) := by omega
        have Hs : Hid _ := hs
        have Hmd : Hid _ := hmd
        clear hs hmd hm1
        generalize scan E' x1 n d = sd at *
        by_cases hty : (E' m).ty = x1
        · rw [hty] at c0
          go_wp2
          go_roundw
          case rel => exact ⟨m, d + 1, by have := Hmd.out; omega, rfl, by rw [Hs.out, if_pos hty], trivial⟩
          case measure => simp [intOf]
        · have hq : ((E' m).ty == x1) = false := by simpa using hty
          go_wp2
          go_roundw
          case rel => exact ⟨m, d + 1, by have := Hmd.out; omega, rfl, by rw [Hs.out, if_neg hty], trivial⟩
          case measure => simp [intOf]
  · have Hend : Hid _ := scan_none h1 n (Nat.le_refl _)
    clear h1
    simp only [ExtV.val, ExtV.zero]
    go_wp2
    go_loopw [8, 9] (fun s8 s9 wr => ∃ m d : Nat, m + d = n ∧ s9 = .int .i64 ((m : Int) - 1) ∧ s8 = .int .i64 (scan E' t n d) ∧ w3.alloc (.cells #[.int .u16 0, .bool false, .slice none 0 0] 73) = wr) (fun _ s9 _ => (intOf s9 + 1).toNat)
    case atStart => exact ⟨n, 0, by omega, rfl, rfl, rfl⟩
    case round =>
      obtain ⟨m, d, hmd, rfl, rfl, rfl⟩ := hrel
      cases m with
      | zero =>
        obtain rfl : d = n := by omega
        rw [Hend.out]
        clear hmd
        go_wp2
        go_ret
        exact ⟨rfl, hbel.alloc hbel.size _⟩
      | succ m =>
        obtain ⟨b, off, rfl, hbl, hc, _, _⟩ := hr3 m (by omega)
        obtain ⟨c0, _, _⟩ := hc
        have hs : scan E' t n (d + 1) = if (E' m).ty = t then ((m : Nat) : Int) else scan E' t n d := by
          rw [scan, show n - 1 - d = m by omega]
        have hm1 : (((m + 1 : Nat) : Int) - 1) = (m : Int) := by omega
        rw [hm1]
        have i1 : (m : Int) < (n : Int) := by omega
        have Hs : Hid _ := hs
        have Hmd : Hid _ := hmd
        clear hs hmd hm1
        generalize scan E' t n d = sd at *
        by_cases hty : (E' m).ty = t
        · rw [hty] at c0
          go_wp2
          go_roundw
          case rel => exact ⟨m, d + 1, by have := Hmd.out; omega, rfl, by rw [Hs.out, if_pos hty], trivial⟩
          case measure => simp [intOf]
        · have hq : ((E' m).ty == t) = false := by simpa using hty
          go_wp2
          go_roundw
          case rel => exact ⟨m, d + 1, by have := Hmd.out; omega, rfl, by rw [Hs.out, if_neg hty], trivial⟩
          case measure => simp [intOf]
end Go.Proofs.Qxb6602271a.fnExtensionOfMatchesReverseScan
