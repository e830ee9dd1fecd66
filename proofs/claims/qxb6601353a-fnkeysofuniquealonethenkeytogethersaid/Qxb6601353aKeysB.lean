import Derived.Test.Qxb6601353aKeysA
namespace Go.Proofs.Qxb6601353a
open Go.RowKit

theorem below_two {B : Nat} {w0 w w1 : World} {o1 o2 : Obj} {v : Value} (hb : Below B w0 w) (hB : B ≤ w.heap.size) (hg : ((w.alloc o1).alloc o2).grownBy w1 v.ownBlock) (hv : ∀ k, v.ownBlock = some k → B ≤ k) : Below B w0 w1 :=
  ((hb.alloc hB o1).alloc (by simp; omega) o2).grown hg (by simp; omega) hv
theorem below_one {B : Nat} {w0 w w1 : World} {o1 : Obj} {v : Value} (hb : Below B w0 w) (hB : B ≤ w.heap.size) (hg : (w.alloc o1).grownBy w1 v.ownBlock) (hv : ∀ k, v.ownBlock = some k → B ≤ k) : Below B w0 w1 :=
  (hb.alloc hB o1).grown hg (by simp; omega) hv
theorem new3 {w : World} {o1 o2 : Obj} {cs : Array Value} {t : TypeId} : ∀ j u, cs.toList[j]? = some u → (((w.alloc o1).alloc o2).alloc (.cells cs t)).cell? ((⟨w.heap.size + 1 + 1, 0, none⟩ : Addr).add j) = some u :=
  World.news_of_block (fr := (0, 0)) (t := t) (by have := heap_alloc_new ((w.alloc o1).alloc o2) (.cells cs t); simpa using this)
/-- The keys' row, one key on. -/
theorem step_key {B : Nat} {w w1 : World} {gs us ts : List Nat} {vk vt : Value} {g cap c : Nat} (h : keysIs B w gs vk vt us ts)
    (hown : w1.ownsRow B 33 1 (.slice (some ⟨g, 0, none⟩) (us.length + 1) cap) (us.length + 1) (keyVals gs ++ [.slice (some ⟨w.heap.size, 0, none⟩) 1 1]))
    (hg : ((w.alloc (.cells #[.int .i64 (c : Int)] 3)).alloc (.cells #[.slice (some ⟨w.heap.size, 0, none⟩) 1 1] 33)).grownBy w1 vk.ownBlock) :
    keysIs B w1 (gs ++ [w.heap.size]) (.slice (some ⟨g, 0, none⟩) (us.length + 1) cap) vt (us ++ [c]) ts := by
  have hb : Below w.heap.size w ((w.alloc (.cells #[.int .i64 (c : Int)] 3)).alloc (.cells #[.slice (some ⟨w.heap.size, 0, none⟩) 1 1] 33)) :=
    ((Below.refl _ _).alloc (Nat.le_refl _) _).alloc (by simp) _
  refine (h.below hb (Nat.le_refl _)).addKey ?_ (fun he => ?_) hown hg
  · rw [heap_alloc_old _ _ (by simp)]
    exact heap_alloc_new w _
  · have := (h.tog.lt _ he).2
    omega
theorem step_tog {B : Nat} {w w1 : World} {gs us ts : List Nat} {vk vt : Value} {g cap c : Nat} (h : keysIs B w gs vk vt us ts)
    (hown : w1.ownsRow B 3 1 (.slice (some ⟨g, 0, none⟩) (ts.length + 1) cap) (ts.length + 1) (intVals ts ++ [.int .i64 (c : Int)]))
    (hg : (w.alloc (.cells #[.int .i64 (c : Int)] 3)).grownBy w1 vt.ownBlock) (hl : vt.ownBlock = some g ∨ g = w.heap.size + 1) :
    keysIs B w1 gs vk (.slice (some ⟨g, 0, none⟩) (ts.length + 1) cap) us (ts ++ [c]) :=
  (h.below ((Below.refl w.heap.size w).alloc (Nat.le_refl _) _) (Nat.le_refl _)).addTog (H := w.heap.size + 1) (by simp) hown hg hl

theorem step_cell {w w1 : World} {cs : Array Value} {o1 o2 : Obj} {v : Value} {j : Nat} {B : Nat} (hg : (((w.alloc (.cells cs 29)).alloc o1).alloc o2).grownBy w1 v.ownBlock) (hv : ∀ k, v.ownBlock = some k → B ≤ k ∧ k < w.heap.size) : w1.cell? ⟨w.heap.size, j, none⟩ = cs[j]? := by
  have h1 : w1.heap[w.heap.size]? = some (.cells cs 29 (0, 0)) := by
    rw [hg.block _ (by simp; omega) (fun e => by have := (hv _ e.symm).2; omega), heap_alloc_old _ _ (by simp; omega), heap_alloc_old _ _ (by simp)]
    exact heap_alloc_new w _
  rw [cell_of_row _ _ j _ 29 (0, 0) h1]

set_option maxHeartbeats 8000000 in
set_option maxRecDepth 100000 in
theorem keysOf_any (a : Option Addr) (n cap : Nat) (E : Nat → ColV) (w : World) (hr : colRow w a n E) (hn : n ≤ 65536) :
    Calls Try.prog 16 #[.slice a n cap] w fun e w' => ∃ ka kc, e = .returned (.slice ka ((placesTo (fun i => (E i).uq) n).length + lastLen (placesTo (fun i => (E i).ky) n)) kc) ∧
      (placesTo (fun i => (E i).uq) n = [] → placesTo (fun i => (E i).ky) n = [] → ka = none) ∧ keyRow w' ka (placesTo (fun i => (E i).uq) n) ∧ lastRow w' ka (placesTo (fun i => (E i).uq) n).length (placesTo (fun i => (E i).ky) n) ∧ Below w.heap.size w w' := by
  obtain ⟨k0, ki, kz0, kz1, kz2⟩ := info_parts info33
  obtain ⟨t0, ti, tz0, tz1, tz2⟩ := info_parts info3
  go_enter Try.func16, Try.ntmps16
  go_wp2
  go_loopw [3, 4, 9] (fun vk vt i wr => ∃ k : Nat, k ≤ n ∧ i = .int .i64 k ∧ (∃ gs, keysIs w.heap.size wr gs vk vt (placesTo (fun i => (E i).uq) k) (placesTo (fun i => (E i).ky) k)) ∧ Below w.heap.size w wr) (fun _ _ i _ => n - (intOf i).toNat)
  case atStart => exact ⟨0, by omega, rfl, ⟨[], keysIs.start _ _⟩, Below.refl _ _⟩
  case round =>
    obtain ⟨k, hk, rfl, ⟨gs, hK⟩, hbel⟩ := hrel
    have hs := hbel.size
    have lu := placesTo_len (fun i => (E i).uq) k
    have lt := placesTo_len (fun i => (E i).ky) k
    by_cases hlt : k < n
    · obtain ⟨b, rfl, hbl, hc⟩ := hr k hlt
      have i1 : (k : Int) < (n : Int) := by omega
      have n1 : ¬ b = wr.heap.size := by omega
      have n2 : ¬ wr.heap.size = b := by omega
      obtain ⟨c0, c1, c2, c3, c4⟩ := hc.below hbel hbl
      have yu : (E k).uq = true → placesTo (fun i => (E i).uq) (k + 1) = placesTo (fun i => (E i).uq) k ++ [k] := fun h => placesTo_yes h
      have nu : (E k).uq = false → placesTo (fun i => (E i).uq) (k + 1) = placesTo (fun i => (E i).uq) k := fun h => placesTo_no h
      have yt : (E k).ky = true → placesTo (fun i => (E i).ky) (k + 1) = placesTo (fun i => (E i).ky) k ++ [k] := fun h => placesTo_yes h
      have nt : (E k).ky = false → placesTo (fun i => (E i).ky) (k + 1) = placesTo (fun i => (E i).ky) k := fun h => placesTo_no h
      generalize E k = x at c0 c1 c2 c3 c4 yu nu yt nt
      obtain ⟨x1, x2, x3, x4, x5⟩ := x
      simp only at c0 c1 c2 c3 c4 yu nu yt nt
      replace yu : Hid _ := yu
      replace nu : Hid _ := nu
      replace yt : Hid _ := yt
      replace nt : Hid _ := nt
      have hK0 : Hid _ := hK
      have hK1 : keysIs w.heap.size (wr.alloc (.cells #[.string x1, .bool x2, .bool x3, .bool x4, .string x5] 29)) gs _ _ _ _ := hK.below ((Below.refl wr.heap.size wr).alloc (Nat.le_refl _) _) (Nat.le_refl _)
      have hbel1 : Below w.heap.size w (wr.alloc (.cells #[.string x1, .bool x2, .bool x3, .bool x4, .string x5] 29)) := hbel.alloc hs _
      clear hc hr hK hbel
      cases x3
      · cases x4
        · go_wp2
          have hbx := hbel1
          go_roundw
          case rel => exact ⟨k + 1, by omega, by go_num, ⟨_, by rw [nu.out (by trivial), nt.out (by trivial)]; exact hK1⟩, hbx⟩
          case measure => simp [intOf]; omega
        · go_wp2_with (at_builtin; refine wpList_append_lies _ rfl _ _ 33 rfl w.heap.size 3 t0 (.int .i64 0) 1 8 Try.underlying33 ti tz0 tz1 tz2 rfl (by decide) _ _ _ rfl (hK1.tog.alloc _) ⟨(wr.heap.size + 1), 0, none⟩ 1 1 [.int .i64 (k : Int)] rfl rfl (by intro j u hj; cases j with | zero => (simp at hj; subst hj; simp [Addr.add]) | succ j => simp at hj) (by intro u hu; simp at hu; subst hu; rfl) (by decide) (by unfold maxLen; omega) (by omega) (by simp; omega) ((wr.heap.size + 1) + 1) (by simp) ?_)
          intro g2 cp2 w2 hown2 hg2 hl2 hlt2
          have hK2 := step_tog hK1 hown2 hg2 (by simpa using hl2)
          have hbx := below_one hbel1 (by simp; omega) hg2 (fun k hk => (hK1.tog.lt k hk).1)
          clear hown2 hg2 hl2 hK1 hbel1
          go_wp2
          go_roundw
          case rel => exact ⟨k + 1, by omega, by go_num, ⟨_, by rw [nu.out (by trivial), yt.out (by trivial)]; exact hK2⟩, hbx⟩
          case measure => simp [intOf]; omega
      · go_wp2_with (at_builtin; refine wpList_append_lies _ rfl _ _ 30 rfl w.heap.size 33 k0 (.slice none 0 0) 1 24 Try.underlying30 ki kz0 kz1 kz2 rfl (by decide) _ _ _ rfl ((hK1.keys.alloc _).alloc _) ⟨(wr.heap.size + 1) + 1, 0, none⟩ 1 1 [.slice (some ⟨(wr.heap.size + 1), 0, none⟩) 1 1] rfl rfl new3 (by intro u hu; simp at hu; subst hu; rfl) (by decide) (by unfold maxLen; omega) (by omega) (by simp; omega) ((wr.heap.size + 1) + 2) (by simp) ?_)
        intro g1 cp1 w1 hown1 hg1 hl1 hlt1
        have hK2 := step_key hK1 (by simpa using hown1) (by simpa using hg1)
        have hbel2 := below_two hbel1 (by simp; omega) hg1 (fun k hk => (hK1.keys.lt k hk).1)
        have cc := fun j => step_cell (j := j) (B := w.heap.size) hg1 (fun k hk => hK0.out.keys.lt k hk)
        have cc3 := cc 3
        have hs1 := hbel2.size
        clear hown1 hg1 hl1 hK1 hbel1 cc
        cases x4
        · go_wp2
          have hbx := hbel2
          go_roundw
          case rel => exact ⟨k + 1, by omega, by go_num, ⟨_, by rw [yu.out (by trivial), nt.out (by trivial)]; exact hK2⟩, hbx⟩
          case measure => simp [intOf]; omega
        · go_wp2_with (at_builtin; refine wpList_append_lies _ rfl _ _ 33 rfl w.heap.size 3 t0 (.int .i64 0) 1 8 Try.underlying33 ti tz0 tz1 tz2 rfl (by decide) _ _ _ rfl (hK2.tog.alloc _) ⟨w1.heap.size, 0, none⟩ 1 1 [.int .i64 (k : Int)] rfl rfl (by intro j u hj; cases j with | zero => (simp at hj; subst hj; simp [Addr.add]) | succ j => simp at hj) (by intro u hu; simp at hu; subst hu; rfl) (by decide) (by unfold maxLen; omega) (by omega) (by simp; omega) (w1.heap.size + 1) (by simp) ?_)
          intro g2 cp2 w2 hown2 hg2 hl2 hlt2
          have hK3 := step_tog hK2 hown2 hg2 hl2
          have hbx := below_one hbel2 (by omega) hg2 (fun k hk => (hK2.tog.lt k hk).1)
          clear hown2 hg2 hl2 hK2 hbel2
          go_wp2
          go_roundw
          case rel => exact ⟨k + 1, by omega, by go_num, ⟨_, by rw [yu.out (by trivial), yt.out (by trivial)]; exact hK3⟩, hbx⟩
          case measure => simp [intOf]; omega
    · obtain rfl : k = n := by omega
      clear hr hlt
      by_cases hts : placesTo (fun i => (E i).ky) k = []
      · rw [hts] at hK
        obtain rfl := hK.nilT.2 rfl
        obtain ⟨ka, kc, rfl, h1, h2, h3⟩ := hK.endNone
        clear hK
        go_wp2
        go_ret
        rw [hts]
        exact ⟨ka, kc, rfl, fun h _ => h1 h, h2, h3, hbel⟩
      · have hll : lastLen (placesTo (fun i => (E i).ky) k) = 1 := if_neg hts
        have hpos : 0 < (placesTo (fun i => (E i).ky) k).length := List.length_pos_iff.2 hts
        obtain ⟨ht, ct, rfl, _, htl⟩ := hK.tog.form hpos
        have hpos' : (0 : Int) < ((placesTo (fun i => (E i).ky) k).length : Int) := by omega
        go_wp2_with (at_builtin; refine wpList_append_lies _ rfl _ _ 30 rfl w.heap.size 33 k0 (.slice none 0 0) 1 24 Try.underlying30 ki kz0 kz1 kz2 rfl (by decide) _ _ _ rfl (hK.keys.alloc _) ⟨wr.heap.size, 0, none⟩ 1 1 [.slice (some ⟨ht, 0, none⟩) (placesTo (fun i => (E i).ky) k).length ct] rfl rfl (by intro j u hj; cases j with | zero => (simp at hj; subst hj; simp [Addr.add]) | succ j => simp at hj) (by intro u hu; simp at hu; subst hu; rfl) (by decide) (by unfold maxLen; omega) (by omega) (by simp; omega) (wr.heap.size + 1) (by simp) ?_)
        intro g cp w1 hown hg hl hlt1
        obtain ⟨h2, h3⟩ := (hK.below ((Below.refl wr.heap.size wr).alloc (Nat.le_refl _) _) (Nat.le_refl _)).endSome hown hg
        have hbx := below_one hbel hs hg (fun k hk => (hK.keys.lt k hk).1)
        clear hown hg hl hK hbel
        go_wp2
        go_ret
        exact ⟨_, cp, by rw [hll]; rfl, fun _ h => absurd h hts, h2, h3, hbx⟩

/-- ZZKeysOf is keysOf. -/
theorem zzKeysOf_any (a : Option Addr) (n cap : Nat) (E : Nat → ColV) (w : World) (hr : colRow w a n E) (hn : n ≤ 65536) :
    Calls Try.prog 9 #[.slice a n cap] w fun e w' => ∃ ka kc, e = .returned (.slice ka ((placesTo (fun i => (E i).uq) n).length + lastLen (placesTo (fun i => (E i).ky) n)) kc) ∧
      (placesTo (fun i => (E i).uq) n = [] → placesTo (fun i => (E i).ky) n = [] → ka = none) ∧ keyRow w' ka (placesTo (fun i => (E i).uq) n) ∧ lastRow w' ka (placesTo (fun i => (E i).uq) n).length (placesTo (fun i => (E i).ky) n) ∧ Below w.heap.size w w' := by
  go_enter Try.func9, Try.ntmps9
  go_wp2_with fail
  refine (keysOf_any a n cap E _ hr hn).mono ?_
  rintro e w' ⟨ka, kc, rfl, h1, h2, h3, h4⟩
  go_wp2
  go_ret
  exact ⟨ka, kc, rfl, h1, h2, h3, h4⟩
end Go.Proofs.Qxb6601353a
