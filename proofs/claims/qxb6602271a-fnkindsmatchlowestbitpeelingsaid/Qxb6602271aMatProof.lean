import Derived.Test.Qxb6602271aKinds
import Derived.Test.Qxb6602271aPeel
import Derived.Test.Qxb6602271aRows
import Derived.WalkKit
import Derived.ProofKit
import Derived.OpenShut
import Derived.ShutString
import Derived.ChangeOld
import Derived.Below
namespace Go.Proofs.Qxb6602271a.fnKindsMatchLowestBitPeeling
open Go.ChangeShapes Go.WideShapes Go.ChangeAt Go.RowKit
open Go.ChangeMaps (open_string shut_string)
set_option linter.unusedVariables false

theorem own : ownKnob Try.prog.godebug = none := by kernel_rfl
theorem laidOut : laidOutB Try.prog = true := by kernel_rfl

/-- WHAT THE WALK IS TOLD OF A SLICE OF INTEGERS THAT CAME IN: it is nil; or it leads to a row of 'cap' cells, the numbers 'zs' (the first 'len' are its elements, the rest its spare room), each fitting its kind. -/
def IsRow (k : IntKind) (w : World) (a : Option Addr) (len cap : Nat) (zs : List Int) : Prop :=
  (a = none ∧ len = 0 ∧ cap = 0 ∧ zs = []) ∨
  ∃ x, a = some x ∧ len ≤ cap ∧ cap ≤ maxLen ∧ zs.length = cap ∧ (∀ i, i < zs.length → w.cell? (x.add i) = some (.int k (zs.getD i 0))) ∧ ∀ n ∈ zs, (Lit.int k n).wf = true


/-- The law's array: its first n cells hold the first n kinds. -/
def wantRow (w : World) (B n : Nat) (L : List Nat) : Prop := ∃ xs, w.ownsRow B 83 1 (.slice (some ⟨B, 0, none⟩) 64 64) 64 xs ∧ (∀ u ∈ xs, ∃ x : Int, u = .int .i64 x) ∧ ∀ i, i < n → xs[i]? = some (.int .i64 ((L.getD i 0 + 1 : Nat) : Int))

theorem want_start (w : World) (L : List Nat) : wantRow (w.alloc (.cells (Array.replicate 64 (.int .i64 0)) 83)) w.heap.size 0 L :=
  ⟨List.replicate 64 (.int .i64 0), ⟨by simp, .inr ⟨w.heap.size, 64, _, rfl, Nat.le_refl _, heap_alloc_new w _, Nat.le_refl _, by decide, by simp, by simp⟩⟩, fun u hu => ⟨0, List.eq_of_mem_replicate hu⟩, fun i hi => absurd hi (by omega)⟩

theorem e64 : (18446744073709551616 : Nat) = 2 ^ 64 := by decide
theorem xor_ones {g : Nat} (hg : g < 2 ^ 64) : (2 ^ 64 - 1) ^^^ g = 2 ^ 64 - (g + 1) := by
  refine Nat.eq_of_testBit_eq fun j => ?_
  rw [Nat.testBit_xor, Nat.testBit_two_pow_sub_one, Nat.testBit_two_pow_sub_succ hg]
  by_cases hj : j < 64
  · simp [hj]
  · rw [Nat.testBit_lt_two_pow (Nat.lt_of_lt_of_le hg (Nat.pow_le_pow_right (by decide) (by omega)))]
    simp [hj]
/-- 'f & (^f + 1)'. -/
theorem low_word {g t m : Nat} (hg : g < 18446744073709551616) (h0 : 0 < g) (e : g = 2 ^ t * (2 * m + 1)) :
    bits .and .u64 (g : Int) (IntKind.u64.wrap (bits .xor .u64 IntKind.u64.max (g : Int) + 1)) = flagOf (t + 1) := by
  have hm : IntKind.u64.max = ((18446744073709551615 : Nat) : Int) := by decide
  have hx : bits .xor .u64 IntKind.u64.max (g : Int) = ((18446744073709551615 - g : Nat) : Int) := by
    rw [hm, u64_xor_nat _ _ (by decide) hg]
    congr 1
    have := xor_ones (g := g) (by rw [← e64]; exact hg)
    rw [← e64] at this
    simp only [Nat.reduceSub] at this
    rw [this]; omega
  rw [hx, IntKind.wrap_u64]
  have hs : (((18446744073709551615 - g : Nat) : Int) + 1) % 18446744073709551616 = ((18446744073709551616 - g : Nat) : Int) := by omega
  rw [hs, u64_and_nat _ _ hg (by omega)]
  have := Peel.low_is e (by rw [← e64]; exact hg)
  rw [← e64] at this
  rw [this]
  rfl
/-- 'f &^ low'. -/
def struck (g t : Nat) : Nat := g &&& (18446744073709551615 - 2 ^ t)
theorem not_word {g t m : Nat} (hg : g < 18446744073709551616) (e : g = 2 ^ t * (2 * m + 1)) : bits .andNot .u64 (g : Int) (flagOf (t + 1)) = (struck g t : Int) := by
  have ht := Peel.low_lt e (by rw [← e64]; exact hg)
  have hlt : 2 ^ t < 18446744073709551616 := by rw [e64]; exact Nat.pow_lt_pow_right (by decide) ht
  exact u64_andNot_nat g (2 ^ t) hg hlt
theorem struck_lt (g t : Nat) : struck g t < 18446744073709551616 := Nat.lt_of_le_of_lt Nat.and_le_right (Nat.lt_of_le_of_lt (Nat.sub_le _ _) (by decide))
theorem struck_bits {g t m : Nat} (hg : g < 18446744073709551616) (e : g = 2 ^ t * (2 * m + 1)) : bitsTo g 64 = t :: bitsTo (struck g t) 64 :=
  Peel.peel e (by rw [← e64]; exact hg)
theorem flagOf_big {i : Nat} (h : 0 < i) : 1 < flagOf (i + 1) := by
  unfold flagOf
  have : 2 ^ 1 ≤ 2 ^ (i + 1 - 1) := Nat.pow_le_pow_right (by decide) (by omega)
  generalize 2 ^ (i + 1 - 1) = x at *
  omega

theorem bitsTo_zero : bitsTo 0 64 = [] := by simp [bitsTo]
theorem flagOf_half {t j : Nat} (h : j < t) : flagOf (t - j + 1) / 2 = flagOf (t - (j + 1) + 1) := by
  obtain ⟨i, hi⟩ : ∃ i, t - j = i + 1 := ⟨t - j - 1, by omega⟩
  have h2 : t - (j + 1) = i := by omega
  rw [hi, h2]
  show ((2 ^ (i + 1) : Nat) : Int) / 2 = ((2 ^ i : Nat) : Int)
  rw [Nat.pow_succ]
  generalize 2 ^ i = x
  omega

section
variable {L M : List Nat} {n t : Nat}
theorem next_lt {K : List Nat} (h : L.drop n = K) (hK : K = t :: M) : n < L.length := by
  rcases Nat.lt_or_ge n L.length with h' | h'
  · exact h'
  · rw [List.drop_eq_nil_of_le h'] at h; rw [← h] at hK; cases hK
theorem next_is {K : List Nat} (h : L.drop n = K) (hK : K = t :: M) : L.getD n 0 = t := by
  have hl := next_lt h hK
  have : L.drop n = L[n] :: L.drop (n + 1) := List.drop_eq_getElem_cons hl
  rw [h, hK] at this
  have e := (List.cons.inj this).1
  simp [List.getD, hl, ← e]
theorem next_drop {K : List Nat} (h : L.drop n = K) (hK : K = t :: M) : L.drop (n + 1) = M := by
  have hl := next_lt h hK
  have : L.drop n = L[n] :: L.drop (n + 1) := List.drop_eq_getElem_cons hl
  rw [h, hK] at this
  exact (List.cons.inj this).2.symm
end

theorem wantRow.cell {w : World} {B n k : Nat} {L : List Nat} (h : wantRow w B n L) (hk : k < 64) : ∃ x : Int, w.cell? ⟨B, k, none⟩ = some (.int .i64 x) := by
  obtain ⟨xs, h, ha, _⟩ := h
  have hl := h.1
  rw [h.cellAt k (by omega)]
  obtain ⟨x, hx⟩ := ha (xs[k]'(by omega)) (List.getElem_mem _)
  exact ⟨x, by rw [List.getElem?_eq_getElem (by omega), hx]⟩
theorem wantRow.frozen {w : World} {B n : Nat} {L : List Nat} (h : wantRow w B n L) (k : Nat) : w.frozen? ⟨B, k, none⟩ = false := by
  obtain ⟨xs, h, _⟩ := h
  exact h.frozenAt k
theorem wantRow.at {w : World} {B n k : Nat} {L : List Nat} (h : wantRow w B n L) (hn : n ≤ 64) (hk : k < n) : w.cell? ⟨B, k, none⟩ = some (.int .i64 ((L.getD k 0 + 1 : Nat) : Int)) := by
  obtain ⟨xs, h, _, hi⟩ := h
  rw [h.cellAt k (by omega)]
  exact hi k hk
theorem wantRow.stored {w : World} {B n t : Nat} {L : List Nat} (h : wantRow w B n L) (hn : n < 64) (ht : L.getD n 0 = t) : wantRow (w.setCell ⟨B, n, none⟩ (.int .i64 ((t + 1 : Nat) : Int))) B (n + 1) L := by
  obtain ⟨xs, h, ha, hi⟩ := h
  have hl := h.1
  refine ⟨_, (h.stored n _).1, fun u hu => ?_, fun i hin => ?_⟩
  · rcases List.mem_or_eq_of_mem_set hu with h' | h'
    · exact ha u h'
    · exact ⟨_, h'⟩
  · by_cases hin' : i = n
    · subst hin'
      rw [List.getElem?_set_self (by omega), ht]
    · rw [List.getElem?_set_ne (fun h => hin' h.symm)]
      exact hi i (by omega)

set_option maxHeartbeats 8000000 in
set_option maxRecDepth 100000 in
theorem core (x0 x1 : Int) (f : Nat) (hf : f < 18446744073709551616) (a3 : Option Addr) (len3 cap3 : Nat) (w : World) (hr : byteRow w a3 len3) (hl : len3 ≤ maxLen) :
    Calls Try.prog 5 #[.int .u64 x0, .int .u64 x1, .int .u64 (f : Int), .slice a3 len3 cap3] w fun e w' => e = .returned (.bool true) ∧ Below w.heap.size w w' := by
  go_enter Try.func5, Try.ntmps5
  go_wp2_with fail
  refine (bytes27 x0 x1 f a3 len3 cap3 hl w).mono ?_
  rintro e w' ⟨⟨b, rfl⟩, rfl⟩
  unfold maxLen at hl
  cases b
  · go_wp2
    go_ret
    exact ⟨rfl, Below.refl _ _⟩
  by_cases q : 1048576 < len3
  · go_wp2
    go_ret
    exact ⟨rfl, Below.refl _ _⟩
  go_wp2_with fail
  refine (copyBytes_any a3 len3 cap3 w hr (by omega)).mono ?_
  rintro e w1 ⟨oe, ce, rfl, _, _, hb1⟩
  go_wp2_with fail
  refine (kinds_any x0 x1 f hf oe len3 ce _).mono ?_
  rintro e w2 ⟨v, rfl, hown, hnil, hb2⟩
  obtain ⟨oa, ca, rfl, hk⟩ := kindRow_of_owns hown
  have hnn := kind_nil hk hnil
  have hbel : Below w.heap.size w w2 := by
    refine Below.trans ?_ (hb2.mono ?_)
    · exact hb1.alloc hb1.size _
    · have := hb1.size; simp; omega
  clear hown hnil hb1 hb2 hr
  have hlen := bitsTo_len f 64
  have kn := fun wx => Lib.run_eql_slice_nil (P := Try.prog) wx 81 85 oa (bitsTo f 64).length ca 0 0 Try.underlying81
  have Hnn : Hid _ := hnn
  clear hnn
  go_wp2
  have hwant := want_start w2 (bitsTo f 64)
  have Hwant : Hid _ := hwant
  clear hwant
  go_loopw [12, 13] (fun sn sf wr => ∃ n g : Nat, n ≤ (bitsTo f 64).length ∧ sn = .int .i64 n ∧ sf = .int .u64 (g : Int) ∧ g < 18446744073709551616 ∧ (bitsTo f 64).drop n = bitsTo g 64 ∧ wantRow wr w2.heap.size n (bitsTo f 64) ∧ Below w2.heap.size w2 wr) (fun sn _ _ => 64 - (intOf sn).toNat)
  case atStart => exact ⟨0, f, by omega, rfl, rfl, hf, rfl, Hwant.out, (Below.refl _ _).alloc (Nat.le_refl _) _⟩
  case round =>
    obtain ⟨n, g, hn, rfl, rfl, hg, hdrop, hw, hb⟩ := hrel
    have Hdrop : Hid _ := hdrop
    have Hf : Hid _ := hf
    have Hg : Hid _ := hg
    clear hdrop hf hg
    by_cases h0 : g = 0
    · subst h0
      have hnl : n = (bitsTo f 64).length := by
        have hd : (bitsTo f 64).drop n = bitsTo 0 64 := Hdrop.out
        rw [bitsTo_zero, List.drop_eq_nil_iff] at hd
        omega
      have hbel' : Below w.heap.size w wr := hbel.trans (hb.mono hbel.size)
      have Hb2 : Hid _ := hb
      clear hb Hdrop
      by_cases hL : (bitsTo f 64).length = 0
      · have hnone : oa.isNone = true := by rw [Hnn.out, List.isEmpty_iff]; exact List.length_eq_zero_iff.1 hL
        obtain rfl : n = 0 := by omega
        clear hL hnl hn hw
        go_wp2
        go_ret
        exact ⟨rfl, hbel'⟩
      · have hnone : oa.isNone = false := by rw [Hnn.out]; cases hc : bitsTo f 64 with
          | nil => rw [hc] at hL; simp at hL
          | cons x l => rfl
        have hwant : ∀ k, k < n → wr.cell? ⟨w2.heap.size, k, none⟩ = some (.int .i64 (((bitsTo f 64).getD k 0 + 1 : Nat) : Int)) := fun k hk => hw.at (by omega) hk
        have hgot : kindRow wr oa (bitsTo f 64) := hk.below (w' := wr) Hb2.out (Nat.le_refl _)
        have Hlt : Hid _ := fun k hk => bitsTo_lt (f := f) (k := k) hk
        have Hwant : Hid _ := hwant
        clear hwant hw hk
        generalize bitsTo f 64 = L at *
        subst hnl
        have hne : ((L.length : Int) == 0) = false := by rw [beq_eq_false_iff_ne]; omega
        clear hn
        go_wp2
        clear kn hnone hne
        go_loopw [17] (fun i wx => ∃ k : Nat, k ≤ L.length ∧ i = .int .i64 k ∧ ∃ q, wx = wr.drewN q) (fun i _ => L.length - (intOf i).toNat)
        case atStart => exact ⟨0, by omega, rfl, 0, rfl⟩
        case round =>
          obtain ⟨k, hk', rfl, q', rfl⟩ := hrel
          by_cases hlt : k < L.length
          · obtain ⟨g1, rfl, _, c1⟩ := hgot k hlt
            have c2 := Hwant.out k hlt
            have hx4 := Hlt.out k hlt
            generalize L.getD k 0 = x at *
            have i1 : (k : Int) < (L.length : Int) := by omega
            have i2 : (k : Int) < 64 := by omega
            go_wp2
            go_quiet (fail)
            go_wp2
            go_roundw
            case rel => exact ⟨k + 1, by omega, by go_num, _, rfl⟩
            case measure => simp [intOf]; omega
          · go_wp2
            go_ret
            exact ⟨rfl, below_drewN hbel' _⟩
    · have h0' : ((g : Int) != 0) = true := by rw [bne_iff_ne]; omega
      obtain ⟨t, m, ht⟩ := Peel.low_exists g (by omega)
      have hlow := low_word Hg.out (by omega) ht
      have hnot := not_word Hg.out ht
      have ht64 : t < 64 := Peel.low_lt ht (by rw [← e64]; exact Hg.out)
      have Ht : Hid _ := ht
      clear ht
      go_wp2
      obtain ⟨wo, hwo⟩ : ∃ wo : World, wo = wr := ⟨_, rfl⟩
      rw [← hwo] at hw hb
      rw [← hwo]
      clear hwo
      go_loopw [15, 16] (fun sk sb wx => ∃ j : Nat, j ≤ t ∧ sk = .int .i64 ((j + 1 : Nat) : Int) ∧ sb = .int .u64 (flagOf (t - j + 1)) ∧ wo = wx) (fun sk _ _ => t + 1 - (intOf sk).toNat)
      case atStart => exact ⟨0, by omega, rfl, rfl, rfl⟩
      case round =>
        obtain ⟨j, hj, rfl, rfl, rfl⟩ := hrel
        by_cases hlt : j < t
        · have hp1 : 1 < flagOf (t - j + 1) := flagOf_big (by omega)
          generalize hpp : flagOf (t - j + 1) = pp at *
          have Hpp : Hid _ := hpp
          clear hpp
          go_wp2
          go_roundw
          case rel => exact ⟨j + 1, by omega, by go_num, by rw [← Hpp.out]; exact congrArg (Value.int .u64) (flagOf_half hlt), trivial⟩
          case measure => simp [intOf]; omega
        · obtain rfl : j = t := by omega
          have hp1 : flagOf (j - j + 1) = 1 := by rw [Nat.sub_self]; rfl
          have hnL : n < (bitsTo f 64).length := next_lt Hdrop.out (struck_bits Hg.out Ht.out)
          have hn64 : n < 64 := by omega
          obtain ⟨v0, hv0⟩ := hw.cell hn64
          have hfr := hw.frozen n
          have hst := hw.stored hn64 (next_is Hdrop.out (struck_bits Hg.out Ht.out))
          have hbs := hb.setCell (p := ⟨w2.heap.size, n, none⟩) (Nat.le_refl _) (.int .i64 ((j + 1 : Nat) : Int))
          have Hd2 : Hid _ := next_drop Hdrop.out (struck_bits Hg.out Ht.out)
          have i1 : (n : Int) < 64 := by omega
          clear hw hb
          go_wp2
          go_roundw
          case rel => exact ⟨n + 1, struck g j, by omega, by go_num, rfl, struck_lt g j, Hd2.out, hst, hbs⟩
          case measure => simp [intOf]; omega

theorem byteRow_of {w : World} {a : Option Addr} {len cap : Nat} {zs : List Int} (h : IsRow .u8 w a len cap zs) : byteRow w a len ∧ len ≤ maxLen := by
  rcases h with ⟨rfl, rfl, rfl, rfl⟩ | ⟨x, rfl, hl, hm, hz, hcell, _⟩
  · exact ⟨fun i hi => absurd hi (by omega), by decide⟩
  · refine ⟨fun i hi => ?_, by omega⟩
    obtain ⟨b, off, spot⟩ := x
    have hc := hcell i (by omega)
    have hspot : spot = none := by simpa [Addr.add] using World.cell?_spot (hcell 0 (by omega))
    subst hspot
    rw [add_plain] at hc
    exact ⟨b, off, rfl, World.block_lt_of_cell? w _ hc, _, hc⟩

theorem walk (a0 : Int) (a1 : Int) (a2 : Int) (a3 : Option Addr) (len3 cap3 : Nat) (z3 : List Int) (w : World) (w0 : (Lit.int .u64 a0).wf = true) (w1 : (Lit.int .u64 a1).wf = true) (w2 : (Lit.int .u64 a2).wf = true) (w3 : IsRow .u8 w a3 len3 cap3 z3) :
    Calls Try.prog 5 #[.int .u64 a0, .int .u64 a1, .int .u64 a2, .slice a3 len3 cap3] w fun e w' => e = .returned (.bool true) ∧ Below w.heap.size w w' := by
  obtain ⟨hr, hl⟩ := byteRow_of w3
  have hb := bounds_u64 w2
  obtain ⟨f, rfl⟩ := Int.eq_ofNat_of_zero_le hb.1
  exact core a0 a1 f (by omega) a3 len3 cap3 w hr hl

/-! ### THE ROW's STEP: WRITTEN OUT: LEAVE IT -/
set_option maxRecDepth 100000 in
theorem lifted (os : Os) (started : os.Started) (H : Type) (enc : TypeId × Value → H) :
    ReturnsInHanded {} Try.checked os 5 .any (Rows.fnKindsMatchLowestBitPeelingSpec.pre6 enc Try.prog Try.f5 Rows.fnKindsMatchLowestBitPeelingRow.domain false) (Rows.fnKindsMatchLowestBitPeelingSpec.post enc Try.prog Try.f5 false true false false) := by
  refine returnsInHanded_of_change (C := Try.checked) own started (by kernel_rfl) Try.func5
    (ChangeSpec.witness6 (enc := enc) (C := Try.checked) false ⟨#[], #[.int .u64 0, .int .u64 0, .int .u64 0, .slice none 0 0], []⟩ 8 (by kernel_rfl) (by kernel_rfl) (by kernel_rfl) (by kernel_rfl)) ?_
  intro W base args ds gs before hval0 hW hcnd _
  have hval : ∀ (j : Nat) t v, Try.f5.params[j]? = some t → args[j]? = some v → Value.okWide Try.prog W .any base t v := hval0
  have hW' := hW
  obtain ⟨p, q, hA0, hV, rfl, hfz, hnd⟩ := hW
  have hA : DataW.TrodAll enc Try.prog W 0 (fun _ => true) true Try.f5.params.toList args.toList ds p := hA0
  rw [Try.params5] at hA hval
  obtain ⟨v0, vs0, d0, ds0, p0, q0, hargs, rfl, rfl, h0, r0⟩ := trodAll_cons hA
  obtain ⟨v1, vs1, d1, ds1, p1, q1, rfl, rfl, rfl, h1, r1⟩ := trodAll_cons r0
  obtain ⟨v2, vs2, d2, ds2, p2, q2, rfl, rfl, rfl, h2, r2⟩ := trodAll_cons r1
  obtain ⟨v3, vs3, d3, ds3, p3, q3, rfl, rfl, rfl, h3, r3⟩ := trodAll_cons r2
  obtain ⟨rfl, rfl, rfl⟩ := trodAll_nil r3
  obtain rfl : args = #[v0, v1, v2, v3] := by cases args; simp_all
  obtain ⟨rfl, rfl⟩ := trodVars_none hV
  obtain ⟨a0, rfl, rfl, rfl, w0⟩ := open_int Try.underlying24 (hval 0 24 v0 rfl rfl) h0
  obtain ⟨a1, rfl, rfl, rfl, w1⟩ := open_int Try.underlying24 (hval 1 24 v1 rfl rfl) h1
  obtain ⟨a2, rfl, rfl, rfl, w2⟩ := open_int Try.underlying24 (hval 2 24 v2 rfl rfl) h2
  obtain ⟨a3, len3, cap3, rfl⟩ := okWide_slice Try.underlying29 (hval 3 29 v3 rfl rfl)
  have k3 := h3
  have lt3 : ∀ x ∈ p3, x.block < W.heap.size := by obtain ⟨m, hm⟩ := k3; exact DataW.trod_lt m _ _ _ hm
  obtain ⟨z3, w3⟩ : ∃ zs, IsRow .u8 W a3 len3 cap3 zs := by
    obtain ⟨fuel, hf⟩ := h3
    rcases open_ints Try.underlying29 Try.underlying5 (by kernel_rfl) hf with ⟨hcs, _⟩ | ⟨x, l, c, zs, hcs, _, hl, hm, hz, _, hcell, hwz⟩
    · simp [Value.cells] at hcs
      obtain ⟨rfl, rfl, rfl⟩ := hcs
      exact ⟨[], .inl ⟨rfl, rfl, rfl, rfl⟩⟩
    · simp [Value.cells] at hcs
      obtain ⟨rfl, rfl, rfl⟩ := hcs
      exact ⟨zs, .inr ⟨_, rfl, hl, hm, by simpa using hz, hcell, hwz⟩⟩
  clear hA0 hval0
  refine (walk a0 a1 a2 a3 len3 cap3 z3 W w0 w1 w2 w3).mono fun e W' ⟨he, bel⟩ => ?_
  subst he
  exact ⟨_, rfl, _, _, _, [], _, [], hW', trodAll_mk1 (shut_bool Try.underlying4 _), (trodAll_cons_mk (shut_int Try.underlying24 w0) (trodAll_cons_mk (shut_int Try.underlying24 w1) (trodAll_cons_mk (shut_int Try.underlying24 w2) (trodAll_cons_mk (Below.trod laidOut (by kernel_rfl) (of_decide_eq_true (by kernel_rfl)) k3 bel lt3) trodAll_mk0)))), rfl, bel.frame _, fun h => by cases h⟩

theorem over : Rows.fnKindsMatchLowestBitPeelingRow.holds Try.pinned (OpenSpec.ofChange Rows.fnKindsMatchLowestBitPeelingSpec) :=
  OpenClaim.holds_of_wide 5 Try.f5 rfl rfl rfl rfl rfl rfl rfl ⟨rfl, rfl, rfl, rfl, rfl⟩ rfl rfl rfl rfl rfl (by kernel_rfl) Try.func5 (by kernel_rfl)
    (of_decide_eq_true (by kernel_rfl)) (by unfold Func.isWrapper; first | (rw [if_pos (by decide +kernel)]; kernel_rfl) | (rw [if_neg (by decide +kernel)]; exact ⟨rfl, rfl⟩))
    (fun os started H enc _ => lifted os started H enc)

/-- ████ THE STATEMENT ████ -/
theorem proved : Rows.FnKindsMatchLowestBitPeelingSaid := over
#print axioms proved
end Go.Proofs.Qxb6602271a.fnKindsMatchLowestBitPeeling
