import Derived.Test.Qxb6600202aDoorPlain
namespace Go.Proofs.Qxb6600202aDoor
open Go.RowKit

set_option maxHeartbeats 2000000 in
theorem keeps_any (a0 : Option Addr) (l0 c0 : Nat) (D : List UInt8) (a1 : Option Addr) (l1 c1 : Nat) (C : List UInt8) (a2 : Option Addr) (l2 c2 : Nat) (P : List UInt8) (dr : Int) (w : World)
    (h0 : ByteRow w a0 l0 D) (h1 : ByteRow w a1 l1 C) (h2 : ByteRow w a2 l2 P) (b0 : l0 ≤ 9223372036854775807) (b1 : l1 ≤ 9223372036854775807) (b2 : l2 ≤ 9223372036854775807) (r0 : -9223372036854775808 ≤ dr) (r1 : dr ≤ 9223372036854775807)
    (htab : Lib.TabIs Tryd.prog w Tryd.powName .u64 Lib.pow10Tab) :
    Calls Tryd.prog 4 #[.slice a0 l0 c0, .slice a1 l1 c1, .slice a2 l2 c2, .int .i64 dr] w fun e w' => e = .returned (.bool true) ∧ Below w.heap.size w w' := by
  have H0 := hidden h0
  have H1 := hidden h1
  have H2 := hidden h2
  have HT := hidden (Lib.tabBelow_of_tabIs htab)
  clear h0 h1 h2 htab
  go_enter Tryd.func4, Tryd.ntmps4
  go_wp2_with fail
  refine (zzBytes_any 10 (.inr rfl) a0 l0 c0 a1 l1 c1 a2 l2 c2 dr w b0 b1 b2).mono ?_
  rintro e w' ⟨⟨b, rfl⟩, hw⟩
  rw [hw]
  clear hw w'
  cases b
  · go_wp2_with fail
    go_ret
    exact ⟨rfl, Below.refl _ _⟩
  by_cases t0 : l0 ≤ 262144
  case neg =>
    have z : (262144 : Int) < (l0 : Int) := by omega
    go_wp2_with fail
    go_ret
    exact ⟨rfl, Below.refl _ _⟩
  by_cases t1 : l1 ≤ 262144
  case neg =>
    have z : (262144 : Int) < (l1 : Int) := by omega
    go_wp2_with fail
    go_ret
    exact ⟨rfl, Below.refl _ _⟩
  by_cases t2 : l2 ≤ 262144
  case neg =>
    have z : (262144 : Int) < (l2 : Int) := by omega
    go_wp2_with fail
    go_ret
    exact ⟨rfl, Below.refl _ _⟩
  have y0 : ¬ (262144 : Int) < (l0 : Int) := by omega
  have y1 : ¬ (262144 : Int) < (l1 : Int) := by omega
  have y2 : ¬ (262144 : Int) < (l2 : Int) := by omega
  by_cases t3 : dr ≤ 9223372036854775807 - (l2 : Int)
  case neg =>
    have z : 9223372036854775807 - (l2 : Int) < dr := by omega
    go_wp2_with fail
    go_ret
    exact ⟨rfl, Below.refl _ _⟩
  have y3 : ¬ 9223372036854775807 - (l2 : Int) < dr := by omega
  go_wp2_with fail
  refine (clone_any a0 l0 c0 D w H0.out (by omega)).mono ?_
  rintro e w1 ⟨ao0, rfl, own0, bel0⟩
  have OWN0 := hidden own0
  have BEL0 := hidden bel0
  have hs1 := bel0.size
  clear own0 bel0
  go_wp2_with fail
  refine (clone_any a1 l1 c1 C w1 (H1.out.below BEL0.out (Nat.le_refl _)) (by omega)).mono ?_
  rintro e w2 ⟨ao1, rfl, own1, bel1⟩
  have OWN1 := hidden own1
  have BEL1 := hidden (BEL0.out.trans (bel1.mono hs1))
  have OWN0' := hidden (owns_below OWN0.out bel1 (Nat.le_refl _))
  have hs2 := bel1.size
  clear own1 bel1 OWN0
  go_wp2_with fail
  refine (clone_any a2 l2 c2 P w2 (H2.out.below BEL1.out (Nat.le_refl _)) (by omega)).mono ?_
  rintro e w3 ⟨ao2, rfl, own2, bel2⟩
  have BEL2 := hidden (BEL1.out.trans (bel2.mono (by omega)))
  have OWN0 := hidden (owns_below OWN0'.out bel2 (Nat.le_refl _))
  have OWN1' := hidden (owns_below OWN1.out bel2 (Nat.le_refl _))
  have hs3 := bel2.size
  clear own2 bel2 OWN0' OWN1
  go_wp2_with fail
  refine (clone_any ao0 l0 l0 D w3 (row_of_owns OWN0.out) (by omega)).mono ?_
  rintro e w4 ⟨ao3, rfl, own3, bel3⟩
  have BEL3 := hidden (BEL2.out.trans (bel3.mono (by omega)))
  have OWN0' := hidden (owns_below OWN0.out bel3 (Nat.le_refl _))
  have OWN1 := hidden (owns_below OWN1'.out bel3 (Nat.le_refl _))
  have REF := hidden (row_of_owns own3)
  have hs4 := bel3.size
  clear own3 bel3 OWN0 OWN1' BEL0 BEL1 BEL2
  go_wp2_with fail
  have q0 : (w4.alloc (.cells #[.slice ao1 l1 l1, .slice ao2 l2 l2, .int .i64 dr] 26)).cell? ⟨w4.heap.size, 0, none⟩ = some (.slice ao1 l1 l1) := by rw [World.cell?_alloc_at _ _ _ _ (by simp)]; rfl
  have q1 : (w4.alloc (.cells #[.slice ao1 l1 l1, .slice ao2 l2 l2, .int .i64 dr] 26)).cell? ⟨w4.heap.size, 1, none⟩ = some (.slice ao2 l2 l2) := by rw [World.cell?_alloc_at _ _ _ _ (by simp)]; rfl
  have q2 : (w4.alloc (.cells #[.slice ao1 l1 l1, .slice ao2 l2 l2, .int .i64 dr] 26)).cell? ⟨w4.heap.size, 2, none⟩ = some (.int .i64 dr) := by rw [World.cell?_alloc_at _ _ _ _ (by simp)]; rfl
  have hs5 : (w4.alloc (.cells #[.slice ao1 l1 l1, .slice ao2 l2 l2, .int .i64 dr] 26)).heap.size = w4.heap.size + 1 := by simp
  have BW : Hid (Below w4.heap.size w4 (w4.alloc (.cells #[.slice ao1 l1 l1, .slice ao2 l2 l2, .int .i64 dr] 26))) := (Below.refl _ w4).alloc (Nat.le_refl _) _
  generalize (w4.alloc (.cells #[.slice ao1 l1 l1, .slice ao2 l2 l2, .int .i64 dr] 26)) = w5 at *
  have OWN0 := hidden (owns_below OWN0'.out BW.out (Nat.le_refl _))
  have ROW1 := hidden (row_of_owns (owns_below OWN1.out BW.out (Nat.le_refl _)))
  have REF5 := hidden (REF.out.below BW.out (Nat.le_refl _))
  have BEL5 := hidden (BEL3.out.trans (BW.out.mono (by omega)))
  have HCL := hidden H1.out.len_eq
  have HDL := hidden H0.out.len_eq
  clear OWN0' OWN1 REF BEL3 BW H0 H1 H2
  have m0 : -9223372036854775808 ≤ (l2 : Int) + dr := by omega
  have m1 : (l2 : Int) + dr ≤ 9223372036854775807 := by omega
  refine (appendTo_any ao1 l1 l1 C ao2 l2 l2 dr ao0 l0 _ D w5 ROW1.out OWN0.out t1 t0 m0 m1 (HT.out _ BEL5.out)).mono ?_
  rintro e w6 ⟨g1, cap1, rfl, own6, bel6⟩
  have hs6 := bel6.size
  have c6 : ∀ (o : Nat) (v : Value), w5.cell? ⟨w4.heap.size, o, none⟩ = some v → w6.cell? ⟨w4.heap.size, o, none⟩ = some v := fun o v h => (bel6.cell (by show w4.heap.size < _; omega)).trans h
  have p0 := c6 0 _ q0
  have p1 := c6 1 _ q1
  have p2 := c6 2 _ q2
  have OWN6 := hidden own6
  have ROW1' := hidden (ROW1.out.below bel6 (Nat.le_refl _))
  have REF6 := hidden (REF5.out.below bel6 (Nat.le_refl _))
  have BEL6 := hidden (BEL5.out.trans (bel6.mono (by omega)))
  have LL := hidden (line_length C ((l2 : Int) + dr) m0 m1)
  clear own6 bel6 c6 q0 q1 q2 BEL5 REF5 ROW1 OWN0
  obtain ⟨N, hN⟩ : ∃ N : Nat, Hid (N = (line C ((l2 : Int) + dr)).length) := ⟨_, hidden rfl⟩
  rw [← hN.out] at OWN6 LL ⊢
  go_wp2_with fail
  refine (appendTo_any ao1 l1 l1 C ao2 l2 l2 dr none 0 w6.heap.size [] w6 ROW1'.out (World.ownsRow_nil _ _ _ _) t1 (by omega) m0 m1 (HT.out _ BEL6.out)).mono ?_
  intro e w7 h7
  simp only [Nat.zero_add, List.nil_append] at h7
  rw [← hN.out] at h7
  obtain ⟨g2, cap2, rfl, own7, bel7⟩ := h7
  have hs7 := bel7.size
  have OWN7 := hidden (owns_below OWN6.out bel7 (Nat.le_refl _))
  have ALONE := hidden (row_of_owns own7)
  have REF7 := hidden (REF6.out.below bel7 (Nat.le_refl _))
  have BEL7 := hidden (BEL6.out.trans (bel7.mono (by omega)))
  have lc := owns_cap OWN7.out
  have hcl := HCL.out
  have ln := LL.out
  rw [← hcl] at ln
  have ln1 := ln.1
  have ln2 := ln.2
  clear own7 bel7 BEL6 REF6 OWN6 p0 p1 p2 ROW1' ln hcl
  have lc0 : ¬ cap1 = l0 := by omega
  go_wp2_with fail
  refine (equal_any (some ⟨g1, 0, none⟩) l0 cap1 ao3 l0 D w7 (row_pre (row_of_owns OWN7.out) HDL.out) REF7.out (by omega)).mono ?_
  rintro e w8 ⟨rfl, q8, hw8⟩
  have B8 : Below w7.heap.size w7 w8 := by rw [hw8]; exact below_more (Below.refl _ _)
  have SUF := hidden (row_suf0 ((row_of_owns OWN7.out).below B8 (Nat.le_refl _)) HDL.out)
  have ALONE8 := hidden (ALONE.out.below B8 (Nat.le_refl _))
  have BEL8 := hidden (BEL7.out.trans (B8.mono (by omega)))
  have hs8 := B8.size
  clear hw8 B8 ALONE BEL7 REF7
  go_wp2_with fail
  refine (equal_any (some ⟨g1, l0, none⟩) N (cap1 - l0) (some ⟨g2, 0, none⟩) cap2 (line C ((l2 : Int) + dr)) w8 SUF.out ALONE8.out (by omega)).mono ?_
  rintro e w9 ⟨rfl, q9, hw9⟩
  have B9 : Below w8.heap.size w8 w9 := by rw [hw9]; exact below_more (Below.refl _ _)
  have ALONE9 := hidden (ALONE8.out.below B9 (Nat.le_refl _))
  have BEL9 := hidden (BEL8.out.trans (B9.mono (by omega)))
  have LB := hidden (line_byte C ((l2 : Int) + dr))
  have LCT := hidden (line_count C ((l2 : Int) + dr))
  clear hw9 B9 ALONE8 BEL8 SUF OWN7
  go_wp2_with fail
  generalize line C ((l2 : Int) + dr) = L at *
  go_loopw [13, 14] (fun s i wr => ∃ (k c : Nat), k ≤ N ∧ i = .int .i64 k ∧ s = .int .i64 c ∧ Hid (c = (L.take k).count 32) ∧ c ≤ k ∧ wr = w9) (fun _ i _ => N - (intOf i).toNat)
  case atStart => exact ⟨0, 0, Nat.zero_le _, rfl, rfl, by show 0 = _; simp, Nat.le_refl _, rfl⟩
  case round =>
    obtain ⟨k, c, hk, rfl, rfl, HCT, hck, rfl⟩ := hrel
    by_cases hlt : k < N
    · have hkL : k < L.length := by have := hN.out; omega
      obtain ⟨cb, co, e, hcb, hcc⟩ := ALONE9.out.cells (by omega)
      simp only [Option.some.injEq, Addr.mk.injEq, and_true] at e
      obtain ⟨rfl, rfl⟩ := e
      have hc0 := hcc k hkL
      rw [Nat.zero_add] at hc0
      have hst := count_step L k hkL
      have hby := LB.out _ (List.getElem_mem hkL)
      clear hcc
      generalize L[k] = b at hc0 hst hby
      have hb0 : (0 : Int) ≤ (b.toNat : Int) := by omega
      have hb1 : (b.toNat : Int) ≤ 255 := by have := b.toNat_lt; omega
      by_cases h32 : b.toNat = 32
      · have z : ((b.toNat : Int) == 32) = true := by simp; omega
        rw [if_pos h32] at hst
        have HST := hidden hst
        clear hst hby h32
        go_wp2_with fail
        go_roundw
        case rel => exact ⟨k + 1, c + 1, by omega, by go_num, by go_num, by show c + 1 = _; rw [HST.out, ← HCT.out], by omega, by trivial⟩
        case measure => simp [intOf]; omega
      · have z : ((b.toNat : Int) == 32) = false := by simp; omega
        rw [if_neg h32] at hst
        have HST := hidden hst
        have z1 : ¬ (b.toNat : Int) < 33 := by omega
        have z2 : ¬ (126 : Int) < (b.toNat : Int) := by omega
        clear hst hby h32
        go_wp2_with fail
        go_roundw
        case rel => exact ⟨k + 1, c, by omega, by go_num, rfl, by show c = _; rw [HST.out, ← HCT.out]; rfl, by omega, by trivial⟩
        case measure => simp [intOf]; omega
    · have hkN : k = N := by omega
      have hc2 : c = 2 := by rw [HCT.out, hkN, hN.out, List.take_length]; exact LCT.out
      subst hc2
      have x1 : (l1 : Int) + 19 ≤ (N : Int) := by omega
      have x2 : (N : Int) ≤ 4 * (l1 : Int) + 38 := by omega
      go_wp2_with fail
      go_ret
      have d : decide ((N : Int) ≤ 9 + 4 * (l1 : Int) + 9 + 20) = true := by simp; omega
      exact ⟨congrArg (fun b => Ending.returned (.bool b)) d, BEL9.out⟩
end Go.Proofs.Qxb6600202aDoor
