import Derived.Test.Qxb6600202aDoorDecode
namespace Go.Proofs.Qxb6600202aDoor
open Go.RowKit

set_option maxHeartbeats 2000000 in
theorem round_any (a0 : Option Addr) (l0 c0 : Nat) (D : List UInt8) (a1 : Option Addr) (l1 c1 : Nat) (C : List UInt8) (a2 : Option Addr) (l2 c2 : Nat) (P : List UInt8) (dr : Int) (w : World)
    (h0 : ByteRow w a0 l0 D) (h1 : ByteRow w a1 l1 C) (h2 : ByteRow w a2 l2 P) (b0 : l0 ≤ 9223372036854775807) (b1 : l1 ≤ 9223372036854775807) (b2 : l2 ≤ 9223372036854775807) (r0 : -9223372036854775808 ≤ dr) (r1 : dr ≤ 9223372036854775807)
    (htab : Lib.TabIs Tryd.prog w Tryd.powName .u64 Lib.pow10Tab) :
    Calls Tryd.prog 3 #[.slice a0 l0 c0, .slice a1 l1 c1, .slice a2 l2 c2, .int .i64 dr] w fun e w' => e = .returned (.bool true) ∧ Below w.heap.size w w' := by
  have H0 := hidden h0
  have H1 := hidden h1
  have H2 := hidden h2
  have HT := hidden (Lib.tabBelow_of_tabIs htab)
  clear h0 h1 h2 htab
  go_enter Tryd.func3, Tryd.ntmps3
  go_wp2_with fail
  refine (zzBytes_any 5 (.inl rfl) a0 l0 c0 a1 l1 c1 a2 l2 c2 dr w b0 b1 b2).mono ?_
  rintro e w' ⟨⟨b, rfl⟩, hw⟩
  rw [hw]
  clear hw w'
  cases b
  · go_wp2_with fail
    go_ret
    exact ⟨rfl, Below.refl _ _⟩
  by_cases t0 : l0 ≤ 262144
  case neg =>
    have z : (262144 : Int) < (l0 : Int) := by omega
    go_wp2_with fail
    go_ret
    exact ⟨rfl, Below.refl _ _⟩
  by_cases t1 : l1 ≤ 262144
  case neg =>
    have z : (262144 : Int) < (l1 : Int) := by omega
    go_wp2_with fail
    go_ret
    exact ⟨rfl, Below.refl _ _⟩
  by_cases t2 : l2 ≤ 262144
  case neg =>
    have z : (262144 : Int) < (l2 : Int) := by omega
    go_wp2_with fail
    go_ret
    exact ⟨rfl, Below.refl _ _⟩
  have y0 : ¬ (262144 : Int) < (l0 : Int) := by omega
  have y1 : ¬ (262144 : Int) < (l1 : Int) := by omega
  have y2 : ¬ (262144 : Int) < (l2 : Int) := by omega
  by_cases t3 : dr ≤ 9223372036854775807 - (l2 : Int)
  case neg =>
    have z : 9223372036854775807 - (l2 : Int) < dr := by omega
    go_wp2_with fail
    go_ret
    exact ⟨rfl, Below.refl _ _⟩
  have y3 : ¬ 9223372036854775807 - (l2 : Int) < dr := by omega
  go_wp2_with fail
  refine (clone_any a0 l0 c0 D w H0.out (by omega)).mono ?_
  rintro e w1 ⟨ao0, rfl, own0, bel0⟩
  have OWN0 := hidden own0
  have BEL0 := hidden bel0
  have hs1 := bel0.size
  clear own0 bel0
  go_wp2_with fail
  refine (clone_any a1 l1 c1 C w1 (H1.out.below BEL0.out (Nat.le_refl _)) (by omega)).mono ?_
  rintro e w2 ⟨ao1, rfl, own1, bel1⟩
  have OWN1 := hidden own1
  have BEL1 := hidden (BEL0.out.trans (bel1.mono hs1))
  have OWN0' := hidden (owns_below OWN0.out bel1 (Nat.le_refl _))
  have hs2 := bel1.size
  clear own1 bel1 OWN0
  go_wp2_with fail
  refine (clone_any a2 l2 c2 P w2 (H2.out.below BEL1.out (Nat.le_refl _)) (by omega)).mono ?_
  rintro e w3 ⟨ao2, rfl, own2, bel2⟩
  have BEL2 := hidden (BEL1.out.trans (bel2.mono (by omega)))
  have OWN0 := hidden (owns_below OWN0'.out bel2 (Nat.le_refl _))
  have OWN1' := hidden (owns_below OWN1.out bel2 (Nat.le_refl _))
  have hs3 := bel2.size
  clear own2 bel2 OWN0' OWN1
  go_wp2_with fail
  refine (clone_any ao0 l0 l0 D w3 (row_of_owns OWN0.out) (by omega)).mono ?_
  rintro e w4 ⟨ao3, rfl, own3, bel3⟩
  have BEL3 := hidden (BEL2.out.trans (bel3.mono (by omega)))
  have OWN0' := hidden (owns_below OWN0.out bel3 (Nat.le_refl _))
  have OWN1 := hidden (owns_below OWN1'.out bel3 (Nat.le_refl _))
  have REF := hidden (row_of_owns own3)
  have hs4 := bel3.size
  clear own3 bel3 OWN0 OWN1' BEL0 BEL1 BEL2
  go_wp2_with fail
  have q0 : (w4.alloc (.cells #[.slice ao1 l1 l1, .slice ao2 l2 l2, .int .i64 dr] 26)).cell? ⟨w4.heap.size, 0, none⟩ = some (.slice ao1 l1 l1) := by rw [World.cell?_alloc_at _ _ _ _ (by simp)]; rfl
  have q1 : (w4.alloc (.cells #[.slice ao1 l1 l1, .slice ao2 l2 l2, .int .i64 dr] 26)).cell? ⟨w4.heap.size, 1, none⟩ = some (.slice ao2 l2 l2) := by rw [World.cell?_alloc_at _ _ _ _ (by simp)]; rfl
  have q2 : (w4.alloc (.cells #[.slice ao1 l1 l1, .slice ao2 l2 l2, .int .i64 dr] 26)).cell? ⟨w4.heap.size, 2, none⟩ = some (.int .i64 dr) := by rw [World.cell?_alloc_at _ _ _ _ (by simp)]; rfl
  have hs5 : (w4.alloc (.cells #[.slice ao1 l1 l1, .slice ao2 l2 l2, .int .i64 dr] 26)).heap.size = w4.heap.size + 1 := by simp
  have BW : Hid (Below w4.heap.size w4 (w4.alloc (.cells #[.slice ao1 l1 l1, .slice ao2 l2 l2, .int .i64 dr] 26))) := (Below.refl _ w4).alloc (Nat.le_refl _) _
  generalize (w4.alloc (.cells #[.slice ao1 l1 l1, .slice ao2 l2 l2, .int .i64 dr] 26)) = w5 at *
  have OWN0 := hidden (owns_below OWN0'.out BW.out (Nat.le_refl _))
  have ROW1 := hidden (row_of_owns (owns_below OWN1.out BW.out (Nat.le_refl _)))
  have REF5 := hidden (REF.out.below BW.out (Nat.le_refl _))
  have BEL5 := hidden (BEL3.out.trans (BW.out.mono (by omega)))
  have HCL := hidden H1.out.len_eq
  have HDL := hidden H0.out.len_eq
  clear OWN0' OWN1 REF BEL3 BW H0 H1 H2
  have m0 : -9223372036854775808 ≤ (l2 : Int) + dr := by omega
  have m1 : (l2 : Int) + dr ≤ 9223372036854775807 := by omega
  refine (appendTo_any ao1 l1 l1 C ao2 l2 l2 dr ao0 l0 _ D w5 ROW1.out OWN0.out t1 t0 m0 m1 (HT.out _ BEL5.out)).mono ?_
  rintro e w6 ⟨g1, cap1, rfl, own6, bel6⟩
  have hs6 := bel6.size
  have OWN6 := hidden own6
  have ROW1' := hidden (ROW1.out.below bel6 (Nat.le_refl _))
  have REF6 := hidden (REF5.out.below bel6 (Nat.le_refl _))
  have BEL6 := hidden (BEL5.out.trans (bel6.mono (by omega)))
  have LL := hidden (line_length C ((l2 : Int) + dr) m0 m1)
  clear own6 bel6 q0 q1 q2 BEL5 REF5 ROW1 OWN0
  obtain ⟨N, hN⟩ : ∃ N : Nat, Hid (N = (line C ((l2 : Int) + dr)).length) := ⟨_, hidden rfl⟩
  rw [← hN.out] at OWN6 LL ⊢
  have lc := owns_cap OWN6.out
  have hcl := HCL.out
  have ln := LL.out
  rw [← hcl] at ln
  have ln1 := ln.1
  have ln2 := ln.2
  have lc0 : ¬ cap1 = l0 := by omega
  clear ln hcl
  go_wp2_with fail
  refine (equal_any (some ⟨g1, 0, none⟩) l0 cap1 ao3 l0 D w6 (row_pre (row_of_owns OWN6.out) HDL.out) REF6.out (by omega)).mono ?_
  rintro e w8 ⟨rfl, q8, hw8⟩
  have B8 : Below w6.heap.size w6 w8 := by rw [hw8]; exact below_more (Below.refl _ _)
  have SUF := hidden (row_suf0 ((row_of_owns OWN6.out).below B8 (Nat.le_refl _)) HDL.out)
  have CTL := hidden (ROW1'.out.below B8 (Nat.le_refl _))
  have BEL8 := hidden (BEL6.out.trans (B8.mono (by omega)))
  have hs8 := B8.size
  clear hw8 B8 BEL6 REF6 ROW1' OWN6
  go_wp2_with fail
  refine (decode_any g1 l0 N (cap1 - l0) C ((l2 : Int) + dr) w8 SUF.out (by omega) (by have := HCL.out; omega) m0 m1).mono ?_
  rintro e w9 ⟨ao, c9, rfl, row9, bel9⟩
  have CTL9 := hidden (CTL.out.below bel9 (Nat.le_refl _))
  have ROW9 : Hid (ByteRow w9 ao l1 C) := by rw [HCL.out]; exact row9
  have BEL9 := hidden (BEL8.out.trans (bel9.mono (by omega)))
  have hs9 := bel9.size
  rw [← HCL.out]
  clear row9 bel9 SUF CTL BEL8
  go_wp2_with fail
  refine (equal_any ao l1 c9 ao1 l1 C w9 ROW9.out CTL9.out (by omega)).mono ?_
  rintro e w10 ⟨rfl, q10, hw10⟩
  have B10 : Hid (Below w.heap.size w w10) := by rw [hw10]; exact below_more BEL9.out
  clear hw10
  go_wp2_with fail
  go_ret
  exact ⟨rfl, B10.out⟩
end Go.Proofs.Qxb6600202aDoor
