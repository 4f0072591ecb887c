import Derived.Test.Qxb6600099aRows
import Derived.WalkKit
import Derived.WalkSpells
import Derived.WalkLawsBesides
import Derived.Lib.SliceRun
import Derived.Deep.QuietTactic
import Derived.BigQuiet
import Derived.OpenShut
import Derived.Deep.AppendLies
import Derived.Deep.RegionLaw
import Derived.Deep.RegionHeld3
namespace Go.Proofs.Qxb6600099a
open Go.RowKit

theorem hidden {p : Prop} (h : p) : Hid p := h
theorem below_more {B : Nat} {a w : World} {q : Nat} (h : Below B a w) : Below B a (w.drewN q) := ⟨h.os, h.tape, h.output, h.size, h.block⟩

/-- A slice of integers, nil and empty ones too: its first 'len' numbers are 'zs i'. -/
structure IntRow (k : IntKind) (w : World) (ao : Option Addr) (len : Nat) (zs : Nat → Int) : Prop where
  cells : 0 < len → ∃ b off, ao = some ⟨b, off, none⟩ ∧ b < w.heap.size ∧ ∀ i, i < len → w.cell? ⟨b, off + i, none⟩ = some (.int k (zs i))
  wf : ∀ i, i < len → (Lit.int k (zs i)).wf = true
  len : len ≤ 9223372036854775807

/-- It returned a bool. -/
def RetBool (e : Ending) : Prop := ∃ b, e = .returned (.bool b)
theorem RetBool.mk (b : Bool) : RetBool (.returned (.bool b)) := ⟨b, rfl⟩

set_option maxHeartbeats 1000000 in
theorem zzBytes_any (a0 : Option Addr) (l0 c0 : Nat) (x1 x2 x3 x4 x5 : Int) (a6 : Option Addr) (l6 c6 : Nat) (x7 x8 : Bool) (x9 x10 : Int) (w : World) (h0 : l0 ≤ 9223372036854775807) (h6 : l6 ≤ 9223372036854775807) :
    Calls Try.prog 23 #[.slice a0 l0 c0, .int .i64 x1, .int .i64 x2, .int .i64 x3, .int .i64 x4, .int .i64 x5, .slice a6 l6 c6, .bool x7, .bool x8, .int .i64 x9, .int .i64 x10] w fun e w' => RetBool e ∧ w' = w := by
  go_enter Try.func23, Try.ntmps23
  go_wp2
  all_goals (go_ret; exact ⟨RetBool.mk _, rfl⟩)

/-- The stack rises strictly, and the innermost indent lies beyond it. -/
def Inc (zs : Nat → Int) (len : Nat) (ind : Int) : Prop := (∀ i, i + 1 < len → zs i < zs (i + 1)) ∧ (0 < len → zs (len - 1) < ind)

/-- What increasing returned. -/
def IncPost (zs : Nat → Int) (len : Nat) (ind : Int) (e : Ending) : Prop := ∃ b, e = .returned (.bool b) ∧ (b = true ↔ Inc zs len ind)

set_option maxHeartbeats 1000000 in
theorem increasing_any (a0 : Option Addr) (l0 c0 : Nat) (zs : Nat → Int) (ind : Int) (w : World) (h0 : 0 < l0 → ∃ b off, a0 = some ⟨b, off, none⟩ ∧ b < w.heap.size ∧ ∀ i, i < l0 → w.cell? ⟨b, off + i, none⟩ = some (.int .i64 (zs i))) (hl : l0 ≤ 1048576) :
    Calls Try.prog 24 #[.slice a0 l0 c0, .int .i64 ind] w fun e w' => IncPost zs l0 ind e ∧ ∃ q, w' = w.drewN q := by
  have H0 := hidden h0
  clear h0
  go_enter Try.func24, Try.ntmps24
  go_wp2
  go_loopw [5] (fun i wr => ∃ (k q : Nat), (k + 1 ≤ l0 ∨ k = 0) ∧ i = .int .i64 k ∧ wr = w.drewN q ∧ Hid (∀ j, j < k → zs j < zs (j + 1))) (fun i _ => l0 - (intOf i).toNat)
  case atStart => exact ⟨0, 0, by omega, rfl, rfl, fun _ h => absurd h (Nat.not_lt_zero _)⟩
  case round =>
    obtain ⟨k, q, hk, rfl, rfl, I⟩ := hrel
    by_cases hlt : k + 1 < l0
    · obtain ⟨b, off, rfl, hb, hc⟩ := H0.out (by omega)
      have c1 := hc k (by omega)
      have c2 := hc (k + 1) (by omega)
      have z1 : (k : Int) < (l0 : Int) := by omega
      have z2 : (k : Int) + 1 < (l0 : Int) := by omega
      clear hc hk
      generalize hz1 : zs k = v1 at c1
      generalize hz2 : zs (k + 1) = v2 at c2
      have HZ := hidden (And.intro hz1 hz2)
      clear hz1 hz2
      by_cases hge : v2 ≤ v1
      · have hge' : decide (v2 ≤ v1) = true := by simpa using hge
        go_wp2
        go_quiet (fail)
        go_wp2
        go_ret
        refine ⟨⟨false, rfl, ?_⟩, q + nq, by rw [World.drewN_drewN]⟩
        refine ⟨fun h => Bool.noConfusion h, fun h => ?_⟩
        have := h.1 k hlt
        rw [HZ.out.1, HZ.out.2] at this
        omega
      · go_wp2
        go_quiet (fail)
        go_wp2
        go_roundw
        case rel => exact ⟨k + 1, q + nq, by omega, by go_num, rfl, fun j hj => by
          rcases Nat.lt_or_ge j k with h | h
          · exact I.out j h
          · obtain rfl : j = k := by omega
            rw [HZ.out.1, HZ.out.2]; omega⟩
        case measure => simp [intOf]; omega
    · by_cases hpos : 0 < l0
      · obtain ⟨b, off, rfl, hb, hc⟩ := H0.out (by omega)
        have c1 := hc (l0 - 1) (by omega)
        have hk' : k + 1 = l0 := by omega
        generalize hz1 : zs (l0 - 1) = v1 at c1
        have HZ := hidden hz1
        clear hz1 hc
        by_cases hge : ind ≤ v1
        · go_wp2
          go_ret
          refine ⟨⟨false, rfl, ?_⟩, _, rfl⟩
          refine ⟨fun h => Bool.noConfusion h, fun h => ?_⟩
          have := h.2 hpos
          rw [HZ.out] at this
          omega
        · go_wp2
          go_ret
          refine ⟨⟨true, rfl, ?_⟩, _, rfl⟩
          refine ⟨fun _ => ⟨fun i hi => I.out i (by omega), fun _ => by rw [HZ.out]; omega⟩, fun _ => rfl⟩
      · obtain rfl : l0 = 0 := by omega
        go_wp2
        go_ret
        refine ⟨⟨true, rfl, ?_⟩, _, rfl⟩
        refine ⟨fun _ => ⟨fun i hi => by omega, fun h => absurd h (Nat.lt_irrefl _)⟩, fun _ => rfl⟩
end Go.Proofs.Qxb6600099a
