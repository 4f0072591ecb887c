import Derived.Test.Qxb6600202aDoorRows
import Derived.Test.Qxb6600202aDoorShelf
import Derived.WalkKit
import Derived.WalkSpells
import Derived.WalkLawsBesides
import Derived.Lib.SliceRun
import Derived.Deep.QuietTactic
import Derived.BigQuiet
import Derived.OpenShut
import Derived.Deep.AppendLies
import Derived.Deep.RegionLaw
import Derived.Laws.CopyOwn
import Derived.Lib.AppendStr
import Derived.Lib.ItoaLen
import Derived.Lib.AppendIntMem
namespace Go.Proofs.Qxb6600202aDoor
open Go.RowKit

theorem hidden {p : Prop} (h : p) : Hid p := h
theorem below_more {B : Nat} {a w : World} {q : Nat} (h : Below B a w) : Below B a (w.drewN q) := ⟨h.os, h.tape, h.output, h.size, h.block⟩

/-- A byte as a cell. -/
def bc (b : UInt8) : Value := .int .u8 (b.toNat : Int)
/-- Bytes as cells. -/
def bcs (l : List UInt8) : List Value := l.map bc
theorem bcs_length (l : List UInt8) : (bcs l).length = l.length := by simp [bcs]
theorem bcs_append (l m : List UInt8) : bcs (l ++ m) = bcs l ++ bcs m := by simp [bcs]
theorem bcs_at (l : List UInt8) (i : Nat) (h : i < l.length) : (bcs l)[i]? = some (.int .u8 ((l[i]).toNat : Int)) := by simp [bcs, bc, h]
theorem bcs_one (l : List UInt8) : ∀ u ∈ bcs l, u.oneCell' = true := by
  intro u hu
  obtain ⟨b, _, rfl⟩ := List.mem_map.1 hu
  rfl
theorem bcs_eq_byteCells (l : List UInt8) : Lib.byteCells l = bcs l := rfl

/-- A slice of bytes that is read, nil and empty ones too. -/
structure ByteRow (w : World) (ao : Option Addr) (len : Nat) (l : List UInt8) : Prop where
  len_eq : len = l.length
  cells : 0 < len → ∃ b off, ao = some ⟨b, off, none⟩ ∧ b < w.heap.size ∧ ∀ i (h : i < l.length), w.cell? ⟨b, off + i, none⟩ = some (.int .u8 ((l[i]).toNat : Int))

theorem ByteRow.below {w w' : World} {ao : Option Addr} {len : Nat} {l : List UInt8} {B : Nat} (h : ByteRow w ao len l) (hb : Below B w w') (hB : w.heap.size ≤ B) : ByteRow w' ao len l :=
  ⟨h.len_eq, fun hp => by
    obtain ⟨b, off, e, hlt, hc⟩ := h.cells hp
    exact ⟨b, off, e, Nat.lt_of_lt_of_le hlt hb.size, fun i hi => (hb.cell (by show b < B; omega)).trans (hc i hi)⟩⟩

theorem row_of_owns {w : World} {base : Nat} {ao : Option Addr} {n c : Nat} {l : List UInt8} (h : w.ownsRow base 5 1 (.slice ao n c) n (bcs l)) : ByteRow w ao n l := by
  have hn : n = l.length := by have := h.1; rw [bcs_length] at this; omega
  refine ⟨hn, fun hp => ?_⟩
  obtain ⟨g, cap, hv, _, hlt⟩ := h.form hp
  simp only [Value.slice.injEq] at hv
  obtain ⟨rfl, _, rfl⟩ := hv
  refine ⟨g, 0, rfl, hlt, fun i hi => ?_⟩
  rw [Nat.zero_add, h.cellAt i (by omega)]
  exact bcs_at l i hi

/-- It returned a bool. -/
def RetBool (e : Ending) : Prop := ∃ b, e = .returned (.bool b)
theorem RetBool.mk (b : Bool) : RetBool (.returned (.bool b)) := ⟨b, rfl⟩

set_option maxHeartbeats 1000000 in
theorem zzBytes_any (f : Nat) (hf : f = 5 ∨ f = 10) (a0 : Option Addr) (l0 c0 : Nat) (a1 : Option Addr) (l1 c1 : Nat) (a2 : Option Addr) (l2 c2 : Nat) (x3 : Int) (w : World) (h0 : l0 ≤ 9223372036854775807) (h1 : l1 ≤ 9223372036854775807) (h2 : l2 ≤ 9223372036854775807) :
    Calls Tryd.prog f #[.slice a0 l0 c0, .slice a1 l1 c1, .slice a2 l2 c2, .int .i64 x3] w fun e w' => RetBool e ∧ w' = w := by
  rcases hf with rfl | rfl
  · go_enter Tryd.func5, Tryd.ntmps5
    go_wp2
    all_goals (go_ret; exact ⟨RetBool.mk _, rfl⟩)
  · go_enter Tryd.func10, Tryd.ntmps10
    go_wp2
    all_goals (go_ret; exact ⟨RetBool.mk _, rfl⟩)

theorem Tryd.info5 : (Tryd.prog.info? 5).map (fun i => (i.zero, i.size, i.bytes)) = some (some (.int .u8 0), 1, 1) := by kernel_rfl
theorem Tryd.size5 : (Tryd.prog.info? 5).map (·.size) = some 1 := by kernel_rfl

set_option maxHeartbeats 1000000 in
theorem clone_any (a0 : Option Addr) (l0 c0 : Nat) (l : List UInt8) (w : World) (h0 : ByteRow w a0 l0 l) (hl : l0 ≤ 1048576) :
    Calls Tryd.prog 6 #[.slice a0 l0 c0] w fun e w' => ∃ ao, e = .returned (.slice ao l0 l0) ∧ w'.ownsRow w.heap.size 5 1 (.slice ao l0 l0) l0 (bcs l) ∧ Below w.heap.size w w' := by
  have hnil := Lib.run_eql_slice_nil w 22 5 a0 l0 c0 0 0 Tryd.underlying22
  have H0 := hidden h0
  clear h0
  cases hN : a0.isNone
  · rw [hN] at hnil
    clear hN
    obtain ⟨i0, hi, hi0, hi1, hi2⟩ := info_parts Tryd.info5
    go_enter Tryd.func6, Tryd.ntmps6
    go_wp2_with (at_make; refine wpList_make_full _ rfl _ _ 22 rfl w.heap.size 5 i0 _ 1 Tryd.underlying22 hi hi0 hi1 _ _ _ _ l0 rfl rfl rfl rfl ?b2 ?b3 (Nat.le_refl _) ?_)
    case b2 => rw [hi2]; omega
    case b3 => unfold maxLen; omega
    intro w1 hown1 hgrow1
    have HO1 := hidden hown1
    have HG1 := hidden hgrow1
    clear hown1 hgrow1 hnil
    have HLL := hidden H0.out.len_eq
    obtain ⟨cur, hcur, hcl⟩ : ∃ cur : List Value, w1.heap[w.heap.size]? = some (.cells cur.toArray 5 (0, 0)) ∧ cur.length = l0 := by
      rcases HO1.out.2 with ⟨e, _⟩ | ⟨g, cap, cur, e, _, hh, _, _, hcs, _⟩
      · cases e
      · simp only [Value.slice.injEq, Option.some.injEq, Addr.mk.injEq, and_true, true_and] at e
        obtain ⟨rfl, rfl⟩ := e
        exact ⟨cur.toList, by simpa using hh, by simpa using hcs⟩
    have hsrc : 0 < (bcs l).length → ∃ ad, a0 = some ad ∧ ∀ j v, (bcs l)[j]? = some v → w1.cell? (ad.add j) = some v := fun hp => by
      rw [bcs_length] at hp
      obtain ⟨b, off, e, hb, hc⟩ := H0.out.cells (by have := HLL.out; omega)
      refine ⟨_, e, fun j v hj => ?_⟩
      have hjl : j < l.length := by
        have := (List.getElem?_eq_some_iff.1 hj).1
        rwa [bcs_length] at this
      rw [bcs_at l j hjl] at hj
      have hcj := hc j hjl
      rw [Go.WideShapes.add_plain]
      rw [← Option.some.inj hj]
      exact (World.cell?_of_block (HG1.out.block b hb (by simp))).trans hcj
    have HSRC := hidden hsrc
    have HCUR := hidden hcur
    have HB1 : Hid (Below w.heap.size w w1) := (Below.refl _ w).grown HG1.out (Nat.le_refl _) (fun k h => by cases h)
    clear hsrc hcur HO1 HG1
    have HCL := hidden hcl
    clear hcl
    go_wp2_with (refine wpList_copy_splice rfl _ _ 22 22 rfl 5 Tryd.underlying22 Tryd.size5 _ _ _ _ _ _ rfl rfl w.heap.size 0 cur 5 HCUR.out (bcs l) ?n1 (fun hp => ⟨rfl, HSRC.out hp⟩) ?n2 (bcs_one l) w.heap.size w HB1.out (Nat.le_refl _) ?_)
    case n1 => rw [bcs_length, ← HLL.out]; exact (Nat.min_self _).symm
    case n2 => have := HLL.out; have := HCL.out; rw [bcs_length]; omega
    intro w2 hg2 hb2
    have hll := HLL.out
    have hcl := HCL.out
    have hsp : splice cur 0 (bcs l) = bcs l := by
      unfold splice
      rw [List.take_zero, List.nil_append, List.drop_eq_nil_of_le (by rw [bcs_length]; omega), List.append_nil]
    have hown2 : w2.ownsRow w.heap.size 5 1 (.slice (some ⟨w.heap.size, 0, none⟩) l0 l0) l0 (bcs l) := by
      have hh := hg2.out
      rw [hsp] at hh
      refine ⟨by rw [bcs_length]; omega, .inr ⟨w.heap.size, l0, (bcs l).toArray, rfl, Nat.le_refl _, hh, Nat.le_refl _, by unfold maxLen; omega, by simp [bcs_length]; omega, ?_⟩⟩
      exact List.take_of_length_le (by simp [bcs_length]; omega)
    have OWN2 := hidden hown2
    have BEL2 := hidden hb2
    clear hown2 hb2 hg2 hsp hll hcl
    go_wp2_with fail
    go_ret
    exact ⟨_, rfl, OWN2.out, BEL2.out⟩
  · rw [hN] at hnil
    obtain rfl : a0 = none := by simpa using hN
    have hl0 : l0 = 0 := by
      rcases Nat.eq_zero_or_pos l0 with h | h
      · exact h
      · obtain ⟨b, off, h', _⟩ := H0.out.cells h
        cases h'
    have hll : l = [] := List.eq_nil_of_length_eq_zero (by have := H0.out.len_eq; omega)
    subst hl0
    subst hll
    go_enter Tryd.func6, Tryd.ntmps6
    go_wp2
    go_ret
    exact ⟨none, rfl, World.ownsRow_nil _ _ _ _, Below.refl _ _⟩
set_option maxHeartbeats 1000000 in
/-- Two rows of the same bytes are equal. -/
theorem equal_any (a0 : Option Addr) (n c0 : Nat) (a1 : Option Addr) (c1 : Nat) (l : List UInt8) (w : World) (h0 : ByteRow w a0 n l) (h1 : ByteRow w a1 n l) (hl : n ≤ 4194304) :
    Calls Tryd.prog 8 #[.slice a0 n c0, .slice a1 n c1] w fun e w' => e = .returned (.bool true) ∧ ∃ q, w' = w.drewN q := by
  have H0 := hidden h0
  have H1 := hidden h1
  have hll := h0.len_eq
  have HL := hidden hll
  clear h0 h1 hll
  go_enter Tryd.func8, Tryd.ntmps8
  go_wp2
  go_loopw [5] (fun i wr => ∃ (k q : Nat), k ≤ n ∧ i = .int .i64 k ∧ wr = w.drewN q) (fun i _ => n - (intOf i).toNat)
  case atStart => exact ⟨0, 0, Nat.zero_le _, rfl, rfl⟩
  case round =>
    obtain ⟨k, q, hk, rfl, rfl⟩ := hrel
    by_cases hlt : k < n
    · have hkl : k < l.length := by have := HL.out; omega
      obtain ⟨b0, o0, rfl, _, hc0⟩ := H0.out.cells (by omega)
      obtain ⟨b1, o1, rfl, _, hc1⟩ := H1.out.cells (by omega)
      have e0 := hc0 k hkl
      have e1 := hc1 k hkl
      have z : (k : Int) < (n : Int) := by omega
      generalize ((l[k]).toNat : Int) = v at e0 e1
      clear hc0 hc1
      go_wp2
      go_quiet (fail)
      go_wp2
      go_roundw
      case rel => exact ⟨k + 1, q + nq, by omega, by go_num, rfl⟩
      case measure => simp [intOf]; omega
    · go_wp2
      go_ret
      exact ⟨rfl, q, rfl⟩
end Go.Proofs.Qxb6600202aDoor
