import Derived.Test.Qxb6002383aRows
import Derived.WalkKit
import Derived.WalkSpells
import Derived.WalkLawsBesides
import Derived.Maps.OwnSet
import Derived.Maps.RangeWalk
import Derived.Lib.SlMapMerge
import Derived.Laws.IdiomRangeMap
import Derived.Lib.SliceRun
namespace Go.Proofs.Qxb6002383a
open Go.RowKit Go.Maps

theorem hidden {p : Prop} (h : p) : Hid p := h
theorem below_more {B : Nat} {a w : World} {q : Nat} (h : Below B a w) : Below B a (w.drewN q) := ⟨h.os, h.tape, h.output, h.size, h.block⟩

/-- A slice of strings, nil and empty ones too: its first 'len' strings are 'ss i'. -/
structure StrRow (w : World) (ao : Option Addr) (len : Nat) (ss : Nat → ByteArray) : Prop where
  cells : 0 < len → ∃ b off, ao = some ⟨b, off, none⟩ ∧ b < w.heap.size ∧ ∀ i, i < len → w.cell? ⟨b, off + i, none⟩ = some (.string (ss i))
  size : ∀ i, i < len → (ss i).size ≤ 9223372036854775807
  len : len ≤ 9223372036854775807

/-- It returned a bool. -/
def RetBool (e : Ending) : Prop := ∃ b, e = .returned (.bool b)
theorem RetBool.mk (b : Bool) : RetBool (.returned (.bool b)) := ⟨b, rfl⟩

set_option maxHeartbeats 1000000 in
theorem zzBytes_any (a0 : Option Addr) (l0 c0 : Nat) (ks : Nat → ByteArray) (key : ByteArray) (w : World)
    (h0 : StrRow w a0 l0 ks) (hk : key.size ≤ 9223372036854775807) :
    Calls Try.prog 16 #[.slice a0 l0 c0, .string key] w fun e w' => RetBool e ∧ w' = w := by
  obtain ⟨h0c, h0s, h0l⟩ := h0
  go_enter Try.func16, Try.ntmps16
  go_wp2
  · go_ret; exact ⟨RetBool.mk _, rfl⟩
  go_loop [5, 6] (fun t i => ∃ (k : Nat) (n : Int), k ≤ l0 ∧ i = .int .i64 k ∧ t = .int .i64 n ∧ 0 ≤ n ∧ n ≤ 1048576) (fun _ i => l0 - (intOf i).toNat)
  case atStart => exact ⟨0, l0, Nat.zero_le _, rfl, rfl, by omega, by omega⟩
  case round =>
    obtain ⟨k, n, hk, rfl, rfl, hn0, hn1⟩ := hrel
    by_cases hlt : k < l0
    · obtain ⟨b, off, rfl, _, hc⟩ := h0c (by omega)
      have hck := hc k hlt
      have hsk := h0s k hlt
      clear hc h0s h0c
      go_wp2
      · go_ret; exact ⟨RetBool.mk _, rfl⟩
      · go_ret; exact ⟨RetBool.mk _, rfl⟩
      · go_round
        case rel => exact ⟨k + 1, _, by omega, by go_num, rfl, by omega, by omega⟩
        case measure => simp [intOf]; omega
    · go_wp2
      all_goals (go_ret; exact ⟨RetBool.mk _, rfl⟩)

/-- What paidBytes returned: a number from 0 on; where it is at most 1<<20 there are at most 1<<10 strings. -/
def SizePost (l0 : Nat) (e : Ending) : Prop := ∃ n : Int, e = .returned (.int .i64 n) ∧ 0 ≤ n ∧ n ≤ 1048577 ∧ (n ≤ 1048576 → l0 ≤ 1024)
theorem SizePost.big {l0 : Nat} : SizePost l0 (.returned (.int .i64 1048577)) := ⟨_, rfl, by omega, by omega, fun h => by omega⟩

set_option maxHeartbeats 1000000 in
theorem paidBytes_any (a0 : Option Addr) (l0 c0 : Nat) (ks : Nat → ByteArray) (w : World) (h0 : StrRow w a0 l0 ks) :
    Calls Try.prog 10 #[.slice a0 l0 c0] w fun e w' => SizePost l0 e ∧ w' = w := by
  obtain ⟨h0c, h0s, h0l⟩ := h0
  by_cases hb : l0 ≤ 1024
  · go_enter Try.func10, Try.ntmps10
    go_wp2
    go_loop [3, 4] (fun t i => ∃ (k : Nat) (n : Int), k ≤ l0 ∧ i = .int .i64 k ∧ t = .int .i64 n ∧ 0 ≤ n ∧ n ≤ 1048576) (fun _ i => l0 - (intOf i).toNat)
    case atStart => exact ⟨0, _, Nat.zero_le _, rfl, rfl, by omega, by omega⟩
    case round =>
      obtain ⟨k, n, hk, rfl, rfl, hn0, hn1⟩ := hrel
      by_cases hlt : k < l0
      · obtain ⟨b, off, rfl, _, hc⟩ := h0c (by omega)
        have hck := hc k hlt
        have hsk := h0s k hlt
        clear hc h0s h0c
        go_wp2
        · go_ret; exact ⟨SizePost.big, rfl⟩
        · go_ret; exact ⟨SizePost.big, rfl⟩
        · go_round
          case rel => exact ⟨k + 1, _, by omega, by go_num, rfl, by omega, by omega⟩
          case measure => simp [intOf]; omega
      · go_wp2
        go_ret
        exact ⟨⟨n, rfl, hn0, by omega, fun _ => hb⟩, rfl⟩
  · go_enter Try.func10, Try.ntmps10
    go_wp2
    go_ret
    exact ⟨SizePost.big, rfl⟩
end Go.Proofs.Qxb6002383a
