import Derived.Test.Qxb6001785aRows
import Derived.WalkKit
import Derived.WalkSpells
import Derived.WalkLawsBesides
namespace Go.Proofs.Qxb6001785a
open Go.RowKit

/-- A slice of strings that came in, nil and empty ones too: its first 'len' strings are 'ss i'. -/
structure StrRow (w : World) (ao : Option Addr) (len : Nat) (ss : Nat → ByteArray) : Prop where
  cells : 0 < len → ∃ b off, ao = some ⟨b, off, none⟩ ∧ b < w.heap.size ∧ ∀ i, i < len → w.cell? ⟨b, off + i, none⟩ = some (.string (ss i))
  size : ∀ i, i < len → (ss i).size ≤ 9223372036854775807
  len : len ≤ 9223372036854775807

structure IntRow (k : IntKind) (w : World) (ao : Option Addr) (len : Nat) (zs : Nat → Int) : Prop where
  cells : 0 < len → ∃ b off, ao = some ⟨b, off, none⟩ ∧ b < w.heap.size ∧ ∀ i, i < len → w.cell? ⟨b, off + i, none⟩ = some (.int k (zs i))
  wf : ∀ i, i < len → (Lit.int k (zs i)).wf = true
  len : len ≤ 9223372036854775807

/-- It returned a bool; where that is true, no string is longer than 1<<20. -/
def BytesPost (l0 : Nat) (ks : Nat → ByteArray) (l2 : Nat) (ts : Nat → ByteArray) (e : Ending) : Prop :=
  ∃ b, e = .returned (.bool b) ∧ (b = true → (∀ i, i < l0 → (ks i).size ≤ 1048576) ∧ ∀ i, i < l2 → (ts i).size ≤ 1048576)
theorem BytesPost.no {l0 : Nat} {ks : Nat → ByteArray} {l2 : Nat} {ts : Nat → ByteArray} : BytesPost l0 ks l2 ts (.returned (.bool false)) := ⟨false, rfl, fun h => by cases h⟩

set_option maxHeartbeats 1000000 in
theorem zzBytes_any (a0 : Option Addr) (l0 c0 : Nat) (ks : Nat → ByteArray) (a1 : Option Addr) (l1 c1 : Nat) (a2 : Option Addr) (l2 c2 : Nat) (ts : Nat → ByteArray) (key : ByteArray) (w : World)
    (h0 : StrRow w a0 l0 ks) (hl1 : l1 ≤ 9223372036854775807) (h2 : StrRow w a2 l2 ts) (hk : key.size ≤ 9223372036854775807) :
    Calls Try.prog 5 #[.slice a0 l0 c0, .slice a1 l1 c1, .slice a2 l2 c2, .string key] w fun e w' => BytesPost l0 ks l2 ts e ∧ w' = w := by
  obtain ⟨h0c, h0s, h0l⟩ := h0
  obtain ⟨h2c, h2s, h2l⟩ := h2
  go_enter Try.func5, Try.ntmps5
  go_wp2
  · go_ret; exact ⟨BytesPost.no, rfl⟩
  go_loop [9, 10] (fun t i => ∃ (k : Nat) (n : Int), k ≤ l0 ∧ i = .int .i64 k ∧ t = .int .i64 n ∧ 0 ≤ n ∧ n ≤ 1048576 ∧ Hid (∀ i, i < k → (ks i).size ≤ 1048576)) (fun _ i => l0 - (intOf i).toNat)
  case atStart => exact ⟨0, l0, Nat.zero_le _, rfl, rfl, by omega, by omega, fun _ h => absurd h (Nat.not_lt_zero _)⟩
  case round =>
    obtain ⟨k, n, hk, rfl, rfl, hn0, hn1, I⟩ := hrel
    by_cases hlt : k < l0
    · obtain ⟨b, off, rfl, _, hc⟩ := h0c (by omega)
      have hck := hc k hlt
      have hsk := h0s k hlt
      clear hc h0s h0c
      go_wp2
      · go_ret; exact ⟨BytesPost.no, rfl⟩
      · go_ret; exact ⟨BytesPost.no, rfl⟩
      · go_round
        case rel => exact ⟨k + 1, _, by omega, by go_num, rfl, by omega, by omega, fun i hi => by
          rcases Nat.lt_or_ge i k with h | h
          · exact I.out i h
          · obtain rfl : i = k := by omega
            omega⟩
        case measure => simp [intOf]; omega
    · obtain rfl : k = l0 := by omega
      go_wp2
      · go_ret; exact ⟨BytesPost.no, rfl⟩
      · go_ret; exact ⟨BytesPost.no, rfl⟩
      · go_ret; exact ⟨BytesPost.no, rfl⟩
      · go_ret; exact ⟨BytesPost.no, rfl⟩
      go_loop [9, 11] (fun t i => ∃ (k : Nat) (n : Int), k ≤ l2 ∧ i = .int .i64 k ∧ t = .int .i64 n ∧ 0 ≤ n ∧ n ≤ 1048576 ∧ Hid (∀ i, i < k → (ts i).size ≤ 1048576)) (fun _ i => l2 - (intOf i).toNat)
      case atStart => exact ⟨0, _, Nat.zero_le _, rfl, rfl, by omega, by omega, fun _ h => absurd h (Nat.not_lt_zero _)⟩
      case round =>
        obtain ⟨k2, n2, hk2, rfl, rfl, hn20, hn21, I2⟩ := hrel
        by_cases hlt2 : k2 < l2
        · obtain ⟨b, off, rfl, _, hc⟩ := h2c (by omega)
          have hck := hc k2 hlt2
          have hsk := h2s k2 hlt2
          clear hc h2s h2c
          go_wp2
          · go_ret; exact ⟨BytesPost.no, rfl⟩
          · go_ret; exact ⟨BytesPost.no, rfl⟩
          · go_round
            case rel => exact ⟨k2 + 1, _, by omega, by go_num, rfl, by omega, by omega, fun i hi => by
              rcases Nat.lt_or_ge i k2 with h | h
              · exact I2.out i h
              · obtain rfl : i = k2 := by omega
                omega⟩
            case measure => simp [intOf]; omega
        · obtain rfl : k2 = l2 := by omega
          go_wp2
          all_goals go_ret
          · exact ⟨BytesPost.no, rfl⟩
          · exact ⟨BytesPost.no, rfl⟩
          · exact ⟨⟨true, rfl, fun _ => ⟨I.out, I2.out⟩⟩, rfl⟩
end Go.Proofs.Qxb6001785a
