import Derived.Test.Qxb6001785aBytes
namespace Go.Proofs.Qxb6001785a
open Go.RowKit

theorem and7 (k : Int) (h0 : 0 ≤ k) (h1 : k ≤ 5) : bits BinOp.and IntKind.u64 k 7 = k := by
  have : k = 0 ∨ k = 1 ∨ k = 2 ∨ k = 3 ∨ k = 4 ∨ k = 5 := by omega
  rcases this with rfl | rfl | rfl | rfl | rfl | rfl <;> decide

/-- The leaf as a value. -/
def leafV (k : Int) (s : ByteArray) : Value := .agg #[.string s, .pointer none, .int .u64 k]

set_option maxHeartbeats 1000000 in
theorem leaf_any (k : Int) (s : ByteArray) (w : World) (h0 : 0 ≤ k) (h1 : k ≤ 5) :
    Calls Try.prog 6 #[.int .u8 k, .string s] w fun e w' => e = .returned (.agg #[.string s, .pointer none, .int .u64 k]) ∧ w' = w.alloc (.cells #[.string s, .pointer none, .int .u64 k] 29) := by
  have hb := and7 k h0 h1
  go_enter Try.func6, Try.ntmps6
  go_wp2
  exact bodyPost_ret (v := .agg #[.string s, .pointer none, .int .u64 k]) (by simp [results, Try.results6, go_sem]) rfl ⟨rfl, rfl⟩

set_option maxHeartbeats 1000000 in
/-- The node: its children not none: a box with the slice, and the value points to the box. -/
theorem node_any (g n c : Nat) (w : World) (hn : 0 < n) :
    Calls Try.prog 7 #[.int .u8 5, .slice (some ⟨g, 0, none⟩) n c] w fun e w' => e = .returned (.agg #[.string ByteArray.empty, .pointer (some ⟨w.heap.size, 0, none⟩), .int .u64 5]) ∧
      w'.cell? ⟨w.heap.size, 0, none⟩ = some (.slice (some ⟨g, 0, none⟩) n c) ∧ w.heap.size < w'.heap.size ∧ Below w.heap.size w w' := by
  have hb := and7 5 (by omega) (by omega)
  go_enter Try.func7, Try.ntmps7
  go_wp2
  refine bodyPost_ret (v := .agg #[.string ByteArray.empty, .pointer (some ⟨w.heap.size, 0, none⟩), .int .u64 5]) (by simp [results, Try.results7, go_sem]; rfl) rfl ⟨rfl, ?_, ?_, ?_⟩
  · rw [World.cell?_alloc_past _ _ _ (by simp; omega), World.cell?_alloc_past _ _ _ (by simp), World.cell?_alloc_at _ _ _ _ (by simp)]; rfl
  · simp; omega
  · exact (((Below.refl _ w).alloc (Nat.le_refl _) _).alloc (by simp) _).alloc (by simp; omega) _
set_option maxHeartbeats 1000000 in
theorem node_none (a : Option Addr) (c : Nat) (w : World) :
    Calls Try.prog 7 #[.int .u8 5, .slice a 0 c] w fun e w' => e = .returned (.agg #[.string ByteArray.empty, .pointer none, .int .u64 5]) ∧ Below w.heap.size w w' := by
  have hb := and7 5 (by omega) (by omega)
  go_enter Try.func7, Try.ntmps7
  go_wp2
  refine bodyPost_ret (v := .agg #[.string ByteArray.empty, .pointer none, .int .u64 5]) (by simp [results, Try.results7, go_sem]; rfl) rfl ⟨rfl, ?_⟩
  exact (((Below.refl _ w).alloc (Nat.le_refl _) _).alloc (by simp) _).alloc (by simp; omega) _

set_option maxHeartbeats 1000000 in
theorem kind_any (b off : Nat) (k : Int) (w : World) (h0 : 0 ≤ k) (h1 : k ≤ 5) (hc : w.cell? ⟨b, off + 2, none⟩ = some (.int .u64 k)) :
    Calls Try.prog 9 #[.pointer (some ⟨b, off, none⟩)] w fun e w' => e = .returned (.int .u8 k) ∧ w' = w := by
  have hb := and7 k h0 h1
  go_enter Try.func9, Try.ntmps9
  go_wp2
  go_ret
  exact ⟨rfl, rfl⟩
set_option maxHeartbeats 1000000 in
theorem text_any (b off : Nat) (s : ByteArray) (w : World) (hc : w.cell? ⟨b, off, none⟩ = some (.string s)) :
    Calls Try.prog 10 #[.pointer (some ⟨b, off, none⟩)] w fun e w' => e = .returned (.string s) ∧ w' = w := by
  go_enter Try.func10, Try.ntmps10
  go_wp2
  go_ret
  exact ⟨rfl, rfl⟩

set_option maxHeartbeats 1000000 in
theorem children_some (b p : Nat) (a : Option Addr) (n c : Nat) (w : World) (hc : w.cell? ⟨b, 1, none⟩ = some (.pointer (some ⟨p, 0, none⟩))) (hp : w.cell? ⟨p, 0, none⟩ = some (.slice a n c)) :
    Calls Try.prog 15 #[.pointer (some ⟨b, 0, none⟩)] w fun e w' => e = .returned (.slice a n c) ∧ w' = w := by
  go_enter Try.func15, Try.ntmps15
  go_wp2
  go_ret
  exact ⟨rfl, rfl⟩
set_option maxHeartbeats 1000000 in
theorem children_none (b : Nat) (w : World) (hc : w.cell? ⟨b, 1, none⟩ = some (.pointer none)) :
    Calls Try.prog 15 #[.pointer (some ⟨b, 0, none⟩)] w fun e w' => e = .returned (.slice none 0 0) ∧ w' = w := by
  go_enter Try.func15, Try.ntmps15
  go_wp2
  go_ret
  exact ⟨rfl, rfl⟩

set_option maxHeartbeats 1000000 in
theorem num_some (b p : Nat) (a : Option Addr) (m c : Nat) (w : World) (hm : 2 * m ≤ 9223372036854775807) (hk : w.cell? ⟨b, 0 + 2, none⟩ = some (.int .u64 5)) (hc : w.cell? ⟨b, 1, none⟩ = some (.pointer (some ⟨p, 0, none⟩))) (hp : w.cell? ⟨p, 0, none⟩ = some (.slice a (2 * m) c)) :
    Calls Try.prog 14 #[.pointer (some ⟨b, 0, none⟩)] w fun e w' => e = .returned (.int .i64 m) ∧ w' = w := by
  go_enter Try.func14, Try.ntmps14
  go_wp2_with (first
    | (go_at_call 9; refine (kind_any b 0 5 _ (by omega) (by omega) hk).mono ?_; rintro e w' ⟨rfl, rfl⟩)
    | (go_at_call 15; refine (children_some b p a (2 * m) c _ hc hp).mono ?_; rintro e w' ⟨rfl, rfl⟩))
  go_ret
  refine ⟨?_, rfl⟩
  show Ending.returned (.int .i64 _) = _
  congr 2
set_option maxHeartbeats 1000000 in
theorem num_none (b : Nat) (w : World) (hk : w.cell? ⟨b, 0 + 2, none⟩ = some (.int .u64 5)) (hc : w.cell? ⟨b, 1, none⟩ = some (.pointer none)) :
    Calls Try.prog 14 #[.pointer (some ⟨b, 0, none⟩)] w fun e w' => e = .returned (.int .i64 0) ∧ w' = w := by
  go_enter Try.func14, Try.ntmps14
  go_wp2_with (first
    | (go_at_call 9; refine (kind_any b 0 5 _ (by omega) (by omega) hk).mono ?_; rintro e w' ⟨rfl, rfl⟩)
    | (go_at_call 15; refine (children_none b _ hc).mono ?_; rintro e w' ⟨rfl, rfl⟩))
  go_ret
  exact ⟨rfl, rfl⟩

set_option maxHeartbeats 1000000 in
theorem closure_any (bc bk g n c i : Nat) (z : Int) (s key : ByteArray) (w : World) (hz : z = (i : Int)) (hi : 2 * i < n) (hn : n ≤ 9223372036854775807)
    (ha : w.cell? ⟨bc, 0, none⟩ = some (.slice (some ⟨g, 0, none⟩) n c)) (hx : w.cell? ⟨bk, 0, none⟩ = some (.string key)) (hc : w.cell? ⟨g, 2 * i * 3, none⟩ = some (.string s)) :
    Calls Try.prog 17 #[.int .i64 z, .pointer (some ⟨bc, 0, none⟩), .pointer (some ⟨bk, 0, none⟩)] w fun e w' => e = .returned (.bool (!(Op.bytesLess s.toList key.toList))) ∧ ∃ q, w' = w.drewN q := by
  subst hz
  have hiz : (2 * i : Int) < (n : Int) := by omega
  go_enter Try.func17, Try.ntmps17
  go_wp2
  go_region
  all_goals go_wp2
  all_goals go_ret
  all_goals exact ⟨rfl, 1, rfl⟩

end Go.Proofs.Qxb6001785a
