import Derived.Test.Qxb6600202aDoorPlain
namespace Go.Proofs.Qxb6600202aDoor
open Go.RowKit

theorem hex_low (n : Nat) (h : n < 10) : (hexDigit n).toNat = 48 + n := by
  unfold hexDigit
  rw [if_pos h, UInt8.toNat_ofNat']
  omega
theorem hex_high (n : Nat) (h : ¬ n < 10) (h2 : n < 16) : (hexDigit n).toNat = 87 + n := by
  unfold hexDigit
  rw [if_neg h, UInt8.toNat_ofNat']
  omega

set_option maxHeartbeats 400000 in
/-- A digit is read back. -/
theorem hexDigit_any (n : Nat) (h : n < 16) (w : World) :
    Calls Tryd.prog 13 #[.int .u8 ((hexDigit n).toNat : Int)] w fun e w' => e = .returned (.tuple #[.int .u8 n, .bool true]) ∧ w' = w := by
  by_cases hn : n < 10
  · have e : ((hexDigit n).toNat : Int) = 48 + (n : Int) := by have := hex_low n hn; omega
    rw [e]
    clear e
    obtain ⟨x, hx⟩ : ∃ x : Int, Hid (x = 48 + (n : Int)) := ⟨_, hidden rfl⟩
    rw [← hx.out]
    have z1 : (48 : Int) ≤ x := by have := hx.out; omega
    have z2 : x ≤ 57 := by have := hx.out; omega
    go_enter Tryd.func13, Tryd.ntmps13
    go_wp2
    have e : x - 48 = (n : Int) := by have := hx.out; omega
    rw [e]
    go_ret2
    exact ⟨rfl, rfl⟩
  · have e : ((hexDigit n).toNat : Int) = 87 + (n : Int) := by have := hex_high n hn h; omega
    rw [e]
    clear e
    obtain ⟨x, hx⟩ : ∃ x : Int, Hid (x = 87 + (n : Int)) := ⟨_, hidden rfl⟩
    rw [← hx.out]
    have z0 : ¬ x ≤ 57 := by have := hx.out; omega
    have z1 : (97 : Int) ≤ x := by have := hx.out; omega
    have z2 : x ≤ 102 := by have := hx.out; omega
    go_enter Tryd.func13, Tryd.ntmps13
    go_wp2
    have e : x - 97 + 10 = (n : Int) := by have := hx.out; omega
    rw [e]
    go_ret2
    exact ⟨rfl, rfl⟩

set_option maxHeartbeats 400000 in
/-- A line that opens with the string is told to do so. -/
theorem hasPrefix_any (ao : Option Addr) (n c : Nat) (l : List UInt8) (s : ByteArray) (w : World) (h0 : ByteRow w ao n l) (hn : s.size ≤ n) (hl : n ≤ 4194304) (hp : ∀ i (h : i < s.size) (h2 : i < l.length), l[i] = s[i]) :
    Calls Tryd.prog 12 #[.slice ao n c, .string s] w fun e w' => e = .returned (.bool true) ∧ ∃ q, w' = w.drewN q := by
  have H0 := hidden h0
  have hll := h0.len_eq
  have HL := hidden hll
  have HP := hidden hp
  clear h0 hll hp
  go_enter Tryd.func12, Tryd.ntmps12
  go_wp2
  go_loopw [5] (fun i wr => ∃ (k q : Nat), k ≤ s.size ∧ i = .int .i64 k ∧ wr = w.drewN q) (fun i _ => s.size - (intOf i).toNat)
  case atStart => exact ⟨0, 0, Nat.zero_le _, rfl, rfl⟩
  case round =>
    obtain ⟨k, q, hk, rfl, rfl⟩ := hrel
    by_cases hlt : k < s.size
    · have hkl : k < l.length := by have := HL.out; omega
      obtain ⟨b0, o0, rfl, _, hc0⟩ := H0.out.cells (by omega)
      have e0 := hc0 k hkl
      rw [HP.out k hlt hkl] at e0
      have z : (k : Int) < (s.size : Int) := by omega
      clear hc0
      go_wp2
      go_quiet (fail)
      go_wp2
      go_roundw
      case rel => exact ⟨k + 1, q + nq, by omega, by go_num, rfl⟩
      case measure => simp [intOf]; omega
    · go_wp2
      go_ret
      exact ⟨rfl, q, rfl⟩

theorem esc_append (l m : List UInt8) : esc (l ++ m) = esc l ++ esc m := by simp [esc, List.flatMap_append]
/-- Where the byte number k of the control data begins in its line. -/
def pos (C : List UInt8) (k : Nat) : Nat := 9 + (esc (C.take k)).length
theorem pos_step (C : List UInt8) (k : Nat) (h : k < C.length) : pos C (k + 1) = pos C k + (escB C[k]).length := by
  unfold pos
  rw [esc_take C k h, List.length_append]
  omega
theorem line_split (C : List UInt8) (t : Int) (k : Nat) (h : k < C.length) : line C t = (headS ++ esc (C.take k)) ++ (escB C[k] ++ (esc (C.drop (k + 1)) ++ (tailS ++ Lib.itoa t))) := by
  have e1 : esc C = esc (C.take k) ++ (escB C[k] ++ esc (C.drop (k + 1))) := by
    have e2 : escB C[k] ++ esc (C.drop (k + 1)) = esc (C.drop k) := by
      have e3 : esc (C.drop k) = esc (C[k] :: C.drop (k + 1)) := congrArg esc (List.drop_eq_getElem_cons h)
      rw [e3]
      unfold esc
      rw [List.flatMap_cons]
    rw [e2, ← esc_append, List.take_append_drop]
  unfold line
  rw [e1]
  simp only [List.append_assoc]
theorem line_at (C : List UInt8) (t : Int) (k : Nat) (h : k < C.length) (j : Nat) (hj : j < (escB C[k]).length) : (line C t)[pos C k + j]? = (escB C[k])[j]? := by
  have hl : (headS ++ esc (C.take k)).length = pos C k := by simp only [List.length_append, headS, List.length_cons, List.length_nil, pos]
  rw [line_split C t k h, List.getElem?_append_right (by omega), hl, show pos C k + j - pos C k = j by omega, List.getElem?_append_left hj]
theorem line_end (C : List UInt8) (t : Int) (j : Nat) : (line C t)[pos C C.length + j]? = (tailS ++ Lib.itoa t)[j]? := by
  have hl : (headS ++ esc C).length = pos C C.length := by simp only [List.length_append, headS, List.length_cons, List.length_nil, pos, List.take_length]
  unfold line
  rw [← List.append_assoc, List.getElem?_append_right (by omega), hl, show pos C C.length + j - pos C C.length = j by omega]
theorem line_size (C : List UInt8) (t : Int) : (line C t).length = pos C C.length + 9 + (Lib.itoa t).length := by
  simp only [line, List.length_append, headS, tailS, List.length_cons, List.length_nil, pos, List.take_length]
  omega
theorem pos_le (C : List UInt8) (k : Nat) (h : k < C.length) : pos C k + (escB C[k]).length ≤ pos C C.length := by
  rw [← pos_step C k h]
  unfold pos
  have e : esc C = esc (C.take (k + 1)) ++ esc (C.drop (k + 1)) := by rw [← esc_append, List.take_append_drop]
  rw [List.take_length, e, List.length_append]
  omega
/-- A byte of a row, off its place. -/
theorem ByteRow.at {w : World} {b off len : Nat} {l : List UInt8} (h : ByteRow w (some ⟨b, off, none⟩) len l) (i : Nat) (x : UInt8) (hx : l[i]? = some x) : w.cell? ⟨b, off + i, none⟩ = some (.int .u8 (x.toNat : Int)) := by
  obtain ⟨hi, rfl⟩ := List.getElem?_eq_some_iff.1 hx
  obtain ⟨b', off', e, _, hc⟩ := h.cells (by have := h.len_eq; omega)
  simp only [Option.some.injEq, Addr.mk.injEq, and_true] at e
  obtain ⟨rfl, rfl⟩ := e
  exact hc i hi
theorem ByteRow.lt {w : World} {b off len : Nat} {l : List UInt8} (h : ByteRow w (some ⟨b, off, none⟩) len l) (hp : 0 < len) : b < w.heap.size := by
  obtain ⟨b', off', e, hlt, _⟩ := h.cells hp
  simp only [Option.some.injEq, Addr.mk.injEq, and_true] at e
  omega
/-- What stands behind a place of a row. -/
theorem ByteRow.drop {w : World} {b off len : Nat} {l : List UInt8} (h : ByteRow w (some ⟨b, off, none⟩) len l) (i : Nat) : ByteRow w (some ⟨b, off + i, none⟩) (len - i) (l.drop i) :=
  ⟨by rw [List.length_drop, h.len_eq], fun hp => ⟨b, off + i, rfl, h.lt (by omega), fun j hj => by
    rw [List.length_drop] at hj
    have := h.at (i + j) l[i + j] (List.getElem?_eq_getElem (by omega))
    rw [Nat.add_assoc, this]
    simp⟩⟩
theorem valOf_take_le (l : List UInt8) : ∀ k, valOf (l.take k) ≤ valOf l := by
  have step : ∀ k, valOf (l.take k) ≤ valOf (l.take (k + 1)) := by
    intro k
    by_cases h : k < l.length
    · rw [List.take_succ_eq_append_getElem h, valOf_snoc]
      omega
    · rw [List.take_of_length_le (by omega), List.take_of_length_le (by omega)]
      exact Nat.le_refl _
  have up : ∀ d k, valOf (l.take k) ≤ valOf (l.take (k + d)) := by
    intro d
    induction d with
    | zero => intro k; exact Nat.le_refl _
    | succ d ih => intro k; exact Nat.le_trans (ih k) (step (k + d))
  intro k
  have := up l.length k
  rwa [List.take_of_length_le (show l.length ≤ k + l.length by omega)] at this
theorem valOf_step (l : List UInt8) (k : Nat) (h : k < l.length) : valOf (l.take (k + 1)) = valOf (l.take k) * 10 + ((l[k]).toNat - 48) := by
  rw [List.take_succ_eq_append_getElem h, valOf_snoc]
end Go.Proofs.Qxb6600202aDoor
