import Derived.Test.Qxb6600202aDoorLine
namespace Go.Proofs.Qxb6600202aDoor
open Go.RowKit

theorem digit_toNat (d : Nat) (h : d < 10) : (UInt8.ofNat (48 + d)).toNat = 48 + d := by
  rw [UInt8.toNat_ofNat']
  omega
theorem dec_length : ∀ (k u : Nat), u < 10 ^ (k + 1) → 1 ≤ (Lib.decDigits u).length ∧ (Lib.decDigits u).length ≤ k + 1
  | 0, u, h => by
    rw [Lib.decDigits, dif_pos (by omega)]
    simp
  | k + 1, u, h => by
    rw [Lib.decDigits]
    split
    · simp
    · have h2 : u / 10 < 10 ^ (k + 1) := by
        rw [Nat.pow_succ] at h
        omega
      have := dec_length k (u / 10) h2
      rw [List.length_append, List.length_singleton]
      omega
theorem dec_digit (u : Nat) : ∀ b ∈ Lib.decDigits u, 48 ≤ b.toNat ∧ b.toNat ≤ 57 := by
  induction u using Nat.strongRecOn with
  | _ u ih =>
    intro b hb
    rw [Lib.decDigits] at hb
    split at hb
    · rw [List.mem_singleton.1 hb, digit_toNat u (by omega)]
      omega
    · rcases List.mem_append.1 hb with h | h
      · exact ih (u / 10) (by omega) b h
      · rw [List.mem_singleton.1 h, digit_toNat (u % 10) (by omega)]
        omega
/-- The number that digits write. -/
def valOf (l : List UInt8) : Nat := l.foldl (fun v d => v * 10 + (d.toNat - 48)) 0
theorem valOf_snoc (l : List UInt8) (d : UInt8) : valOf (l ++ [d]) = valOf l * 10 + (d.toNat - 48) := by simp [valOf]
theorem valOf_dec (u : Nat) : valOf (Lib.decDigits u) = u := by
  induction u using Nat.strongRecOn with
  | _ u ih =>
    rw [Lib.decDigits]
    split
    · simp only [valOf, List.foldl_cons, List.foldl_nil]
      rw [digit_toNat u (by omega)]
      omega
    · rw [valOf_snoc, ih (u / 10) (by omega), digit_toNat (u % 10) (by omega)]
      omega
/-- The first digit of a number above nought is no '0'. -/
theorem dec_head (u : Nat) (h : 0 < u) : ∀ b, (Lib.decDigits u)[0]? = some b → b.toNat ≠ 48 := by
  induction u using Nat.strongRecOn with
  | _ u ih =>
    intro b hb
    rw [Lib.decDigits] at hb
    split at hb
    · simp only [List.getElem?_cons_zero, Option.some.injEq] at hb
      rw [← hb, digit_toNat u (by omega)]
      omega
    · have hne : 0 < (Lib.decDigits (u / 10)).length := by
        rw [Lib.decDigits]
        split <;> simp
      rw [List.getElem?_append_left hne] at hb
      exact ih (u / 10) (by omega) (by omega) b hb
theorem dec_zero : Lib.decDigits 0 = [48] := by rw [Lib.decDigits, dif_pos (by omega)]; rfl

theorem itoa_length (t : Int) (h0 : -9223372036854775808 ≤ t) (h1 : t ≤ 9223372036854775807) : 1 ≤ (Lib.itoa t).length ∧ (Lib.itoa t).length ≤ 20 := by
  unfold Lib.itoa
  split
  · have := dec_length 18 t.natAbs (by omega)
    rw [List.length_cons]
    omega
  · have := dec_length 18 t.toNat (by omega)
    omega
theorem line_length (C : List UInt8) (t : Int) (h0 : -9223372036854775808 ≤ t) (h1 : t ≤ 9223372036854775807) : C.length + 19 ≤ (line C t).length ∧ (line C t).length ≤ 4 * C.length + 38 := by
  have h := itoa_length t h0 h1
  have h2 := esc_length C
  simp only [line, List.length_append, headS, tailS, List.length_cons, List.length_nil]
  omega

theorem hexDigit_fin : ∀ i : Fin 16, (48 ≤ (hexDigit i.val).toNat ∧ (hexDigit i.val).toNat ≤ 57) ∨ (97 ≤ (hexDigit i.val).toNat ∧ (hexDigit i.val).toNat ≤ 102) := by decide
theorem hexDigit_byte (n : Nat) (h : n < 16) : 33 ≤ (hexDigit n).toNat ∧ (hexDigit n).toNat ≤ 126 := by
  have := hexDigit_fin ⟨n, h⟩
  simp only at this
  omega
theorem escB_byte (b : UInt8) : ∀ x ∈ escB b, 33 ≤ x.toNat ∧ x.toNat ≤ 126 := by
  intro x hx
  have hb := b.toNat_lt
  unfold escB at hx
  split at hx
  · have : x = 92 := by simpa using hx
    rw [this]
    decide
  · split at hx
    · rw [List.mem_singleton.1 hx]
      omega
    · simp only [List.mem_cons, List.not_mem_nil, or_false] at hx
      rcases hx with rfl | rfl | rfl | rfl
      · decide
      · decide
      · exact hexDigit_byte _ (by omega)
      · exact hexDigit_byte _ (by omega)
theorem esc_byte (C : List UInt8) : ∀ x ∈ esc C, 33 ≤ x.toNat ∧ x.toNat ≤ 126 := by
  intro x hx
  obtain ⟨b, _, hb⟩ := List.mem_flatMap.1 hx
  exact escB_byte b x hb
theorem itoa_byte (t : Int) : ∀ x ∈ Lib.itoa t, 33 ≤ x.toNat ∧ x.toNat ≤ 126 := by
  intro x hx
  unfold Lib.itoa at hx
  split at hx
  · rcases List.mem_cons.1 hx with rfl | h
    · decide
    · have := dec_digit _ x h
      omega
  · have := dec_digit _ x hx
    omega
theorem headS_byte : ∀ x ∈ headS, x.toNat = 32 ∨ (33 ≤ x.toNat ∧ x.toNat ≤ 126) := by decide
theorem tailS_byte : ∀ x ∈ tailS, x.toNat = 32 ∨ (33 ≤ x.toNat ∧ x.toNat ≤ 126) := by decide
theorem line_byte (C : List UInt8) (t : Int) : ∀ b ∈ line C t, b.toNat = 32 ∨ (33 ≤ b.toNat ∧ b.toNat ≤ 126) := by
  intro b hb
  unfold line at hb
  rcases List.mem_append.1 hb with h | h
  · exact headS_byte b h
  rcases List.mem_append.1 h with h | h
  · exact .inr (esc_byte C b h)
  rcases List.mem_append.1 h with h | h
  · exact tailS_byte b h
  · exact .inr (itoa_byte t b h)
theorem count_none (l : List UInt8) (h : ∀ x ∈ l, 33 ≤ x.toNat ∧ x.toNat ≤ 126) : l.count 32 = 0 := by
  rw [List.count_eq_zero]
  intro hm
  have := h 32 hm
  have e : (32 : UInt8).toNat = 32 := rfl
  omega
theorem line_count (C : List UInt8) (t : Int) : (line C t).count 32 = 2 := by
  unfold line
  rw [List.count_append, List.count_append, List.count_append, count_none _ (esc_byte C), count_none _ (itoa_byte t)]
  rfl
theorem count_step (L : List UInt8) (k : Nat) (h : k < L.length) : (L.take (k + 1)).count 32 = (L.take k).count 32 + if (L[k]).toNat = 32 then 1 else 0 := by
  rw [List.take_succ_eq_append_getElem h, List.count_append, List.count_singleton]
  congr 1
  by_cases e : L[k] = 32
  · rw [e]; rfl
  · have : ¬ (L[k]).toNat = 32 := fun h => e (UInt8.toNat_inj.1 h)
    rw [if_neg this]
    simp [e]
/-- An owned row stays one where all below the heap's end stays. -/
theorem owns_below {w w' : World} {base B n : Nat} {v : Value} {xs : List Value} (h : w.ownsRow base 5 1 v n xs) (hb : Below B w w') (hB : w.heap.size ≤ B) : w'.ownsRow base 5 1 v n xs := by
  refine ⟨h.1, ?_⟩
  rcases h.2 with h2 | ⟨g, cap, cur, hv, hg, hh, rest⟩
  · exact .inl h2
  · refine .inr ⟨g, cap, cur, hv, hg, ?_, rest⟩
    have hlt : g < w.heap.size := by
      rcases Nat.lt_or_ge g w.heap.size with h | h
      · exact h
      · rw [Array.getElem?_eq_none h] at hh
        cases hh
    rw [hb.block g (by omega)]
    exact hh

theorem row_pre {w : World} {ao : Option Addr} {n m : Nat} {D L : List UInt8} (h : ByteRow w ao (n + m) (D ++ L)) (hn : n = D.length) : ByteRow w ao n D :=
  ⟨hn, fun hp => by
    obtain ⟨b, off, e, hlt, hc⟩ := h.cells (by omega)
    refine ⟨b, off, e, hlt, fun i hi => ?_⟩
    have := hc i (by rw [List.length_append]; omega)
    rwa [List.getElem_append_left hi] at this⟩
theorem row_suf {w : World} {g o n m : Nat} {D L : List UInt8} (h : ByteRow w (some ⟨g, o, none⟩) (n + m) (D ++ L)) (hn : n = D.length) : ByteRow w (some ⟨g, o + n, none⟩) m L :=
  ⟨by have := h.len_eq; rw [List.length_append] at this; omega, fun hp => by
    obtain ⟨b, off, e, hlt, hc⟩ := h.cells (by omega)
    simp only [Option.some.injEq, Addr.mk.injEq, and_true] at e
    obtain ⟨rfl, rfl⟩ := e
    refine ⟨g, o + n, rfl, hlt, fun i hi => ?_⟩
    have := hc (n + i) (by rw [List.length_append]; omega)
    rw [List.getElem_append_right (by omega)] at this
    rw [Nat.add_assoc, this]
    subst hn
    simp⟩
theorem row_suf0 {w : World} {g n m : Nat} {D L : List UInt8} (h : ByteRow w (some ⟨g, 0, none⟩) (n + m) (D ++ L)) (hn : n = D.length) : ByteRow w (some ⟨g, n, none⟩) m L := by
  have := row_suf h hn
  rwa [Nat.zero_add] at this
theorem owns_cap {w : World} {base g n cap : Nat} {xs : List Value} (h : w.ownsRow base 5 1 (.slice (some ⟨g, 0, none⟩) n cap) n xs) : n ≤ cap := by
  rcases h.2 with ⟨h2, _⟩ | ⟨g', cap', cur, hv, hg, hh, hc, _⟩
  · cases h2
  · simp only [Value.slice.injEq, Option.some.injEq, Addr.mk.injEq, and_true, true_and] at hv
    omega
end Go.Proofs.Qxb6600202aDoor
