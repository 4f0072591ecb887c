import Derived.Test.Qxb6001785aMember
namespace Go.Proofs.Qxb6001785a
open Go.RowKit

theorem bl_irrefl : ∀ x : List UInt8, Op.bytesLess x x = false
  | [] => rfl
  | a :: x => by
    have h : ¬ a < a := by rw [UInt8.lt_iff_toNat_lt]; omega
    simp [Op.bytesLess, bl_irrefl x, h]

theorem bl_trans : ∀ x y z : List UInt8, Op.bytesLess x y = true → Op.bytesLess y z = true → Op.bytesLess x z = true
  | x, [], z, h, _ => by cases x <;> simp [Op.bytesLess] at h
  | x, _ :: _, [], _, h => by simp [Op.bytesLess] at h
  | [], _ :: _, _ :: _, _, _ => by simp [Op.bytesLess]
  | a :: x, b :: y, c :: z, h1, h2 => by
    simp only [Op.bytesLess, Bool.or_eq_true, decide_eq_true_eq, Bool.and_eq_true, beq_iff_eq, UInt8.lt_iff_toNat_lt] at h1 h2 ⊢
    rcases h1 with h1 | ⟨rfl, h1⟩
    · rcases h2 with h2 | ⟨rfl, h2⟩
      · exact .inl (by omega)
      · exact .inl h1
    · rcases h2 with h2 | ⟨rfl, h2⟩
      · exact .inl h2
      · exact .inr ⟨rfl, bl_trans x y z h1 h2⟩

/-- The first n keys stand in strictly increasing order. -/
def Incr (ks : Nat → ByteArray) (n : Nat) : Prop := ∀ j, 1 ≤ j → j < n → Op.bytesLess (ks (j - 1)).toList (ks j).toList = true

theorem Incr.lt {ks : Nat → ByteArray} {n : Nat} (h : Incr ks n) (a : Nat) : ∀ d, a + d + 1 < n → Op.bytesLess (ks a).toList (ks (a + d + 1)).toList = true
  | 0, hn => by have := h (a + 1) (by omega) (by omega); simpa using this
  | d + 1, hn => bl_trans _ _ _ (Incr.lt h a d (by omega)) (by have := h (a + d + 1 + 1) (by omega) (by omega); rw [show a + d + 1 + 1 - 1 = a + d + 1 by omega] at this; exact this)

theorem Incr.lt' {ks : Nat → ByteArray} {n : Nat} (h : Incr ks n) {a b : Nat} (hab : a < b) (hb : b < n) : Op.bytesLess (ks a).toList (ks b).toList = true := by
  have := h.lt a (b - a - 1) (by omega)
  rwa [show a + (b - a - 1) + 1 = b by omega] at this

theorem Incr.mono {ks : Nat → ByteArray} {n : Nat} (h : Incr ks n) (key : ByteArray) (a b : Nat) (hab : a ≤ b) (hb : b < n) (hl : Op.bytesLess (ks b).toList key.toList = true) : Op.bytesLess (ks a).toList key.toList = true := by
  rcases Nat.lt_or_ge a b with hlt | hge
  · exact bl_trans _ _ _ (h.lt' hlt hb) hl
  · rwa [show a = b by omega]

/-- Where the linear search of the first k keys has come to. -/
def WantIs (ks : Nat → ByteArray) (key : ByteArray) (k : Nat) (j : Int) : Prop := (j = -1 ∧ ∀ t, t < k → (ks t).toList ≠ key.toList) ∨ ∃ t : Nat, t < k ∧ j = t ∧ (ks t).toList = key.toList

theorem WantIs.zero (ks : Nat → ByteArray) (key : ByteArray) : WantIs ks key 0 (-1) := .inl ⟨rfl, fun _ h => absurd h (Nat.not_lt_zero _)⟩
theorem WantIs.hit {ks : Nat → ByteArray} {key : ByteArray} {k : Nat} {j : Int} (_h : WantIs ks key k j) (hk : ((ks k).toList == key.toList) = true) : WantIs ks key (k + 1) k := .inr ⟨k, by omega, rfl, by simpa using hk⟩
theorem WantIs.miss {ks : Nat → ByteArray} {key : ByteArray} {k : Nat} {j : Int} (h : WantIs ks key k j) (hk : ((ks k).toList == key.toList) = false) : WantIs ks key (k + 1) j := by
  rcases h with ⟨rfl, h⟩ | ⟨t, ht, rfl, e⟩
  · refine .inl ⟨rfl, fun t ht => ?_⟩
    rcases Nat.lt_or_ge t k with h1 | h1
    · exact h t h1
    · obtain rfl : t = k := by omega
      simpa using hk
  · exact .inr ⟨t, by omega, rfl, e⟩

/-- The binary search's place and the linear one's agree. -/
theorem want_eq {ks : Nat → ByteArray} {key : ByteArray} {n r t : Nat} (h : Incr ks n) (hr : ∀ t, t < r → Op.bytesLess (ks t).toList key.toList = true) (hr2 : ∀ t, r ≤ t → t < n → Op.bytesLess (ks t).toList key.toList = false)
    (ht : t < n) (e : (ks t).toList = key.toList) : r = t := by
  have h1 : ¬ t < r := fun hlt => by have := hr t hlt; rw [e, bl_irrefl] at this; cases this
  have h2 : ¬ r < t := fun hlt => by
    have a := hr2 r (Nat.le_refl _) (by omega)
    have b := h.lt' hlt ht
    rw [e, a] at b
    cases b
  omega

/-- What the children hold behind k rounds. -/
def kids (ks ts : Nat → ByteArray) (kd : Nat → Int) : Nat → List Value
  | 0 => []
  | k + 1 => (kids ks ts kd k ++ [.string (ks k), .pointer none, .int .u64 3]) ++ [.string (ts k), .pointer none, .int .u64 (kd k)]

theorem kids_length (ks ts : Nat → ByteArray) (kd : Nat → Int) : ∀ n, (kids ks ts kd n).length = 6 * n
  | 0 => rfl
  | n + 1 => by simp [kids, kids_length ks ts kd n]; omega

theorem kids_at (ks ts : Nat → ByteArray) (kd : Nat → Int) (i : Nat) : ∀ n, i < n → (kids ks ts kd n)[6 * i]? = some (.string (ks i)) ∧ (kids ks ts kd n)[6 * i + 3]? = some (.string (ts i)) ∧ (kids ks ts kd n)[6 * i + 5]? = some (.int .u64 (kd i))
  | 0, h => absurd h (Nat.not_lt_zero _)
  | n + 1, h => by
    have hl := kids_length ks ts kd n
    rcases Nat.lt_or_ge i n with h1 | h1
    · obtain ⟨a, b, c⟩ := kids_at ks ts kd i n h1
      unfold kids
      rw [List.append_assoc]
      refine ⟨?_, ?_, ?_⟩
      · rw [List.getElem?_append_left (by omega)]; exact a
      · rw [List.getElem?_append_left (by omega)]; exact b
      · rw [List.getElem?_append_left (by omega)]; exact c
    · obtain rfl : i = n := by omega
      unfold kids
      rw [List.append_assoc]
      refine ⟨?_, ?_, ?_⟩
      · rw [List.getElem?_append_right (by omega), hl, show 6 * i - 6 * i = 0 by omega]; rfl
      · rw [List.getElem?_append_right (by omega), hl, show 6 * i + 3 - 6 * i = 3 by omega]; rfl
      · rw [List.getElem?_append_right (by omega), hl, show 6 * i + 5 - 6 * i = 5 by omega]; rfl

end Go.Proofs.Qxb6001785a
