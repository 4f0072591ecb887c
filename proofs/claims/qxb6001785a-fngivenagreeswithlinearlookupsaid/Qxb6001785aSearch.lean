import Derived.Test.Qxb6001785aLeaf
namespace Go.Proofs.Qxb6001785a
open Go.RowKit

set_option maxHeartbeats 1000000 in
/-- sort.Search with the closure of Member over keys that stand in order: it returns the place where 'the key is less' ends. -/
theorem search_any (bc bk g c m : Nat) (ks : Nat → ByteArray) (key : ByteArray) (w : World) (hm : 2 * m ≤ 4611686018427387903)
    (ha : w.cell? ⟨bc, 0, none⟩ = some (.slice (some ⟨g, 0, none⟩) (2 * m) c)) (hx : w.cell? ⟨bk, 0, none⟩ = some (.string key)) (hc : ∀ i, i < m → w.cell? ⟨g, 2 * i * 3, none⟩ = some (.string (ks i)))
    (hmono : ∀ a b, a ≤ b → b < m → Op.bytesLess (ks b).toList key.toList = true → Op.bytesLess (ks a).toList key.toList = true) :
    Calls Try.prog 16 #[.int .i64 m, .func (.func 17) #[] #[.pointer (some ⟨bc, 0, none⟩), .pointer (some ⟨bk, 0, none⟩)]] w fun e w' => ∃ r q : Nat, e = .returned (.int .i64 r) ∧ r ≤ m ∧
      Hid ((∀ t, t < r → Op.bytesLess (ks t).toList key.toList = true) ∧ (∀ t, r ≤ t → t < m → Op.bytesLess (ks t).toList key.toList = false)) ∧ w' = w.drewN q := by
  have HM : Hid _ := hmono
  have HC : Hid _ := hc
  clear hmono hc
  go_enter Try.func16, Try.ntmps16
  go_wp2
  go_loopw [5, 6] (fun s5 s6 wr => ∃ (lo hi q : Nat), s5 = .int .i64 lo ∧ s6 = .int .i64 hi ∧ lo ≤ hi ∧ hi ≤ m ∧ wr = w.drewN q ∧
    Hid ((∀ t, t < lo → Op.bytesLess (ks t).toList key.toList = true) ∧ (∀ t, hi ≤ t → t < m → Op.bytesLess (ks t).toList key.toList = false))) (fun s5 s6 _ => (intOf s6 - intOf s5).toNat)
  case atStart => exact ⟨0, m, 0, rfl, rfl, Nat.zero_le _, Nat.le_refl _, rfl, ⟨fun t ht => absurd ht (Nat.not_lt_zero _), fun t h1 h2 => by omega⟩⟩
  case round =>
    obtain ⟨lo, hi, q, rfl, rfl, hlh, hin, rfl, I⟩ := hrel
    by_cases hlt : lo < hi
    · have hcx := HC.out ((lo + hi) / 2) (by omega)
      cases hp : Op.bytesLess (ks ((lo + hi) / 2)).toList key.toList
      · have HP : Hid (Op.bytesLess (ks ((lo + hi) / 2)).toList key.toList = false) := hp
        have hcl := fun z hz => closure_any bc bk g (2 * m) c ((lo + hi) / 2) z _ key (w.drewN q) hz (by omega) (by omega) ha hx hcx
        rw [hp] at hcl
        have HCL : Hid _ := hcl
        clear hp hcl hcx
        go_wp2_with (go_at_call 17; refine (HCL.out _ (by omega)).mono ?_; rintro e w' ⟨rfl, q2, rfl⟩)
        go_roundw
        case rel =>
          exact ⟨lo, (lo + hi) / 2, q + q2, rfl, by go_num, by omega, by omega, rfl, I.out.1, fun t h1 h2 => by
            cases h : Op.bytesLess (ks t).toList key.toList
            · rfl
            · have := HM.out ((lo + hi) / 2) t h1 h2 h; rw [HP.out] at this; cases this⟩
        case measure => simp [intOf]; omega
      · have HP : Hid (Op.bytesLess (ks ((lo + hi) / 2)).toList key.toList = true) := hp
        have hcl := fun z hz => closure_any bc bk g (2 * m) c ((lo + hi) / 2) z _ key (w.drewN q) hz (by omega) (by omega) ha hx hcx
        rw [hp] at hcl
        have HCL : Hid _ := hcl
        clear hp hcl hcx
        go_wp2_with (go_at_call 17; refine (HCL.out _ (by omega)).mono ?_; rintro e w' ⟨rfl, q2, rfl⟩)
        go_roundw
        case rel =>
          exact ⟨(lo + hi) / 2 + 1, hi, q + q2, by go_num, rfl, by omega, by omega, rfl, fun t ht => HM.out t ((lo + hi) / 2) (by omega) (by omega) HP.out, I.out.2⟩
        case measure => simp [intOf]; omega
    · obtain rfl : hi = lo := by omega
      go_wp2
      go_ret
      exact ⟨hi, q, rfl, hin, I, rfl⟩
end Go.Proofs.Qxb6001785a
