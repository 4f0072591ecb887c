import Derived.Test.Qxb6001785aSearch
import Derived.Deep.QuietTactic
import Derived.BigQuiet
namespace Go.Proofs.Qxb6001785a
open Go.RowKit

theorem below_more {B : Nat} {a w : World} {q : Nat} (h : Below B a w) : Below B a (w.drewN q) := ⟨h.os, h.tape, h.output, h.size, h.block⟩

set_option maxHeartbeats 1000000 in
theorem search_empty (bc bk : Nat) (w : World) :
    Calls Try.prog 16 #[.int .i64 0, .func (.func 17) #[] #[.pointer (some ⟨bc, 0, none⟩), .pointer (some ⟨bk, 0, none⟩)]] w fun e w' => e = .returned (.int .i64 0) ∧ w' = w := by
  go_enter Try.func16, Try.ntmps16
  go_wp2
  go_loop [5, 6] (fun s5 s6 => s5 = .int .i64 0 ∧ s6 = .int .i64 0) (fun _ _ => 0)
  case atStart => exact ⟨rfl, rfl⟩
  case round =>
    obtain ⟨rfl, rfl⟩ := hrel
    go_wp2
    go_ret
    exact ⟨rfl, rfl⟩

set_option maxHeartbeats 1000000 in
theorem member_some (bo p g c m : Nat) (ks : Nat → ByteArray) (key : ByteArray) (w : World) (hm : 2 * m ≤ 4611686018427387903)
    (hk : w.cell? ⟨bo, 0 + 2, none⟩ = some (.int .u64 5)) (hl : w.cell? ⟨bo, 1, none⟩ = some (.pointer (some ⟨p, 0, none⟩))) (hp : w.cell? ⟨p, 0, none⟩ = some (.slice (some ⟨g, 0, none⟩) (2 * m) c))
    (hc : ∀ i, i < m → w.cell? ⟨g, 2 * i * 3, none⟩ = some (.string (ks i)))
    (hmono : ∀ a b, a ≤ b → b < m → Op.bytesLess (ks b).toList key.toList = true → Op.bytesLess (ks a).toList key.toList = true) :
    Calls Try.prog 13 #[.pointer (some ⟨bo, 0, none⟩), .string key] w fun e w' => ∃ r : Nat, r ≤ m ∧
      Hid ((∀ t, t < r → Op.bytesLess (ks t).toList key.toList = true) ∧ (∀ t, r ≤ t → t < m → Op.bytesLess (ks t).toList key.toList = false)) ∧
      Hid ((r < m ∧ (ks r).toList = key.toList ∧ e = .returned (.pointer (some ⟨g, (2 * r + 1) * 3, none⟩))) ∨ ((r < m → (ks r).toList ≠ key.toList) ∧ e = .returned (.pointer none))) ∧ Below w.heap.size w w' := by
  have HM : Hid _ := hmono
  have HC : Hid _ := hc
  clear hmono hc
  have hb0 : bo < w.heap.size := World.block_lt_of_cell? _ _ hl
  have hb1 : p < w.heap.size := World.block_lt_of_cell? _ _ hp
  have hk1 : ∀ o, (w.alloc o).cell? ⟨bo, 0 + 2, none⟩ = some (.int .u64 5) := fun o => by rw [World.cell?_alloc_past _ _ _ hb0]; exact hk
  have hl1 : ∀ o, (w.alloc o).cell? ⟨bo, 1, none⟩ = some (.pointer (some ⟨p, 0, none⟩)) := fun o => by rw [World.cell?_alloc_past _ _ _ hb0]; exact hl
  have hp1 : ∀ o, (w.alloc o).cell? ⟨p, 0, none⟩ = some (.slice (some ⟨g, 0, none⟩) (2 * m) c) := fun o => by rw [World.cell?_alloc_past _ _ _ hb1]; exact hp
  have HH : Hid _ := And.intro hk1 (And.intro hl1 hp1)
  clear hk1 hl1 hp1
  go_enter Try.func13, Try.ntmps13
  go_wp2_with fail
  refine (num_some bo p (some ⟨g, 0, none⟩) m c _ (by omega) (HH.out.1 _) (HH.out.2.1 _) (HH.out.2.2 _)).mono ?_
  rintro e w' ⟨rfl, rfl⟩
  go_wp2_with fail
  refine (children_some bo p (some ⟨g, 0, none⟩) (2 * m) c _ (HH.out.2.1 _) (HH.out.2.2 _)).mono ?_
  rintro e w' ⟨rfl, rfl⟩
  go_wp2_with fail
  have hcc : ∀ i, i < m → ((w.alloc (.cells #[.string key] 9)).alloc (.cells #[.slice (some ⟨g, 0, none⟩) (2 * m) c] 25)).cell? ⟨g, 2 * i * 3, none⟩ = some (.string (ks i)) := fun i hi => by
    have hg : g < w.heap.size := World.block_lt_of_cell? _ _ (HC.out i hi)
    rw [World.cell?_alloc_past _ _ _ (by simp; omega), World.cell?_alloc_past _ _ _ hg]
    exact HC.out i hi
  refine (search_any (w.heap.size + 1) w.heap.size g c m ks key _ (by omega) (by rw [World.cell?_alloc_at _ _ _ _ (by simp)]; rfl) (by rw [World.cell?_alloc_past _ _ _ (by simp), World.cell?_alloc_at _ _ _ _ (by simp)]; rfl) hcc HM.out).mono ?_
  rintro e w' ⟨r, q, rfl, hr, I, rfl⟩
  have HCC : Hid _ := hcc
  clear hcc
  have hB0 : Below w.heap.size w ((w.alloc (.cells #[.string key] 9)).alloc (.cells #[.slice (some ⟨g, 0, none⟩) (2 * m) c] 25)) := ((Below.refl _ w).alloc (Nat.le_refl _) _).alloc (by simp) _
  by_cases hrm : r < m
  · have hne : ((r : Int) == (m : Int)) = false := by simp; omega
    have hcr := HCC.out r hrm
    cases hs : (ks r).toList == key.toList
    · go_wp2
      go_quiet (fail)
      go_wp2
      go_ret
      exact ⟨r, hr, I, .inr ⟨fun _ => by simpa using hs, rfl⟩, by first | exact below_more hB0 | exact below_more (below_more hB0)⟩
    · go_wp2
      go_quiet (fail)
      go_wp2
      go_ret
      exact ⟨r, hr, I, .inl ⟨hrm, by simpa using hs, rfl⟩, by first | exact below_more hB0 | exact below_more (below_more hB0)⟩
  · have hne : ((r : Int) == (m : Int)) = true := by simp; omega
    go_wp2
    go_quiet (fail)
    go_wp2
    go_ret
    exact ⟨r, hr, I, .inr ⟨fun h => absurd h hrm, rfl⟩, by first | exact below_more hB0 | exact below_more (below_more hB0)⟩

set_option maxHeartbeats 1000000 in
theorem member_none (bo : Nat) (key : ByteArray) (w : World) 
    (hk : w.cell? ⟨bo, 0 + 2, none⟩ = some (.int .u64 5)) (hl : w.cell? ⟨bo, 1, none⟩ = some (.pointer none)) :
    Calls Try.prog 13 #[.pointer (some ⟨bo, 0, none⟩), .string key] w fun e w' => e = .returned (.pointer none) ∧ Below w.heap.size w w' := by
  have hb0 : bo < w.heap.size := World.block_lt_of_cell? _ _ hl
  have hk1 : ∀ o, (w.alloc o).cell? ⟨bo, 0 + 2, none⟩ = some (.int .u64 5) := fun o => by rw [World.cell?_alloc_past _ _ _ hb0]; exact hk
  have hl1 : ∀ o, (w.alloc o).cell? ⟨bo, 1, none⟩ = some (.pointer none) := fun o => by rw [World.cell?_alloc_past _ _ _ hb0]; exact hl
  have HH : Hid _ := And.intro hk1 hl1
  clear hk1 hl1
  go_enter Try.func13, Try.ntmps13
  go_wp2_with fail
  refine (num_none bo _ (HH.out.1 _) (HH.out.2 _)).mono ?_
  rintro e w' ⟨rfl, rfl⟩
  go_wp2_with fail
  refine (children_none bo _ (HH.out.2 _)).mono ?_
  rintro e w' ⟨rfl, rfl⟩
  go_wp2_with fail
  refine (search_empty (w.heap.size + 1) w.heap.size _).mono ?_
  rintro e w' ⟨rfl, rfl⟩
  have hB0 : Below w.heap.size w ((w.alloc (.cells #[.string key] 9)).alloc (.cells #[.slice none 0 0] 25)) := ((Below.refl _ w).alloc (Nat.le_refl _) _).alloc (by simp) _
  go_wp2
  go_quiet (fail)
  go_wp2
  go_ret
  exact ⟨rfl, by first | exact below_more hB0 | exact below_more (below_more hB0)⟩

/-- What given leaves: r: how many keys are less than key; the member found, its kind not null: the pointer to it; else none. -/
def GivenPost (g m : Nat) (ks : Nat → ByteArray) (kd : Nat → Int) (key : ByteArray) (w : World) (e : Ending) (w' : World) : Prop :=
  ∃ r : Nat, r ≤ m ∧ ((∀ t, t < r → Op.bytesLess (ks t).toList key.toList = true) ∧ (∀ t, r ≤ t → t < m → Op.bytesLess (ks t).toList key.toList = false)) ∧
    ((r < m ∧ (ks r).toList = key.toList ∧ kd r ≠ 0 ∧ e = .returned (.pointer (some ⟨g, (2 * r + 1) * 3, none⟩))) ∨ ((r < m → (ks r).toList = key.toList → kd r = 0) ∧ e = .returned (.pointer none))) ∧ Below w.heap.size w w'

set_option maxHeartbeats 1000000 in
theorem given_some (bo p g c m : Nat) (ks : Nat → ByteArray) (kd : Nat → Int) (key : ByteArray) (w : World) (hm : 2 * m ≤ 4611686018427387903)
    (hk : w.cell? ⟨bo, 0 + 2, none⟩ = some (.int .u64 5)) (hl : w.cell? ⟨bo, 1, none⟩ = some (.pointer (some ⟨p, 0, none⟩))) (hp : w.cell? ⟨p, 0, none⟩ = some (.slice (some ⟨g, 0, none⟩) (2 * m) c))
    (hc : ∀ i, i < m → w.cell? ⟨g, 2 * i * 3, none⟩ = some (.string (ks i)))
    (hd : ∀ i, i < m → w.cell? ⟨g, (2 * i + 1) * 3 + 2, none⟩ = some (.int .u64 (kd i)))
    (hd5 : ∀ i, i < m → 0 ≤ kd i ∧ kd i ≤ 5)
    (hmono : ∀ a b, a ≤ b → b < m → Op.bytesLess (ks b).toList key.toList = true → Op.bytesLess (ks a).toList key.toList = true) :
    Calls Try.prog 12 #[.pointer (some ⟨bo, 0, none⟩), .string key] w (GivenPost g m ks kd key w) := by
  have HM := member_some bo p g c m ks key w hm hk hl hp hc hmono
  have HD : Hid _ := hd
  have HD5 : Hid _ := hd5
  have HC : Hid _ := hc
  clear hk hl hp hc hmono hd hd5
  go_enter Try.func12, Try.ntmps12
  go_wp2_with fail
  refine HM.mono ?_
  rintro e w' ⟨r, hr, I, J, hB⟩
  rcases J.out with ⟨hrm, hkey, rfl⟩ | ⟨hno, rfl⟩
  · have h5 := HD5.out r hrm
    have hd := HD.out r hrm
    have hg : g < w.heap.size := World.block_lt_of_cell? _ _ hd
    have hcell : w'.cell? ⟨g, (2 * r + 1) * 3 + 2, none⟩ = some (.int .u64 (kd r)) := by rw [hB.cell (by exact hg)]; exact hd
    clear hd
    generalize hkd : kd r = z at *
    have HZ : Hid _ := hkd
    clear hkd
    by_cases hz : z = 0
    · have hz' : (z == 0) = true := by simp [hz]
      have HZ0 : Hid _ := hz
      clear hz
      go_wp2_with (go_at_call 9; refine (kind_any g ((2 * r + 1) * 3) z _ h5.1 h5.2 hcell).mono ?_; rintro e w' ⟨rfl, rfl⟩)
      go_ret
      exact ⟨r, hr, I.out, .inr ⟨fun _ _ => by rw [HZ.out, HZ0.out], rfl⟩, hB⟩
    · have hz' : (z == 0) = false := by simp [hz]
      have HZ0 : Hid _ := hz
      clear hz
      go_wp2_with (go_at_call 9; refine (kind_any g ((2 * r + 1) * 3) z _ h5.1 h5.2 hcell).mono ?_; rintro e w' ⟨rfl, rfl⟩)
      go_ret
      exact ⟨r, hr, I.out, .inl ⟨hrm, hkey, by rw [HZ.out]; exact HZ0.out, rfl⟩, hB⟩
  · have HN : Hid _ := hno
    clear hno J
    go_wp2_with fail
    go_ret
    exact ⟨r, hr, I.out, .inr ⟨fun h1 h2 => absurd h2 (HN.out h1), rfl⟩, hB⟩

set_option maxHeartbeats 1000000 in
theorem given_none (bo : Nat) (key : ByteArray) (w : World)
    (hk : w.cell? ⟨bo, 0 + 2, none⟩ = some (.int .u64 5)) (hl : w.cell? ⟨bo, 1, none⟩ = some (.pointer none)) :
    Calls Try.prog 12 #[.pointer (some ⟨bo, 0, none⟩), .string key] w fun e w' => e = .returned (.pointer none) ∧ Below w.heap.size w w' := by
  have HM := member_none bo key w hk hl
  clear hk hl
  go_enter Try.func12, Try.ntmps12
  go_wp2_with fail
  refine HM.mono ?_
  rintro e w' ⟨rfl, hB⟩
  go_wp2_with fail
  go_ret
  exact ⟨rfl, hB⟩

set_option maxHeartbeats 1000000 in
theorem zzgiven_of (bo : Nat) (key : ByteArray) (w : World) (Q : Ending → World → Prop) (hQ : ∀ e w', Q e w' → ∃ x, e = .returned (.pointer x))
    (h : Calls Try.prog 12 #[.pointer (some ⟨bo, 0, none⟩), .string key] w Q) :
    Calls Try.prog 8 #[.pointer (some ⟨bo, 0, none⟩), .string key] w Q := by
  go_enter Try.func8, Try.ntmps8
  go_wp2_with fail
  refine h.mono ?_
  intro e w' hq
  obtain ⟨x, rfl⟩ := hQ e w' hq
  have HQ : Hid _ := hq
  clear hq h hQ
  go_wp2_with fail
  exact HQ
end Go.Proofs.Qxb6001785a
