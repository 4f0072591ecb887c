import Derived.Test.Qxb6600099aBase
namespace Go.Proofs.Qxb6600099a
open Go.RowKit

theorem Try.info3 : (Try.prog.info? 3).map (fun i => (i.zero, i.size, i.bytes)) = some (some (.int .i64 0), 1, 8) := by kernel_rfl
theorem Try.info5 : (Try.prog.info? 5).map (fun i => (i.zero, i.size, i.bytes)) = some (some (.int .u8 0), 1, 1) := by kernel_rfl

/-- A row of integers as cells. -/
def ints (k : IntKind) (f : Nat → Int) (n : Nat) : List Value := (List.range n).map fun i => .int k (f i)
theorem ints_length (k : IntKind) (f : Nat → Int) (n : Nat) : (ints k f n).length = n := by simp [ints]
theorem ints_at' (k : IntKind) (f : Nat → Int) (n i : Nat) (h : i < n) : (ints k f n)[i]? = some (.int k (f i)) := by simp [ints, h]
theorem ints_set' (k : IntKind) (f : Nat → Int) (n j : Nat) (s : Int) : (ints k f n).set j (.int k s) = ints k (fun i => if i = j then s else f i) n := by
  apply List.ext_getElem?
  intro t
  rw [List.getElem?_set]
  unfold ints
  by_cases ht : t < n
  · by_cases hk : j = t
    · subst hk; simp [ht]
    · simp [ht, hk, Ne.symm hk]
  · by_cases hk : j = t
    · subst hk; simp [ht]
    · simp [ht, hk]
theorem ints_made (k : IntKind) (n : Nat) : (madeCells #[Value.int k 0] n).toList = ints k (fun _ => 0) n := by
  rw [toList_madeCells_one]
  apply List.ext_getElem?
  intro j
  simp [ints, List.getElem?_replicate]
  split <;> simp_all
theorem ints_congr (k : IntKind) (f g : Nat → Int) (n : Nat) (h : ∀ i, i < n → f i = g i) : ints k f n = ints k g n := by
  apply List.ext_getElem?
  intro t
  by_cases ht : t < n
  · rw [ints_at' k f n t ht, ints_at' k g n t ht, h t ht]
  · rw [List.getElem?_eq_none (by rw [ints_length]; omega), List.getElem?_eq_none (by rw [ints_length]; omega)]
theorem ints_snoc (k : IntKind) (f : Nat → Int) (n : Nat) (x : Int) : ints k f n ++ [.int k x] = ints k (fun i => if i = n then x else f i) (n + 1) := by
  unfold ints
  rw [List.range_succ, List.map_append]
  congr 1
  · apply List.map_congr_left
    intro i hi
    have : i ≠ n := by have := List.mem_range.1 hi; omega
    simp [this]
  · simp

theorem cells_of_owns {k : IntKind} {e : TypeId} {w : World} {base : Nat} {ao : Option Addr} {n c : Nat} {f : Nat → Int} (h : w.ownsRow base e 1 (.slice ao n c) n (ints k f n)) :
    0 < n → ∃ b off, ao = some ⟨b, off, none⟩ ∧ b < w.heap.size ∧ ∀ i, i < n → w.cell? ⟨b, off + i, none⟩ = some (.int k (f i)) := fun hp => by
  obtain ⟨g, cap, hv, _, hlt⟩ := h.form hp
  simp only [Value.slice.injEq] at hv
  obtain ⟨rfl, _, rfl⟩ := hv
  refine ⟨g, 0, rfl, hlt, fun i hi => ?_⟩
  rw [Nat.zero_add, h.cellAt i (by omega)]
  exact ints_at' k f n i hi

/-- What an owned row of integers reads as. -/
theorem row_of_owns {k : IntKind} {e : TypeId} {w : World} {base : Nat} {ao : Option Addr} {n c : Nat} {f : Nat → Int} (h : w.ownsRow base e 1 (.slice ao n c) n (ints k f n)) (hw : ∀ i, i < n → (Lit.int k (f i)).wf = true) (hn : n ≤ 9223372036854775807) : IntRow k w ao n f := by
  refine ⟨fun hp => ?_, hw, hn⟩
  obtain ⟨g, cap, hv, _, hlt⟩ := h.form hp
  simp only [Value.slice.injEq] at hv
  obtain ⟨rfl, _, rfl⟩ := hv
  refine ⟨g, 0, rfl, hlt, fun i hi => ?_⟩
  rw [Nat.zero_add, h.cellAt i (by omega)]
  exact ints_at' k f n i hi

set_option maxHeartbeats 1000000 in
theorem cloneInts_any (a0 : Option Addr) (l0 c0 : Nat) (zs : Nat → Int) (w : World) (h0 : IntRow .i64 w a0 l0 zs) (hl : l0 ≤ 1048576) :
    Calls Try.prog 25 #[.slice a0 l0 c0] w fun e w' => ∃ ao c, e = .returned (.slice ao l0 c) ∧ w'.ownsRow w.heap.size 3 1 (.slice ao l0 c) l0 (ints .i64 zs l0) ∧ Below w.heap.size w w' := by
  have hnil := Lib.run_eql_slice_nil w 35 3 a0 l0 c0 0 0 Try.underlying35
  have H0 := hidden h0
  clear h0
  cases hN : a0.isNone
  · rw [hN] at hnil
    clear hN
    obtain ⟨i0, hi, hi0, hi1, hi2⟩ := info_parts Try.info3
    go_enter Try.func25, Try.ntmps25
    go_wp2_with (at_make; refine wpList_make_full _ rfl _ _ 35 rfl w.heap.size 3 i0 _ 1 Try.underlying35 hi hi0 hi1 _ _ _ _ l0 rfl rfl rfl rfl ?b2 ?b3 (Nat.le_refl _) ?_)
    case b2 => rw [hi2]; omega
    case b3 => unfold maxLen; omega
    intro w1 hown1 hgrow1
    rw [ints_made] at hown1
    have HO1 := hidden hown1
    have HG1 := hidden hgrow1
    clear hown1 hgrow1 hnil
    go_wp2
    go_loopw [4] (fun i wr => ∃ (k : Nat) (f : Nat → Int), k ≤ l0 ∧ i = .int .i64 k ∧ Hid (wr.ownsRow w.heap.size 3 1 (.slice (some ⟨w.heap.size, 0, none⟩) l0 l0) l0 (ints .i64 f l0)) ∧ Hid (∀ j, j < k → f j = zs j) ∧ Hid (Below w.heap.size w wr)) (fun i _ => l0 - (intOf i).toNat)
    case atStart => exact ⟨0, _, Nat.zero_le _, rfl, HO1.out, fun _ h => absurd h (Nat.not_lt_zero _), (Below.refl _ w).grown HG1.out (Nat.le_refl _) (fun k h => by cases h)⟩
    case round =>
      obtain ⟨k, f, hk, rfl, OWN, FS, BEL⟩ := hrel
      by_cases hlt : k < l0
      · obtain ⟨b, off, rfl, hb, hc⟩ := H0.out.cells (by omega)
        have ck : wr.cell? ⟨b, off + k, none⟩ = some (.int .i64 (zs k)) := (BEL.out.cell (by exact hb)).trans (hc k hlt)
        have co : wr.cell? ⟨w.heap.size, k, none⟩ = some (.int .i64 (f k)) := by rw [OWN.out.cellAt k (by omega)]; exact ints_at' .i64 f l0 k hlt
        have cf : wr.frozen? ⟨w.heap.size, k, none⟩ = false := OWN.out.frozenAt k
        have ST := hidden (OWN.out.stored k (.int .i64 (zs k)))
        clear hc
        go_wp2
        go_roundw
        case rel =>
          exact ⟨k + 1, _, by omega, by go_num, by have := ST.out.1; rw [ints_set'] at this; exact this, fun i hi => by
            show (if i = k then zs k else f i) = _
            split
            · rename_i h; rw [h]
            · exact FS.out i (by omega), BEL.out.grown ST.out.2 BEL.out.size (fun j h => by cases h; exact Nat.le_refl _)⟩
        case measure => simp [intOf]; omega
      · obtain rfl : k = l0 := by omega
        go_wp2
        go_ret
        exact ⟨_, _, rfl, by rw [ints_congr .i64 zs f k (fun i hi => (FS.out i hi).symm)]; exact OWN.out, BEL.out⟩
  · rw [hN] at hnil
    obtain rfl : a0 = none := by simpa using hN
    have hl0 : l0 = 0 := by
      rcases Nat.eq_zero_or_pos l0 with h | h
      · exact h
      · obtain ⟨b, off, h', _⟩ := H0.out.cells h
        cases h'
    subst hl0
    go_enter Try.func25, Try.ntmps25
    go_wp2
    go_ret
    exact ⟨none, 0, rfl, World.ownsRow_nil _ _ _ _, Below.refl _ _⟩

set_option maxHeartbeats 1000000 in
theorem cloneBytes_any (a0 : Option Addr) (l0 c0 : Nat) (zs : Nat → Int) (w : World) (h0 : IntRow .u8 w a0 l0 zs) (hl : l0 ≤ 1048576) :
    Calls Try.prog 11 #[.slice a0 l0 c0] w fun e w' => ∃ ao c, e = .returned (.slice ao l0 c) ∧ w'.ownsRow w.heap.size 5 1 (.slice ao l0 c) l0 (ints .u8 zs l0) ∧ Below w.heap.size w w' := by
  have hnil := Lib.run_eql_slice_nil w 22 5 a0 l0 c0 0 0 Try.underlying22
  have H0 := hidden h0
  clear h0
  cases hN : a0.isNone
  · rw [hN] at hnil
    clear hN
    obtain ⟨i0, hi, hi0, hi1, hi2⟩ := info_parts Try.info5
    go_enter Try.func11, Try.ntmps11
    go_wp2_with (at_make; refine wpList_make_full _ rfl _ _ 22 rfl w.heap.size 5 i0 _ 1 Try.underlying22 hi hi0 hi1 _ _ _ _ l0 rfl rfl rfl rfl ?b2 ?b3 (Nat.le_refl _) ?_)
    case b2 => rw [hi2]; omega
    case b3 => unfold maxLen; omega
    intro w1 hown1 hgrow1
    rw [ints_made] at hown1
    have HO1 := hidden hown1
    have HG1 := hidden hgrow1
    clear hown1 hgrow1 hnil
    go_wp2
    go_loopw [4] (fun i wr => ∃ (k : Nat) (f : Nat → Int), k ≤ l0 ∧ i = .int .i64 k ∧ Hid (wr.ownsRow w.heap.size 5 1 (.slice (some ⟨w.heap.size, 0, none⟩) l0 l0) l0 (ints .u8 f l0)) ∧ Hid (∀ j, j < k → f j = zs j) ∧ Hid (Below w.heap.size w wr)) (fun i _ => l0 - (intOf i).toNat)
    case atStart => exact ⟨0, _, Nat.zero_le _, rfl, HO1.out, fun _ h => absurd h (Nat.not_lt_zero _), (Below.refl _ w).grown HG1.out (Nat.le_refl _) (fun k h => by cases h)⟩
    case round =>
      obtain ⟨k, f, hk, rfl, OWN, FS, BEL⟩ := hrel
      by_cases hlt : k < l0
      · obtain ⟨b, off, rfl, hb, hc⟩ := H0.out.cells (by omega)
        have ck : wr.cell? ⟨b, off + k, none⟩ = some (.int .u8 (zs k)) := (BEL.out.cell (by exact hb)).trans (hc k hlt)
        have co : wr.cell? ⟨w.heap.size, k, none⟩ = some (.int .u8 (f k)) := by rw [OWN.out.cellAt k (by omega)]; exact ints_at' .u8 f l0 k hlt
        have cf : wr.frozen? ⟨w.heap.size, k, none⟩ = false := OWN.out.frozenAt k
        have ST := hidden (OWN.out.stored k (.int .u8 (zs k)))
        clear hc
        go_wp2
        go_roundw
        case rel =>
          exact ⟨k + 1, _, by omega, by go_num, by have := ST.out.1; rw [ints_set'] at this; exact this, fun i hi => by
            show (if i = k then zs k else f i) = _
            split
            · rename_i h; rw [h]
            · exact FS.out i (by omega), BEL.out.grown ST.out.2 BEL.out.size (fun j h => by cases h; exact Nat.le_refl _)⟩
        case measure => simp [intOf]; omega
      · obtain rfl : k = l0 := by omega
        go_wp2
        go_ret
        exact ⟨_, _, rfl, by rw [ints_congr .u8 zs f k (fun i hi => (FS.out i hi).symm)]; exact OWN.out, BEL.out⟩
  · rw [hN] at hnil
    obtain rfl : a0 = none := by simpa using hN
    have hl0 : l0 = 0 := by
      rcases Nat.eq_zero_or_pos l0 with h | h
      · exact h
      · obtain ⟨b, off, h', _⟩ := H0.out.cells h
        cases h'
    subst hl0
    go_enter Try.func11, Try.ntmps11
    go_wp2
    go_ret
    exact ⟨none, 0, rfl, World.ownsRow_nil _ _ _ _, Below.refl _ _⟩
end Go.Proofs.Qxb6600099a
