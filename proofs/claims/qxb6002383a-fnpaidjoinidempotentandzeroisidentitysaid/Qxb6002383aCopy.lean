import Derived.Test.Qxb6002383aBytes
namespace Go.Proofs.Qxb6002383a
open Go.RowKit Go.Maps Go.WideMaps

theorem Try.info9 : (Try.prog.info? 9).map (fun i => (i.zero, i.size, i.bytes)) = some (some (.string ⟨#[]⟩), 1, 16) := by kernel_rfl

/-- A row of strings as cells. -/
def strCells (f : Nat → ByteArray) (n : Nat) : List Value := (List.range n).map fun i => .string (f i)
theorem strCells_length (f : Nat → ByteArray) (n : Nat) : (strCells f n).length = n := by simp [strCells]
theorem strCells_at (f : Nat → ByteArray) (n i : Nat) (h : i < n) : (strCells f n)[i]? = some (.string (f i)) := by simp [strCells, h]
theorem strCells_set (f : Nat → ByteArray) (n k : Nat) (s : ByteArray) : (strCells f n).set k (.string s) = strCells (fun i => if i = k then s else f i) n := by
  apply List.ext_getElem?
  intro j
  rw [List.getElem?_set]
  unfold strCells
  by_cases hj : j < n
  · by_cases hk : k = j
    · subst hk; simp [hj]
    · simp [hj, hk, Ne.symm hk]
  · by_cases hk : k = j
    · subst hk; simp [hj]
    · simp [hj, hk]
theorem strCells_made (n : Nat) : (madeCells #[Value.string ⟨#[]⟩] n).toList = strCells (fun _ => ⟨#[]⟩) n := by
  rw [toList_madeCells_one]
  apply List.ext_getElem?
  intro j
  simp [strCells, List.getElem?_replicate]
  split <;> simp_all

set_option maxHeartbeats 1000000 in
theorem paidCopy_any (a0 : Option Addr) (l0 c0 : Nat) (ks : Nat → ByteArray) (w : World) (h0 : StrRow w a0 l0 ks) (hl : l0 ≤ 1024) :
    Calls Try.prog 11 #[.slice a0 l0 c0] w fun e w' => ∃ ao c f, e = .returned (.slice ao l0 c) ∧ StrRow w' ao l0 f ∧ Below w.heap.size w w' := by
  have hnil := Lib.run_eql_slice_nil w 22 9 a0 l0 c0 0 0 Try.underlying22
  have H0 := hidden h0
  clear h0
  cases hN : a0.isNone
  · rw [hN] at hnil
    clear hN
    obtain ⟨i0, hi, hi0, hi1, hi2⟩ := info_parts Try.info9
    go_enter Try.func11, Try.ntmps11
    go_wp2_with (at_make; refine wpList_make_full _ rfl _ _ 22 rfl w.heap.size 9 i0 _ 1 Try.underlying22 hi hi0 hi1 _ _ _ _ l0 rfl rfl rfl rfl ?b2 ?b3 (Nat.le_refl _) ?_)
    case b2 => rw [hi2]; omega
    case b3 => unfold maxLen; omega
    intro w1 hown1 hgrow1
    rw [strCells_made] at hown1
    have HO1 := hidden hown1
    have HG1 := hidden hgrow1
    clear hown1 hgrow1 hnil
    go_wp2
    go_loopw [4] (fun i wr => ∃ (k : Nat) (f : Nat → ByteArray), k ≤ l0 ∧ i = .int .i64 k ∧ Hid (wr.ownsRow w.heap.size 9 1 (.slice (some ⟨w.heap.size, 0, none⟩) l0 l0) l0 (strCells f l0)) ∧ Hid (∀ i, (f i).size ≤ 9223372036854775807) ∧ Hid (Below w.heap.size w wr)) (fun i _ => l0 - (intOf i).toNat)
    case atStart => exact ⟨0, _, Nat.zero_le _, rfl, HO1.out, fun _ => Nat.zero_le _, (Below.refl _ w).grown HG1.out (Nat.le_refl _) (fun k h => by cases h)⟩
    case round =>
      obtain ⟨k, f, hk, rfl, OWN, FS, BEL⟩ := hrel
      by_cases hlt : k < l0
      · obtain ⟨b, off, rfl, hb, hc⟩ := H0.out.cells (by omega)
        have ck : wr.cell? ⟨b, off + k, none⟩ = some (.string (ks k)) := (BEL.out.cell (by exact hb)).trans (hc k hlt)
        have co : wr.cell? ⟨w.heap.size, k, none⟩ = some (.string (f k)) := by rw [OWN.out.cellAt k (by omega)]; exact strCells_at f l0 k hlt
        have cf : wr.frozen? ⟨w.heap.size, k, none⟩ = false := OWN.out.frozenAt k
        have ST := hidden (OWN.out.stored k (.string (ks k)))
        clear hc
        go_wp2
        go_roundw
        case rel =>
          exact ⟨k + 1, _, by omega, by go_num, by have := ST.out.1; rw [strCells_set] at this; exact this, fun i => by
            show (if i = k then ks k else f i).size ≤ _
            split
            · exact H0.out.size k hlt
            · exact FS.out i, BEL.out.grown ST.out.2 BEL.out.size (fun j h => by cases h; exact Nat.le_refl _)⟩
        case measure => simp [intOf]; omega
      · go_wp2
        go_ret
        refine ⟨_, _, f, rfl, ⟨fun h => ⟨w.heap.size, 0, rfl, (OWN.out.lt w.heap.size rfl).2, fun i hi => ?_⟩, fun i _ => FS.out i, by omega⟩, BEL.out⟩
        rw [Nat.zero_add, OWN.out.cellAt i (by omega)]
        exact strCells_at f l0 i hi
  · rw [hN] at hnil
    obtain rfl : a0 = none := by simpa using hN
    have hl0 : l0 = 0 := by
      rcases Nat.eq_zero_or_pos l0 with h | h
      · exact h
      · obtain ⟨b, off, h', _⟩ := H0.out.cells h
        cases h'
    subst hl0
    go_enter Try.func11, Try.ntmps11
    go_wp2
    go_ret
    exact ⟨none, 0, ks, rfl, ⟨fun h => absurd h (Nat.lt_irrefl _), fun _ h => absurd h (Nat.not_lt_zero _), by omega⟩, Below.refl _ _⟩

theorem law : Keyed Try.prog 9 := string_keyed Try.underlying9
theorem zero4 (w : World) : (zeroValue 4).run Try.prog w = .ok (.bool false) w := by kernel_rfl
theorem run_makeMap_some (w : World) (n : Int) : (Instr.makeMap 26 (some (.int .i64 n))).run Try.prog w = .ok (.map (some w.heap.size)) (w.alloc (.map #[] 0)) := by kernel_rfl

/-- A register: nil, and it reads as nil; or a map that the world owns. -/
def Reg (w : World) (p : Option Nat) (n : Nat) (D : DataW Unit) : Prop := (p = none ∧ D = .nil) ∨ ∃ b, p = some b ∧ w.ownsMap Try.prog 9 (plainElem (H := Unit) Try.prog 4) b n D

set_option maxHeartbeats 1000000 in
theorem newPaid_any (a0 : Option Addr) (l0 c0 : Nat) (ks : Nat → ByteArray) (w : World) (h0 : StrRow w a0 l0 ks) (hl : l0 ≤ 1024) :
    Calls Try.prog 12 #[.slice a0 l0 c0] w fun e w' => ∃ p D, e = .returned (.agg #[.map p]) ∧ Reg w' p l0 D ∧ Below w.heap.size w w' := by
  have hmm := run_makeMap_some
  have hnil := fun wx => Lib.run_eql_slice_nil wx 22 9 a0 l0 c0 0 0 Try.underlying22
  have H0 := hidden h0
  clear h0
  cases hN : a0.isNone
  · rw [hN] at hnil
    clear hN
    go_enter Try.func12, Try.ntmps12
    go_wp2
    go_loopw [4] (fun i wr => ∃ (k : Nat) (D : DataW Unit), k ≤ l0 ∧ i = .int .i64 k ∧ Hid (wr.ownsMap Try.prog 9 (plainElem (H := Unit) Try.prog 4) (w.heap.size + 1) k D) ∧ wr.cell? ⟨w.heap.size, 0, none⟩ = some (.map none) ∧ wr.frozen? ⟨w.heap.size, 0, none⟩ = false ∧ Hid (Below w.heap.size w wr)) (fun i _ => l0 - (intOf i).toNat)
    case atStart =>
      have hm := World.ownsMap_made (w.alloc (.cells #[Value.map none] 28)) Try.prog 9 (plainElem (H := Unit) Try.prog 4)
      rw [World.size_alloc] at hm
      exact ⟨0, _, Nat.zero_le _, rfl, hm, by rw [World.cell?_alloc_past _ _ _ (by simp), World.cell?_alloc_at _ _ _ _ (by simp)]; rfl, by simp, ((Below.refl _ w).alloc (Nat.le_refl _) _).alloc (by simp) _⟩
    case round =>
      obtain ⟨k, D, hk, rfl, OWN, hcb, hfb, BEL⟩ := hrel
      have hBlt := OWN.out.lt
      by_cases hlt : k < l0
      · obtain ⟨b, off, rfl, hb, hc⟩ := H0.out.cells (by omega)
        have ck : wr.cell? ⟨b, off + k, none⟩ = some (.string (ks k)) := (BEL.out.cell (by exact hb)).trans (hc k hlt)
        have KEY := hidden (keyOf_string_mk Try.underlying9 (s := ks k) (by have := H0.out.size k hlt; unfold maxLen; omega))
        clear hc
        go_wp2_with (at_mapUpdate; refine wpList_mapUpdate_own _ rfl _ _ _ 26 rfl 9 4 law Try.underlying26 _ (w.heap.size + 1) k D rfl OWN.out (by unfold maxLen; omega) _ _ _ rfl rfl KEY.out _ [] (plainElem_bool Try.underlying4 true) ?_; intro w1 hown1 hgrow1; go_frame)
        have hcb1 : w1.cell? ⟨w.heap.size, 0, none⟩ = some (.map none) := hgrow1.cell hcb (by simp)
        have hfb1 : w1.frozen? ⟨w.heap.size, 0, none⟩ = false := (World.frozen?_of_block (hgrow1.block w.heap.size (by omega) (by simp))).trans hfb
        have OWN1 := hidden hown1
        have BEL1 := hidden (BEL.out.grown hgrow1 BEL.out.size (fun j h => by cases h; omega))
        clear hown1 hgrow1
        go_wp2
        go_roundw
        case rel => exact ⟨k + 1, _, by omega, by go_num, OWN1.out, hcb1, hfb1, BEL1.out⟩
        case measure => simp [intOf]; omega
      · obtain rfl : k = l0 := by omega
        go_wp2
        refine bodyPost_ret (v := .agg #[.map (some (w.heap.size + 1))]) (by simp [results, Try.results12, go_sem, hcb]) rfl ⟨_, D, rfl, .inr ⟨_, rfl, OWN.out.setCell (by simp) _⟩, BEL.out.setCell (Nat.le_refl _) _⟩
  · rw [hN] at hnil
    obtain rfl : a0 = none := by simpa using hN
    go_enter Try.func12, Try.ntmps12
    go_wp2
    exact bodyPost_ret (v := .agg #[.map none]) (by simp [results, Try.results12, go_sem]) rfl ⟨none, .nil, rfl, .inl ⟨rfl, rfl⟩, (Below.refl _ w).alloc (Nat.le_refl _) _⟩
end Go.Proofs.Qxb6002383a
