import Derived.Test.Qxb6002383aMaps
import Derived.Deep.RegionHeld3
namespace Go.Proofs.Qxb6002383a
open Go.RowKit Go.Maps Go.WideMaps

/-- Does the register hold the key? -/
def hasB (D : DataW Unit) (k : Lit) : Bool := match D.atKey k (.lit (.bool false)) with | .lit (.bool b) => b | _ => false

set_option maxHeartbeats 1000000 in
theorem len_any (p : Option Nat) (n : Nat) (D : DataW Unit) (w : World) (h : Reg w p n D) :
    Calls Try.prog 17 #[.agg #[.map p]] w fun e w' => e = .returned (.int .i64 (Maps.size D)) ∧ w' = w.alloc (.cells #[.map p] 28) := by
  rcases h with ⟨rfl, rfl⟩ | ⟨b, rfl, ho⟩
  · have hl := fun wx => Maps.len_nil (P := Try.prog) (w := wx) (k := 9) Try.underlying26 3
    go_enter Try.func17, Try.ntmps17
    go_wp2
    go_ret
    exact ⟨rfl, rfl⟩
  · have H := hidden (ho.alloc (.cells #[.map (some b)] 28))
    clear ho
    go_enter Try.func17, Try.ntmps17
    go_wp2_with (at_len; refine wpList_len_own _ rfl _ 26 rfl 9 4 Try.underlying26 _ b n D rfl H.out ?_)
    go_ret
    exact ⟨rfl, rfl⟩

theorem look_bool {w : World} {b n : Nat} {D : DataW Unit} {s : ByteArray} (h : w.ownsMap Try.prog 9 (plainElem (H := Unit) Try.prog 4) b n D) (hs : s.size ≤ maxLen) :
    (Instr.lookup 26 (.map (some b)) (.string s) false).run Try.prog w = .ok (.bool (hasB D (.string s.data.toList))) w := by
  obtain ⟨v, ps, hrun, hv⟩ := h.lookup law Try.underlying26 (zero4 w) (plainElem_bool Try.underlying4 false) (keyOf_string_mk Try.underlying9 hs)
  unfold plainElem at hv
  rw [Try.underlying4] at hv
  cases v <;> simp at hv
  rename_i c
  rw [hrun]
  unfold hasB
  rw [← hv.1]

set_option maxHeartbeats 1000000 in
theorem has_any (p : Option Nat) (n : Nat) (D : DataW Unit) (s : ByteArray) (w : World) (h : Reg w p n D) (hs : s.size ≤ maxLen) :
    Calls Try.prog 18 #[.agg #[.map p], .string s] w fun e w' => e = .returned (.bool (hasB D (.string s.data.toList))) ∧ w' = w.alloc (.cells #[.map p] 28) := by
  rcases h with ⟨rfl, rfl⟩ | ⟨b, rfl, ho⟩
  · have hl := fun wx => Maps.look_nil (P := Try.prog) (w := wx) false law Try.underlying26 (zero4 wx) (keyOf_string_mk Try.underlying9 hs)
    go_enter Try.func18, Try.ntmps18
    go_wp2
    go_ret
    exact ⟨rfl, rfl⟩
  · have hl := look_bool (ho.alloc (.cells #[.map (some b)] 28)) hs
    clear ho
    go_enter Try.func18, Try.ntmps18
    go_wp2
    go_ret
    exact ⟨rfl, rfl⟩

theorem Reg.alloc {w : World} {p : Option Nat} {n : Nat} {D : DataW Unit} (h : Reg w p n D) (o : Obj) : Reg (w.alloc o) p n D := h.here ((Below.refl _ w).alloc (Nat.le_refl _) o)

theorem run_len {w : World} {p : Option Nat} {n : Nat} {D : DataW Unit} (h : Reg w p n D) : (Builtin.len_ #[26] 3 #[.map p]).run Try.prog w = .ok (.int .i64 (Maps.size D)) w := by
  rcases h with ⟨rfl, rfl⟩ | ⟨b, rfl, ho⟩
  · exact Maps.len_nil (k := 9) Try.underlying26 3
  · exact ho.len Try.underlying26 3

set_option maxHeartbeats 1000000 in
theorem join_any (p q : Option Nat) (np nq : Nat) (Dp Dq : DataW Unit) (w : World) (hp : Reg w p np Dp) (hq : Reg w q nq Dq) (bp : np ≤ 1048576) (bq : nq ≤ 1048576) :
    Calls Try.prog 14 #[.agg #[.map p], .agg #[.map q]] w fun e w' => ∃ b, e = .returned (.agg #[.map (some b)]) ∧ Reg w' (some b) (np + nq) (Lib.mergeD (Lib.mergeD (.map []) Dp) Dq) ∧ Below w.heap.size w w' := by
  have sp := hp.size_le
  have sq := hq.size_le
  have hmm := run_makeMap_some
  obtain ⟨W, hW⟩ : ∃ W, W = ((w.alloc (.cells #[.map p] 28)).alloc (.cells #[.map q] 28)).alloc (.cells #[.map none] 28) := ⟨_, rfl⟩
  have hB : Below w.heap.size w W := by rw [hW]; exact (((Below.refl _ w).alloc (Nat.le_refl _) _).alloc (by simp) _).alloc (by simp; omega) _
  have hsz : W.heap.size = w.heap.size + 1 + 1 + 1 := by rw [hW]; simp
  have hpW : Reg W p np Dp := hp.here hB
  have hqW : Reg W q nq Dq := hq.here hB
  have lp := run_len hpW
  have lq := run_len hqW
  have HP := hidden hp.lt
  have HQ := hidden hq.lt
  have HPW := hidden hpW
  have HQW := hidden hqW
  rw [hW] at lp lq
  clear hp hq hpW hqW
  go_enter Try.func14, Try.ntmps14
  go_wp2_with fail
  rw [← hW]
  have hcq : W.cell? ⟨w.heap.size + 1, 0, none⟩ = some (.map q) := by
    rw [hW, World.cell?_alloc_past _ _ _ (by simp), World.cell?_alloc_at _ _ _ _ (by simp)]; rfl
  have hcr : W.cell? ⟨w.heap.size + 1 + 1, 0, none⟩ = some (.map none) := by
    rw [hW, World.cell?_alloc_at _ _ _ _ (by simp)]; rfl
  have hfr : W.frozen? ⟨w.heap.size + 1 + 1, 0, none⟩ = false := by rw [hW]; go_simp
  have M0 := World.ownsMap_made W Try.prog 9 (plainElem (H := Unit) Try.prog 4)
  rw [hsz] at M0
  refine (copy_any (w.heap.size + 1 + 1 + 1) 0 np p (.map []) Dp _ M0 (HPW.out.alloc _) (fun e => by have := HP.out _ e; omega) (by unfold maxLen; omega)).mono ?_
  rintro e w1 ⟨rfl, own1, g1⟩
  clear M0 lp lq hW
  have g1' : W.grownBy w1 (some (w.heap.size + 1 + 1 + 1)) := (World.grownBy_alloc W _ _).trans g1
  have hcq1 : w1.cell? ⟨w.heap.size + 1, 0, none⟩ = some (.map q) := g1'.cell hcq (by simp)
  have hcr1 : w1.cell? ⟨w.heap.size + 1 + 1, 0, none⟩ = some (.map none) := g1'.cell hcr (by simp)
  have hfr1 : w1.frozen? ⟨w.heap.size + 1 + 1, 0, none⟩ = false := (World.frozen?_of_block (g1'.block (w.heap.size + 1 + 1) (by omega) (by simp))).trans hfr
  have OWN1 := hidden own1
  have G1 := hidden g1'
  have BEL1 : Hid (Below (w.heap.size + 1 + 1) W w1) := (Below.refl _ W).grown g1' (by omega) (fun k h => by cases h; omega)
  have BEL0 : Hid (Below w.heap.size w w1) := hB.trans (BEL1.out.mono (by omega))
  clear hcq hcr hfr own1 g1 g1' hB
  go_wp2_with fail
  refine (copy_any (w.heap.size + 1 + 1 + 1) (0 + Maps.size Dp) nq q (Lib.mergeD (.map []) Dp) Dq _ OWN1.out (HQW.out.below BEL1.out (fun b h => by have := HQ.out b h; omega)) (fun e => by have := HQ.out _ e; omega) (by unfold maxLen; omega)).mono ?_
  rintro e w2 ⟨rfl, own2, g2⟩
  have hcr2 : w2.cell? ⟨w.heap.size + 1 + 1, 0, none⟩ = some (.map none) := g2.cell hcr1 (by simp)
  have hlt2 := World.block_lt_of_cell? _ _ hcr1
  have hfr2 : w2.frozen? ⟨w.heap.size + 1 + 1, 0, none⟩ = false := (World.frozen?_of_block (g2.block (w.heap.size + 1 + 1) hlt2 (by simp))).trans hfr1
  have OWN2 := hidden own2
  have BEL2 : Hid (Below w.heap.size w w2) := BEL0.out.grown g2 BEL0.out.size (fun k h => by cases h; omega)
  clear hcq1 hcr1 hfr1 own2 g2
  go_wp2_with fail
  refine bodyPost_ret (v := .agg #[.map (some (w.heap.size + 1 + 1 + 1))]) (by simp [results, Try.results14, go_sem, hcr2]) rfl ⟨_, rfl, .inr ⟨_, rfl, (OWN2.out.mono (by omega)).setCell (by simp) _⟩, BEL2.out.setCell (by show w.heap.size ≤ w.heap.size + 1 + 1; omega) _⟩

theorem canonK_empty : CanonK (KeysOf Try.prog 9) (.map [] : DataW Unit) := ⟨[], rfl, List.Pairwise.nil, fun p hp => by cases hp⟩

/-- A register laid into an empty map is that register. -/
theorem merge_empty {D : DataW Unit} (h : CanonK (KeysOf Try.prog 9) D) : Lib.mergeD (.map []) D = D := by
  refine (merged_eq law.one (left := fun _ => false) ⟨fun k => ?_, fun k z => ?_⟩ (fun _ => rfl) (h.canon law.one) canonK_empty h).symm
  · simp [Maps.has]
  · cases hk : Maps.has D k
    · rw [atKey_of_not_has hk]; simp [DataW.atKey]
    · simp
/-- .. and laid into itself, too. -/
theorem merge_self {D : DataW Unit} (h : CanonK (KeysOf Try.prog 9) D) : Lib.mergeD D D = D := by
  refine (merged_eq law.one (left := fun _ => false) ⟨fun k => ?_, fun k z => ?_⟩ (fun _ => rfl) (h.canon law.one) h h).symm
  · simp
  · simp

/-- Two registers hold equally many keys, and agree on every key. -/
def Same (D E : DataW Unit) : Prop := Maps.size D = Maps.size E ∧ ∀ k, hasB D k = hasB E k

theorem Reg.self_join {w : World} {p : Option Nat} {n : Nat} {D : DataW Unit} (h : Reg w p n D) : Same (Lib.mergeD (Lib.mergeD (.map []) D) D) D := by
  rcases h with ⟨_, rfl⟩ | ⟨b, _, ho⟩
  · exact ⟨rfl, fun _ => rfl⟩
  · have c := ho.canonK law
    rw [merge_empty c, merge_self c]
    exact ⟨rfl, fun _ => rfl⟩
theorem Reg.zero_join {w : World} {p : Option Nat} {n : Nat} {D : DataW Unit} (h : Reg w p n D) : Same (Lib.mergeD (Lib.mergeD (.map []) D) .nil) D := by
  rcases h with ⟨_, rfl⟩ | ⟨b, _, ho⟩
  · exact ⟨rfl, fun _ => rfl⟩
  · have c := ho.canonK law
    rw [merge_empty c]
    exact ⟨rfl, fun _ => rfl⟩
theorem Reg.join_zero {w : World} {p : Option Nat} {n : Nat} {D : DataW Unit} (h : Reg w p n D) : Same (Lib.mergeD (Lib.mergeD (.map []) .nil) D) D := by
  rcases h with ⟨_, rfl⟩ | ⟨b, _, ho⟩
  · exact ⟨rfl, fun _ => rfl⟩
  · have c := ho.canonK law
    show Same (Lib.mergeD (.map []) D) D
    rw [merge_empty c]
    exact ⟨rfl, fun _ => rfl⟩
end Go.Proofs.Qxb6002383a
