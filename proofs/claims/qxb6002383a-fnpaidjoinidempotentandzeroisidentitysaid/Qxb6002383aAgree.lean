import Derived.Test.Qxb6002383aJoin
namespace Go.Proofs.Qxb6002383a
open Go.RowKit Go.Maps Go.WideMaps

set_option maxHeartbeats 2000000 in
theorem agree_any (px py : Option Nat) (nx ny : Nat) (Dx Dy : DataW Unit) (s : ByteArray) (w : World) (hx : Reg w px nx Dx) (hy : Reg w py ny Dy) (hs : s.size ≤ maxLen) (same : Same Dx Dy) :
    Calls Try.prog 13 #[.agg #[.map px], .agg #[.map py], .string s] w fun e w' => e = .returned (.bool true) ∧ Below w.heap.size w w' := by
  have HX : Hid (∀ W, Below w.heap.size w W → Reg W px nx Dx) := fun W h => hx.here h
  have HY : Hid (∀ W, Below w.heap.size w W → Reg W py ny Dy) := fun W h => hy.here h
  have hne : ((Maps.size Dx : Int) != (Maps.size Dy : Int)) = false := by rw [same.1]; simp
  have heq := hidden (same.2 (.string s.data.toList))
  clear same hx hy
  have H0 : Hid (Below w.heap.size w ((w.alloc (.cells #[.map px] 28)).alloc (.cells #[.map py] 28))) := ((Below.refl _ w).alloc (Nat.le_refl _) _).alloc (by simp) _
  have HC : Hid (∀ W, Below (w.heap.size + 1 + 1) ((w.alloc (.cells #[.map px] 28)).alloc (.cells #[.map py] 28)) W → W.cell? ⟨w.heap.size, 0, none⟩ = some (.map px) ∧ W.cell? ⟨w.heap.size + 1, 0, none⟩ = some (.map py)) := by
    intro W h
    rw [h.cell (by show w.heap.size < _; omega), h.cell (by show w.heap.size + 1 < _; omega)]
    refine ⟨?_, ?_⟩
    · rw [World.cell?_alloc_past _ _ _ (by simp), World.cell?_alloc_at _ _ _ _ (by simp)]; rfl
    · rw [World.cell?_alloc_at _ _ _ _ (by simp)]; rfl
  go_enter Try.func13, Try.ntmps13
  go_wp2_with fail
  go_region_held3 (fun x => x.cell? ⟨w.heap.size, 0, none⟩ = some (.map px) ∧ x.cell? ⟨w.heap.size + 1, 0, none⟩ = some (.map py)) (go_keep)
    (first
      | (go_at_call_of 17 px; refine (len_any px nx Dx _ ?_).mono ?_; (exact HX.out _ H0.out.drew); rintro e w' ⟨rfl, rfl⟩)
      | (go_at_call_of 17 py; refine (len_any py ny Dy _ ?_).mono ?_; (exact HY.out _ (H0.out.alloc (by simp; omega) _).drew); rintro e w' ⟨rfl, rfl⟩))
  go_wp2_with fail
  obtain ⟨W1, hW1⟩ : ∃ W1, W1 = ((((w.alloc (.cells #[.map px] 28)).alloc (.cells #[.map py] 28)).alloc (.cells #[.map px] 28)).alloc (.cells #[.map py] 28)).drew := ⟨_, rfl⟩
  have c1 := HC.out W1 (by rw [hW1]; exact (((Below.refl _ _).alloc (by simp) _).alloc (by simp) _).drew)
  have H1 : Hid (Below w.heap.size w W1) := by rw [hW1]; exact ((H0.out.alloc (by simp; omega) _).alloc (by simp; omega) _).drew
  have hsz1 : w.heap.size + 1 + 1 ≤ W1.heap.size := by rw [hW1]; simp
  rw [← hW1]
  clear hW1 HC H0
  obtain ⟨c1a, c1b⟩ := c1
  have hs1 := H1.out.size
  go_region_held3 (fun x => x.cell? ⟨w.heap.size, 0, none⟩ = some (.map px) ∧ x.cell? ⟨w.heap.size + 1, 0, none⟩ = some (.map py)) (go_keep)
    (first
      | (go_at_call_of 18 px; refine (has_any px nx Dx s _ ?_ hs).mono ?_; (exact HX.out _ H1.out.drew); rintro e w' ⟨rfl, rfl⟩)
      | (go_at_call_of 18 py; refine (has_any py ny Dy s _ ?_ hs).mono ?_; (exact HY.out _ (H1.out.alloc hs1 _).drew); rintro e w' ⟨rfl, rfl⟩))
  go_wp2_with fail
  go_ret
  refine ⟨?_, ((H1.out.alloc hs1 _).alloc (by simp; omega) _).drew⟩
  show Ending.returned (.bool (hasB Dx (Lit.string s.data.toList) == hasB Dy (Lit.string s.data.toList))) = _
  rw [heq.out]
  simp
end Go.Proofs.Qxb6002383a
