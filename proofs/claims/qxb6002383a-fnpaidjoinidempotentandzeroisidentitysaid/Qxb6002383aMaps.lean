import Derived.Test.Qxb6002383aCopy
namespace Go.Proofs.Qxb6002383a
open Go.RowKit Go.Maps Go.WideMaps

theorem Reg.below {w w' : World} {p : Option Nat} {n B : Nat} {D : DataW Unit} (h : Reg w p n D) (hb : Below B w w') (hp : ∀ b, p = some b → b < B) : Reg w' p n D := by
  rcases h with h | ⟨b, rfl, es, clock, hh, F, hs, hD⟩
  · exact .inl h
  · exact .inr ⟨b, rfl, es, clock, (hb.block b (hp b rfl)).trans hh, F, hs, hD⟩

theorem Reg.lt {w : World} {p : Option Nat} {n : Nat} {D : DataW Unit} (h : Reg w p n D) : ∀ b, p = some b → b < w.heap.size := by
  rcases h with ⟨rfl, _⟩ | ⟨b, rfl, ho⟩
  · intro b hb; cases hb
  · intro b' hb; cases hb; exact ho.lt

theorem Reg.here {w w' : World} {p : Option Nat} {n : Nat} {D : DataW Unit} (h : Reg w p n D) (hb : Below w.heap.size w w') : Reg w' p n D := h.below hb h.lt

theorem Reg.size_le {w : World} {p : Option Nat} {n : Nat} {D : DataW Unit} (h : Reg w p n D) : Maps.size D ≤ n := by
  rcases h with ⟨_, rfl⟩ | ⟨b, _, es, clock, _, _, hs, rfl⟩
  · exact Nat.zero_le _
  · show (List.foldr DataW.insert [] _).length ≤ n
    rw [length_sorted]
    simpa using hs

set_option maxHeartbeats 4000000 in
set_option maxRecDepth 100000 in
/-- maps.Copy: two maps that are not nil, in two blocks. -/
theorem copy_some (bd bs nd ns : Nat) (Dd Ds : DataW Unit) (w : World) (hd : w.ownsMap Try.prog 9 (plainElem (H := Unit) Try.prog 4) bd nd Dd) (hs : w.ownsMap Try.prog 9 (plainElem (H := Unit) Try.prog 4) bs ns Ds) (hne : bd ≠ bs) (hroom : nd + Maps.size Ds ≤ maxLen) :
    Calls Try.prog 24 #[.map (some bd), .map (some bs)] w fun e w' => e = .returned (.tuple #[]) ∧ w'.ownsMap Try.prog 9 (plainElem (H := Unit) Try.prog 4) bd (nd + Maps.size Ds) (Lib.mergeD Dd Ds) ∧ w.grownBy w' (some bd) := by
  have hbd := hd.lt
  have hbs := hs.lt
  go_enter Try.func24, Try.ntmps24
  go_wp2_with (first
    | (at_range; refine wpList_range_own _ rfl _ 26 rfl 9 4 law Try.underlying26 (plainElem (H := Unit) Try.prog 4) bs ns _ rfl hs ?_; intro w0 hrg0 hg0 hs0)
    | go_in)
  go_frame
  go_loopw [8] (fun _ wr => ∃ (left : Lit → Bool) (cnt : Nat) (Dout : DataW Unit), wr.ranges Try.prog 9 (plainElem (H := Unit) Try.prog 4) bs w.heap.size ns Ds left cnt ∧ cnt ≤ Maps.size Ds ∧
      wr.ownsMap Try.prog 9 (plainElem (H := Unit) Try.prog 4) bd (nd + (Maps.size Ds - cnt)) Dout ∧ Merged Dout Dd Ds left ∧ w.grownBy wr (some bd))
    (fun _ wr => wr.rangeLeft bs w.heap.size)
  case atStart =>
    exact ⟨_, _, Dd, hrg0, Nat.le_refl _, (hd.kept hg0 (by simp)).mono (by omega), merged_start Dd Ds, hg0.but _⟩
  case round =>
    obtain ⟨left, cnt, Dout, hrg, hcs, hout, hM, hgw⟩ := hrel
    go_wp2_with (first
      | (at_next; refine wpList_next_ranges _ rfl _ rfl 9 law (plainElem (H := Unit) Try.prog 4) id id (fun key _ _ => ⟨key, rfl⟩) (fun v _ _ => ⟨v, rfl⟩) bs w.heap.size ns _ _ _ rfl hrg ?_ ?_)
      | go_in)
    · intro hc0 hl0
      go_wp2
      go_end0
      subst hc0
      have e := merged_eq law.one hM hl0 (hout.canon law) (hd.canonK law) (hs.canonK law)
      subst e
      exact ⟨rfl, by simpa using hout, hgw⟩
    · intro x c kl yd yp w1 cnt1 hkey hlx hv hat hrg1 hlt hg1 hs1 hen
      have hout1 := hout.kept hg1 (fun e => by have := Option.some.inj e; omega)
      go_wp2_with (first
        | (at_mapUpdate; refine wpList_mapUpdate_own _ rfl _ _ _ 26 rfl 9 4 law Try.underlying26 (plainElem (H := Unit) Try.prog 4) bd _ _ rfl hout1 (by omega) _ _ _ rfl rfl hkey yd yp hv ?_; intro w2 hout2 hg2; go_frame)
        | go_in)
      have hrg2 := hrg1.kept hg2 (fun e => hne (Option.some.inj e).symm) (fun e => by have := Option.some.inj e; omega)
      go_roundw
      case rel =>
        exact ⟨_, cnt1, _, hrg2, by omega, hout2.mono (by omega), merged_step hM hout.isMap (law.key hkey) hat, (hgw.andThen hg1 (fun j hj => .inl (by cases hj; exact Nat.le_refl _))).andThen hg2 (fun j hj => .inr hj)⟩
      case measure => rw [hrg2.left_eq, hrg.left_eq]; exact hlt

set_option maxHeartbeats 2000000 in
theorem copy_nil (pd : Option Nat) (w : World) :
    Calls Try.prog 24 #[.map pd, .map none] w fun e w' => e = .returned (.tuple #[]) ∧ w' = w.alloc (.mapIter none 0 #[] 0) := by
  have hrg := run_range_nilMap (P := Try.prog) w 26 _ _ Try.underlying26
  have hnx : ∀ ty, (Instr.next (.pointer (some ⟨w.heap.size, 0, none⟩)) false ty).run Try.prog (w.alloc (.mapIter none 0 #[] 0)) = _ := fun ty => run_next_nilMap _ ty 0 0 #[]
  go_enter Try.func24, Try.ntmps24
  go_wp2
  refine wp_loop_rounds 1 ?_
  rw [rounds_succ]
  go_wp2
  go_end0
  exact ⟨rfl, rfl⟩

theorem copy_any (bd nd ns : Nat) (ps : Option Nat) (Dd Ds : DataW Unit) (w : World) (hd : w.ownsMap Try.prog 9 (plainElem (H := Unit) Try.prog 4) bd nd Dd) (hs : Reg w ps ns Ds) (hne : ps ≠ some bd) (hroom : nd + Maps.size Ds ≤ maxLen) :
    Calls Try.prog 24 #[.map (some bd), .map ps] w fun e w' => e = .returned (.tuple #[]) ∧ w'.ownsMap Try.prog 9 (plainElem (H := Unit) Try.prog 4) bd (nd + Maps.size Ds) (Lib.mergeD Dd Ds) ∧ w.grownBy w' (some bd) := by
  rcases hs with ⟨rfl, rfl⟩ | ⟨bs, rfl, ho⟩
  · refine (copy_nil (some bd) w).mono fun e w' ⟨he, hw⟩ => ?_
    subst hw
    exact ⟨he, hd.alloc _, World.grownBy_alloc w _ _⟩
  · exact copy_some bd bs nd ns Dd Ds w hd ho (fun e => hne (by rw [e])) hroom
end Go.Proofs.Qxb6002383a
