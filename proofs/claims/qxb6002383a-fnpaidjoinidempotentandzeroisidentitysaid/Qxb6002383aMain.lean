import Derived.Test.Qxb6002383aAgree
namespace Go.Proofs.Qxb6002383a
open Go.RowKit Go.Maps Go.WideMaps

theorem below_undrew {B : Nat} {w w' : World} (h : Below B w.drew w') : Below B w w' := ⟨h.os, h.tape, h.output, h.size, h.block⟩

/-- What the walk says at the end. -/
def Fine (w : World) (e : Ending) (w' : World) : Prop := e = .returned (.bool true) ∧ Below w.heap.size w w'

set_option maxHeartbeats 4000000 in
set_option maxRecDepth 100000 in
theorem main_any (a0 : Option Addr) (l0 c0 : Nat) (ks : Nat → ByteArray) (s : ByteArray) (w : World)
    (h0 : StrRow w a0 l0 ks) (hs : s.size ≤ 9223372036854775807) :
    Calls Try.prog 5 #[.slice a0 l0 c0, .string s] w (Fine w) := by
  have H5 := zzBytes_any a0 l0 c0 ks s w h0 hs
  have H10 := paidBytes_any a0 l0 c0 ks w h0
  have HS : Hid (s.size ≤ maxLen) := by show s.size ≤ maxLen; unfold maxLen; omega
  have H0 := hidden h0
  have hl0 := h0.len
  clear h0
  by_cases hsz : 1048576 < s.size
  · go_enter Try.func5, Try.ntmps5
    go_wp2_with (go_at_call 16; refine H5.mono ?_; rintro e w' ⟨⟨b, rfl⟩, rfl⟩; cases b)
    all_goals
      go_ret
      exact ⟨rfl, Below.refl _ _⟩
  go_enter Try.func5, Try.ntmps5
  go_wp2_with fail
  refine H5.mono ?_
  rintro e w' ⟨⟨b, rfl⟩, rfl⟩
  cases b
  · go_wp2_with fail
    go_ret
    exact ⟨rfl, Below.refl _ _⟩
  go_wp2_with fail
  refine H10.mono ?_
  rintro e w' ⟨⟨n, rfl, hn0, hn1, hn2⟩, rfl⟩
  have HN := hidden hn2
  clear hn2 H5 H10
  by_cases hsum : 1048576 < n + s.size
  · go_wp2_with fail
    go_ret
    exact ⟨rfl, Below.refl _ _⟩
  have hl : l0 ≤ 1024 := HN.out (by omega)
  clear HN
  go_wp2_with fail
  refine (paidCopy_any a0 l0 c0 ks _ H0.out hl).mono ?_
  rintro e w1 ⟨ao, c, f, rfl, row1, bel1⟩
  have R1 := hidden row1
  have B1 := hidden bel1
  clear row1 bel1
  go_wp2_with fail
  refine (newPaid_any ao l0 c f _ R1.out hl).mono ?_
  rintro e w2 ⟨p, D, rfl, reg2, bel2⟩
  have R2 := hidden reg2
  have B2 := hidden (B1.out.trans (bel2.mono B1.out.size))
  clear reg2 bel2
  go_wp2_with fail
  obtain ⟨W, hW⟩ : ∃ W, W = (w2.alloc (.cells #[.map p] 28)).alloc (.cells #[.map none] 28) := ⟨_, rfl⟩
  have cp : W.cell? ⟨w2.heap.size, 0, none⟩ = some (.map p) := by rw [hW, World.cell?_alloc_past _ _ _ (by simp), World.cell?_alloc_at _ _ _ _ (by simp)]; rfl
  have cz : W.cell? ⟨w2.heap.size + 1, 0, none⟩ = some (.map none) := by rw [hW, World.cell?_alloc_at _ _ _ _ (by simp)]; rfl
  have BW : Hid (Below w'.heap.size w' W) := by rw [hW]; exact (B2.out.alloc B2.out.size _).alloc (by have := B2.out.size; simp; omega) _
  have RW : Hid (Reg W p l0 D) := by rw [hW]; exact (R2.out.alloc _).alloc _
  rw [← hW]
  clear hW
  generalize w2.heap.size = bp at *
  go_region_held3 (fun x => x.cell? ⟨bp, 0, none⟩ = some (.map p) ∧ x.cell? ⟨bp + 1, 0, none⟩ = some (.map none)) (go_keep)
    (first
      | (go_at_call 14; refine (join_any p p l0 l0 D D _ ?_ ?_ (by omega) (by omega)).mono ?_; (exact RW.out); (exact RW.out); rintro e wja ⟨bja, rfl, rja, belja⟩; have Bja := hidden (below_undrew belja); have Rja := hidden rja; have RPja := hidden (RW.out.here Bja.out); have cpja : wja.cell? ⟨bp, 0, none⟩ = some (.map p) := (Bja.out.cell (World.block_lt_of_cell? _ _ cp)).trans cp; have czja : wja.cell? ⟨bp + 1, 0, none⟩ = some (.map none) := (Bja.out.cell (World.block_lt_of_cell? _ _ cz)).trans cz; clear rja belja)
      | (go_at_call 13; refine (agree_any (some bja) p _ l0 _ D s _ Rja.out RPja.out HS.out RW.out.self_join).mono ?_; rintro e wka ⟨rfl, belka⟩; have Bka := hidden belka; have Rka := hidden (RPja.out.here Bka.out); have cpka : wka.cell? ⟨bp, 0, none⟩ = some (.map p) := (Bka.out.cell (World.block_lt_of_cell? _ _ cpja)).trans cpja; have czka : wka.cell? ⟨bp + 1, 0, none⟩ = some (.map none) := (Bka.out.cell (World.block_lt_of_cell? _ _ czja)).trans czja; clear belka))
  go_wp2_with fail
  have BWka : Hid (Below w'.heap.size w' wka) := (BW.out.trans (Bja.out.mono BW.out.size)).trans (Bka.out.mono (Nat.le_trans BW.out.size Bja.out.size))
  clear cp cz cpja czja Rja RPja Bja Bka RW BW
  go_region_held3 (fun x => x.cell? ⟨bp, 0, none⟩ = some (.map p) ∧ x.cell? ⟨bp + 1, 0, none⟩ = some (.map none)) (go_keep)
    (first
      | (go_at_call 14; refine (join_any p none l0 0 D .nil _ ?_ ?_ (by omega) (by omega)).mono ?_; (exact Rka.out); (exact (.inl ⟨rfl, rfl⟩)); rintro e wjb ⟨bjb, rfl, rjb, beljb⟩; have Bjb := hidden (below_undrew beljb); have Rjb := hidden rjb; have RPjb := hidden (Rka.out.here Bjb.out); have cpjb : wjb.cell? ⟨bp, 0, none⟩ = some (.map p) := (Bjb.out.cell (World.block_lt_of_cell? _ _ cpka)).trans cpka; have czjb : wjb.cell? ⟨bp + 1, 0, none⟩ = some (.map none) := (Bjb.out.cell (World.block_lt_of_cell? _ _ czka)).trans czka; clear rjb beljb)
      | (go_at_call 13; refine (agree_any (some bjb) p _ l0 _ D s _ Rjb.out RPjb.out HS.out Rka.out.zero_join).mono ?_; rintro e wkb ⟨rfl, belkb⟩; have Bkb := hidden belkb; have Rkb := hidden (RPjb.out.here Bkb.out); have cpkb : wkb.cell? ⟨bp, 0, none⟩ = some (.map p) := (Bkb.out.cell (World.block_lt_of_cell? _ _ cpjb)).trans cpjb; have czkb : wkb.cell? ⟨bp + 1, 0, none⟩ = some (.map none) := (Bkb.out.cell (World.block_lt_of_cell? _ _ czjb)).trans czjb; clear belkb))
  go_wp2_with fail
  have BWkb : Hid (Below w'.heap.size w' wkb) := (BWka.out.trans (Bjb.out.mono BWka.out.size)).trans (Bkb.out.mono (Nat.le_trans BWka.out.size Bjb.out.size))
  clear cpka czka cpjb czjb Rjb RPjb Bjb Bkb Rka BWka
  go_region_held3 (fun x => x.cell? ⟨bp, 0, none⟩ = some (.map p) ∧ x.cell? ⟨bp + 1, 0, none⟩ = some (.map none)) (go_keep)
    (first
      | (go_at_call 14; refine (join_any none p 0 l0 .nil D _ ?_ ?_ (by omega) (by omega)).mono ?_; (exact (.inl ⟨rfl, rfl⟩)); (exact Rkb.out); rintro e wjc ⟨bjc, rfl, rjc, beljc⟩; have Bjc := hidden (below_undrew beljc); have Rjc := hidden rjc; have RPjc := hidden (Rkb.out.here Bjc.out); have cpjc : wjc.cell? ⟨bp, 0, none⟩ = some (.map p) := (Bjc.out.cell (World.block_lt_of_cell? _ _ cpkb)).trans cpkb; have czjc : wjc.cell? ⟨bp + 1, 0, none⟩ = some (.map none) := (Bjc.out.cell (World.block_lt_of_cell? _ _ czkb)).trans czkb; clear rjc beljc)
      | (go_at_call 13; refine (agree_any (some bjc) p _ l0 _ D s _ Rjc.out RPjc.out HS.out Rkb.out.join_zero).mono ?_; rintro e wkc ⟨rfl, belkc⟩; have Bkc := hidden belkc; have Rkc := hidden (RPjc.out.here Bkc.out); have cpkc : wkc.cell? ⟨bp, 0, none⟩ = some (.map p) := (Bkc.out.cell (World.block_lt_of_cell? _ _ cpjc)).trans cpjc; have czkc : wkc.cell? ⟨bp + 1, 0, none⟩ = some (.map none) := (Bkc.out.cell (World.block_lt_of_cell? _ _ czjc)).trans czjc; clear belkc))
  go_wp2_with fail
  have BWkc : Hid (Below w'.heap.size w' wkc) := (BWkb.out.trans (Bjc.out.mono BWkb.out.size)).trans (Bkc.out.mono (Nat.le_trans BWkb.out.size Bjc.out.size))
  clear cpkb czkb cpjc czjc Rjc RPjc Bjc Bkc Rkb BWkb
  refine (join_any none none 0 0 .nil .nil _ (.inl ⟨rfl, rfl⟩) (.inl ⟨rfl, rfl⟩) (by omega) (by omega)).mono ?_
  rintro e wn ⟨bn, rfl, rn, beln⟩
  have RN : Hid (∀ o, Reg (wn.alloc o) (some bn) (0 + 0) (.map [])) := fun o => rn.alloc o
  have RN2 : Hid (∀ o o', Reg ((wn.alloc o).alloc o') (some bn) (0 + 0) (.map [])) := fun o o' => (rn.alloc o).alloc o'
  have BN : Hid (Below w'.heap.size w' wn) := BWkc.out.trans (beln.mono BWkc.out.size)
  clear rn beln cpkc czkc Rkc BWkc
  go_wp2_with fail
  refine (len_any (some bn) (0 + 0) (.map []) _ (RN.out _)).mono ?_
  rintro e w' ⟨rfl, rfl⟩
  go_wp2_with fail
  refine (has_any (some bn) (0 + 0) (.map []) s _ (RN2.out _ _) HS.out).mono ?_
  rintro e w' ⟨rfl, rfl⟩
  go_wp2_with fail
  go_ret
  have hsn := BN.out.size
  exact ⟨rfl, ((BN.out.alloc (by omega) _).alloc (by simp; omega) _).alloc (by simp; omega) _⟩
end Go.Proofs.Qxb6002383a
