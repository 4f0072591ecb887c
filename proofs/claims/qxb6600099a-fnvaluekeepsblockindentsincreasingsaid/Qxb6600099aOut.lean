import Derived.Test.Qxb6600099aValue
namespace Go.Proofs.Qxb6600099a
open Go.RowKit

/-- Where a pushed collection may open. -/
def OpensAt (flows line col : Int) (kp : Bool) (kl kc : Int) (x : Int) : Prop := ¬ 0 < flows ∧ (x = col ∨ (kp = true ∧ kl = line ∧ x = kc))

theorem value_any {w : World} {b tb toff ln cp at' : Nat} {line col flows ind : Int} {ao : Option Addr} {n c : Nat} {ka kp : Bool} {kl kc pl ch : Int} (base : Nat) (f : Nat → Int)
    (h : Scn w b tb toff ln cp at' line col flows ind ao n c ka kp kl kc pl ch) (hown : w.ownsRow base 3 1 (.slice ao n c) n (ints .i64 f n)) (hb : (Value.slice ao n c).ownBlock ≠ some b)
    (hkc0 : -1073741824 ≤ kc) (hkc1 : kc ≤ 1073741824) (hn : n ≤ 1048576) (hbase : base ≤ w.heap.size) (htr : (Value.slice ao n c).ownBlock ≠ some tb) :
    Calls Try.prog 31 #[.pointer (some ⟨b, 0, none⟩)] w fun e w' => e = .returned (.tuple #[]) ∧ ValPost w b base n c ao f ind (OpensAt flows line col kp kl kc) w' := by
  by_cases hfl : 0 < flows
  · exact value_flow base f _ h hown hb hfl
  by_cases hk : kp = true ∧ kl = line ∧ col ≤ kc + 1024
  · by_cases hlt : ind < kc
    · exact value_key_push base f _ h hown hb hfl hkc0 hkc1 hn hbase htr hk hlt ⟨hfl, .inr ⟨hk.1, hk.2.1, rfl⟩⟩
    · exact value_key_not base f _ h hown hb hfl hkc0 hkc1 hk hlt
  cases hka : ka
  · exact value_stop base f _ h hown hb hfl hkc0 hkc1 hka hk
  · by_cases hlt : ind < col
    · exact value_col_push base f _ h hown hb hfl hkc0 hkc1 hn hbase htr hka hk hlt ⟨hfl, .inl rfl⟩
    · exact value_col_not base f _ h hown hb hfl hkc0 hkc1 hka hk hlt

theorem grown_drew {w w' : World} {row : Option Nat} (h : w.grownBy w' row) : w.grownBy w'.drew row := ⟨h.os, h.tape, h.output, h.size, h.block⟩

theorem grown8 (w : World) (B : Nat) (x0 x1 x2 x3 x4 x5 x6 x7 : Value) :
    w.grownBy ((((((((w.setCell ⟨B, 0, none⟩ x0).setCell ⟨B, 1, none⟩ x1).setCell ⟨B, 2, none⟩ x2).setCell ⟨B, 3, none⟩ x3).setCell ⟨B, 4, none⟩ x4).setCell ⟨B, 5, none⟩ x5).setCell ⟨B, 6, none⟩ x6).setCell ⟨B, 7, none⟩ x7).drew (some B) :=
  grown_drew ((((((((grown_setCell w B 0 x0).trans (grown_setCell _ B 1 x1)).trans (grown_setCell _ B 2 x2)).trans (grown_setCell _ B 3 x3)).trans (grown_setCell _ B 4 x4)).trans (grown_setCell _ B 5 x5)).trans (grown_setCell _ B 6 x6)).trans (grown_setCell _ B 7 x7))

theorem grown_end {w W wm w6 WF : World} {B : Nat} {row : Option Nat} (hB : w.heap.size = B) (hsz : W.heap.size = B + 1 + 1) (gW : w.grownBy W row) (g1 : W.grownBy wm row) (g2 : wm.grownBy w6 (some (B + 1))) (gF : w6.grownBy WF (some B)) : w.grownBy WF row := by
  have hs1 := gW.size
  have hs2 := g1.size
  have hs3 := g2.size
  have hs4 := gF.size
  refine ⟨gF.os.trans (g2.os.trans (g1.os.trans gW.os)), gF.tape.trans (g2.tape.trans (g1.tape.trans gW.tape)), gF.output.trans (g2.output.trans (g1.output.trans gW.output)), by omega, fun k hk hr => ?_⟩
  rw [gF.block k (by omega) (fun e => by have := Option.some.inj e; omega), g2.block k (by omega) (fun e => by have := Option.some.inj e; omega), g1.block k (by omega) hr, gW.block k hk hr]

set_option maxHeartbeats 4000000 in
theorem zzvalue_any (tb toff ln cp at' : Nat) (line col flows ind : Int) (ao : Option Addr) (n c : Nat) (ka kp : Bool) (kl kc ch : Int) (base : Nat) (f : Nat → Int) (w : World)
    (ct : w.cell? ⟨tb, toff + at', none⟩ = some (.int .u8 ch)) (h1 : at' < ln) (h2 : ln ≤ 1048576) (h3 : 0 ≤ col) (h4 : col ≤ 1073741824)
    (hown : w.ownsRow base 3 1 (.slice ao n c) n (ints .i64 f n))
    (hkc0 : -1073741824 ≤ kc) (hkc1 : kc ≤ 1073741824) (hn : n ≤ 1048576) (hbase : base ≤ w.heap.size) (htr : (Value.slice ao n c).ownBlock ≠ some tb) :
    Calls Try.prog 26 #[.slice (some ⟨tb, toff, none⟩) ln cp, .int .i64 at', .int .i64 line, .int .i64 col, .int .i64 flows, .int .i64 ind, .slice ao n c, .bool ka, .bool kp, .int .i64 kl, .int .i64 kc, .int .i64 0] w
      fun e w' => ∃ (v1 v3 v11 : Int) (k7 k8 st : Bool) (ind' : Int) (ao' : Option Addr) (n' c' : Nat) (f' : Nat → Int),
        e = .returned (.agg #[.int .i64 v1, .int .i64 v3, .int .i64 ind', .slice ao' n' c', .bool k7, .bool k8, .bool st, .int .i64 v11]) ∧
        w'.ownsRow base 3 1 (.slice ao' n' c') n' (ints .i64 f' n') ∧
        ((n' = n ∧ ind' = ind ∧ ∀ i, i < n → f' i = f i) ∨ (n' = n + 1 ∧ st = false ∧ ind < ind' ∧ OpensAt flows line col kp kl kc ind' ∧ (∀ i, i < n → f' i = f i) ∧ f' n = ind)) ∧
        w.grownBy w' (Value.slice ao n c).ownBlock := by
  have hlt := World.block_lt_of_cell? _ _ ct
  have hrow : ∀ k, (Value.slice ao n c).ownBlock = some k → k < w.heap.size := fun k hk => (hown.lt k hk).2
  have OWN := hidden hown
  have HR := hidden hrow
  have HT := hidden htr
  clear hown hrow htr
  go_enter Try.func26, Try.ntmps26
  go_wp2_with fail
  obtain ⟨W, hW⟩ : ∃ W, W = (w.alloc (.cells #[.int .i64 0, .int .i64 0, .int .i64 0, .slice none 0 0, .bool false, .bool false, .bool false, .int .i64 0] 40)).alloc (.cells #[.slice (some ⟨tb, toff, none⟩) ln cp, .int .i64 at', .int .i64 line, .int .i64 col, .int .i64 flows, .int .i64 ind, .slice ao n c, .bool ka, .bool kp, .int .i64 kl, .int .i64 kc, .int .i64 0, .bool false, .bool false] 46) := ⟨_, rfl⟩
  have scn : Scn W (w.heap.size + 1) tb toff ln cp at' line col flows ind ao n c ka kp kl kc 0 ch := by
    have at_ : ∀ j, W.cell? ⟨w.heap.size + 1, j, none⟩ = (#[.slice (some ⟨tb, toff, none⟩) ln cp, .int .i64 at', .int .i64 line, .int .i64 col, .int .i64 flows, .int .i64 ind, .slice ao n c, .bool ka, .bool kp, .int .i64 kl, .int .i64 kc, .int .i64 0, .bool false, .bool false] : Array Value)[j]? := fun j => by
      rw [hW, World.cell?_alloc_at _ _ _ _ (by simp)]
    refine ⟨at_ 0, at_ 1, at_ 2, at_ 3, at_ 4, at_ 5, at_ 6, at_ 7, at_ 8, at_ 9, at_ 10, at_ 11, at_ 13, fun j => ?_, ?_, by omega, h1, h2, h3, h4⟩
    · rw [hW]; go_simp
    · rw [hW, World.cell?_alloc_past _ _ _ (by simp; omega), World.cell?_alloc_past _ _ _ hlt]; exact ct
  have ownW : W.ownsRow base 3 1 (.slice ao n c) n (ints .i64 f n) := by rw [hW]; exact (OWN.out.alloc _).alloc _
  have hsz : W.heap.size = w.heap.size + 1 + 1 := by rw [hW]; simp
  have gW : w.grownBy W (Value.slice ao n c).ownBlock := by rw [hW]; exact (World.grownBy_alloc w _ _).trans (World.grownBy_alloc _ _ _)
  have rW : ∀ j, W.cell? ⟨w.heap.size, j, none⟩ = (#[.int .i64 0, .int .i64 0, .int .i64 0, .slice none 0 0, .bool false, .bool false, .bool false, .int .i64 0] : Array Value)[j]? := fun j => by
    rw [hW, World.cell?_alloc_past _ _ _ (by simp), World.cell?_alloc_at _ _ _ _ (by simp)]
  have fW : ∀ j, W.frozen? ⟨w.heap.size, j, none⟩ = false := fun j => by rw [hW]; go_simp
  rw [← hW]
  clear hW
  refine (value_any base f scn ownW (fun e => by have := HR.out _ e; omega) hkc0 hkc1 hn (by omega) HT.out).mono ?_
  rintro e w6 ⟨rfl, v1, v3, v11, k7, k8, st, ind', ao', n', c', f', wm, ⟨e1, e3, e5, e6, e7, e8, e11, e13⟩, own6, hd, g1, g2, lies6⟩
  have key : ∀ k, k < W.heap.size → k ≠ w.heap.size + 1 → some k ≠ (Value.slice ao n c).ownBlock → w6.heap[k]? = W.heap[k]? := fun k hk hb hr => (g2.block k (Nat.lt_of_lt_of_le hk g1.size) (fun e => hb (Option.some.inj e))).trans (g1.block k hk hr)
  have kB : w6.heap[w.heap.size]? = W.heap[w.heap.size]? := key _ (by omega) (by omega) (fun e => by have := HR.out _ e.symm; omega)
  have r6 : ∀ j, w6.cell? ⟨w.heap.size, j, none⟩ = (#[.int .i64 0, .int .i64 0, .int .i64 0, .slice none 0 0, .bool false, .bool false, .bool false, .int .i64 0] : Array Value)[j]? := fun j => (World.cell?_of_block (a := ⟨w.heap.size, j, none⟩) kB).trans (rW j)
  have fz6 : ∀ j, w6.frozen? ⟨w.heap.size, j, none⟩ = false := fun j => (World.frozen?_of_block (a := ⟨w.heap.size, j, none⟩) kB).trans (fW j)
  have r0 := r6 0; have r1 := r6 1; have r2 := r6 2; have r3 := r6 3; have r4 := r6 4; have r5 := r6 5; have r7 := r6 6; have r8 := r6 7
  have NB : Hid ((Value.slice ao' n' c').ownBlock ≠ some w.heap.size) := fun e => by
    rcases lies6 _ e with h | h
    · have := HR.out _ h; omega
    · omega
  have OWN6 := hidden own6
  have HD := hidden hd
  have GG1 := hidden g1
  have GG2 := hidden g2
  have GW := hidden gW
  clear key kB r6 rW fW own6 hd g1 g2 scn ownW gW ct lies6
  simp only [List.getElem?_toArray, List.getElem?_cons_zero, List.getElem?_cons_succ] at r0 r1 r2 r3 r4 r5 r7 r8
  generalize hB : w.heap.size = B at *
  go_wp2_with fail
  go_region_held3 (fun x => x.cell? ⟨B + 1, 1, none⟩ = some (.int .i64 v1) ∧ x.cell? ⟨B + 1, 3, none⟩ = some (.int .i64 v3) ∧ x.cell? ⟨B + 1, 5, none⟩ = some (.int .i64 ind') ∧ x.cell? ⟨B + 1, 6, none⟩ = some (.slice ao' n' c') ∧ x.cell? ⟨B + 1, 7, none⟩ = some (.bool k7) ∧ x.cell? ⟨B + 1, 8, none⟩ = some (.bool k8) ∧ x.cell? ⟨B + 1, 11, none⟩ = some (.int .i64 v11) ∧ x.cell? ⟨B + 1, 13, none⟩ = some (.bool st)) (go_keep) (fail)
  go_wp2_with fail
  have gF := grown8 w6 B (.int .i64 v1) (.int .i64 v3) (.int .i64 ind') (.slice ao' n' c') (.bool k7) (.bool k8) (.bool st) (.int .i64 v11)
  have fin := hidden (And.intro (OWN6.out.kept gF (.inr NB.out)) (And.intro HD.out (grown_end hB hsz GW.out GG1.out GG2.out gF)))
  clear gF
  refine bodyPost_ret (v := .agg #[.int .i64 v1, .int .i64 v3, .int .i64 ind', .slice ao' n' c', .bool k7, .bool k8, .bool st, .int .i64 v11]) (by simp [results, Try.results26, go_sem, r0, r1, r2, r3, r4, r5, r7, r8]) rfl ?_
  exact ⟨v1, v3, v11, k7, k8, st, ind', ao', n', c', f', rfl, fin.out⟩
end Go.Proofs.Qxb6600099a
