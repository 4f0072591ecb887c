import Derived.Test.Qxb6600099aEarly
namespace Go.Proofs.Qxb6600099a
open Go.RowKit

theorem Inc.push {zs f' : Nat → Int} {n : Nat} {ind ind' : Int} (h : Inc zs n ind) (hf : ∀ i, i < n → f' i = zs i) (hn : f' n = ind) (hlt : ind < ind') : Inc f' (n + 1) ind' := by
  refine ⟨fun i hi => ?_, fun _ => ?_⟩
  · rcases Nat.lt_or_ge (i + 1) n with h1 | h1
    · rw [hf i (by omega), hf (i + 1) h1]; exact h.1 i h1
    · obtain rfl : i + 1 = n := by omega
      rw [hf i (by omega), hn]
      have := h.2 (by omega)
      simpa using this
  · show f' n < ind'
    rw [hn]; exact hlt
theorem Inc.same {zs f' : Nat → Int} {n : Nat} {ind : Int} (h : Inc zs n ind) (hf : ∀ i, i < n → f' i = zs i) : Inc f' n ind := by
  refine ⟨fun i hi => ?_, fun hp => ?_⟩
  · rw [hf i (by omega), hf (i + 1) hi]; exact h.1 i hi
  · rw [hf (n - 1) (by omega)]; exact h.2 hp

theorem owns_below {w w' : World} {B base : Nat} {e : TypeId} {size : Nat} {v : Value} {n : Nat} {xs : List Value} (h : w.ownsRow base e size v n xs) (hb : Below B w w') (hlt : ∀ k, v.ownBlock = some k → k < B) : w'.ownsRow base e size v n xs := by
  obtain ⟨h1, h2⟩ := h
  refine ⟨h1, ?_⟩
  rcases h2 with h2 | ⟨g, cap, cur, rfl, hg, hh, rest⟩
  · exact .inl h2
  · exact .inr ⟨g, cap, cur, rfl, hg, (hb.block g (hlt g rfl)).trans hh, rest⟩

set_option maxHeartbeats 8000000 in
set_option maxRecDepth 100000 in
theorem main_any (a0 : Option Addr) (l0 c0 : Nat) (z0 : Nat → Int) (at' : Nat) (line col flows ind : Int) (a6 : Option Addr) (l6 c6 : Nat) (z6 : Nat → Int) (ka kp : Bool) (kl kc : Int) (w : World)
    (h0 : IntRow .u8 w a0 l0 z0) (h6 : IntRow .i64 w a6 l6 z6)
    (b0 : l0 ≤ 1048576) (b6 : l6 ≤ 65536) (bs : l0 + 8 * l6 ≤ 1048576) (hat : at' < l0) (hc0 : 0 ≤ col) (hc1 : col ≤ 1073741824) (hk0 : -1073741824 ≤ kc) (hk1 : kc ≤ 1073741824) :
    Calls Try.prog 9 #[.slice a0 l0 c0, .int .i64 at', .int .i64 line, .int .i64 col, .int .i64 flows, .int .i64 ind, .slice a6 l6 c6, .bool ka, .bool kp, .int .i64 kl, .int .i64 kc] w (Fine w) := by
  have H23 := zzBytes_any a0 l0 c0 at' line col flows ind a6 l6 c6 ka kp kl kc w h0.len h6.len
  have H0 := hidden h0
  have H6 := hidden h6
  clear h0 h6
  go_enter Try.func9, Try.ntmps9
  go_wp2_with fail
  refine H23.mono ?_
  rintro e w' ⟨⟨b, rfl⟩, rfl⟩
  clear H23
  cases b
  · go_wp2_with fail
    go_ret
    exact ⟨rfl, Below.refl _ _⟩
  go_wp2_with fail
  refine (increasing_any a6 l6 c6 z6 ind _ H6.out.cells (by omega)).mono ?_
  rintro e w1 ⟨⟨b, rfl, hi⟩, q, rfl⟩
  have HI := hidden hi
  clear hi
  cases b
  · go_wp2_with fail
    go_ret
    exact ⟨rfl, below_more (Below.refl _ _)⟩
  have INC := hidden (HI.out.1 rfl)
  clear HI
  go_wp2_with fail
  have R0 : IntRow .u8 (w'.drewN q) a0 l0 z0 := ⟨H0.out.cells, H0.out.wf, H0.out.len⟩
  refine (cloneBytes_any a0 l0 c0 z0 _ R0 (by omega)).mono ?_
  rintro e w2 ⟨ao, c, rfl, own2, bel2⟩
  have OT2 := hidden own2
  have B2 : Hid (Below w'.heap.size w' w2) := (below_more (Below.refl _ w')).trans bel2
  clear own2 bel2 R0
  go_wp2_with fail
  have R6 : IntRow .i64 w2 a6 l6 z6 := ⟨fun h => by
    obtain ⟨b, off, e, hb, hc⟩ := H6.out.cells h
    exact ⟨b, off, e, Nat.lt_of_lt_of_le hb B2.out.size, fun i hi => (B2.out.cell (by exact hb)).trans (hc i hi)⟩, H6.out.wf, H6.out.len⟩
  refine (cloneInts_any a6 l6 c6 z6 _ R6 (by omega)).mono ?_
  rintro e w3 ⟨ai, ci, rfl, own3, bel3⟩
  have OI3 := hidden own3
  have BEL3 := hidden bel3
  clear own3 bel3 R6
  go_wp2_with fail
  refine (cloneInts_any ai l6 ci z6 _ (row_of_owns OI3.out H6.out.wf H6.out.len) (by omega)).mono ?_
  rintro e w4 ⟨ab, cb, rfl, own4, bel4⟩
  have OB4 := hidden own4
  have BEL4 := hidden bel4
  clear own4 bel4
  obtain ⟨tb, toff, rfl, htb, htc⟩ := cells_of_owns OT2.out (by omega)
  have hs3 := BEL3.out.size
  have hs4 := BEL4.out.size
  have hs2 := B2.out.size
  have ct4 : w4.cell? ⟨tb, toff + at', none⟩ = some (.int .u8 (z0 at')) := (BEL4.out.cell (by show tb < _; omega)).trans ((BEL3.out.cell (by exact htb)).trans (htc at' hat))
  have own4 := owns_below OI3.out BEL4.out (fun k hk => (OI3.out.lt k hk).2)
  have htr : (Value.slice ai l6 ci).ownBlock ≠ some tb := fun e => by have := (OI3.out.lt _ e).1; omega
  have ZV := hidden (zzvalue_any tb toff l0 c at' line col flows ind ai l6 ci ka kp kl kc (z0 at') w2.heap.size z6 w4 ct4 hat b0 hc0 hc1 own4 hk0 hk1 (by omega) (by omega) htr)
  have B4 : Hid (Below w'.heap.size w' w4) := (B2.out.trans (BEL3.out.mono hs2)).trans (BEL4.out.mono (by omega))
  have LI : Hid (∀ k, (Value.slice ai l6 ci).ownBlock = some k → w2.heap.size ≤ k ∧ k < w3.heap.size) := fun k hk => OI3.out.lt k hk
  clear htc ct4 own4 htr
  go_wp2_with fail
  refine ZV.out.mono ?_
  clear ZV
  rintro e w5 ⟨v1, v3, v11, k7, k8, st, ind', ao', n', c', f', rfl, own5, hd, g5⟩
  have OB5 : Hid (w5.ownsRow w3.heap.size 3 1 (.slice ab l6 cb) l6 (ints .i64 z6 l6)) := OB4.out.kept g5 (by
    cases hv : (Value.slice ab l6 cb).ownBlock with
    | none => exact .inl rfl
    | some k =>
      right
      intro e
      have h1 := (OB4.out.lt k hv).1
      have h2 := (LI.out k e.symm).2
      omega)
  have B5 : Hid (Below w'.heap.size w' w5) := B4.out.grown g5 B4.out.size (fun k hk => by have := (LI.out k hk).1; omega)
  have OI5 := hidden own5
  have HD := hidden hd
  have hs5 := g5.size
  clear own5 hd g5 BEL3 BEL4 OT2 OI3 OB4 LI B4 B2
  rcases HD.out with ⟨rfl, rfl, hf⟩ | ⟨rfl, rfl, hlt, hok, hf, hfn⟩
  · have INC2 := hidden (INC.out.same hf)
    have HF := hidden hf
    clear hf HD
    obtain ⟨W, hW⟩ : ∃ W, W = w5.alloc (.cells #[.int .i64 v1, .int .i64 v3, .int .i64 ind', .slice ao' (n') c', .bool k7, .bool k8, .bool st, .int .i64 v11] 40) := ⟨_, rfl⟩
    have CI := hidden (show 0 < n' → _ from cells_of_owns (by rw [hW]; exact OI5.out.alloc _ : W.ownsRow _ 3 1 (.slice ao' (n') c') (n') (ints .i64 f' (n'))))
    have CB := hidden (cells_of_owns (by rw [hW]; exact OB5.out.alloc _ : W.ownsRow _ 3 1 (.slice ab n' cb) n' (ints .i64 z6 n')))
    have BW : Hid (Below w'.heap.size w' W) := by rw [hW]; exact B5.out.alloc B5.out.size _
    have s2 : W.cell? ⟨w5.heap.size, 2, none⟩ = some (.int .i64 ind') := by rw [hW, World.cell?_alloc_at _ _ _ _ (by simp)]; rfl
    have s3 : W.cell? ⟨w5.heap.size, 3, none⟩ = some (.slice ao' (n') c') := by rw [hW, World.cell?_alloc_at _ _ _ _ (by simp)]; rfl
    have s6 : W.cell? ⟨w5.heap.size, 6, none⟩ = some (.bool st) := by rw [hW, World.cell?_alloc_at _ _ _ _ (by simp)]; rfl
    go_wp2_with fail
    rw [← hW]
    clear hW
    refine (increasing_any ao' (n') c' f' ind' _ CI.out (by omega)).mono ?_
    rintro e w7 ⟨⟨b, rfl, hb⟩, q7, rfl⟩
    obtain rfl : b = true := hb.2 INC2.out
    clear hb
    go_wp2_with fail
    go_loopw [26] (fun i wr => ∃ (k q : Nat), k ≤ n' ∧ i = .int .i64 k ∧ wr = W.drewN q) (fun i _ => n' - (intOf i).toNat)
    case atStart => exact ⟨0, q7, Nat.zero_le _, rfl, rfl⟩
    case round =>
    obtain ⟨k8', q8, hk8, rfl, rfl⟩ := hrel
    by_cases hlt8 : k8' < n'
    · obtain ⟨bi, oi, rfl, _, hci⟩ := CI.out (by omega)
      obtain ⟨bb, ob, rfl, _, hcb⟩ := CB.out (by omega)
      have ci' : W.cell? ⟨bi, oi + k8', none⟩ = some (.int .i64 (z6 k8')) := by rw [hci k8' (by omega), HF.out k8' (by omega)]
      have cb' := hcb k8' (by omega)
      have z1 : (k8' : Int) < (n' : Int) := by omega
      clear hci hcb
      go_wp2_with fail
      go_quiet (fail)
      go_wp2_with fail
      go_roundw
      case rel => exact ⟨k8' + 1, q8 + nq, by omega, by go_num, rfl⟩
      case measure => simp [intOf]; omega
    go_wp2_with fail
    go_ret
    exact ⟨rfl, below_more BW.out⟩
  · have INC2 := hidden (INC.out.push hf hfn hlt)
    have HF := hidden hf
    have HOK := hidden hok
    have HFN := hidden hfn
    clear hf HD hok hfn
    obtain ⟨W, hW⟩ : ∃ W, W = w5.alloc (.cells #[.int .i64 v1, .int .i64 v3, .int .i64 ind', .slice ao' (l6 + 1) c', .bool k7, .bool k8, .bool false, .int .i64 v11] 40) := ⟨_, rfl⟩
    have CI := hidden (show 0 < l6 + 1 → _ from cells_of_owns (by rw [hW]; exact OI5.out.alloc _ : W.ownsRow _ 3 1 (.slice ao' (l6 + 1) c') (l6 + 1) (ints .i64 f' (l6 + 1))))
    have CB := hidden (cells_of_owns (by rw [hW]; exact OB5.out.alloc _ : W.ownsRow _ 3 1 (.slice ab l6 cb) l6 (ints .i64 z6 l6)))
    have BW : Hid (Below w'.heap.size w' W) := by rw [hW]; exact B5.out.alloc B5.out.size _
    have s2 : W.cell? ⟨w5.heap.size, 2, none⟩ = some (.int .i64 ind') := by rw [hW, World.cell?_alloc_at _ _ _ _ (by simp)]; rfl
    have s3 : W.cell? ⟨w5.heap.size, 3, none⟩ = some (.slice ao' (l6 + 1) c') := by rw [hW, World.cell?_alloc_at _ _ _ _ (by simp)]; rfl
    have s6 : W.cell? ⟨w5.heap.size, 6, none⟩ = some (.bool false) := by rw [hW, World.cell?_alloc_at _ _ _ _ (by simp)]; rfl
    go_wp2_with fail
    rw [← hW]
    clear hW
    refine (increasing_any ao' (l6 + 1) c' f' ind' _ CI.out (by omega)).mono ?_
    rintro e w7 ⟨⟨b, rfl, hb⟩, q7, rfl⟩
    obtain rfl : b = true := hb.2 INC2.out
    clear hb
    go_wp2_with fail
    go_loopw [26] (fun i wr => ∃ (k q : Nat), k ≤ l6 ∧ i = .int .i64 k ∧ wr = W.drewN q) (fun i _ => l6 - (intOf i).toNat)
    case atStart => exact ⟨0, q7, Nat.zero_le _, rfl, rfl⟩
    case round =>
    obtain ⟨k8', q8, hk8, rfl, rfl⟩ := hrel
    by_cases hlt8 : k8' < l6
    · obtain ⟨bi, oi, rfl, _, hci⟩ := CI.out (by omega)
      obtain ⟨bb, ob, rfl, _, hcb⟩ := CB.out (by omega)
      have ci' : W.cell? ⟨bi, oi + k8', none⟩ = some (.int .i64 (z6 k8')) := by rw [hci k8' (by omega), HF.out k8' (by omega)]
      have cb' := hcb k8' (by omega)
      have z1 : (k8' : Int) < (l6 : Int) := by omega
      clear hci hcb
      go_wp2_with fail
      go_quiet (fail)
      go_wp2_with fail
      go_roundw
      case rel => exact ⟨k8' + 1, q8 + nq, by omega, by go_num, rfl⟩
      case measure => simp [intOf]; omega
    obtain ⟨bi, oi, rfl, _, hci⟩ := CI.out (by omega)
    have ci' : W.cell? ⟨bi, oi + l6, none⟩ = some (.int .i64 ind) := by rw [hci l6 (by omega), HFN.out]
    clear hci
    obtain ⟨hflow, hopen⟩ := HOK.out
    by_cases hcol : ind' = col
    · have hcol' : (ind' == col) = true := by simp [hcol]
      clear hcol hopen
      go_wp2_with fail
      go_ret
      exact ⟨rfl, below_more BW.out⟩
    · have hcol' : (ind' == col) = false := by simp [hcol]
      obtain ⟨rfl, hkl, hkc⟩ := hopen.resolve_left hcol
      have hkl' : (kl == line) = true := by simp [hkl]
      have hkc' : (ind' == kc) = true := by simp [hkc]
      clear hcol hopen hkl hkc
      go_wp2_with fail
      go_ret
      exact ⟨rfl, below_more BW.out⟩
end Go.Proofs.Qxb6600099a
