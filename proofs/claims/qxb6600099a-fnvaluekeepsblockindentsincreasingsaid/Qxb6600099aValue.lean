import Derived.Test.Qxb6600099aScan
namespace Go.Proofs.Qxb6600099a
open Go.RowKit

/-- The scanner in block b, field by field; the character that it stands at. -/
structure Scn (w : World) (b tb toff ln cp at' : Nat) (line col flows ind : Int) (ao : Option Addr) (n c : Nat) (ka kp : Bool) (kl kc pl ch : Int) : Prop where
  c0 : w.cell? ⟨b, 0, none⟩ = some (.slice (some ⟨tb, toff, none⟩) ln cp)
  c1 : w.cell? ⟨b, 1, none⟩ = some (.int .i64 at')
  c2 : w.cell? ⟨b, 2, none⟩ = some (.int .i64 line)
  c3 : w.cell? ⟨b, 3, none⟩ = some (.int .i64 col)
  c4 : w.cell? ⟨b, 4, none⟩ = some (.int .i64 flows)
  c5 : w.cell? ⟨b, 5, none⟩ = some (.int .i64 ind)
  c6 : w.cell? ⟨b, 6, none⟩ = some (.slice ao n c)
  c7 : w.cell? ⟨b, 7, none⟩ = some (.bool ka)
  c8 : w.cell? ⟨b, 8, none⟩ = some (.bool kp)
  c9 : w.cell? ⟨b, 9, none⟩ = some (.int .i64 kl)
  c10 : w.cell? ⟨b, 10, none⟩ = some (.int .i64 kc)
  c11 : w.cell? ⟨b, 11, none⟩ = some (.int .i64 pl)
  c13 : w.cell? ⟨b, 13, none⟩ = some (.bool false)
  fz : ∀ j, w.frozen? ⟨b, j, none⟩ = false
  ct : w.cell? ⟨tb, toff + at', none⟩ = some (.int .u8 ch)
  tne : tb ≠ b
  at_lt : at' < ln
  ln_le : ln ≤ 1048576
  col0 : 0 ≤ col
  col1 : col ≤ 1073741824

/-- What value leaves: the fields that are handed on; the stack as it was, or with one indent pushed. -/
def ValPost (w : World) (b base n c : Nat) (ao : Option Addr) (f : Nat → Int) (ind : Int) (ok : Int → Prop) (w' : World) : Prop :=
  ∃ (v1 v3 v11 : Int) (k7 k8 st : Bool) (ind' : Int) (ao' : Option Addr) (n' c' : Nat) (f' : Nat → Int) (wm : World),
    (w'.cell? ⟨b, 1, none⟩ = some (.int .i64 v1) ∧ w'.cell? ⟨b, 3, none⟩ = some (.int .i64 v3) ∧ w'.cell? ⟨b, 5, none⟩ = some (.int .i64 ind') ∧ w'.cell? ⟨b, 6, none⟩ = some (.slice ao' n' c') ∧
      w'.cell? ⟨b, 7, none⟩ = some (.bool k7) ∧ w'.cell? ⟨b, 8, none⟩ = some (.bool k8) ∧ w'.cell? ⟨b, 11, none⟩ = some (.int .i64 v11) ∧ w'.cell? ⟨b, 13, none⟩ = some (.bool st)) ∧
    w'.ownsRow base 3 1 (.slice ao' n' c') n' (ints .i64 f' n') ∧
    ((n' = n ∧ ind' = ind ∧ ∀ i, i < n → f' i = f i) ∨ (n' = n + 1 ∧ st = false ∧ ind < ind' ∧ ok ind' ∧ (∀ i, i < n → f' i = f i) ∧ f' n = ind)) ∧
    w.grownBy wm (Value.slice ao n c).ownBlock ∧ wm.grownBy w' (some b) ∧ ∀ k, (Value.slice ao' n' c').ownBlock = some k → (Value.slice ao n c).ownBlock = some k ∨ w.heap.size ≤ k

theorem grown_setCell (w : World) (b j : Nat) (v : Value) : w.grownBy (w.setCell ⟨b, j, none⟩ v) (some b) :=
  ⟨rfl, rfl, rfl, by simp [World.setCell], fun k _ hne => Below.heap_setCell _ _ _ _ (fun e => hne (by rw [e]))⟩
theorem grown_drewN (w : World) (q : Nat) (row : Option Nat) : w.grownBy (w.drewN q) row := ⟨rfl, rfl, rfl, Nat.le_refl _, fun _ _ _ => rfl⟩

theorem ValPost.same {w w' : World} {b base n c : Nat} {ao : Option Addr} {f : Nat → Int} {ind : Int} {ok : Int → Prop} {v1 v3 v11 : Int} {k7 k8 st : Bool}
    (hown : w.ownsRow base 3 1 (.slice ao n c) n (ints .i64 f n)) (hb : (Value.slice ao n c).ownBlock ≠ some b) (g : w.grownBy w' (some b))
    (e1 : w'.cell? ⟨b, 1, none⟩ = some (.int .i64 v1)) (e3 : w'.cell? ⟨b, 3, none⟩ = some (.int .i64 v3)) (e5 : w'.cell? ⟨b, 5, none⟩ = some (.int .i64 ind)) (e6 : w'.cell? ⟨b, 6, none⟩ = some (.slice ao n c))
    (e7 : w'.cell? ⟨b, 7, none⟩ = some (.bool k7)) (e8 : w'.cell? ⟨b, 8, none⟩ = some (.bool k8)) (e11 : w'.cell? ⟨b, 11, none⟩ = some (.int .i64 v11)) (e13 : w'.cell? ⟨b, 13, none⟩ = some (.bool st)) : ValPost w b base n c ao f ind ok w' :=
  ⟨v1, v3, v11, k7, k8, st, ind, ao, n, c, f, w, ⟨e1, e3, e5, e6, e7, e8, e11, e13⟩, hown.kept g (.inr hb), .inl ⟨rfl, rfl, fun _ _ => rfl⟩, World.grownBy.refl _ _, g, fun _ h => .inl h⟩

theorem ValPost.push {w w1 w' : World} {b base n c g cap : Nat} {ao : Option Addr} {f : Nat → Int} {ind ind' : Int} {ok : Int → Prop} {v1 v3 v11 : Int} {k7 k8 : Bool}
    (hP : Pushed w w1 b base n g cap (.slice ao n c) f ind) (gr : w1.grownBy w' (some b)) (hlt : ind < ind') (hok : ok ind')
    (e1 : w'.cell? ⟨b, 1, none⟩ = some (.int .i64 v1)) (e3 : w'.cell? ⟨b, 3, none⟩ = some (.int .i64 v3)) (e5 : w'.cell? ⟨b, 5, none⟩ = some (.int .i64 ind')) (e6 : w'.cell? ⟨b, 6, none⟩ = some (.slice (some ⟨g, 0, none⟩) (n + 1) cap))
    (e7 : w'.cell? ⟨b, 7, none⟩ = some (.bool k7)) (e8 : w'.cell? ⟨b, 8, none⟩ = some (.bool k8)) (e11 : w'.cell? ⟨b, 11, none⟩ = some (.int .i64 v11)) (e13 : w'.cell? ⟨b, 13, none⟩ = some (.bool false)) : ValPost w b base n c ao f ind ok w' := by
  have ho := hP.own.kept gr (.inr (by simp [Value.ownBlock]; exact hP.ne))
  rw [ints_snoc] at ho
  exact ⟨v1, v3, v11, k7, k8, false, ind', _, n + 1, cap, _, w1, ⟨e1, e3, e5, e6, e7, e8, e11, e13⟩, ho, .inr ⟨rfl, rfl, hlt, hok, fun i hi => if_neg (by omega), if_pos rfl⟩, hP.grown, gr, fun k hk => by
    have e : g = k := by simpa [Value.ownBlock] using hk
    rw [← e]; exact hP.lies⟩

set_option maxHeartbeats 2000000 in
theorem value_flow {w : World} {b tb toff ln cp at' : Nat} {line col flows ind : Int} {ao : Option Addr} {n c : Nat} {ka kp : Bool} {kl kc pl ch : Int} (base : Nat) (f : Nat → Int) (ok : Int → Prop)
    (h : Scn w b tb toff ln cp at' line col flows ind ao n c ka kp kl kc pl ch) (hown : w.ownsRow base 3 1 (.slice ao n c) n (ints .i64 f n)) (hb : (Value.slice ao n c).ownBlock ≠ some b) (hfl : 0 < flows) :
    Calls Try.prog 31 #[.pointer (some ⟨b, 0, none⟩)] w fun e w' => e = .returned (.tuple #[]) ∧ ValPost w b base n c ao f ind ok w' := by
  obtain ⟨c0, c1, c2, c3, c4, c5, c6, c7, c8, c9, c10, c11, c13, fz, ct, tne, h1, h2, h3, h4⟩ := h
  have tne' := Ne.symm tne
  have OWN := hidden hown
  have HB := hidden hb
  clear hown hb
  go_enter Try.func31, Try.ntmps31
  go_wp2_with fail
  refine (advance_any b tb toff ln cp at' col ch _ h1 h2 h3 h4 (by go_simp) (by go_simp) (by go_simp) (by go_simp) (by go_simp) (by go_simp)).mono ?_
  rintro e w' ⟨rfl, v1, v3, q, rfl⟩
  go_wp2_with fail
  refine bodyPost_ret (v := .tuple #[]) (by simp [results, Try.results31, go_sem]) rfl ⟨rfl, ?_⟩
  exact ValPost.same (v1 := v1) (v3 := v3) (v11 := wrap64 (pl + 2)) (k7 := ka) (k8 := kp) (st := false) OWN.out HB.out ((((grown_setCell w b 11 _).trans (grown_drewN _ q _)).trans (grown_setCell _ b 1 _)).trans (grown_setCell _ b 3 _)) (by go_simp) (by go_simp) (by go_simp) (by go_simp) (by go_simp) (by go_simp) (by go_simp) (by go_simp)

theorem Pushed.undrew {w w1 : World} {q b base n g cap : Nat} {v : Value} {f : Nat → Int} {ind : Int} (h : Pushed (w.drewN q) w1 b base n g cap v f ind) : Pushed w w1 b base n g cap v f ind :=
  ⟨h.own, ⟨h.grown.os, h.grown.tape, h.grown.output, h.grown.size, h.grown.block⟩, h.ne, h.cell, h.frozen, h.lies⟩

set_option maxHeartbeats 4000000 in
theorem value_stop {w : World} {b tb toff ln cp at' : Nat} {line col flows ind : Int} {ao : Option Addr} {n c : Nat} {ka kp : Bool} {kl kc pl ch : Int} (base : Nat) (f : Nat → Int) (ok : Int → Prop)
    (h : Scn w b tb toff ln cp at' line col flows ind ao n c ka kp kl kc pl ch) (hown : w.ownsRow base 3 1 (.slice ao n c) n (ints .i64 f n)) (hb : (Value.slice ao n c).ownBlock ≠ some b) (hfl : ¬ 0 < flows) (hkc0 : -1073741824 ≤ kc) (hkc1 : kc ≤ 1073741824) (hka : ka = false) (hk : ¬ (kp = true ∧ kl = line ∧ col ≤ kc + 1024)) :
    Calls Try.prog 31 #[.pointer (some ⟨b, 0, none⟩)] w fun e w' => e = .returned (.tuple #[]) ∧ ValPost w b base n c ao f ind ok w' := by
  obtain ⟨c0, c1, c2, c3, c4, c5, c6, c7, c8, c9, c10, c11, c13, fz, ct, tne, h1, h2, h3, h4⟩ := h
  have tne' := Ne.symm tne
  have OWN := hidden hown
  have HB := hidden hb
  clear hown hb
  subst hka
  cases kp
  · clear hk
    go_enter Try.func31, Try.ntmps31
    go_wp2_with fail
    go_quiet (fail)
    go_wp2_with fail
    refine bodyPost_ret (v := .tuple #[]) (by simp [results, Try.results31, go_sem]) rfl ⟨rfl, ?_⟩
    exact ValPost.same (v1 := at') (v3 := col) (v11 := pl) (k7 := false) (k8 := false) (st := true) OWN.out HB.out ((grown_drewN _ nq _).trans (grown_setCell _ b 13 _)) (by go_simp) (by go_simp) (by go_simp) (by go_simp) (by go_simp) (by go_simp) (by go_simp) (by go_simp)
  · by_cases hl : kl = line
    · have hl' : (kl == line) = true := by simp [hl]
      have hc : ¬ col ≤ kc + 1024 := fun h => hk ⟨rfl, hl, h⟩
      have hc' : decide (col ≤ kc + 1024) = false := by simpa using hc
      clear hl hk
      go_enter Try.func31, Try.ntmps31
      go_wp2_with fail
      go_quiet (fail)
      go_wp2_with fail
      refine bodyPost_ret (v := .tuple #[]) (by simp [results, Try.results31, go_sem]) rfl ⟨rfl, ?_⟩
      exact ValPost.same (v1 := at') (v3 := col) (v11 := pl) (k7 := false) (k8 := true) (st := true) OWN.out HB.out ((grown_drewN _ nq _).trans (grown_setCell _ b 13 _)) (by go_simp) (by go_simp) (by go_simp) (by go_simp) (by go_simp) (by go_simp) (by go_simp) (by go_simp)
    · have hl' : (kl == line) = false := by simp [hl]
      clear hk
      go_enter Try.func31, Try.ntmps31
      go_wp2_with fail
      go_quiet (fail)
      go_wp2_with fail
      refine bodyPost_ret (v := .tuple #[]) (by simp [results, Try.results31, go_sem]) rfl ⟨rfl, ?_⟩
      exact ValPost.same (v1 := at') (v3 := col) (v11 := pl) (k7 := false) (k8 := true) (st := true) OWN.out HB.out ((grown_drewN _ nq _).trans (grown_setCell _ b 13 _)) (by go_simp) (by go_simp) (by go_simp) (by go_simp) (by go_simp) (by go_simp) (by go_simp) (by go_simp)

set_option maxHeartbeats 4000000 in
theorem value_col_not {w : World} {b tb toff ln cp at' : Nat} {line col flows ind : Int} {ao : Option Addr} {n c : Nat} {ka kp : Bool} {kl kc pl ch : Int} (base : Nat) (f : Nat → Int) (ok : Int → Prop)
    (h : Scn w b tb toff ln cp at' line col flows ind ao n c ka kp kl kc pl ch) (hown : w.ownsRow base 3 1 (.slice ao n c) n (ints .i64 f n)) (hb : (Value.slice ao n c).ownBlock ≠ some b) (hfl : ¬ 0 < flows) (hkc0 : -1073741824 ≤ kc) (hkc1 : kc ≤ 1073741824) (hka : ka = true) (hk : ¬ (kp = true ∧ kl = line ∧ col ≤ kc + 1024)) (hlt : ¬ ind < col) :
    Calls Try.prog 31 #[.pointer (some ⟨b, 0, none⟩)] w fun e w' => e = .returned (.tuple #[]) ∧ ValPost w b base n c ao f ind ok w' := by
  obtain ⟨c0, c1, c2, c3, c4, c5, c6, c7, c8, c9, c10, c11, c13, fz, ct, tne, h1, h2, h3, h4⟩ := h
  have tne' := Ne.symm tne
  have OWN := hidden hown
  have HB := hidden hb
  clear hown hb
  subst hka
  cases kp
  · clear hk
    go_enter Try.func31, Try.ntmps31
    go_wp2_with fail
    go_quiet (fail)
    go_wp2_with fail
    refine (roll_not b ind col _ (by omega) (by go_simp)).mono ?_
    rintro e w' ⟨rfl, rfl⟩
    go_wp2_with fail
    refine (advance_any b tb toff ln cp at' col ch _ h1 h2 h3 h4 (by go_simp) (by go_simp) (by go_simp) (by go_simp) (by go_simp) (by go_simp)).mono ?_
    rintro e w' ⟨rfl, v1, v3, q, rfl⟩
    go_wp2_with fail
    go_end0
    refine ⟨rfl, ?_⟩
    exact ValPost.same (v1 := v1) (v3 := v3) (v11 := wrap64 (pl + 2)) (k7 := true) (k8 := false) (st := false) OWN.out HB.out (((((grown_drewN _ nq _).trans (grown_setCell _ b 11 _)).trans (grown_drewN _ q _)).trans (grown_setCell _ b 1 _)).trans (grown_setCell _ b 3 _)) (by go_simp) (by go_simp) (by go_simp) (by go_simp) (by go_simp) (by go_simp) (by go_simp) (by go_simp)
  · by_cases hl : kl = line
    · have hl' : (kl == line) = true := by simp [hl]
      have hc : ¬ col ≤ kc + 1024 := fun h => hk ⟨rfl, hl, h⟩
      have hc' : decide (col ≤ kc + 1024) = false := by simpa using hc
      clear hl hk
      go_enter Try.func31, Try.ntmps31
      go_wp2_with fail
      go_quiet (fail)
      go_wp2_with fail
      refine (roll_not b ind col _ (by omega) (by go_simp)).mono ?_
      rintro e w' ⟨rfl, rfl⟩
      go_wp2_with fail
      refine (advance_any b tb toff ln cp at' col ch _ h1 h2 h3 h4 (by go_simp) (by go_simp) (by go_simp) (by go_simp) (by go_simp) (by go_simp)).mono ?_
      rintro e w' ⟨rfl, v1, v3, q, rfl⟩
      go_wp2_with fail
      go_end0
      refine ⟨rfl, ?_⟩
      exact ValPost.same (v1 := v1) (v3 := v3) (v11 := wrap64 (pl + 2)) (k7 := true) (k8 := true) (st := false) OWN.out HB.out (((((grown_drewN _ nq _).trans (grown_setCell _ b 11 _)).trans (grown_drewN _ q _)).trans (grown_setCell _ b 1 _)).trans (grown_setCell _ b 3 _)) (by go_simp) (by go_simp) (by go_simp) (by go_simp) (by go_simp) (by go_simp) (by go_simp) (by go_simp)
    · have hl' : (kl == line) = false := by simp [hl]
      clear hk
      go_enter Try.func31, Try.ntmps31
      go_wp2_with fail
      go_quiet (fail)
      go_wp2_with fail
      refine (roll_not b ind col _ (by omega) (by go_simp)).mono ?_
      rintro e w' ⟨rfl, rfl⟩
      go_wp2_with fail
      refine (advance_any b tb toff ln cp at' col ch _ h1 h2 h3 h4 (by go_simp) (by go_simp) (by go_simp) (by go_simp) (by go_simp) (by go_simp)).mono ?_
      rintro e w' ⟨rfl, v1, v3, q, rfl⟩
      go_wp2_with fail
      go_end0
      refine ⟨rfl, ?_⟩
      exact ValPost.same (v1 := v1) (v3 := v3) (v11 := wrap64 (pl + 2)) (k7 := true) (k8 := true) (st := false) OWN.out HB.out (((((grown_drewN _ nq _).trans (grown_setCell _ b 11 _)).trans (grown_drewN _ q _)).trans (grown_setCell _ b 1 _)).trans (grown_setCell _ b 3 _)) (by go_simp) (by go_simp) (by go_simp) (by go_simp) (by go_simp) (by go_simp) (by go_simp) (by go_simp)

set_option maxHeartbeats 4000000 in
theorem value_col_push {w : World} {b tb toff ln cp at' : Nat} {line col flows ind : Int} {ao : Option Addr} {n c : Nat} {ka kp : Bool} {kl kc pl ch : Int} (base : Nat) (f : Nat → Int) (ok : Int → Prop)
    (h : Scn w b tb toff ln cp at' line col flows ind ao n c ka kp kl kc pl ch) (hown : w.ownsRow base 3 1 (.slice ao n c) n (ints .i64 f n)) (hb : (Value.slice ao n c).ownBlock ≠ some b) (hfl : ¬ 0 < flows) (hkc0 : -1073741824 ≤ kc) (hkc1 : kc ≤ 1073741824) (hn : n ≤ 1048576) (hbase : base ≤ w.heap.size) (htr : (Value.slice ao n c).ownBlock ≠ some tb) (hka : ka = true) (hk : ¬ (kp = true ∧ kl = line ∧ col ≤ kc + 1024)) (hlt : ind < col) (hok : ok col) :
    Calls Try.prog 31 #[.pointer (some ⟨b, 0, none⟩)] w fun e w' => e = .returned (.tuple #[]) ∧ ValPost w b base n c ao f ind ok w' := by
  obtain ⟨c0, c1, c2, c3, c4, c5, c6, c7, c8, c9, c10, c11, c13, fz, ct, tne, h1, h2, h3, h4⟩ := h
  have tne' := Ne.symm tne
  have OWN := hidden hown
  have HB := hidden hb
  clear hown hb
  subst hka
  cases kp
  · clear hk
    go_enter Try.func31, Try.ntmps31
    go_wp2_with fail
    go_quiet (fail)
    go_wp2_with fail
    refine (roll_push b base n c ao f ind col (w.drewN nq) hlt hn (by go_simp) (by go_simp) (by go_simp) (by go_simp) OWN.out hbase HB.out).mono ?_
    rintro e w' ⟨rfl, g, cap, w1, hP, rfl⟩
    have P1 := hidden hP.undrew
    clear hP
    have d0 := (P1.out.cell 0).trans c0
    have d1 := (P1.out.cell 1).trans c1
    have d3 := (P1.out.cell 3).trans c3
    have d5 := (P1.out.cell 5).trans c5
    have d6 := (P1.out.cell 6).trans c6
    have d7 := (P1.out.cell 7).trans c7
    have d8 := (P1.out.cell 8).trans c8
    have d11 := (P1.out.cell 11).trans c11
    have d13 := (P1.out.cell 13).trans c13
    have fz1 : ∀ j, w1.frozen? ⟨b, j, none⟩ = false := fun j => (P1.out.frozen j).trans (fz j)
    have dt : w1.cell? ⟨tb, toff + at', none⟩ = some (.int .u8 ch) := (P1.out.grown.cell_far ⟨tb, toff + at', none⟩ (World.block_lt_of_cell? _ _ ct) (Ne.symm htr)).trans ct
    clear c0 c1 c2 c3 c4 c5 c6 c7 c8 c9 c10 c11 c13 ct fz
    go_wp2_with fail
    refine (advance_any b tb toff ln cp at' col ch _ h1 h2 h3 h4 (by go_simp) (by go_simp) (by go_simp) (by go_simp) (by go_simp) (by go_simp)).mono ?_
    rintro e w' ⟨rfl, v1, v3, q, rfl⟩
    go_wp2_with fail
    go_end0
    refine ⟨rfl, ?_⟩
    exact ValPost.push (v1 := v1) (v3 := v3) (v11 := wrap64 (pl + 2)) (k7 := true) (k8 := false) (ind' := col) P1.out ((((((grown_setCell w1 b 6 _).trans (grown_setCell _ b 5 _)).trans (grown_setCell _ b 11 _)).trans (grown_drewN _ q _)).trans (grown_setCell _ b 1 _)).trans (grown_setCell _ b 3 _)) hlt hok (by go_simp) (by go_simp) (by go_simp) (by go_simp) (by go_simp) (by go_simp) (by go_simp) (by go_simp)
  · by_cases hl : kl = line
    · have hl' : (kl == line) = true := by simp [hl]
      have hc : ¬ col ≤ kc + 1024 := fun h => hk ⟨rfl, hl, h⟩
      have hc' : decide (col ≤ kc + 1024) = false := by simpa using hc
      clear hl hk
      go_enter Try.func31, Try.ntmps31
      go_wp2_with fail
      go_quiet (fail)
      go_wp2_with fail
      refine (roll_push b base n c ao f ind col (w.drewN nq) hlt hn (by go_simp) (by go_simp) (by go_simp) (by go_simp) OWN.out hbase HB.out).mono ?_
      rintro e w' ⟨rfl, g, cap, w1, hP, rfl⟩
      have P1 := hidden hP.undrew
      clear hP
      have d0 := (P1.out.cell 0).trans c0
      have d1 := (P1.out.cell 1).trans c1
      have d3 := (P1.out.cell 3).trans c3
      have d5 := (P1.out.cell 5).trans c5
      have d6 := (P1.out.cell 6).trans c6
      have d7 := (P1.out.cell 7).trans c7
      have d8 := (P1.out.cell 8).trans c8
      have d11 := (P1.out.cell 11).trans c11
      have d13 := (P1.out.cell 13).trans c13
      have fz1 : ∀ j, w1.frozen? ⟨b, j, none⟩ = false := fun j => (P1.out.frozen j).trans (fz j)
      have dt : w1.cell? ⟨tb, toff + at', none⟩ = some (.int .u8 ch) := (P1.out.grown.cell_far ⟨tb, toff + at', none⟩ (World.block_lt_of_cell? _ _ ct) (Ne.symm htr)).trans ct
      clear c0 c1 c2 c3 c4 c5 c6 c7 c8 c9 c10 c11 c13 ct fz
      go_wp2_with fail
      refine (advance_any b tb toff ln cp at' col ch _ h1 h2 h3 h4 (by go_simp) (by go_simp) (by go_simp) (by go_simp) (by go_simp) (by go_simp)).mono ?_
      rintro e w' ⟨rfl, v1, v3, q, rfl⟩
      go_wp2_with fail
      go_end0
      refine ⟨rfl, ?_⟩
      exact ValPost.push (v1 := v1) (v3 := v3) (v11 := wrap64 (pl + 2)) (k7 := true) (k8 := true) (ind' := col) P1.out ((((((grown_setCell w1 b 6 _).trans (grown_setCell _ b 5 _)).trans (grown_setCell _ b 11 _)).trans (grown_drewN _ q _)).trans (grown_setCell _ b 1 _)).trans (grown_setCell _ b 3 _)) hlt hok (by go_simp) (by go_simp) (by go_simp) (by go_simp) (by go_simp) (by go_simp) (by go_simp) (by go_simp)
    · have hl' : (kl == line) = false := by simp [hl]
      clear hk
      go_enter Try.func31, Try.ntmps31
      go_wp2_with fail
      go_quiet (fail)
      go_wp2_with fail
      refine (roll_push b base n c ao f ind col (w.drewN nq) hlt hn (by go_simp) (by go_simp) (by go_simp) (by go_simp) OWN.out hbase HB.out).mono ?_
      rintro e w' ⟨rfl, g, cap, w1, hP, rfl⟩
      have P1 := hidden hP.undrew
      clear hP
      have d0 := (P1.out.cell 0).trans c0
      have d1 := (P1.out.cell 1).trans c1
      have d3 := (P1.out.cell 3).trans c3
      have d5 := (P1.out.cell 5).trans c5
      have d6 := (P1.out.cell 6).trans c6
      have d7 := (P1.out.cell 7).trans c7
      have d8 := (P1.out.cell 8).trans c8
      have d11 := (P1.out.cell 11).trans c11
      have d13 := (P1.out.cell 13).trans c13
      have fz1 : ∀ j, w1.frozen? ⟨b, j, none⟩ = false := fun j => (P1.out.frozen j).trans (fz j)
      have dt : w1.cell? ⟨tb, toff + at', none⟩ = some (.int .u8 ch) := (P1.out.grown.cell_far ⟨tb, toff + at', none⟩ (World.block_lt_of_cell? _ _ ct) (Ne.symm htr)).trans ct
      clear c0 c1 c2 c3 c4 c5 c6 c7 c8 c9 c10 c11 c13 ct fz
      go_wp2_with fail
      refine (advance_any b tb toff ln cp at' col ch _ h1 h2 h3 h4 (by go_simp) (by go_simp) (by go_simp) (by go_simp) (by go_simp) (by go_simp)).mono ?_
      rintro e w' ⟨rfl, v1, v3, q, rfl⟩
      go_wp2_with fail
      go_end0
      refine ⟨rfl, ?_⟩
      exact ValPost.push (v1 := v1) (v3 := v3) (v11 := wrap64 (pl + 2)) (k7 := true) (k8 := true) (ind' := col) P1.out ((((((grown_setCell w1 b 6 _).trans (grown_setCell _ b 5 _)).trans (grown_setCell _ b 11 _)).trans (grown_drewN _ q _)).trans (grown_setCell _ b 1 _)).trans (grown_setCell _ b 3 _)) hlt hok (by go_simp) (by go_simp) (by go_simp) (by go_simp) (by go_simp) (by go_simp) (by go_simp) (by go_simp)

set_option maxHeartbeats 4000000 in
theorem value_key_not {w : World} {b tb toff ln cp at' : Nat} {line col flows ind : Int} {ao : Option Addr} {n c : Nat} {ka kp : Bool} {kl kc pl ch : Int} (base : Nat) (f : Nat → Int) (ok : Int → Prop)
    (h : Scn w b tb toff ln cp at' line col flows ind ao n c ka kp kl kc pl ch) (hown : w.ownsRow base 3 1 (.slice ao n c) n (ints .i64 f n)) (hb : (Value.slice ao n c).ownBlock ≠ some b) (hfl : ¬ 0 < flows) (hkc0 : -1073741824 ≤ kc) (hkc1 : kc ≤ 1073741824) (hk : kp = true ∧ kl = line ∧ col ≤ kc + 1024) (hlt : ¬ ind < kc) :
    Calls Try.prog 31 #[.pointer (some ⟨b, 0, none⟩)] w fun e w' => e = .returned (.tuple #[]) ∧ ValPost w b base n c ao f ind ok w' := by
  obtain ⟨c0, c1, c2, c3, c4, c5, c6, c7, c8, c9, c10, c11, c13, fz, ct, tne, h1, h2, h3, h4⟩ := h
  have tne' := Ne.symm tne
  have OWN := hidden hown
  have HB := hidden hb
  clear hown hb
  obtain ⟨rfl, hl, hc⟩ := hk
  have hl' : (kl == line) = true := by simp [hl]
  have hc' : decide (col ≤ kc + 1024) = true := by simpa using hc
  clear hl
  go_enter Try.func31, Try.ntmps31
  go_wp2_with fail
  go_quiet (fail)
  go_wp2_with fail
  refine (roll_not b ind kc _ (by omega) (by go_simp)).mono ?_
  rintro e w' ⟨rfl, rfl⟩
  go_wp2_with fail
  refine (advance_any b tb toff ln cp at' col ch _ h1 h2 h3 h4 (by go_simp) (by go_simp) (by go_simp) (by go_simp) (by go_simp) (by go_simp)).mono ?_
  rintro e w' ⟨rfl, v1, v3, q, rfl⟩
  go_wp2_with fail
  go_end0
  refine ⟨rfl, ?_⟩
  exact ValPost.same (v1 := v1) (v3 := v3) (v11 := wrap64 (pl + 2)) (k7 := false) (k8 := false) (st := false) OWN.out HB.out (((((((grown_drewN _ nq _).trans (grown_setCell _ b 8 _)).trans (grown_setCell _ b 7 _)).trans (grown_setCell _ b 11 _)).trans (grown_drewN _ q _)).trans (grown_setCell _ b 1 _)).trans (grown_setCell _ b 3 _)) (by go_simp) (by go_simp) (by go_simp) (by go_simp) (by go_simp) (by go_simp) (by go_simp) (by go_simp)

set_option maxHeartbeats 4000000 in
theorem value_key_push {w : World} {b tb toff ln cp at' : Nat} {line col flows ind : Int} {ao : Option Addr} {n c : Nat} {ka kp : Bool} {kl kc pl ch : Int} (base : Nat) (f : Nat → Int) (ok : Int → Prop)
    (h : Scn w b tb toff ln cp at' line col flows ind ao n c ka kp kl kc pl ch) (hown : w.ownsRow base 3 1 (.slice ao n c) n (ints .i64 f n)) (hb : (Value.slice ao n c).ownBlock ≠ some b) (hfl : ¬ 0 < flows) (hkc0 : -1073741824 ≤ kc) (hkc1 : kc ≤ 1073741824) (hn : n ≤ 1048576) (hbase : base ≤ w.heap.size) (htr : (Value.slice ao n c).ownBlock ≠ some tb) (hk : kp = true ∧ kl = line ∧ col ≤ kc + 1024) (hlt : ind < kc) (hok : ok kc) :
    Calls Try.prog 31 #[.pointer (some ⟨b, 0, none⟩)] w fun e w' => e = .returned (.tuple #[]) ∧ ValPost w b base n c ao f ind ok w' := by
  obtain ⟨c0, c1, c2, c3, c4, c5, c6, c7, c8, c9, c10, c11, c13, fz, ct, tne, h1, h2, h3, h4⟩ := h
  have tne' := Ne.symm tne
  have OWN := hidden hown
  have HB := hidden hb
  clear hown hb
  obtain ⟨rfl, hl, hc⟩ := hk
  have hl' : (kl == line) = true := by simp [hl]
  have hc' : decide (col ≤ kc + 1024) = true := by simpa using hc
  clear hl
  go_enter Try.func31, Try.ntmps31
  go_wp2_with fail
  go_quiet (fail)
  go_wp2_with fail
  refine (roll_push b base n c ao f ind kc (w.drewN nq) hlt hn (by go_simp) (by go_simp) (by go_simp) (by go_simp) OWN.out hbase HB.out).mono ?_
  rintro e w' ⟨rfl, g, cap, w1, hP, rfl⟩
  have P1 := hidden hP.undrew
  clear hP
  have d0 := (P1.out.cell 0).trans c0
  have d1 := (P1.out.cell 1).trans c1
  have d3 := (P1.out.cell 3).trans c3
  have d5 := (P1.out.cell 5).trans c5
  have d6 := (P1.out.cell 6).trans c6
  have d7 := (P1.out.cell 7).trans c7
  have d8 := (P1.out.cell 8).trans c8
  have d11 := (P1.out.cell 11).trans c11
  have d13 := (P1.out.cell 13).trans c13
  have fz1 : ∀ j, w1.frozen? ⟨b, j, none⟩ = false := fun j => (P1.out.frozen j).trans (fz j)
  have dt : w1.cell? ⟨tb, toff + at', none⟩ = some (.int .u8 ch) := (P1.out.grown.cell_far ⟨tb, toff + at', none⟩ (World.block_lt_of_cell? _ _ ct) (Ne.symm htr)).trans ct
  clear c0 c1 c2 c3 c4 c5 c6 c7 c8 c9 c10 c11 c13 ct fz
  go_wp2_with fail
  refine (advance_any b tb toff ln cp at' col ch _ h1 h2 h3 h4 (by go_simp) (by go_simp) (by go_simp) (by go_simp) (by go_simp) (by go_simp)).mono ?_
  rintro e w' ⟨rfl, v1, v3, q, rfl⟩
  go_wp2_with fail
  go_end0
  refine ⟨rfl, ?_⟩
  exact ValPost.push (v1 := v1) (v3 := v3) (v11 := wrap64 (pl + 2)) (k7 := false) (k8 := false) (ind' := kc) P1.out ((((((((grown_setCell w1 b 6 _).trans (grown_setCell _ b 5 _)).trans (grown_setCell _ b 8 _)).trans (grown_setCell _ b 7 _)).trans (grown_setCell _ b 11 _)).trans (grown_drewN _ q _)).trans (grown_setCell _ b 1 _)).trans (grown_setCell _ b 3 _)) hlt hok (by go_simp) (by go_simp) (by go_simp) (by go_simp) (by go_simp) (by go_simp) (by go_simp) (by go_simp)

end Go.Proofs.Qxb6600099a
