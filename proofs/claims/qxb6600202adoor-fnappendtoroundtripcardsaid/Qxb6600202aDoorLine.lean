import Derived.Test.Qxb6600202aDoorGrow
namespace Go.Proofs.Qxb6600202aDoor
open Go.RowKit

/-- The hexadecimal digit of a number below sixteen. -/
def hexDigit (n : Nat) : UInt8 := if n < 10 then UInt8.ofNat (48 + n) else UInt8.ofNat (87 + n)
/-- How a byte of the control data is written. -/
def escB (b : UInt8) : List UInt8 := if b.toNat = 92 then [92, 92] else if 32 < b.toNat ∧ b.toNat < 127 then [b] else [92, 120, hexDigit (b.toNat / 16), hexDigit (b.toNat % 16)]
def esc (l : List UInt8) : List UInt8 := l.flatMap escB
def headS : List UInt8 := [103, 114, 97, 112, 104, 105, 99, 115, 32]
def tailS : List UInt8 := [32, 112, 97, 121, 108, 111, 97, 100, 61]
/-- A command's line. -/
def line (l : List UInt8) (t : Int) : List UInt8 := headS ++ (esc l ++ (tailS ++ Lib.itoa t))

theorem esc_snoc (l : List UInt8) (b : UInt8) : esc (l ++ [b]) = esc l ++ escB b := by simp [esc, List.flatMap_append]
theorem esc_take (l : List UInt8) (k : Nat) (h : k < l.length) : esc (l.take (k + 1)) = esc (l.take k) ++ escB l[k] := by
  rw [List.take_succ_eq_append_getElem h, esc_snoc]
theorem escB_length (b : UInt8) : 1 ≤ (escB b).length ∧ (escB b).length ≤ 4 := by
  unfold escB
  split
  · simp
  · split <;> simp
theorem esc_length : ∀ l : List UInt8, l.length ≤ (esc l).length ∧ (esc l).length ≤ 4 * l.length
  | [] => by simp [esc]
  | b :: l => by
    have h1 := escB_length b
    have h2 := esc_length l
    have e : esc (b :: l) = escB b ++ esc l := by simp [esc]
    rw [e, List.length_append, List.length_cons]
    omega

theorem owns_mono {w : World} {base base' n : Nat} {v : Value} {xs : List Value} (h : w.ownsRow base 5 1 v n xs) (hb : base' ≤ base) : w.ownsRow base' 5 1 v n xs := by
  refine ⟨h.1, ?_⟩
  rcases h.2 with h2 | ⟨g, cap, cur, hv, hg, rest⟩
  · exact .inl h2
  · exact .inr ⟨g, cap, cur, hv, Nat.le_trans hb hg, rest⟩

/-- Some bytes onto a row of bytes that the call owns: what stands behind it. -/
structure More (w w' : World) (base n g cap : Nat) (v : Value) (xs L : List UInt8) : Prop where
  own : w'.ownsRow base 5 1 (.slice (some ⟨g, 0, none⟩) (n + L.length) cap) (n + L.length) (bcs (xs ++ L))
  grown : w.grownBy w' v.ownBlock

theorem step_more {o : Oper} {a : Act} {K : Act → World → Prop} {Q : Exit → Act → World → Prop} (w W : World) (base n : Nat) (v : Value) (xs L : List UInt8)
    (s x : Operand) (ho : o.op = .call { callee := .builtin .append, args := #[s, x], argTypes := #[22, 22] })
    (hW : W.heap = (w.alloc (.cells (bcs L).toArray 5)).heap) (hWo : W.os = w.os) (hWt : W.tape = w.tape) (hWp : W.output = w.output) (hL : 0 < L.length) (hn : n + L.length ≤ 1073741824) (hb : base ≤ w.heap.size)
    (hown : w.ownsRow base 5 1 v n (bcs xs)) (hs : a.eval s = v) (hx : a.eval x = .slice (some ⟨w.heap.size, 0, none⟩) L.length L.length)
    (hK : ∀ g cap w', More w w' base n g cap v xs L → K (a.put o.dst (.slice (some ⟨g, 0, none⟩) (n + L.length) cap)) w') : o.wp Tryd.prog a W K Q := by
  obtain ⟨i, hi, hz, hsize, hby⟩ := info_parts Tryd.info5
  have hownW : W.ownsRow base 5 1 v n (bcs xs) := by
    have h := hown.alloc (.cells (bcs L).toArray 5)
    refine ⟨h.1, ?_⟩
    rw [hW]
    exact h.2
  refine wp_append_lies W s x 22 ho base 5 i (.int .u8 0) 1 1 Tryd.underlying22 hi hz hsize hby rfl (by decide) v n (bcs xs) hs hownW ⟨w.heap.size, 0, none⟩ L.length L.length (bcs L) hx (by rw [bcs_length]; omega) ?_ (bcs_one L) hL (by unfold maxLen; omega) (by omega) (by rw [hW]; simp; omega) W.heap.size rfl ?_
  · intro j u hu
    exact World.news_of_block (w := W) (B := w.heap.size) (cs := (bcs L).toArray) (t := 5) (fr := (0, 0)) (by rw [hW]; exact heap_alloc_new w _) j u (by simpa using hu)
  · intro g cap w1 hown1 hgrow1 _ _
    refine hK g cap w1 ⟨by rw [bcs_append]; exact hown1, ?_⟩
    have hsz : w.heap.size ≤ W.heap.size := by rw [hW]; simp
    refine ⟨hgrow1.os.trans hWo, hgrow1.tape.trans hWt, hgrow1.output.trans hWp, Nat.le_trans hsz hgrow1.size, fun k hk hr => ?_⟩
    rw [hgrow1.block k (by omega) hr, hW]
    exact Below.heap_alloc w _ k hk

theorem wpList_more {ops : Array Oper} {rest : List Oper} {o : Oper} {a : Act} {Q : Exit → Act → World → Prop} (w W : World) (base n : Nat) (v : Value) (xs L : List UInt8)
    (hgd : o.guard = none) (s x : Operand) (ho : o.op = .call { callee := .builtin .append, args := #[s, x], argTypes := #[22, 22] })
    (hW : W = w.alloc (.cells (bcs L).toArray 5)) (hL : 0 < L.length) (hn : n + L.length ≤ 1073741824) (hb : base ≤ w.heap.size)
    (hown : w.ownsRow base 5 1 v n (bcs xs)) (hs : a.eval s = v) (hx : a.eval x = .slice (some ⟨w.heap.size, 0, none⟩) L.length L.length)
    (hK : ∀ g cap w', More w w' base n g cap v xs L → wpList Tryd.prog ops Q rest (a.put o.dst (.slice (some ⟨g, 0, none⟩) (n + L.length) cap)) w') : wpList Tryd.prog ops Q (o :: rest) a W :=
  wpList_plain hgd fun _ hK' => step_more w W base n v xs L s x ho (by rw [hW]) (by rw [hW]; rfl) (by rw [hW]; rfl) (by rw [hW]; rfl) hL hn hb hown hs hx (fun g cap w' h => hK' _ _ (hK g cap w' h))

theorem stepd_more {ops : Array Oper} {o : Oper} {a : Act} {K : Act → World → Prop} {Q : Exit → Act → World → Prop} {E : Prop} (w W : World) (base n : Nat) (v : Value) (xs L : List UInt8)
    (hgd : o.guard = none) (s x : Operand) (ho : o.op = .call { callee := .builtin .append, args := #[s, x], argTypes := #[22, 22] })
    (hW : W = (w.alloc (.cells (bcs L).toArray 5)).drew) (hL : 0 < L.length) (hn : n + L.length ≤ 1073741824) (hb : base ≤ w.heap.size)
    (hown : w.ownsRow base 5 1 v n (bcs xs)) (hs : a.eval s = v) (hx : a.eval x = .slice (some ⟨w.heap.size, 0, none⟩) L.length L.length)
    (hK : ∀ g cap w', More w w' base n g cap v xs L → K (a.put o.dst (.slice (some ⟨g, 0, none⟩) (n + L.length) cap)) w') : if Region.wanted o (yielded ops a.tmps) = true then Oper.wp Tryd.prog o a W K Q else E := by
  have hw : Region.wanted o (yielded ops a.tmps) = true := by simp [Region.wanted, hgd]
  rw [if_pos hw]
  exact step_more w W base n v xs L s x ho (by rw [hW]; rfl) (by rw [hW]; rfl) (by rw [hW]; rfl) (by rw [hW]; rfl) hL hn hb hown hs hx hK

/-- How long the row is behind k rounds. -/
def rowLen (n : Nat) (C : List UInt8) (k : Nat) : Nat := n + 9 + (esc (C.take k)).length
theorem rowLen_le (n : Nat) (C : List UInt8) (k : Nat) : rowLen n C k ≤ n + 9 + 4 * k := by
  have h := (esc_length (C.take k)).2
  have h2 := List.length_take_le k C
  unfold rowLen
  omega
theorem rowLen_step (n : Nat) (C : List UInt8) (k : Nat) (h : k < C.length) : rowLen n C (k + 1) = rowLen n C k + (escB C[k]).length := by
  unfold rowLen
  rw [esc_take C k h, List.length_append]
  omega
/-- What the row holds behind k rounds. -/
def rowAt (D C : List UInt8) (k : Nat) : List UInt8 := D ++ (headS ++ esc (C.take k))
theorem rowAt_step (D C : List UInt8) (k : Nat) (h : k < C.length) : rowAt D C (k + 1) = rowAt D C k ++ escB C[k] := by
  unfold rowAt
  rw [esc_take C k h]
  simp [List.append_assoc]

/-- The hexadecimal digits. -/
def hexS : ByteArray := ⟨#[48, 49, 50, 51, 52, 53, 54, 55, 56, 57, 97, 98, 99, 100, 101, 102]⟩
theorem hexS_fin : ∀ i : Fin 16, hexS[i.val]'i.isLt = hexDigit i.val := by decide
theorem hexS_at (x : Int) (n : Nat) (h : x.toNat < 16) (e : x = n) : hexS[x.toNat]'h = hexDigit n := by
  subst e
  exact hexS_fin ⟨n, h⟩
theorem and15_fin : ∀ i : Fin 256, bits .and .u8 (i.val : Int) 15 = ((i.val % 16 : Nat) : Int) := by decide +kernel
theorem and15 (b : UInt8) : bits .and .u8 (b.toNat : Int) 15 = ((b.toNat % 16 : Nat) : Int) := and15_fin ⟨b.toNat, b.toNat_lt⟩

set_option maxHeartbeats 2000000 in
theorem appendTo_any (ac : Option Addr) (nc cc : Nat) (C : List UInt8) (ap : Option Addr) (np cp : Nat) (dr : Int) (ad : Option Addr) (n base : Nat) (D : List UInt8) (w : World)
    (hc : ByteRow w ac nc C) (hd : w.ownsRow base 5 1 (.slice ad n n) n (bcs D)) (bc0 : nc ≤ 262144) (bn : n ≤ 262144) (h0 : -9223372036854775808 ≤ np + dr) (h1 : np + dr ≤ 9223372036854775807)
    (htab : Lib.TabIs Tryd.prog w Tryd.powName .u64 Lib.pow10Tab) :
    Calls Tryd.prog 7 #[.agg #[.slice ac nc cc, .slice ap np cp, .int .i64 dr], .slice ad n n] w fun e w' => ∃ g cap, e = .returned (.slice (some ⟨g, 0, none⟩) (n + (line C (np + dr)).length) cap) ∧
      w'.ownsRow w.heap.size 5 1 (.slice (some ⟨g, 0, none⟩) (n + (line C (np + dr)).length) cap) (n + (line C (np + dr)).length) (bcs (D ++ line C (np + dr))) ∧ Below w.heap.size w w' := by
  have HC := hidden hc
  have HD := hidden (hd.alloc (.cells #[.slice ac nc cc, .slice ap np cp, .int .i64 dr] 26))
  have HT := hidden (Lib.tabBelow_of_tabIs htab)
  clear hc hd htab
  go_enter Tryd.func7, Tryd.ntmps7
  go_wp2_with (at_builtin; refine wpList_grow_string rfl _ _ rfl base n ad (bcs D) rfl HD.out _ rfl (by decide) (by show n + 9 ≤ _; omega) ?_)
  intro cap w1 own1 gr1
  have hcl := HC.out.len_eq
  have HCL := hidden hcl
  clear hcl
  have OWN1 : Hid (w1.ownsRow (w.heap.size + 1) 5 1 (.slice (some ⟨w.heap.size + 1, 0, none⟩) (n + 9) cap) (rowLen n C 0) (bcs (rowAt D C 0))) := by
    have e : bcs (rowAt D C 0) = bcs D ++ Lib.strCells ⟨#[103, 114, 97, 112, 104, 105, 99, 115, 32]⟩ := by unfold rowAt; rw [bcs_append]; rfl
    have e2 : rowLen n C 0 = n + 9 := by unfold rowLen; simp [esc]
    rw [e, e2]
    exact own1
  have BEL1 : Hid (Below (w.heap.size + 1) (w.alloc (.cells #[.slice ac nc cc, .slice ap np cp, .int .i64 dr] 26)) w1) := (Below.refl _ _).grown gr1 (by simp) (fun k h => by cases h)
  have q0 : (w.alloc (.cells #[.slice ac nc cc, .slice ap np cp, .int .i64 dr] 26)).cell? ⟨w.heap.size, 0, none⟩ = some (.slice ac nc cc) := by rw [World.cell?_alloc_at _ _ _ _ (by simp)]; rfl
  have q1 : (w.alloc (.cells #[.slice ac nc cc, .slice ap np cp, .int .i64 dr] 26)).cell? ⟨w.heap.size, 1, none⟩ = some (.slice ap np cp) := by rw [World.cell?_alloc_at _ _ _ _ (by simp)]; rfl
  have q2 : (w.alloc (.cells #[.slice ac nc cc, .slice ap np cp, .int .i64 dr] 26)).cell? ⟨w.heap.size, 2, none⟩ = some (.int .i64 dr) := by rw [World.cell?_alloc_at _ _ _ _ (by simp)]; rfl
  have hsz0 : (w.alloc (.cells #[.slice ac nc cc, .slice ap np cp, .int .i64 dr] 26)).heap.size = w.heap.size + 1 := by simp
  have BW : Hid (Below w.heap.size w (w.alloc (.cells #[.slice ac nc cc, .slice ap np cp, .int .i64 dr] 26))) := (Below.refl _ w).alloc (Nat.le_refl _) _
  clear own1 gr1 HD
  generalize (w.alloc (.cells #[.slice ac nc cc, .slice ap np cp, .int .i64 dr] 26)) = W0 at *
  have r0 : w1.cell? ⟨w.heap.size, 0, none⟩ = some (.slice ac nc cc) := (BEL1.out.cell (by show w.heap.size < _; omega)).trans q0
  go_wp2_with fail
  clear r0
  go_loopw [1, 12] (fun v i wr => ∃ (k g cap m : Nat), k ≤ nc ∧ i = .int .i64 k ∧ v = .slice (some ⟨g, 0, none⟩) m cap ∧ Hid (m = rowLen n C k) ∧ m ≤ n + 9 + 4 * k ∧
    Hid (wr.ownsRow (w.heap.size + 1) 5 1 (.slice (some ⟨g, 0, none⟩) m cap) m (bcs (rowAt D C k))) ∧ Hid (Below (w.heap.size + 1) W0 wr)) (fun _ i _ => nc - (intOf i).toNat)
  case atStart => exact ⟨0, _, _, n + 9, Nat.zero_le _, rfl, rfl, by show n + 9 = _; unfold rowLen; simp [esc], by omega, by have := OWN1.out; have e2 : rowLen n C 0 = n + 9 := by { unfold rowLen; simp [esc] }; rw [e2] at this; exact this, BEL1.out⟩
  case round =>
    obtain ⟨k, g, cap', m, hk, rfl, rfl, HM, hm, OWN, BEL⟩ := hrel
    by_cases hlt : k < nc
    · have hkC : k < C.length := by have := HCL.out; omega
      obtain ⟨cb, co, rfl, hcb, hcc⟩ := HC.out.cells (by omega)
      have hck : wr.cell? ⟨cb, co + k, none⟩ = some (.int .u8 ((C[k]).toNat : Int)) := (BEL.out.cell (by show cb < _; omega)).trans ((BW.out.cell (by exact hcb)).trans (hcc k hkC))
      have RL := hidden (rowLen_step n C k hkC)
      have RA := hidden (rowAt_step D C k hkC)
      have hszr := BEL.out.size
      clear hcc
      generalize C[k] = b at hck RL RA
      have hb0 : (0 : Int) ≤ (b.toNat : Int) := by omega
      have hb1 : (b.toNat : Int) ≤ 255 := by have := b.toNat_lt; omega
      by_cases h92 : b.toNat = 92
      · have e92 : escB b = [92, 92] := by unfold escB; rw [if_pos h92]
        have h92' : ((b.toNat : Int) == 92) = true := by simp; omega
        have E92 := hidden e92
        clear h92 e92
        go_wp2_with (at_builtin; refine wpList_more wr _ (w.heap.size + 1) m _ (rowAt D C k) [92, 92] rfl (.tmp 18) (.tmp 19) rfl rfl (by decide) (by show m + 2 ≤ _; omega) (by omega) OWN.out rfl rfl ?_; intro g2 cap2 w2 hM2)
        go_roundw
        case rel => exact ⟨k + 1, g2, cap2, m + 2, by omega, by go_num, rfl, (by show m + 2 = _; rw [RL.out, E92.out, ← HM.out]; rfl), by omega, (by show World.ownsRow _ _ _ _ _ _ _; rw [RA.out, E92.out]; exact hM2.own), BEL.out.grown hM2.grown (by omega) (fun j hj => (OWN.out.lt j hj).1)⟩
        case measure => simp [intOf]; omega
      · have h92' : ((b.toNat : Int) == 92) = false := by simp; omega
        by_cases hpr : 32 < b.toNat ∧ b.toNat < 127
        · have E1 : Hid (escB b = [b]) := by show escB b = [b]; unfold escB; rw [if_neg h92, if_pos hpr]
          have z1 : (32 : Int) < (b.toNat : Int) := by omega
          have z2 : (b.toNat : Int) < 127 := by omega
          clear h92 hpr
          go_wp2_with (at_builtin; refine wpList_more wr _ (w.heap.size + 1) m _ (rowAt D C k) [b] rfl (.tmp 27) (.tmp 29) rfl rfl (Nat.one_pos) (by show m + 1 ≤ _; omega) (by omega) OWN.out rfl rfl ?_; intro g2 cap2 w2 hM2)
          go_roundw
          case rel => exact ⟨k + 1, g2, cap2, m + 1, by omega, by go_num, rfl, (by show m + 1 = _; rw [RL.out, E1.out, ← HM.out]; rfl), by omega, (by show World.ownsRow _ _ _ _ _ _ _; rw [RA.out, E1.out]; exact hM2.own), BEL.out.grown hM2.grown (by omega) (fun j hj => (OWN.out.lt j hj).1)⟩
          case measure => simp [intOf]; omega
        · have hp1 : Hid (escB b = [92, 120, hexDigit (b.toNat / 16), hexDigit (b.toNat % 16)]) := by show escB b = _; unfold escB; rw [if_neg h92, if_neg hpr]
          have y1 : (0 : Int) ≤ (b.toNat : Int) / 16 := by omega
          have y2 : (b.toNat : Int) / 16 < 16 := by omega
          have y3 : (0 : Int) ≤ bits .and .u8 (b.toNat : Int) 15 := by rw [and15]; omega
          have y4 : bits .and .u8 (b.toNat : Int) 15 < 16 := by rw [and15]; omega
          have EX := hidden (hexS_at ((b.toNat : Int) / 16) (b.toNat / 16) (by omega) (by omega))
          have EY := hidden (hexS_at (bits .and .u8 (b.toNat : Int) 15) (b.toNat % 16) (by omega) (and15 b))
          by_cases h32 : 32 < b.toNat
          · have z1 : (32 : Int) < (b.toNat : Int) := by omega
            have z2 : ¬ (b.toNat : Int) < 127 := by omega
            clear h92 hpr
            go_wp2_with fail
            go_region_law (refine stepd_more wr _ (w.heap.size + 1) m _ (rowAt D C k) [92, 120, hexS[((b.toNat : Int) / 16).toNat]'(by show _ < 16; omega), hexS[(bits .and .u8 (b.toNat : Int) 15).toNat]'(by show _ < 16; omega)] rfl (.tmp 31) (.tmp 38) rfl rfl (Nat.succ_pos _) (by show m + 4 ≤ _; omega) (by omega) OWN.out rfl rfl ?_; intro g2 cap2 w2 hM2)
            all_goals (
              have hM3 : More wr w2 (w.heap.size + 1) m g2 cap2 (Value.slice (some { block := g, off := 0 }) m cap') (rowAt D C k) (escB b) := by rw [hp1.out, ← EX.out, ← EY.out]; exact hM2
              have E4 : Hid ((escB b).length = 4) := by show (escB b).length = 4; rw [hp1.out]; rfl
              clear hM2
              have HM3 := hidden hM3
              clear hM3
              go_wp2_with fail
              go_roundw
              case rel => exact ⟨k + 1, g2, cap2, m + 4, by omega, by go_num, rfl, (by show m + 4 = _; rw [RL.out, E4.out, ← HM.out]), by omega, (by show World.ownsRow _ _ _ _ _ _ _; rw [RA.out]; have := HM3.out.own; rw [E4.out] at this; exact this), BEL.out.grown HM3.out.grown (by omega) (fun j hj => (OWN.out.lt j hj).1)⟩
              case measure => simp [intOf]; omega)
          · have z1 : ¬ (32 : Int) < (b.toNat : Int) := by omega
            clear h92 hpr
            go_wp2_with fail
            go_region_law (refine stepd_more wr _ (w.heap.size + 1) m _ (rowAt D C k) [92, 120, hexS[((b.toNat : Int) / 16).toNat]'(by show _ < 16; omega), hexS[(bits .and .u8 (b.toNat : Int) 15).toNat]'(by show _ < 16; omega)] rfl (.tmp 31) (.tmp 38) rfl rfl (Nat.succ_pos _) (by show m + 4 ≤ _; omega) (by omega) OWN.out rfl rfl ?_; intro g2 cap2 w2 hM2)
            all_goals (
              have hM3 : More wr w2 (w.heap.size + 1) m g2 cap2 (Value.slice (some { block := g, off := 0 }) m cap') (rowAt D C k) (escB b) := by rw [hp1.out, ← EX.out, ← EY.out]; exact hM2
              have E4 : Hid ((escB b).length = 4) := by show (escB b).length = 4; rw [hp1.out]; rfl
              clear hM2
              have HM3 := hidden hM3
              clear hM3
              go_wp2_with fail
              go_roundw
              case rel => exact ⟨k + 1, g2, cap2, m + 4, by omega, by go_num, rfl, (by show m + 4 = _; rw [RL.out, E4.out, ← HM.out]), by omega, (by show World.ownsRow _ _ _ _ _ _ _; rw [RA.out]; have := HM3.out.own; rw [E4.out] at this; exact this), BEL.out.grown HM3.out.grown (by omega) (fun j hj => (OWN.out.lt j hj).1)⟩
              case measure => simp [intOf]; omega)
    · obtain rfl : k = nc := by omega
      have r1 : wr.cell? ⟨w.heap.size, 1, none⟩ = some (.slice ap np cp) := (BEL.out.cell (by show w.heap.size < _; omega)).trans q1
      have r2 : wr.cell? ⟨w.heap.size, 2, none⟩ = some (.int .i64 dr) := (BEL.out.cell (by show w.heap.size < _; omega)).trans q2
      have hszr := BEL.out.size
      go_wp2_with (at_builtin; refine wpList_more_string rfl (.tmp 41) _ rfl (w.heap.size + 1) m _ (bcs (rowAt D C k)) rfl OWN.out _ rfl (by decide) (by show m + 9 ≤ _; omega) (by omega) ?_)
      intro g2 cap2 w2 own2 gr2
      have OWN2 := hidden own2
      have BEL2 : Hid (Below (w.heap.size + 1) wr w2) := (Below.refl _ _).grown gr2 (by omega) (fun j hj => (OWN.out.lt j hj).1)
      have s1 := (BEL2.out.cell (p := ⟨w.heap.size, 1, none⟩) (by show w.heap.size < _; omega)).trans r1
      have s2 := (BEL2.out.cell (p := ⟨w.heap.size, 2, none⟩) (by show w.heap.size < _; omega)).trans r2
      have hsz2 := BEL2.out.size
      clear own2 gr2 r1 r2
      go_wp2_with fail
      have BT : Hid (Below w.heap.size w w2) := BW.out.trans ((BEL.out.trans BEL2.out).mono (by omega))
      refine (Tryd.strconv_AppendInt_10 (w.heap.size + 1) (m + 9) (np + dr) h0 h1 _ _ w2 OWN2.out (by omega) (by omega) (fun w' hb => HT.out w' (BT.out.trans (hb.mono (by omega))))).mono ?_
      rintro e w3 ⟨v3, rfl, own3, bel3, -⟩
      have hlen : m + 9 + (Lib.itoa (np + dr)).length = n + (line C (np + dr)).length := by
        have h1 := HM.out
        have h2 : C.take k = C := List.take_of_length_le (by rw [← HCL.out]; omega)
        unfold rowLen at h1
        rw [h2] at h1
        simp only [line, List.length_append, headS, tailS, List.length_cons, List.length_nil]
        omega
      have hcells : (bcs (rowAt D C k) ++ Lib.strCells { data := #[32, 112, 97, 121, 108, 111, 97, 100, 61] }) ++ Lib.byteCells (Lib.itoa (np + dr)) = bcs (D ++ line C (np + dr)) := by
        have h2 : C.take k = C := List.take_of_length_le (by rw [← HCL.out]; omega)
        have h3 : Lib.strCells { data := #[32, 112, 97, 121, 108, 111, 97, 100, 61] } = bcs tailS := rfl
        rw [h3, bcs_eq_byteCells, ← bcs_append, ← bcs_append]
        unfold rowAt line
        rw [h2]
        simp only [List.append_assoc]
      rw [hlen, hcells] at own3
      obtain ⟨g3, cap3, rfl, _, _⟩ := own3.form (by simp only [line, List.length_append, headS, List.length_cons]; omega)
      have OWN3 := hidden own3
      have BEL3 := hidden (BT.out.trans (bel3.mono (by omega)))
      clear own3 bel3 hlen hcells
      go_wp2_with fail
      go_ret
      exact ⟨g3, cap3, rfl, owns_mono OWN3.out (by omega), BEL3.out⟩
end Go.Proofs.Qxb6600202aDoor
