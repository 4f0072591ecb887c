import Derived.Test.Qxb6600202aDoorRead
namespace Go.Proofs.Qxb6600202aDoor
open Go.RowKit

def headB : ByteArray := ⟨#[103, 114, 97, 112, 104, 105, 99, 115, 32]⟩
def tailB : ByteArray := ⟨#[32, 112, 97, 121, 108, 111, 97, 100, 61]⟩
theorem head_fin : ∀ i : Fin 9, headS[i.val]? = some (headB[i.val]'i.isLt) := by decide
theorem tail_fin : ∀ i : Fin 9, tailS[i.val]? = some (tailB[i.val]'i.isLt) := by decide

theorem owns_form {w : World} {base n : Nat} {v : Value} {xs : List Value} (h : w.ownsRow base 5 1 v n xs) : ∃ ao c, v = .slice ao n c := by
  rcases h.2 with ⟨h2, h3⟩ | ⟨g, cap, cur, hv, _⟩
  · exact ⟨none, 0, by rw [h2, h3]⟩
  · exact ⟨_, cap, hv⟩
/-- The line was read back. -/
def DecOk (C : List UInt8) (t : Int) (w : World) (e : Ending) (w' : World) : Prop :=
  ∃ ao c', e = .returned (.tuple #[.slice ao C.length c', .int .i64 t, .bool true]) ∧ ByteRow w' ao C.length C ∧ Below w.heap.size w w'
theorem DecOk.mk {C : List UInt8} {t : Int} {w w' : World} {base : Nat} {v : Value} (h : w'.ownsRow base 5 1 v C.length (bcs C)) (hb : Below w.heap.size w w') : DecOk C t w (.returned (.tuple #[v, .int .i64 t, .bool true])) w' := by
  obtain ⟨ao, c', rfl⟩ := owns_form h
  exact ⟨ao, c', rfl, row_of_owns h, hb⟩
theorem or_fin : ∀ i j : Fin 16, bits .or .u8 ((i.val : Int) * 16) (j.val : Int) = ((i.val * 16 + j.val : Nat) : Int) := by decide +kernel

set_option maxRecDepth 4000 in
set_option maxHeartbeats 2000000 in
/-- The reader reads a line's control data and its number back. -/
theorem decode_any (lb lo N c : Nat) (C : List UInt8) (t : Int) (w : World) (h0 : ByteRow w (some ⟨lb, lo, none⟩) N (line C t)) (hc : N ≤ c) (hC : C.length ≤ 262144) (t0 : -9223372036854775808 ≤ t) (t1 : t ≤ 9223372036854775807) :
    Calls Tryd.prog 9 #[.slice (some ⟨lb, lo, none⟩) N c] w (DecOk C t w) := by
  have HL := hidden h0
  have hlen := h0.len_eq
  have hsz := line_size C t
  have hll := line_length C t t0 t1
  have hlt := h0.lt (by omega)
  have hN : N ≤ 1048614 := by omega
  have hN0 : 19 ≤ N := by omega
  have HSZ := hidden (hlen.trans hsz)
  clear hsz hll h0 hlen
  go_enter Tryd.func9, Tryd.ntmps9
  go_wp2_with fail
  refine (hasPrefix_any (some ⟨lb, lo, none⟩) N c (line C t) headB w HL.out (by show 9 ≤ N; omega) (by omega) ?_).mono ?_
  · intro i hi hi2
    have h9 : i < 9 := hi
    have := head_fin ⟨i, h9⟩
    have e : (line C t)[i]? = headS[i]? := List.getElem?_append_left h9
    rw [List.getElem?_eq_getElem hi2, this] at e
    exact Option.some.inj e
  rintro e w1 ⟨rfl, q1, hw1⟩
  have BEL1 : Hid (Below w.heap.size w w1) := by rw [hw1]; exact below_more (Below.refl _ _)
  clear hw1
  go_wp2_with fail
  go_loopw [2, 5] (fun v i wr => ∃ (k p : Nat), k ≤ C.length ∧ i = .int .i64 p ∧ Hid (p = pos C k) ∧ p + 10 ≤ N ∧ Hid (wr.ownsRow w.heap.size 5 1 v k (bcs (C.take k))) ∧ Hid (Below w.heap.size w wr)) (fun _ i _ => N - (intOf i).toNat)
  case atStart => exact ⟨0, 9, Nat.zero_le _, rfl, by show 9 = _; simp [pos, esc], by omega, World.ownsRow_nil _ _ _ _, BEL1.out⟩
  case round =>
    obtain ⟨k, p, hk, rfl, HP, hp, OWN, BEL⟩ := hrel
    have hszr := BEL.out.size
    by_cases hkC : k < C.length
    · have RP := hidden (pos_step C k hkC)
      have PL := pos_le C k hkC
      have hpN : p + (escB C[k]).length + 10 ≤ N := by
        have h1 := HSZ.out
        have h2 := HP.out
        have h3 := (itoa_length t t0 t1).1
        omega
      have CE : Hid (∀ j x, (escB C[k])[j]? = some x → wr.cell? ⟨lb, lo + (p + j), none⟩ = some (.int .u8 (x.toNat : Int))) := fun j x hx =>
        (BEL.out.cell hlt).trans (HL.out.at (p + j) x (by rw [HP.out, line_at C t k hkC j (List.getElem?_eq_some_iff.1 hx).1]; exact hx))
      have TK := hidden (List.take_succ_eq_append_getElem hkC)
      clear PL
      generalize C[k] = b at RP hpN CE TK
      have zp : (p : Int) < (N : Int) := by omega
      by_cases h92 : b.toNat = 92
      · have e92 : escB b = [92, 92] := by unfold escB; rw [if_pos h92]
        have hb : Hid (b = 92) := UInt8.toNat_inj.1 h92
        have c0 : wr.cell? ⟨lb, lo + p, none⟩ = some (.int .u8 92) := CE.out 0 92 (by rw [e92]; rfl)
        have c1 : wr.cell? ⟨lb, lo + (p + 1), none⟩ = some (.int .u8 92) := CE.out 1 92 (by rw [e92]; rfl)
        have E92 : Hid ((escB b).length = 2) := by show (escB b).length = 2; rw [e92]; rfl
        have hpN2 : p + 2 + 10 ≤ N := by have := E92.out; omega
        have zp1 : ¬ (N : Int) ≤ (p : Int) + 1 := by omega
        clear e92 h92 hpN
        go_wp2_with (at_builtin; refine wpList_more wr _ w.heap.size k _ (C.take k) [92] rfl (.tmp 49) (.tmp 50) rfl rfl Nat.one_pos (by show k + 1 ≤ _; omega) (by omega) OWN.out rfl rfl ?_; intro g2 cap2 w2 hM2)
        go_roundw
        case rel => exact ⟨k + 1, p + 2, by omega, by go_num, (by show p + 2 = _; rw [RP.out, E92.out, ← HP.out]), by omega, (by show World.ownsRow _ _ _ _ _ _ _; rw [TK.out, hb.out]; exact hM2.own), BEL.out.grown hM2.grown (by omega) (fun j hj => (OWN.out.lt j hj).1)⟩
        case measure => simp [intOf]; omega
      · by_cases hpr : 32 < b.toNat ∧ b.toNat < 127
        · have e1 : escB b = [b] := by unfold escB; rw [if_neg h92, if_pos hpr]
          have c0 : wr.cell? ⟨lb, lo + p, none⟩ = some (.int .u8 (b.toNat : Int)) := CE.out 0 b (by rw [e1]; rfl)
          have E1 : Hid ((escB b).length = 1) := by show (escB b).length = 1; rw [e1]; rfl
          have h32 : ((b.toNat : Int) == 32) = false := by simp; omega
          have h92' : ((b.toNat : Int) == 92) = false := by simp; omega
          have z1 : ¬ (b.toNat : Int) < 33 := by omega
          have z2 : ¬ (126 : Int) < (b.toNat : Int) := by omega
          have hpN2 : p + 1 + 10 ≤ N := by have := E1.out; omega
          clear e1 h92 hpr hpN
          go_wp2_with (at_builtin; refine wpList_more wr _ w.heap.size k _ (C.take k) [b] rfl (.tmp 113) (.tmp 115) rfl rfl Nat.one_pos (by show k + 1 ≤ _; omega) (by omega) OWN.out rfl rfl ?_; intro g2 cap2 w2 hM2)
          go_roundw
          case rel => exact ⟨k + 1, p + 1, by omega, by go_num, (by show p + 1 = _; rw [RP.out, E1.out, ← HP.out]), by omega, (by show World.ownsRow _ _ _ _ _ _ _; rw [TK.out]; exact hM2.own), BEL.out.grown hM2.grown (by omega) (fun j hj => (OWN.out.lt j hj).1)⟩
          case measure => simp [intOf]; omega
        · have e4 : escB b = [92, 120, hexDigit (b.toNat / 16), hexDigit (b.toNat % 16)] := by unfold escB; rw [if_neg h92, if_neg hpr]
          have hb1 := b.toNat_lt
          have c0 : wr.cell? ⟨lb, lo + p, none⟩ = some (.int .u8 92) := CE.out 0 92 (by rw [e4]; rfl)
          have c1 : wr.cell? ⟨lb, lo + (p + 1), none⟩ = some (.int .u8 120) := CE.out 1 120 (by rw [e4]; rfl)
          have c2 : wr.cell? ⟨lb, lo + (p + 2), none⟩ = some (.int .u8 ((hexDigit (b.toNat / 16)).toNat : Int)) := CE.out 2 _ (by rw [e4]; rfl)
          have c3 : wr.cell? ⟨lb, lo + (p + 3), none⟩ = some (.int .u8 ((hexDigit (b.toNat % 16)).toNat : Int)) := CE.out 3 _ (by rw [e4]; rfl)
          have E4 : Hid ((escB b).length = 4) := by show (escB b).length = 4; rw [e4]; rfl
          have hpN2 : p + 4 + 10 ≤ N := by have := E4.out; omega
          have zp1 : ¬ (N : Int) ≤ (p : Int) + 1 := by omega
          have zp3 : ¬ (N : Int) ≤ (p : Int) + 3 := by omega
          have HPR := hidden hpr
          clear e4 h92 hpN hpr
          obtain ⟨hi, HHI⟩ : ∃ hi : Nat, Hid (hi = b.toNat / 16) := ⟨_, hidden rfl⟩
          obtain ⟨low, HLO⟩ : ∃ low : Nat, Hid (low = b.toNat % 16) := ⟨_, hidden rfl⟩
          rw [← HHI.out] at c2
          rw [← HLO.out] at c3
          have bhi : hi < 16 := by have := HHI.out; omega
          have blo : low < 16 := by have := HLO.out; omega
          have ev : bits .or .u8 ((hi : Int) * 16) (low : Int) = (b.toNat : Int) := by
            rw [or_fin ⟨hi, bhi⟩ ⟨low, blo⟩]
            have h1 := HHI.out
            have h2 := HLO.out
            simp only
            omega
          have hbi : (b.toNat : Int) ≤ 255 := by omega
          have hbj : (0 : Int) ≤ (b.toNat : Int) := by omega
          clear hb1
          go_wp2_with fail
          refine (hexDigit_any hi bhi wr).mono ?_
          rintro e wx ⟨rfl, hwx⟩
          rw [hwx]
          clear hwx wx
          go_wp2_with fail
          refine (hexDigit_any low blo wr).mono ?_
          rintro e wx ⟨rfl, hwx⟩
          rw [hwx]
          clear hwx wx
          by_cases h33 : 33 ≤ b.toNat
          · have z1 : (33 : Int) ≤ (b.toNat : Int) := by omega
            have z2 : ¬ (b.toNat : Int) ≤ 126 := by have := HPR.out; omega
            go_wp2_with (at_builtin; refine wpList_more wr _ w.heap.size k _ (C.take k) [b] rfl (.tmp 101) (.tmp 103) rfl rfl Nat.one_pos (by show k + 1 ≤ _; omega) (by omega) OWN.out rfl rfl ?_; intro g2 cap2 w2 hM2)
            go_roundw
            case rel => exact ⟨k + 1, p + 4, by omega, by go_num, (by show p + 4 = _; rw [RP.out, E4.out, ← HP.out]), by omega, (by show World.ownsRow _ _ _ _ _ _ _; rw [TK.out]; exact hM2.own), BEL.out.grown hM2.grown (by omega) (fun j hj => (OWN.out.lt j hj).1)⟩
            case measure => simp [intOf]; omega
          · have z1 : ¬ (33 : Int) ≤ (b.toNat : Int) := by omega
            go_wp2_with (at_builtin; refine wpList_more wr _ w.heap.size k _ (C.take k) [b] rfl (.tmp 101) (.tmp 103) rfl rfl Nat.one_pos (by show k + 1 ≤ _; omega) (by omega) OWN.out rfl rfl ?_; intro g2 cap2 w2 hM2)
            go_roundw
            case rel => exact ⟨k + 1, p + 4, by omega, by go_num, (by show p + 4 = _; rw [RP.out, E4.out, ← HP.out]), by omega, (by show World.ownsRow _ _ _ _ _ _ _; rw [TK.out]; exact hM2.own), BEL.out.grown hM2.grown (by omega) (fun j hj => (OWN.out.lt j hj).1)⟩
            case measure => simp [intOf]; omega
    · have hkC' : k = C.length := by omega
      have HOWN := OWN
      rw [hkC', List.take_length] at HOWN
      have hpos : p = pos C C.length := by rw [HP.out, hkC']
      have hNp : N = p + 9 + (Lib.itoa t).length := by rw [hpos]; exact HSZ.out
      have CE : Hid (∀ j x, (tailS ++ Lib.itoa t)[j]? = some x → wr.cell? ⟨lb, lo + (p + j), none⟩ = some (.int .u8 (x.toNat : Int))) := fun j x hx =>
        (BEL.out.cell hlt).trans (HL.out.at (p + j) x (by rw [hpos, line_end C t j]; exact hx))
      have PRE : Hid (∀ i (h : i < tailB.size) (h2 : i < ((line C t).drop p).length), ((line C t).drop p)[i] = tailB[i]) := fun i h h2 => by
        have h9 : i < 9 := h
        have e1 := tail_fin ⟨i, h9⟩
        have e2 := line_end C t i
        have e3 : (tailS ++ Lib.itoa t)[i]? = tailS[i]? := List.getElem?_append_left h9
        have e4 : ((line C t).drop p)[i]? = (line C t)[p + i]? := List.getElem?_drop
        rw [hpos, e2, e3, e1, ← hpos, List.getElem?_eq_getElem h2] at e4
        exact Option.some.inj e4
      have HNP := hidden hNp
      have c0 : wr.cell? ⟨lb, lo + p, none⟩ = some (.int .u8 32) := CE.out 0 32 rfl
      have zp : (p : Int) < (N : Int) := by omega
      have zc : ¬ c = p := by omega
      clear hpos hNp HP hkC hkC' hk OWN
      go_wp2_with fail
      refine (hasPrefix_any (some ⟨lb, lo + p, none⟩) (N - p) (c - p) ((line C t).drop p) tailB wr ((HL.out.below BEL.out (Nat.le_refl _)).drop p) (by show 9 ≤ N - p; omega) (by omega) PRE.out).mono ?_
      rintro e w2 ⟨rfl, q2, hw2⟩
      have B2 : Below wr.heap.size wr w2 := by rw [hw2]; exact below_more (Below.refl _ _)
      have BEL2 := hidden (BEL.out.trans (B2.mono hszr))
      have CE2 : Hid (∀ j x, (Lib.itoa t)[j]? = some x → w2.cell? ⟨lb, lo + (p + 9 + j), none⟩ = some (.int .u8 (x.toNat : Int))) := fun j x hx =>
        (B2.cell (Nat.lt_of_lt_of_le hlt hszr)).trans (by
          have := CE.out (9 + j) x (by rw [List.getElem?_append_right (by show 9 ≤ 9 + j; omega)]; show (Lib.itoa t)[9 + j - 9]? = _; rw [show 9 + j - 9 = j by omega]; exact hx)
          rw [show p + (9 + j) = p + 9 + j by omega] at this
          exact this)
      have OWN2 := hidden (owns_below HOWN.out B2 (Nat.le_refl _))
      clear hw2 B2 CE PRE c0 HOWN BEL
      by_cases tneg : t < 0
      · have hit : Lib.itoa t = 45 :: Lib.decDigits t.natAbs := by unfold Lib.itoa; rw [if_pos tneg]
        rw [hit] at CE2 HNP
        have DL := dec_length 18 t.natAbs (by omega)
        have DD := hidden (dec_digit t.natAbs)
        have DV := hidden (valOf_dec t.natAbs)
        have DH := hidden (dec_head t.natAbs)
        clear hit
        generalize Lib.decDigits t.natAbs = DS at CE2 HNP DL DD DV DH
        have h0 : 0 < DS.length := by omega
        obtain ⟨m, HM⟩ : ∃ m, Hid (m = DS.length) := ⟨_, hidden rfl⟩
        have hNP := HNP.out
        rw [List.length_cons, ← HM.out] at hNP
        rw [← HM.out] at DL h0
        have m0 : 1 ≤ m := DL.1
        have m1 : m ≤ 19 := DL.2
        have n0 : p + 9 + 1 + m ≤ N := by omega
        have n1 : N ≤ p + 9 + 1 + m := by omega
        have nm : N - (p + 9 + 1) = m := by omega
        have hD0 : 0 < DS.length := by have := HM.out; omega
        obtain ⟨x0, hx0⟩ : ∃ x0 : UInt8, Hid (x0 = DS[0]) := ⟨_, hidden rfl⟩
        have cm : w2.cell? ⟨lb, lo + (p + 9), none⟩ = some (.int .u8 45) := CE2.out 0 45 rfl
        have c0 : w2.cell? ⟨lb, lo + (p + 9 + 1), none⟩ = some (.int .u8 (x0.toNat : Int)) := CE2.out 1 _ (by rw [List.getElem?_cons_succ, List.getElem?_eq_getElem hD0, hx0.out])
        have d0 := DD.out x0 (by rw [hx0.out]; exact List.getElem_mem hD0)
        have z9 : (p : Int) + 9 < (N : Int) := by omega
        have zc9 : ¬ c = p + 9 + 1 := by omega
        have tu : t.natAbs ≤ 9223372036854775808 := by omega
        have zm0 : ((m : Int) == 0) = false := by simp; omega
        have zm1 : ¬ (19 : Int) < (m : Int) := by omega
        have z48 : ((x0.toNat : Int) == 48) = false := by have := DH.out (by omega) x0 (by rw [List.getElem?_eq_getElem hD0, hx0.out]); simp; omega
        clear DL HNP hNP d0 hx0 hD0
        go_wp2_with fail
        go_loopw [2, 15, 16] (fun a v i wx => ∃ (j y : Nat), j ≤ m ∧ i = .int .i64 j ∧ v = .int .u64 y ∧ Hid (y = valOf (DS.take j)) ∧ y ≤ 9223372036854775808 ∧ Hid (w2.ownsRow w.heap.size 5 1 a C.length (bcs C)) ∧ wx = w2) (fun _ _ i _ => m - (intOf i).toNat)
        case atStart => exact ⟨0, 0, Nat.zero_le _, rfl, rfl, by show 0 = _; simp [valOf], by omega, OWN2.out, rfl⟩
        case round =>
          obtain ⟨j, y, hj, rfl, rfl, HY, hy, OWN3, rfl⟩ := hrel
          by_cases hjm : j < m
          · have hjD : j < DS.length := by have := HM.out; omega
            have ST := valOf_step DS j hjD
            have hle := valOf_take_le DS (j + 1)
            rw [DV.out] at hle
            have hcj : wr.cell? ⟨lb, lo + (p + 9 + 1) + j, none⟩ = some (.int .u8 ((DS[j]).toNat : Int)) := by
              have := CE2.out (j + 1) _ (by rw [List.getElem?_cons_succ]; exact List.getElem?_eq_getElem hjD)
              rw [show lo + (p + 9 + (j + 1)) = lo + (p + 9 + 1) + j by omega] at this
              exact this
            have hd := DD.out _ (List.getElem_mem hjD)
            generalize DS[j] = d at ST hcj hd
            rw [← HY.out] at ST
            have z1 : ¬ (d.toNat : Int) < 48 := by omega
            have z2 : ¬ (57 : Int) < (d.toNat : Int) := by omega
            have z3 : (y : Int) * 10 ≤ 9223372036854775808 := by omega
            have z4 : (y : Int) * 10 + ((d.toNat : Int) - 48) ≤ 9223372036854775808 := by omega
            have z5 : (0 : Int) ≤ (y : Int) * 10 := by omega
            have z6 : (j : Int) < (m : Int) := by omega
            have ST' := hidden ST
            have hy2 : y * 10 + (d.toNat - 48) ≤ 9223372036854775808 := by omega
            have hcast : (y : Int) * 10 + ((d.toNat : Int) - 48) = ((y * 10 + (d.toNat - 48) : Nat) : Int) := by omega
            have HCA := hidden hcast
            clear hcast ST hle hd hjD
            go_wp2_with fail
            go_roundw
            case rel => exact ⟨j + 1, y * 10 + (d.toNat - 48), by omega, by go_num, congrArg (Value.int .u64) HCA.out, by show _ = _; rw [ST'.out], hy2, OWN3.out, by trivial⟩
            case measure => simp [intOf]; omega
          · have hyu : y = t.natAbs := by
              rw [HY.out, ← DV.out, List.take_of_length_le]
              have := HM.out
              omega
            have z6 : ¬ (j : Int) < (m : Int) := by omega
            have z7 : ¬ (9223372036854775808 : Int) < (y : Int) := by omega
            have z8 : (1 : Int) ≤ (y : Int) := by omega
            have z10 : (y : Int) - 1 ≤ 9223372036854775807 := by omega
            have HYT : Hid ((y : Int) = -t) := by show (y : Int) = -t; omega
            clear hyu
            go_wp2_with fail
            have ht : -((y : Int) - 1) - 1 = t := by have := HYT.out; omega
            rw [ht]
            go_ret3
            exact DecOk.mk OWN3.out BEL2.out
      · have hit : Lib.itoa t = Lib.decDigits t.toNat := by unfold Lib.itoa; rw [if_neg tneg]
        rw [hit] at CE2 HNP
        have DL := dec_length 18 t.toNat (by omega)
        have DD := hidden (dec_digit t.toNat)
        have DV := hidden (valOf_dec t.toNat)
        have DH := hidden (dec_head t.toNat)
        have DZ : Hid (t.toNat = 0 → Lib.decDigits t.toNat = [48]) := fun h => by rw [h]; exact dec_zero
        clear hit
        generalize Lib.decDigits t.toNat = DS at CE2 HNP DL DD DV DH DZ
        have h0 : 0 < DS.length := by omega
        obtain ⟨m, HM⟩ : ∃ m, Hid (m = DS.length) := ⟨_, hidden rfl⟩
        rw [← HM.out] at DL HNP h0
        have m0 : 1 ≤ m := DL.1
        have m1 : m ≤ 19 := DL.2
        have n0 : p + 9 + m ≤ N := by have := HNP.out; omega
        have n1 : N ≤ p + 9 + m := by have := HNP.out; omega
        have nm : N - (p + 9) = m := by omega
        have hD0 : 0 < DS.length := by have := HM.out; omega
        obtain ⟨x0, hx0⟩ : ∃ x0 : UInt8, Hid (x0 = DS[0]) := ⟨_, hidden rfl⟩
        have c0 : w2.cell? ⟨lb, lo + (p + 9), none⟩ = some (.int .u8 (x0.toNat : Int)) := CE2.out 0 _ (by rw [List.getElem?_eq_getElem hD0, hx0.out])
        have d0 := DD.out x0 (by rw [hx0.out]; exact List.getElem_mem hD0)
        have z45 : ((x0.toNat : Int) == 45) = false := by simp; omega
        have z9 : (p : Int) + 9 < (N : Int) := by omega
        have zc9 : ¬ c = p + 9 := by omega
        have tu : t.toNat ≤ 9223372036854775807 := by omega
        have zm0 : ((m : Int) == 0) = false := by simp; omega
        have zm1 : ¬ (19 : Int) < (m : Int) := by omega
        clear DL HNP
        by_cases tz : t = 0
        · have hDZ := DZ.out (by omega)
          have hx48 : x0 = 48 := by rw [hx0.out]; simp [hDZ]
          have z48 : ((x0.toNat : Int) == 48) = true := by rw [hx48]; rfl
          have zm : ¬ (1 : Int) < (m : Int) := by
            have := HM.out
            rw [hDZ, List.length_singleton] at this
            omega
          clear d0 hx0 hD0 hDZ hx48 tz
          go_wp2_with fail
          go_loopw [2, 15, 16] (fun a v i wx => ∃ (j y : Nat), j ≤ m ∧ i = .int .i64 j ∧ v = .int .u64 y ∧ Hid (y = valOf (DS.take j)) ∧ y ≤ 9223372036854775807 ∧ Hid (w2.ownsRow w.heap.size 5 1 a C.length (bcs C)) ∧ wx = w2) (fun _ _ i _ => m - (intOf i).toNat)
          case atStart => exact ⟨0, 0, Nat.zero_le _, rfl, rfl, by show 0 = _; simp [valOf], by omega, OWN2.out, rfl⟩
          case round =>
            obtain ⟨j, y, hj, rfl, rfl, HY, hy, OWN3, rfl⟩ := hrel
            by_cases hjm : j < m
            · have hjD : j < DS.length := by have := HM.out; omega
              have ST := valOf_step DS j hjD
              have hle := valOf_take_le DS (j + 1)
              rw [DV.out] at hle
              have hcj : wr.cell? ⟨lb, lo + (p + 9) + j, none⟩ = some (.int .u8 ((DS[j]).toNat : Int)) := by
                have := CE2.out j _ (List.getElem?_eq_getElem hjD)
                rw [← Nat.add_assoc lo] at this
                exact this
              have hd := DD.out _ (List.getElem_mem hjD)
              generalize DS[j] = d at ST hcj hd
              rw [← HY.out] at ST
              have z1 : ¬ (d.toNat : Int) < 48 := by omega
              have z2 : ¬ (57 : Int) < (d.toNat : Int) := by omega
              have z3 : (y : Int) * 10 ≤ 9223372036854775807 := by omega
              have z4 : (y : Int) * 10 + ((d.toNat : Int) - 48) ≤ 9223372036854775807 := by omega
              have z5 : (0 : Int) ≤ (y : Int) * 10 := by omega
              have z6 : (j : Int) < (m : Int) := by omega
              have ST' := hidden ST
              have hy2 : y * 10 + (d.toNat - 48) ≤ 9223372036854775807 := by omega
              have hcast : (y : Int) * 10 + ((d.toNat : Int) - 48) = ((y * 10 + (d.toNat - 48) : Nat) : Int) := by omega
              have HCA := hidden hcast
              clear hcast ST hle hd hjD
              go_wp2_with fail
              go_roundw
              case rel => exact ⟨j + 1, y * 10 + (d.toNat - 48), by omega, by go_num, congrArg (Value.int .u64) HCA.out, by show _ = _; rw [ST'.out], hy2, OWN3.out, by trivial⟩
              case measure => simp [intOf]; omega
            · have hyu : y = t.toNat := by
                rw [HY.out, ← DV.out, List.take_of_length_le]
                have := HM.out
                omega
              have z6 : ¬ (j : Int) < (m : Int) := by omega
              have z7 : ¬ (9223372036854775807 : Int) < (y : Int) := by omega
              have HYT : Hid ((y : Int) = t) := by show (y : Int) = t; omega
              clear hyu
              go_wp2_with fail
              rw [HYT.out]
              go_ret3
              exact DecOk.mk OWN3.out BEL2.out
        · have z48 : ((x0.toNat : Int) == 48) = false := by have := DH.out (by omega) x0 (by rw [List.getElem?_eq_getElem hD0, hx0.out]); simp; omega
          clear d0 hx0 hD0
          go_wp2_with fail
          go_loopw [2, 15, 16] (fun a v i wx => ∃ (j y : Nat), j ≤ m ∧ i = .int .i64 j ∧ v = .int .u64 y ∧ Hid (y = valOf (DS.take j)) ∧ y ≤ 9223372036854775807 ∧ Hid (w2.ownsRow w.heap.size 5 1 a C.length (bcs C)) ∧ wx = w2) (fun _ _ i _ => m - (intOf i).toNat)
          case atStart => exact ⟨0, 0, Nat.zero_le _, rfl, rfl, by show 0 = _; simp [valOf], by omega, OWN2.out, rfl⟩
          case round =>
            obtain ⟨j, y, hj, rfl, rfl, HY, hy, OWN3, rfl⟩ := hrel
            by_cases hjm : j < m
            · have hjD : j < DS.length := by have := HM.out; omega
              have ST := valOf_step DS j hjD
              have hle := valOf_take_le DS (j + 1)
              rw [DV.out] at hle
              have hcj : wr.cell? ⟨lb, lo + (p + 9) + j, none⟩ = some (.int .u8 ((DS[j]).toNat : Int)) := by
                have := CE2.out j _ (List.getElem?_eq_getElem hjD)
                rw [← Nat.add_assoc lo] at this
                exact this
              have hd := DD.out _ (List.getElem_mem hjD)
              generalize DS[j] = d at ST hcj hd
              rw [← HY.out] at ST
              have z1 : ¬ (d.toNat : Int) < 48 := by omega
              have z2 : ¬ (57 : Int) < (d.toNat : Int) := by omega
              have z3 : (y : Int) * 10 ≤ 9223372036854775807 := by omega
              have z4 : (y : Int) * 10 + ((d.toNat : Int) - 48) ≤ 9223372036854775807 := by omega
              have z5 : (0 : Int) ≤ (y : Int) * 10 := by omega
              have z6 : (j : Int) < (m : Int) := by omega
              have ST' := hidden ST
              have hy2 : y * 10 + (d.toNat - 48) ≤ 9223372036854775807 := by omega
              have hcast : (y : Int) * 10 + ((d.toNat : Int) - 48) = ((y * 10 + (d.toNat - 48) : Nat) : Int) := by omega
              have HCA := hidden hcast
              clear hcast ST hle hd hjD
              go_wp2_with fail
              go_roundw
              case rel => exact ⟨j + 1, y * 10 + (d.toNat - 48), by omega, by go_num, congrArg (Value.int .u64) HCA.out, by show _ = _; rw [ST'.out], hy2, OWN3.out, by trivial⟩
              case measure => simp [intOf]; omega
            · have hyu : y = t.toNat := by
                rw [HY.out, ← DV.out, List.take_of_length_le]
                have := HM.out
                omega
              have z6 : ¬ (j : Int) < (m : Int) := by omega
              have z7 : ¬ (9223372036854775807 : Int) < (y : Int) := by omega
              have HYT : Hid ((y : Int) = t) := by show (y : Int) = t; omega
              clear hyu
              go_wp2_with fail
              rw [HYT.out]
              go_ret3
              exact DecOk.mk OWN3.out BEL2.out
end Go.Proofs.Qxb6600202aDoor
