import Derived.Test.Qxb6001785aMain
import Derived.OpenShut
namespace Go.Proofs.Qxb6001785a
open Go.RowKit

theorem hidden {p : Prop} (h : p) : Hid p := h

set_option maxHeartbeats 4000000 in
set_option maxRecDepth 100000 in
theorem main_any (a0 : Option Addr) (l0 c0 : Nat) (ks : Nat → ByteArray) (a1 : Option Addr) (l1 c1 : Nat) (kd : Nat → Int) (a2 : Option Addr) (l2 c2 : Nat) (ts : Nat → ByteArray) (key : ByteArray) (w : World)
    (h0 : StrRow w a0 l0 ks) (h1 : IntRow .u8 w a1 l1 kd) (h2 : StrRow w a2 l2 ts)
    (b0 : l0 ≤ 65536) (b1 : l1 ≤ 65536) (b2 : l2 ≤ 65536) (b3 : key.size ≤ 1048576) :
    Calls Try.prog 3 #[.slice a0 l0 c0, .slice a1 l1 c1, .slice a2 l2 c2, .string key] w (Fine w) := by
  have H5 := zzBytes_any a0 l0 c0 ks a1 l1 c1 a2 l2 c2 ts key w h0 h1.len h2 (by omega)
  have H0 : Hid _ := h0
  have H1 : Hid _ := h1
  have H2 : Hid _ := h2
  clear h0 h1 h2
  by_cases hT : (key.size : Int) + l1 + 16 * l0 + 16 * l2 ≤ 1048576
  · go_enter Try.func3, Try.ntmps3
    go_wp2_with fail
    refine H5.mono ?_
    rintro e w' ⟨⟨b, rfl, hz⟩, rfl⟩
    have HZ : Hid _ := hz
    clear H5 hz
    cases b
    · go_wp2_with fail
      go_ret
      exact ⟨rfl, Below.refl _ _⟩
    have HZ2 : Hid _ := HZ.out rfl
    clear HZ
    go_wp2_with fail
    -- loop 1: the keys' bytes
    go_loop [9, 10] (fun t i => ∃ (k : Nat) (n : Int), k ≤ l0 ∧ i = .int .i64 k ∧ t = .int .i64 n ∧ 0 ≤ n ∧ n ≤ 1048576) (fun _ i => l0 - (intOf i).toNat)
    case atStart => exact ⟨0, _, Nat.zero_le _, rfl, rfl, by omega, by omega⟩
    case round =>
    obtain ⟨k, n, hk, rfl, rfl, hn0, hn1⟩ := hrel
    by_cases hlt : k < l0
    · obtain ⟨b, off, rfl, _, hc⟩ := H0.out.cells (by omega)
      have hck := hc k hlt
      have hsk := HZ2.out.1 k hlt
      clear hc
      go_wp2_with fail
      · go_ret; exact ⟨rfl, Below.refl _ _⟩
      · go_round
        case rel => exact ⟨k + 1, _, by omega, by go_num, rfl, by omega, by omega⟩
        case measure => simp [intOf]; omega
    go_wp2_with fail
    clear hlt hk
    -- loop 2: the texts' bytes
    go_loop [9, 11] (fun t i => ∃ (k : Nat) (n : Int), k ≤ l2 ∧ i = .int .i64 k ∧ t = .int .i64 n ∧ 0 ≤ n ∧ n ≤ 1048576) (fun _ i => l2 - (intOf i).toNat)
    case atStart => exact ⟨0, _, Nat.zero_le _, rfl, rfl, by omega, by omega⟩
    case round =>
    obtain ⟨k2, n2, hk2, rfl, rfl, hn20, hn21⟩ := hrel
    by_cases hlt : k2 < l2
    · obtain ⟨b, off, rfl, _, hc⟩ := H2.out.cells (by omega)
      have hck := hc k2 hlt
      have hsk := HZ2.out.2 k2 hlt
      clear hc
      go_wp2_with fail
      · go_ret; exact ⟨rfl, Below.refl _ _⟩
      · go_round
        case rel => exact ⟨k2 + 1, _, by omega, by go_num, rfl, by omega, by omega⟩
        case measure => simp [intOf]; omega
    by_cases hA : l1 = l0
    · by_cases hB : l2 = l0
      · subst hA
        subst hB
        go_wp2_with fail
        clear hlt hk2
        -- loop 3: the keys stand in order
        go_loopw [12] (fun i wr => ∃ (k q : Nat), 1 ≤ k ∧ i = .int .i64 k ∧ wr = w'.drewN q ∧ (k ≤ l2 ∨ k = 1) ∧ Hid (Incr ks k)) (fun i _ => l2 - (intOf i).toNat)
        case atStart => exact ⟨1, 0, by omega, rfl, rfl, by omega, fun j h1 h2 => by omega⟩
        case round =>
        obtain ⟨k3, q3, hk3, rfl, rfl, hk3', I3⟩ := hrel
        by_cases hlt3 : k3 < l2
        · obtain ⟨b, off, rfl, _, hc⟩ := H0.out.cells (by omega)
          have hca := hc (k3 - 1) (by omega)
          have hcb := hc k3 hlt3
          have hz1 : (0 : Int) ≤ (k3 : Int) - 1 := by omega
          have hz2 : (k3 : Int) - 1 < (l2 : Int) := by omega
          have hz3 : (k3 : Int) < (l2 : Int) := by omega
          clear hc hk3'
          cases hbl : Op.bytesLess (ks (k3 - 1)).toList (ks k3).toList
          · go_wp2_with fail
            go_quiet (fail)
            go_wp2_with fail
            go_ret
            exact ⟨rfl, below_more (below_more (Below.refl _ _))⟩
          · have HBL : Hid _ := hbl
            go_wp2_with fail
            go_quiet (fail)
            go_wp2_with fail
            go_roundw
            case rel => exact ⟨k3 + 1, q3 + nq, by omega, by go_num, rfl, by omega, fun j h1 h2 => by
              rcases Nat.lt_or_ge j k3 with h | h
              · exact I3.out j h1 h
              · obtain rfl : j = k3 := by omega
                exact HBL.out⟩
            case measure => simp [intOf]; omega
        have INC : Hid (Incr ks l2) := fun j h1 h2 => I3.out j h1 (by omega)
        go_wp2_with fail
        clear hlt3 hk3' hk3 I3
        -- loop 4: the kinds
        go_loop [13] (fun i => ∃ (k : Nat), k ≤ l2 ∧ i = .int .i64 k ∧ Hid (∀ j, j < k → kd j ≤ 5)) (fun i => l2 - (intOf i).toNat)
        case atStart => exact ⟨0, Nat.zero_le _, rfl, fun _ h => absurd h (Nat.not_lt_zero _)⟩
        case round =>
        obtain ⟨k4, hk4, rfl, I4⟩ := hrel
        by_cases hlt4 : k4 < l2
        · obtain ⟨b, off, rfl, _, hc⟩ := H1.out.cells (by omega)
          have hca := hc k4 (by omega)
          clear hc
          go_wp2_with fail
          · go_ret; exact ⟨rfl, below_more (Below.refl _ _)⟩
          · have h5 : kd k4 ≤ 5 := by assumption
            go_round
            case rel => exact ⟨k4 + 1, by omega, by go_num, fun j hj => by
              rcases Nat.lt_or_ge j k4 with h | h
              · exact I4.out j h
              · obtain rfl : j = k4 := by omega
                exact h5⟩
            case measure => simp [intOf]; omega
        have KD : Hid (∀ j, j < l2 → 0 ≤ kd j ∧ kd j ≤ 5) := fun j hj => ⟨(bounds_u8 (H1.out.wf j hj)).1, I4.out j (by omega)⟩
        obtain ⟨i0, hi, hi0, hi1, hi2⟩ := info_parts Try.info29
        go_wp2_with (at_make; refine wpList_make_own _ rfl _ _ 25 rfl w'.heap.size 29 i0 _ 3 Try.underlying25 hi hi0 hi1 _ _ _ (2 * l2) rfl rfl (by omega) ?b2 ?b3 (Nat.le_refl _) ?_)
        case b2 => omega
        case b3 => unfold maxLen; omega
        intro w1 hown1 hgrow1
        go_wp2_with fail
        clear hlt4 hk4 I4
        have HG1 : Hid _ := hgrow1
        have HO1 : Hid _ := hown1
        clear hgrow1 hown1
        -- loop 5: the children
        go_loopw [14, 15] (fun ch i wr => ∃ (k : Nat), k ≤ l2 ∧ i = .int .i64 k ∧ ch = .slice (some ⟨w'.heap.size, 0, none⟩) (2 * k) (2 * l2) ∧
          Hid (wr.ownsRow w'.heap.size 29 3 (.slice (some ⟨w'.heap.size, 0, none⟩) (2 * k) (2 * l2)) (2 * k) (kids ks ts kd k)) ∧ Hid (Below w'.heap.size w' wr)) (fun _ i _ => l2 - (intOf i).toNat)
        case atStart => exact ⟨0, Nat.zero_le _, rfl, rfl, HO1.out, (below_more (Below.refl _ w')).grown HG1.out (Nat.le_refl _) (fun k h => by cases h)⟩
        case round =>
        obtain ⟨k5, hk5, rfl, rfl, OWN, BEL⟩ := hrel
        by_cases hlt5 : k5 < l2
        · obtain ⟨bk, ok, rfl, hbk, hck⟩ := H0.out.cells (by omega)
          obtain ⟨bd, od, rfl, hbd, hcd⟩ := H1.out.cells (by omega)
          obtain ⟨bt, ot, rfl, hbt, hct⟩ := H2.out.cells (by omega)
          have ck : wr.cell? ⟨bk, ok + k5, none⟩ = some (.string (ks k5)) := (BEL.out.cell (by exact hbk)).trans (hck k5 hlt5)
          have hsz := BEL.out.size
          have HCD : Hid _ := hcd k5 hlt5
          have HCT : Hid _ := hct k5 hlt5
          clear hck hcd hct
          go_wp2_with (first
            | (go_at_call 6; refine (leaf_any 3 _ _ (by omega) (by omega)).mono ?_; rintro e w' ⟨rfl, rfl⟩)
            | (at_builtin; refine wpList_append_fits _ rfl (.tmp 139) (.tmp 145) 25 rfl w'.heap.size 29 i0 3 Try.underlying25 hi hi1 w'.heap.size (2 * k5) (2 * l2) _ rfl ((OWN.out.alloc _).alloc _) ⟨wr.heap.size + 1, 0, none⟩ 1 1 [.string (ks k5), .pointer none, .int .u64 3] rfl rfl (three_new _ _ (by simp) _ _ _ _) (three_one _ _) (by omega) ?_; intro w2 hown2 hgrow2))
          have BEL2 : Hid (Below w'.heap.size w' w2) := ((BEL.out.alloc hsz _).alloc (by simp; omega) _).grown hgrow2 (by simp; omega) (fun k h => by cases h; exact Nat.le_refl _)
          have OWN2 := hidden hown2
          have cd2 : w2.cell? ⟨bd, od + k5, none⟩ = some (.int .u8 (kd k5)) := (BEL2.out.cell (by exact hbd)).trans HCD.out
          have ct2 : w2.cell? ⟨bt, ot + k5, none⟩ = some (.string (ts k5)) := (BEL2.out.cell (by exact hbt)).trans HCT.out
          have hsz2 := BEL2.out.size
          have hk50 := (KD.out k5 hlt5).1
          have hk51 := (KD.out k5 hlt5).2
          clear ck hown2 hgrow2
          have hz5 : (k5 : Int) < (l2 : Int) := by omega
          have OWN2' := hidden (fun X Y => ((OWN2.out.alloc X).alloc Y).drew)
          have BEL2' := hidden (fun X Y => ((BEL2.out.alloc hsz2 X).alloc (by simp; omega) Y).drew)
          go_region_held3 (fun x => x.cell? ⟨bd, od + k5, none⟩ = some (.int .u8 (kd k5)) ∧ x.cell? ⟨bt, ot + k5, none⟩ = some (.string (ts k5))) (first | (exact ⟨cd2, ct2⟩) | (exact ⟨cd3, ct3⟩) | go_keep)
            (first
              | (go_at_call 6; refine (leaf_any (kd k5) _ _ hk50 hk51).mono ?_; rintro e w' ⟨rfl, rfl⟩)
              | (refine step_fits rfl (.tmp 147) (.tmp 157) 25 rfl w'.heap.size 29 i0 3 Try.underlying25 hi hi1 w'.heap.size (2 * k5 + 1) (2 * l2) (kids ks ts kd k5 ++ [.string (ks k5), .pointer none, .int .u64 3]) ?s1 ?s2 ⟨w2.heap.size + 1, 0, none⟩ 1 1 [.string (ts k5), .pointer none, .int .u64 (kd k5)] ?s3 rfl ?s4 (three_one _ _) (by omega) ?s5; (case s1 => simp [Act.eval]); (case s2 => exact OWN2'.out _ _); (case s3 => simp [Act.eval]); (case s4 => intro j u h; exact three_new (w2.alloc _) _ (by simp) _ _ _ 29 j u h); intro w3 hown3 hgrow3; have BEL3 := hidden ((BEL2'.out _ _).grown hgrow3 (by simp; omega) (fun k h => by cases h; exact Nat.le_refl _)); have OWN3 := hidden hown3; clear hown3 hgrow3; have cd3 : w3.cell? ⟨bd, od + k5, none⟩ = some (.int .u8 (kd k5)) := (BEL3.out.cell (by exact hbd)).trans HCD.out; have ct3 : w3.cell? ⟨bt, ot + k5, none⟩ = some (.string (ts k5)) := (BEL3.out.cell (by exact hbt)).trans HCT.out))
          go_wp2_with fail
          go_roundw
          case rel => exact ⟨k5 + 1, by omega, by go_num, rfl, OWN3.out, BEL3.out⟩
          case measure => simp [intOf]; omega
        obtain rfl : k5 = l2 := by omega
        have hsz := BEL.out.size
        have hown := OWN.out
        have hBlt : w'.heap.size < wr.heap.size := (hown.lt w'.heap.size rfl).2
        have HCL : Hid (∀ i, i < k5 → wr.cell? ⟨w'.heap.size, 2 * i * 3, none⟩ = some (.string (ks i)) ∧ wr.cell? ⟨w'.heap.size, (2 * i + 1) * 3, none⟩ = some (.string (ts i)) ∧ wr.cell? ⟨w'.heap.size, (2 * i + 1) * 3 + 2, none⟩ = some (.int .u64 (kd i))) := by
          intro i hi
          obtain ⟨e1, e2, e3⟩ := kids_at ks ts kd i k5 hi
          have f1 := hown.cells (g := w'.heap.size) rfl _ _ e1
          have f2 := hown.cells (g := w'.heap.size) rfl _ _ e2
          have f3 := hown.cells (g := w'.heap.size) rfl _ _ e3
          rw [Go.WideShapes.add_plain] at f1 f2 f3
          rw [show 2 * i * 3 = 0 + 6 * i by omega, show (2 * i + 1) * 3 = 0 + (6 * i + 3) by omega, show 0 + (6 * i + 3) + 2 = 0 + (6 * i + 5) by omega]
          exact ⟨f1, f2, f3⟩
        clear hown OWN
        by_cases hpos : 0 < k5
        · go_wp2_with fail
          refine (node_any _ _ _ _ (by omega)).mono ?_
          rintro e w4 ⟨rfl, hbox, hlt4, hB4⟩
          go_wp2_with fail
          have G : Calls Try.prog 8 #[.pointer (some ⟨w4.heap.size, 0, none⟩), .string key] (w4.alloc (.cells #[.string ByteArray.empty, .pointer (some ⟨wr.heap.size, 0, none⟩), .int .u64 5] 29)) (GivenPost w'.heap.size k5 ks kd key (w4.alloc (.cells #[.string ByteArray.empty, .pointer (some ⟨wr.heap.size, 0, none⟩), .int .u64 5] 29))) := by
            refine zzgiven_of _ _ _ _ (fun e w' h => by obtain ⟨po, he, _⟩ := h.got; exact ⟨po, he⟩) (given_some w4.heap.size wr.heap.size w'.heap.size (2 * k5) k5 ks kd key _ (by omega) ?_ ?_ ?_ ?_ ?_ KD.out (INC.out.mono key))
            · rw [World.cell?_alloc_at _ _ _ _ (by simp)]; rfl
            · rw [World.cell?_alloc_at _ _ _ _ (by simp)]; rfl
            · rw [World.cell?_alloc_past _ _ _ (by exact hlt4)]; exact hbox
            · intro i hi; rw [World.cell?_alloc_past _ _ _ (by show w'.heap.size < _; omega), hB4.cell (by exact hBlt)]; exact (HCL.out i hi).1
            · intro i hi; rw [World.cell?_alloc_past _ _ _ (by show w'.heap.size < _; omega), hB4.cell (by exact hBlt)]; exact (HCL.out i hi).2.2
          refine G.mono ?_
          clear G
          intro e w6 hG
          obtain ⟨po, rfl, GOT0, hB6⟩ := hG.got
          have GOT := hidden GOT0
          clear hG GOT0
          have BEL6 : Hid (Below w'.heap.size w' w6) := (BEL.out.trans (hB4.mono hsz)).trans (((Below.refl w'.heap.size w4).alloc (by omega) _).trans (hB6.mono (by simp; omega)))
          have HK6 : Hid (∀ i, i < k5 → w6.cell? ⟨w'.heap.size, (2 * i + 1) * 3, none⟩ = some (.string (ts i)) ∧ w6.cell? ⟨w'.heap.size, (2 * i + 1) * 3 + 2, none⟩ = some (.int .u64 (kd i))) := by
            intro i hi
            rw [hB6.cell (by show w'.heap.size < _; simp; omega), hB6.cell (by show w'.heap.size < _; simp; omega), World.cell?_alloc_past _ _ _ (by show w'.heap.size < _; omega), World.cell?_alloc_past _ _ _ (by show w'.heap.size < _; omega), hB4.cell (by exact hBlt), hB4.cell (by exact hBlt)]
            exact (HCL.out i hi).2
          clear hbox hB4 hB6 hlt4 HCL hpos
          go_wp2_with fail
          -- loop 6: the linear search
          go_loop [18, 19] (fun wt i => ∃ (k : Nat) (j : Int), k ≤ k5 ∧ i = .int .i64 k ∧ wt = .int .i64 j ∧ Hid (WantIs ks key k j)) (fun _ i => k5 - (intOf i).toNat)
          case atStart => exact ⟨0, -1, Nat.zero_le _, rfl, rfl, WantIs.zero _ _⟩
          case round =>
          obtain ⟨k6, j6, hk6, rfl, rfl, WI⟩ := hrel
          by_cases hlt6 : k6 < k5
          · obtain ⟨bk, ok, rfl, hbk, hck⟩ := H0.out.cells (by omega)
            have ck : w6.cell? ⟨bk, ok + k6, none⟩ = some (.string (ks k6)) := (BEL6.out.cell (by exact hbk)).trans (hck k6 hlt6)
            clear hck
            cases hs : (ks k6).toList == key.toList
            · have WI2 := hidden (WI.out.miss hs)
              go_wp2_with fail
              go_round
              case rel => exact ⟨k6 + 1, _, by omega, by go_num, rfl, WI2⟩
              case measure => simp [intOf]; omega
            · have WI2 := hidden (WI.out.hit hs)
              go_wp2_with fail
              go_round
              case rel => exact ⟨k6 + 1, _, by omega, by go_num, rfl, WI2⟩
              case measure => simp [intOf]; omega
          obtain rfl : k6 = k5 := by omega
          rcases got_end INC.out WI.out GOT.out with ⟨rfl, rfl⟩ | ⟨t, ht, rfl, hd0, rfl⟩ | ⟨t, ht, rfl, hd0, rfl⟩
          · clear WI GOT
            go_wp2_with fail
            go_ret
            exact ⟨rfl, BEL6.out⟩
          · clear WI GOT
            obtain ⟨bd, od, rfl, hbd, hcd⟩ := H1.out.cells (by omega)
            have cd : w6.cell? ⟨bd, od + t, none⟩ = some (.int .u8 (kd t)) := (BEL6.out.cell (by exact hbd)).trans (hcd t ht)
            rw [hd0] at cd
            clear hcd hd0
            have hz6 : (t : Int) < (k6 : Int) := by omega
            go_wp2_with fail
            go_ret
            exact ⟨rfl, BEL6.out⟩
          · clear WI GOT
            obtain ⟨bd, od, rfl, hbd, hcd⟩ := H1.out.cells (by omega)
            obtain ⟨bt, ot, rfl, hbt, hct⟩ := H2.out.cells (by omega)
            have cd : w6.cell? ⟨bd, od + t, none⟩ = some (.int .u8 (kd t)) := (BEL6.out.cell (by exact hbd)).trans (hcd t ht)
            have ct : w6.cell? ⟨bt, ot + t, none⟩ = some (.string (ts t)) := (BEL6.out.cell (by exact hbt)).trans (hct t ht)
            have KK := hidden (HK6.out t ht)
            have KB := hidden (KD.out t ht)
            clear hcd hct
            have hz6 : (t : Int) < (k6 : Int) := by omega
            have hd1 : (kd t == 0) = false := by simp [hd0]
            clear hd0
            go_wp2_with fail
            go_quiet ((first | (go_at_call 9; exact Calls.quiet_of_same (kind_any _ _ _ _ KB.out.1 KB.out.2 KK.out.2)) | (go_at_call 10; exact Calls.quiet_of_same (text_any _ _ _ _ KK.out.1))))
            go_wp2_with fail
            go_ret
            exact ⟨rfl, below_more BEL6.out⟩
        · obtain rfl : k5 = 0 := by omega
          go_wp2_with fail
          refine (node_none _ _ _).mono ?_
          rintro e w4 ⟨rfl, hB4⟩
          go_wp2_with fail
          have G : Calls Try.prog 8 #[.pointer (some ⟨w4.heap.size, 0, none⟩), .string key] (w4.alloc (.cells #[.string ByteArray.empty, .pointer none, .int .u64 5] 29)) (fun e w6 => e = .returned (.pointer none) ∧ Below (w4.alloc (.cells #[.string ByteArray.empty, .pointer none, .int .u64 5] 29)).heap.size (w4.alloc (.cells #[.string ByteArray.empty, .pointer none, .int .u64 5] 29)) w6) := by
            refine zzgiven_of _ _ _ _ (fun e w' h => ⟨none, h.1⟩) (given_none w4.heap.size key _ ?_ ?_)
            · rw [World.cell?_alloc_at _ _ _ _ (by simp)]; rfl
            · rw [World.cell?_alloc_at _ _ _ _ (by simp)]; rfl
          refine G.mono ?_
          clear G
          rintro e w6 ⟨rfl, hB6⟩
          have hs4 := hB4.size
          have BEL6 : Hid (Below w'.heap.size w' w6) := (BEL.out.trans (hB4.mono hsz)).trans (((Below.refl w'.heap.size w4).alloc (by omega) _).trans (hB6.mono (by simp; omega)))
          clear hB4 hB6 HCL hpos
          go_wp2_with fail
          go_loop [18, 19] (fun wt i => i = .int .i64 0 ∧ wt = .int .i64 (-1)) (fun _ _ => 0)
          case atStart => exact ⟨rfl, rfl⟩
          case round =>
          obtain ⟨rfl, rfl⟩ := hrel
          go_wp2_with fail
          go_ret
          exact ⟨rfl, BEL6.out⟩
      · have hA' : ((l1 : Int) != (l0 : Int)) = false := by simp [hA]
        have hB' : ((l2 : Int) != (l0 : Int)) = true := by simp; omega
        go_wp2_with fail
        go_ret; exact ⟨rfl, Below.refl _ _⟩
    · have hA' : ((l1 : Int) != (l0 : Int)) = true := by simp; omega
      go_wp2_with fail
      go_ret; exact ⟨rfl, Below.refl _ _⟩
  · go_enter Try.func3, Try.ntmps3
    go_wp2_with (go_at_call 5; refine H5.mono ?_; rintro e w' ⟨⟨b, rfl, _⟩, rfl⟩; cases b)
    all_goals
      go_ret
      exact ⟨rfl, Below.refl _ _⟩
end Go.Proofs.Qxb6001785a
