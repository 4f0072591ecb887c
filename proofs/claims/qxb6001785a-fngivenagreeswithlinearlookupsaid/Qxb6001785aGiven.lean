import Derived.Test.Qxb6001785aMainB
import Derived.ProofKit
import Derived.OpenShut
import Derived.ShutString
import Derived.ChangeOld
import Derived.SliceStrings
namespace Go.Proofs.Qxb6001785a
open Go.ChangeShapes Go.WideShapes Go.ChangeAt Go.RowKit
open Go.ChangeMaps (open_string shut_string)

theorem own : ownKnob Try.prog.godebug = none := by kernel_rfl
theorem laidOut : laidOutB Try.prog = true := by kernel_rfl

theorem walk (a0 : Option Addr) (l0 c0 : Nat) (ks : Nat → ByteArray) (a1 : Option Addr) (l1 c1 : Nat) (kd : Nat → Int) (a2 : Option Addr) (l2 c2 : Nat) (ts : Nat → ByteArray) (key : ByteArray) (w : World)
    (h0 : StrRow w a0 l0 ks) (h1 : IntRow .u8 w a1 l1 kd) (h2 : StrRow w a2 l2 ts) (hk : key.size ≤ 9223372036854775807) :
    Calls Try.prog 3 #[.slice a0 l0 c0, .slice a1 l1 c1, .slice a2 l2 c2, .string key] w (Fine w) := by
  by_cases hb : 65536 < l0 ∨ 65536 < l1 ∨ 65536 < l2 ∨ 1048576 < key.size
  · exact early a0 l0 c0 ks a1 l1 c1 a2 l2 c2 ts key w h0 h1.len h2 hk hb
  · exact main_any a0 l0 c0 ks a1 l1 c1 kd a2 l2 c2 ts key w h0 h1 h2 (by omega) (by omega) (by omega) (by omega)

theorem getD_mem {α : Type} (l : List α) (i : Nat) (d : α) (h : i < l.length) : l.getD i d ∈ l := by
  rw [List.getD_eq_getElem?_getD, List.getElem?_eq_getElem h]
  exact List.getElem_mem _

theorem strRow_of {H : Type} {enc : TypeId × Value → H} {W : World} {a : Option Addr} {len cap : Nat} {y : DataW H × List MemPlace} {fuel : Nat}
    (hf : DataW.trod enc Try.prog W 0 (fun _ => true) true fuel 22 (Value.slice a len cap).cells.toList = some y) : ∃ ks, StrRow W a len ks := by
  rcases open_strings Try.underlying22 Try.underlying9 (by kernel_rfl) hf with ⟨hcs, _⟩ | ⟨x, l, c, ss, hcs, _, hl, hm, hz, _, hcell, hws⟩
  · simp [Value.cells] at hcs
    obtain ⟨rfl, rfl, rfl⟩ := hcs
    exact ⟨fun _ => ByteArray.empty, ⟨fun h => absurd h (Nat.lt_irrefl _), fun _ h => absurd h (Nat.not_lt_zero _), by omega⟩⟩
  · simp [Value.cells] at hcs
    obtain ⟨rfl, rfl, rfl⟩ := hcs
    have hz' : ss.length = cap := by simpa using hz
    unfold maxLen at hm
    refine ⟨fun i => ss.getD i ByteArray.empty, ⟨fun h => ?_, fun i hi => ?_, by omega⟩⟩
    · obtain ⟨b, off, spot⟩ := x
      have hspot : spot = none := by simpa [Addr.add] using World.cell?_spot (hcell 0 (by omega))
      subst hspot
      refine ⟨b, off, rfl, ?_, fun i hi => ?_⟩
      · exact World.block_lt_of_cell? _ _ (by have := hcell 0 (by omega); rwa [Go.WideShapes.add_plain] at this)
      · rw [← Go.WideShapes.add_plain]; exact hcell i (by omega)
    · have := hws (ss.getD i ByteArray.empty) (getD_mem _ _ _ (by omega))
      unfold maxLen at this
      exact this

theorem intRow_of {H : Type} {enc : TypeId × Value → H} {W : World} {a : Option Addr} {len cap : Nat} {y : DataW H × List MemPlace} {fuel : Nat}
    (hf : DataW.trod enc Try.prog W 0 (fun _ => true) true fuel 23 (Value.slice a len cap).cells.toList = some y) : ∃ kd, IntRow .u8 W a len kd := by
  rcases open_ints Try.underlying23 Try.underlying5 (by kernel_rfl) hf with ⟨hcs, _⟩ | ⟨x, l, c, zs, hcs, _, hl, hm, hz, _, hcell, hwz⟩
  · simp [Value.cells] at hcs
    obtain ⟨rfl, rfl, rfl⟩ := hcs
    exact ⟨fun _ => 0, ⟨fun h => absurd h (Nat.lt_irrefl _), fun _ h => absurd h (Nat.not_lt_zero _), by omega⟩⟩
  · simp [Value.cells] at hcs
    obtain ⟨rfl, rfl, rfl⟩ := hcs
    have hz' : zs.length = cap := by simpa using hz
    unfold maxLen at hm
    refine ⟨fun i => zs.getD i 0, ⟨fun h => ?_, fun i hi => ?_, by omega⟩⟩
    · obtain ⟨b, off, spot⟩ := x
      have hspot : spot = none := by simpa [Addr.add] using World.cell?_spot (hcell 0 (by omega))
      subst hspot
      refine ⟨b, off, rfl, ?_, fun i hi => ?_⟩
      · exact World.block_lt_of_cell? _ _ (by have := hcell 0 (by omega); rwa [Go.WideShapes.add_plain] at this)
      · rw [← Go.WideShapes.add_plain]; exact hcell i (by omega)
    · exact hwz (zs.getD i 0) (getD_mem _ _ _ (by omega))

set_option maxRecDepth 100000 in
theorem lifted (os : Os) (started : os.Started) (H : Type) (enc : TypeId × Value → H) :
    ReturnsInHanded {} Try.checked os 3 .any (Rows.fnGivenAgreesWithLinearLookupSpec.pre6 enc Try.prog Try.f3 Rows.fnGivenAgreesWithLinearLookupRow.domain false) (Rows.fnGivenAgreesWithLinearLookupSpec.post enc Try.prog Try.f3 false true false false) := by
  refine returnsInHanded_of_change (C := Try.checked) own started (by kernel_rfl) Try.func3
    (ChangeSpec.witness6 (enc := enc) (C := Try.checked) false ⟨#[], #[.slice none 0 0, .slice none 0 0, .slice none 0 0, .string ⟨#[]⟩], []⟩ 8 (by kernel_rfl) (by kernel_rfl) (by kernel_rfl) (by kernel_rfl)) ?_
  intro W base args ds gs before hval0 hW hcnd _
  have hval : ∀ (j : Nat) t v, Try.f3.params[j]? = some t → args[j]? = some v → Value.okWide Try.prog W .any base t v := hval0
  have hW' := hW
  obtain ⟨p, q, hA0, hV, rfl, hfz, hnd⟩ := hW
  have hA : DataW.TrodAll enc Try.prog W 0 (fun _ => true) true Try.f3.params.toList args.toList ds p := hA0
  rw [Try.params3] at hA hval
  obtain ⟨v0, vs0, d0, ds0, p0, q0, hargs, rfl, rfl, h0, r0⟩ := trodAll_cons hA
  obtain ⟨v1, vs1, d1, ds1, p1, q1, rfl, rfl, rfl, h1, r1⟩ := trodAll_cons r0
  obtain ⟨v2, vs2, d2, ds2, p2, q2, rfl, rfl, rfl, h2, r2⟩ := trodAll_cons r1
  obtain ⟨v3, vs3, d3, ds3, p3, q3, rfl, rfl, rfl, h3, r3⟩ := trodAll_cons r2
  obtain ⟨rfl, rfl, rfl⟩ := trodAll_nil r3
  obtain rfl : args = #[v0, v1, v2, v3] := by cases args; simp_all
  obtain ⟨rfl, rfl⟩ := trodVars_none hV
  obtain ⟨a0, len0, cap0, rfl⟩ := okWide_slice Try.underlying22 (hval 0 22 v0 rfl rfl)
  have k0 := h0
  have lt0 : ∀ x ∈ p0, x.block < W.heap.size := by obtain ⟨m, hm⟩ := k0; exact DataW.trod_lt m _ _ _ hm
  obtain ⟨ks, w0⟩ : ∃ ks, StrRow W a0 len0 ks := by obtain ⟨fuel, hf⟩ := h0; exact strRow_of hf
  obtain ⟨a1, len1, cap1, rfl⟩ := okWide_slice Try.underlying23 (hval 1 23 v1 rfl rfl)
  have k1 := h1
  have lt1 : ∀ x ∈ p1, x.block < W.heap.size := by obtain ⟨m, hm⟩ := k1; exact DataW.trod_lt m _ _ _ hm
  obtain ⟨kd, w1⟩ : ∃ kd, IntRow .u8 W a1 len1 kd := by obtain ⟨fuel, hf⟩ := h1; exact intRow_of hf
  obtain ⟨a2, len2, cap2, rfl⟩ := okWide_slice Try.underlying22 (hval 2 22 v2 rfl rfl)
  have k2 := h2
  have lt2 : ∀ x ∈ p2, x.block < W.heap.size := by obtain ⟨m, hm⟩ := k2; exact DataW.trod_lt m _ _ _ hm
  obtain ⟨ts, w2⟩ : ∃ ts, StrRow W a2 len2 ts := by obtain ⟨fuel, hf⟩ := h2; exact strRow_of hf
  obtain ⟨key, rfl, rfl, rfl, w3⟩ := open_string Try.underlying9 (hval 3 9 v3 rfl rfl) h3
  clear hA0 hval0
  refine (walk a0 len0 cap0 ks a1 len1 cap1 kd a2 len2 cap2 ts key W w0 w1 w2 (by unfold maxLen at w3; omega)).mono fun e W' ⟨he, bel⟩ => ?_
  subst he
  exact ⟨_, rfl, _, _, _, [], _, [], hW', trodAll_mk1 (shut_bool Try.underlying4 _), (trodAll_cons_mk (Below.trod laidOut (by kernel_rfl) (of_decide_eq_true (by kernel_rfl)) k0 bel lt0) (trodAll_cons_mk (Below.trod laidOut (by kernel_rfl) (of_decide_eq_true (by kernel_rfl)) k1 bel lt1) (trodAll_cons_mk (Below.trod laidOut (by kernel_rfl) (of_decide_eq_true (by kernel_rfl)) k2 bel lt2) (trodAll_cons_mk (shut_string Try.underlying9 w3) trodAll_mk0)))), rfl, bel.frame _, fun h => by cases h⟩

theorem over : Rows.fnGivenAgreesWithLinearLookupRow.holds Try.pinned (OpenSpec.ofChange Rows.fnGivenAgreesWithLinearLookupSpec) :=
  OpenClaim.holds_of_wide 3 Try.f3 rfl rfl rfl rfl rfl rfl rfl ⟨rfl, rfl, rfl, rfl, rfl⟩ rfl rfl rfl rfl rfl (by kernel_rfl) Try.func3 (by kernel_rfl)
    (of_decide_eq_true (by kernel_rfl)) (by unfold Func.isWrapper; first | (rw [if_pos (by decide +kernel)]; kernel_rfl) | (rw [if_neg (by decide +kernel)]; exact ⟨rfl, rfl⟩))
    (fun os started H enc _ => lifted os started H enc)

theorem given_proved : Rows.FnGivenAgreesWithLinearLookupSaid := over
end Go.Proofs.Qxb6001785a
