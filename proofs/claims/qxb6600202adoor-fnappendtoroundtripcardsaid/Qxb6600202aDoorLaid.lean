import Derived.Test.Qxb6600202aDoorPlain
import Derived.ProofKit
import Derived.LaidMore
import Derived.OpenShut
import Derived.Stop.Joined
import Derived.Lib.LaidTab
namespace Go.Proofs.Qxb6600202aDoor
open Go.ChangeShapes Go.WideShapes Go.ChangeAt Go.WideElems Go.RowKit

theorem own : ownKnob Tryd.prog.godebug = none := by kernel_rfl
theorem laidOut : laidOutB Tryd.prog = true := by kernel_rfl
/-- What both rows list. -/
abbrev lists : List (String × DataW Unit) := Rows.fnAppendToRoundTripRow.laid
theorem gPow : Tryd.prog.globalNamed Tryd.powName = some 0 := by kernel_rfl
theorem tPow : (Tryd.prog.globals[0]?).map (·.type) = some 45 := by kernel_rfl

/-- The door's own heap meets the condition. -/
theorem door_met (os : Os) (args : Array Value) : laidMetH Tryd.prog lists ((World.doorLaid Tryd.prog 400 os).forCall (fun _ _ => 0) ⟨#[], args, []⟩).memory :=
  laidMetH_of_parts3 (fuel := 8) (laidMet_of_run' 8 (by kernel_rfl) (by kernel_rfl)) (by kernel_rfl) (by kernel_rfl)

/-- The table of powers of ten, off the row's condition. -/
theorem of_laid {W : World} (h : laidMetH Tryd.prog lists W) : Lib.TabIs Tryd.prog W Tryd.powName .u64 Lib.pow10Tab := by
  rw [MakeChecks.laidMetH_plain _ _ _ (by kernel_rfl)] at h
  obtain ⟨ps, ⟨g0, t0, cs0, f0, p0, q0, _, _, _, _, ⟨g1, t1, cs1, f1, p1, q1, _, _, _, _, ⟨g2, t2, cs2, f2, p2, q2, hg2, ht2, hv2, hd2, _, _⟩, _⟩, _⟩, _, _⟩ := h
  obtain rfl := Option.some.inj (gPow.symm.trans hg2)
  obtain rfl := Option.some.inj (tPow.symm.trans ht2)
  have e : (Rows.laid_internal_strconv_uint64pow10 : DataW Unit) = Lib.tabData .u64 Lib.pow10Tab := rfl
  rw [e] at hd2
  have hc := Lib.cells_of_tab Tryd.underlying45 Tryd.underlying35 (by kernel_rfl) (by kernel_rfl) hd2
  show W.var? Tryd.prog Tryd.powName = _
  rw [show W.var? Tryd.prog Tryd.powName = some cs2 from hv2, ← hc]

/-- A slice of bytes that came in. -/
theorem bytes_of {H : Type} {enc : TypeId × Value → H} {W : World} {a : Option Addr} {len cap : Nat} {y : DataW H × List MemPlace} {fuel : Nat}
    (hf : DataW.trod enc Tryd.prog W 0 (fun _ => true) true fuel 22 (Value.slice a len cap).cells.toList = some y) : len ≤ 9223372036854775807 ∧ ∃ l, ByteRow W a len l := by
  rcases open_ints Tryd.underlying22 Tryd.underlying5 (by kernel_rfl) hf with ⟨hcs, _⟩ | ⟨x, l, c, zs, hcs, _, hl, hm, hz, _, hcell, hwz⟩
  · simp [Value.cells] at hcs
    obtain ⟨rfl, rfl, rfl⟩ := hcs
    exact ⟨by omega, [], rfl, fun h => absurd h (Nat.lt_irrefl _)⟩
  · simp [Value.cells] at hcs
    obtain ⟨rfl, rfl, rfl⟩ := hcs
    have hz' : zs.length = cap := by simpa using hz
    unfold maxLen at hm
    refine ⟨by omega, (zs.take len).map fun z => UInt8.ofNat z.toNat, by simp; omega, fun hp => ?_⟩
    obtain ⟨b, off, spot⟩ := x
    have hspot : spot = none := by simpa [Addr.add] using World.cell?_spot (hcell 0 (by omega))
    subst hspot
    refine ⟨b, off, rfl, ?_, fun i hi => ?_⟩
    · exact World.block_lt_of_cell? _ _ (by have := hcell 0 (by omega); rwa [Go.WideShapes.add_plain] at this)
    · have hi' : i < len := by simp at hi; omega
      have hiz : i < zs.length := by omega
      rw [← Go.WideShapes.add_plain, hcell i hiz]
      have hg : zs.getD i 0 = zs[i] := by simp [hiz]
      have hw := hwz (zs.getD i 0) (by rw [hg]; exact List.getElem_mem _)
      have hr : 0 ≤ zs[i] ∧ zs[i] ≤ 255 := by
        rw [hg] at hw
        simp [Lit.wf] at hw
        have e1 : IntKind.u8.min = 0 := rfl
        have e2 : IntKind.u8.max = 255 := rfl
        omega
      simp only [List.getElem_map, List.getElem_take, hg]
      congr 2
      rw [UInt8.toNat_ofNat']
      omega
end Go.Proofs.Qxb6600202aDoor
