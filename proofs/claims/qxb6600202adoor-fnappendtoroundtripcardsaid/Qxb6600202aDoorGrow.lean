import Derived.Test.Qxb6600202aDoorBase
namespace Go.Proofs.Qxb6600202aDoor
open Go.RowKit

/-- A string's bytes are appended to a row that has no spare room: the new row lies in a new block. -/
theorem run_grow_string (w : World) (base n : Nat) (ao : Option Addr) (xs : List Value) (ty : TypeId) (hown : w.ownsRow base 5 1 (.slice ao n n) n xs) (s : ByteArray) (hs : 0 < s.size) (hn : n + s.size ≤ 1073741824) :
    ∃ cap w', (Builtin.append_ #[22, 9] ty #[.slice ao n n, .string s]).run Tryd.prog w = .ok (.slice (some ⟨w.heap.size, 0, none⟩) (n + s.size) cap) w' ∧
      w'.ownsRow w.heap.size 5 1 (.slice (some ⟨w.heap.size, 0, none⟩) (n + s.size) cap) (n + s.size) (xs ++ Lib.strCells s) ∧ w.grownBy w' none := by
  obtain ⟨i, hi, hz, hsize, hby⟩ := info_parts Tryd.info5
  have hxl : xs.length = n := by simpa using hown.1
  have hlen : (xs ++ Lib.strCells s).length = (n + s.size) * 1 := by rw [List.length_append, hxl, Lib.strCells_length, Nat.mul_one]
  have hge := grownCap_ge w (n + s.size) n 5
  have hcm : grownCap w (n + s.size) n 5 ≤ maxLen := grownCap_le_maxLen w (n + s.size) n 5 (by unfold maxLen; omega)
  have grown : (w.drew.alloc (.cells (xs.toArray ++ (Lib.strCells s).toArray ++ Builtin.zeroCells (Value.int .u8 0).cells (grownCap w (n + s.size) n 5 - (n + s.size))) 5)).ownsRow w.heap.size 5 1
        (.slice (some ⟨w.heap.size, 0, none⟩) (n + s.size) (grownCap w (n + s.size) n 5)) (n + s.size) (xs ++ Lib.strCells s) ∧
      w.grownBy (w.drew.alloc (.cells (xs.toArray ++ (Lib.strCells s).toArray ++ Builtin.zeroCells (Value.int .u8 0).cells (grownCap w (n + s.size) n 5 - (n + s.size))) 5)) none := by
    refine ⟨⟨hlen, .inr ⟨w.heap.size, _, _, rfl, Nat.le_refl _, heap_alloc_new w.drew _, hge, hcm, ?_, ?_⟩⟩, ⟨rfl, rfl, rfl, by simp, fun k hk _ => Below.heap_alloc w.drew _ k hk⟩⟩
    · have hz1 : (Value.int IntKind.u8 0).cells.size = 1 := rfl
      simp only [Array.size_append, List.size_toArray, size_zeroCells, hz1, hxl, Lib.strCells_length]
      omega
    · simp only [Array.toList_append, List.append_assoc]
      rw [← List.append_assoc, ← hlen]
      exact List.take_left
  rcases hown.2 with ⟨hv, rfl⟩ | ⟨g, cap, cur, hv, hbg, hg, hnc, _, hcs, htake⟩
  · simp only [Value.slice.injEq] at hv
    obtain ⟨rfl, _⟩ := hv
    have hx : xs = [] := List.eq_nil_of_length_eq_zero hxl
    subst hx
    have hr := run_append_nil_string (P := Tryd.prog) w 22 9 ty 5 i (.int .u8 0) Tryd.underlying22 Tryd.underlying9 hi hz s (by omega) (by omega) (by rw [hby]; omega)
    simp only [Nat.zero_add, List.nil_append, Array.empty_append] at grown ⊢
    have e1 : (s.data.map fun b => Value.int .u8 b.toNat) = (Lib.strCells s).toArray := by
      apply Array.ext'
      simp [Lib.strCells]
    rw [e1] at hr
    exact ⟨_, _, hr, grown.1, grown.2⟩
  · simp only [Value.slice.injEq, true_and] at hv
    obtain ⟨rfl, rfl⟩ := hv
    have holds : ∀ j u, xs[j]? = some u → w.cell? ((⟨g, 0, none⟩ : Addr).add j) = some u := hown.cells (g := g) rfl
    have hr := Lib.run_append_grow_string (P := Tryd.prog) w 22 9 ty 5 i (.int .u8 0) Tryd.underlying22 Tryd.underlying9 hi hz ⟨g, 0, none⟩ n n xs (by rw [hsize]; simpa using hxl) holds s (by omega) (by omega) (by rw [hby]; exact growslice_fits (by omega) (by omega))
    exact ⟨_, _, hr, grown.1, grown.2⟩

theorem wpList_grow_string {w : World} {ops : Array Oper} {rest : List Oper} {o : Oper} {a : Act} {Q : Exit → Act → World → Prop} (hgd : o.guard = none) (sl x : Operand)
    (ho : o.op = .call { callee := .builtin .append, args := #[sl, x], argTypes := #[22, 9] })
    (base n : Nat) (ao : Option Addr) (xs : List Value) (hs : a.eval sl = .slice ao n n) (hown : w.ownsRow base 5 1 (.slice ao n n) n xs) (s : ByteArray) (hx : a.eval x = .string s) (hp : 0 < s.size) (hn : n + s.size ≤ 1073741824)
    (h : ∀ cap w', w'.ownsRow w.heap.size 5 1 (.slice (some ⟨w.heap.size, 0, none⟩) (n + s.size) cap) (n + s.size) (xs ++ Lib.strCells s) → w.grownBy w' none → wpList Tryd.prog ops Q rest (a.put o.dst (.slice (some ⟨w.heap.size, 0, none⟩) (n + s.size) cap)) w') : wpList Tryd.prog ops Q (o :: rest) a w := by
  refine wpList_plain hgd fun K hK => ?_
  obtain ⟨cap, w', hr, h2, h3⟩ := run_grow_string w base n ao xs o.type hown s hp hn
  unfold Oper.wp execOp
  simp only [ho, resolve, invoke, builtin, Sem.run_bind, Sem.run_pure, Result.andThen_ok, List.map_toArray, List.map_cons, List.map_nil, hs, hx, hr]
  exact hK _ _ (h cap w' h2 h3)

/-- A string's bytes onto a row that the call owns, the new value written out. -/
theorem wpList_more_string {w : World} {ops : Array Oper} {rest : List Oper} {o : Oper} {a : Act} {Q : Exit → Act → World → Prop} (hgd : o.guard = none) (sl x : Operand)
    (ho : o.op = .call { callee := .builtin .append, args := #[sl, x], argTypes := #[22, 9] })
    (base n : Nat) (v : Value) (xs : List Value) (hs : a.eval sl = v) (hown : w.ownsRow base 5 1 v n xs) (s : ByteArray) (hx : a.eval x = .string s) (hp : 0 < s.size) (hn : n + s.size ≤ 1073741824) (hb : base ≤ w.heap.size)
    (h : ∀ g cap w', w'.ownsRow base 5 1 (.slice (some ⟨g, 0, none⟩) (n + s.size) cap) (n + s.size) (xs ++ Lib.strCells s) → w.grownBy w' v.ownBlock → wpList Tryd.prog ops Q rest (a.put o.dst (.slice (some ⟨g, 0, none⟩) (n + s.size) cap)) w') : wpList Tryd.prog ops Q (o :: rest) a w := by
  obtain ⟨i, hi, hz, hsize, hby⟩ := info_parts Tryd.info5
  refine Lib.wpList_append_own_string w hgd sl x 22 9 ho base 5 i Tryd.underlying22 Tryd.underlying9 hi hz hsize hby v n xs hs hown s hx (by unfold maxLen; omega) (by omega) hb ?_
  intro v' w' hown' hg _
  obtain ⟨g, cap, hv, _, _⟩ := hown'.form (by omega)
  rw [hv] at hown' ⊢
  exact h g cap w' hown' hg
end Go.Proofs.Qxb6600202aDoor
