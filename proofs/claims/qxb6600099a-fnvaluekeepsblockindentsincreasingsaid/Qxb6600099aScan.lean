import Derived.Test.Qxb6600099aClone
import Derived.BigRegion
namespace Go.Proofs.Qxb6600099a
open Go.RowKit

set_option maxHeartbeats 2000000 in
theorem advance_any (b tb toff ln cp at' : Nat) (col ch : Int) (w : World) (hat : at' < ln) (hln : ln ≤ 1048576) (hc0 : 0 ≤ col) (hc1 : col ≤ 1073741824)
    (c0 : w.cell? ⟨b, 0, none⟩ = some (.slice (some ⟨tb, toff, none⟩) ln cp)) (c1 : w.cell? ⟨b, 1, none⟩ = some (.int .i64 at')) (c3 : w.cell? ⟨b, 3, none⟩ = some (.int .i64 col))
    (ct : w.cell? ⟨tb, toff + at', none⟩ = some (.int .u8 ch)) (f1 : w.frozen? ⟨b, 1, none⟩ = false) (f3 : w.frozen? ⟨b, 3, none⟩ = false) :
    Calls Try.prog 34 #[.pointer (some ⟨b, 0, none⟩)] w fun e w' => e = .returned (.tuple #[]) ∧ ∃ (v1 v3 : Int) (q : Nat), w' = ((w.drewN q).setCell ⟨b, 1, none⟩ (.int .i64 v1)).setCell ⟨b, 3, none⟩ (.int .i64 v3) := by
  have hz : (at' : Int) < (ln : Int) := by omega
  go_enter Try.func34, Try.ntmps34
  go_wp2
  go_quiet (fail)
  go_wp2
  all_goals go_region
  all_goals go_wp2
  all_goals go_end0
  all_goals exact ⟨rfl, _, _, _, rfl⟩
theorem one_new (W : World) (b : Nat) (hb : b = W.heap.size) (x : Value) (t : TypeId) : ∀ j u, [x][j]? = some u → (W.alloc (.cells #[x] t)).cell? ((⟨b, 0, none⟩ : Addr).add j) = some u := by
  subst hb
  intro j u hj
  match j, hj with
  | 0, hj => simp at hj; subst hj; rw [show (⟨W.heap.size, 0, none⟩ : Addr).add 0 = ⟨W.heap.size, 0, none⟩ from rfl, World.cell?_alloc_at _ _ _ _ (by simp)]; rfl
  | j + 1, hj => simp at hj

set_option maxHeartbeats 1000000 in
theorem roll_not (b : Nat) (ind col : Int) (w : World) (h : ¬ ind < col) (c5 : w.cell? ⟨b, 5, none⟩ = some (.int .i64 ind)) :
    Calls Try.prog 36 #[.pointer (some ⟨b, 0, none⟩), .int .i64 col] w fun e w' => e = .returned (.tuple #[]) ∧ w' = w := by
  go_enter Try.func36, Try.ntmps36
  go_wp2
  go_end0
  exact ⟨rfl, rfl⟩

/-- What stands behind the append of the innermost indent to the stack. -/
structure Pushed (w w1 : World) (b base n g cap : Nat) (v : Value) (f : Nat → Int) (ind : Int) : Prop where
  own : w1.ownsRow base 3 1 (.slice (some ⟨g, 0, none⟩) (n + 1) cap) (n + 1) (ints .i64 f n ++ [.int .i64 ind])
  grown : w.grownBy w1 v.ownBlock
  ne : g ≠ b
  cell : ∀ j, w1.cell? ⟨b, j, none⟩ = w.cell? ⟨b, j, none⟩
  frozen : ∀ j, w1.frozen? ⟨b, j, none⟩ = w.frozen? ⟨b, j, none⟩
  lies : v.ownBlock = some g ∨ w.heap.size ≤ g

theorem step_push {ops : Array Oper} {o : Oper} {a : Act} {K : Act → World → Prop} {Q : Exit → Act → World → Prop} {E : Prop} (w : World) (b base n c : Nat) (ao : Option Addr) (f : Nat → Int) (ind : Int) (W : World)
    (hgd : o.guard = none) (s x : Operand) (ho : o.op = .call { callee := .builtin .append, args := #[s, x], argTypes := #[35, 35] })
    (hW : W = (w.alloc (.cells #[.int .i64 ind] 3)).drew) (hn : n ≤ 1048576) (hlt : b < w.heap.size)
    (hown : w.ownsRow base 3 1 (.slice ao n c) n (ints .i64 f n)) (hbase : base ≤ w.heap.size) (hb : (Value.slice ao n c).ownBlock ≠ some b)
    (hs : a.eval s = .slice ao n c) (hx : a.eval x = .slice (some ⟨w.heap.size, 0, none⟩) 1 1)
    (hK : ∀ g cap w1, Pushed w w1 b base n g cap (.slice ao n c) f ind → K (a.put o.dst (.slice (some ⟨g, 0, none⟩) (n + 1) cap)) w1) :
    if Region.wanted o (yielded ops a.tmps) = true then Oper.wp Try.prog o a W K Q else E := by
  obtain ⟨i0, hi, hi0, hi1, hi2⟩ := info_parts Try.info3
  subst hW
  refine step_append_lies (P := Try.prog) _ hgd s x 35 ho base 3 i0 (.int .i64 0) 1 8 Try.underlying35 hi hi0 hi1 hi2 rfl (by decide) (.slice ao n c) n (ints .i64 f n) hs (hown.alloc _).drew ⟨w.heap.size, 0, none⟩ 1 1 [.int .i64 ind] hx rfl ?_ ?_ (by decide) ?_ ?_ ?_ (w.heap.size + 1) ?_ ?_
  · intro j u hj; exact one_new w _ rfl _ 3 j u hj
  · intro u hu; simp at hu; subst hu; rfl
  · unfold maxLen; omega
  · omega
  · exact Nat.le_trans hbase (by show w.heap.size ≤ (w.heap.push _).size; simp)
  · show (w.heap.push _).size = _; simp
  · intro g cap w1 hown1 hgrow1 hat1 _
    have G1 : w.grownBy w1 (Value.slice ao n c).ownBlock := (World.grownBy_alloc w (.cells #[.int .i64 ind] 3) (Value.slice ao n c).ownBlock).trans ⟨hgrow1.os, hgrow1.tape, hgrow1.output, hgrow1.size, hgrow1.block⟩
    refine hK g cap w1 ⟨hown1, G1, ?_, fun j => G1.cell_far ⟨b, j, none⟩ hlt (Ne.symm hb), fun j => G1.frozen_far ⟨b, j, none⟩ hlt (Ne.symm hb), ?_⟩
    rotate_left
    · rcases hat1 with e | e
      · exact .inl e
      · exact .inr (by omega)
    rcases hat1 with e | e
    · intro e2
      subst e2
      exact hb e
    · omega

set_option maxHeartbeats 2000000 in
theorem roll_push (b base n c : Nat) (ao : Option Addr) (f : Nat → Int) (ind col : Int) (w : World) (h : ind < col) (hn : n ≤ 1048576)
    (c5 : w.cell? ⟨b, 5, none⟩ = some (.int .i64 ind)) (c6 : w.cell? ⟨b, 6, none⟩ = some (.slice ao n c)) (f5 : w.frozen? ⟨b, 5, none⟩ = false) (f6 : w.frozen? ⟨b, 6, none⟩ = false)
    (hown : w.ownsRow base 3 1 (.slice ao n c) n (ints .i64 f n)) (hbase : base ≤ w.heap.size) (hb : (Value.slice ao n c).ownBlock ≠ some b) :
    Calls Try.prog 36 #[.pointer (some ⟨b, 0, none⟩), .int .i64 col] w fun e w' => e = .returned (.tuple #[]) ∧ ∃ g cap w1, Pushed w w1 b base n g cap (.slice ao n c) f ind ∧
      w' = (w1.setCell ⟨b, 6, none⟩ (.slice (some ⟨g, 0, none⟩) (n + 1) cap)).setCell ⟨b, 5, none⟩ (.int .i64 col) := by
  have hlt := World.block_lt_of_cell? _ _ c5
  have OWN := hidden hown
  have HB := hidden hb
  clear hown hb
  go_enter Try.func36, Try.ntmps36
  go_wp2
  go_region_law (refine step_push w b base n c ao f ind _ rfl (.tmp 14) (.tmp 19) rfl rfl hn hlt OWN.out hbase HB.out (by simp [Act.eval]) (by simp [Act.eval]) ?_; intro g cap w1 hP; have P1 := hidden hP; have c6' := (P1.out.cell 6).trans c6; have c5' := (P1.out.cell 5).trans c5; have f6' := (P1.out.frozen 6).trans f6; have f5' := (P1.out.frozen 5).trans f5; clear hP)
  all_goals go_wp2
  all_goals go_end0
  all_goals exact ⟨rfl, g, cap, w1, P1.out, rfl⟩
end Go.Proofs.Qxb6600099a
