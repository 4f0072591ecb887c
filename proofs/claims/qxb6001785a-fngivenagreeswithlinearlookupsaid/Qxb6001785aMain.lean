import Derived.Test.Qxb6001785aPlain
import Derived.Deep.RegionHeld3
import Derived.Deep.RegionLaw
namespace Go.Proofs.Qxb6001785a
open Go.RowKit

theorem Try.info29 : (Try.prog.info? 29).map (fun i => (i.zero, i.size, i.bytes)) = some (some (.agg #[.string ⟨#[]⟩, .pointer none, .int .u64 0]), 3, 32) := by kernel_rfl

/-- append within the capacity of a row that the call owns, as one step of a region that draws its order. -/
theorem step_fits {P : Program} {ops : Array Oper} {o : Oper} {a : Act} {w : World} {K : Act → World → Prop} {Q : Exit → Act → World → Prop} {E : Prop}
    (hg : o.guard = none) (s x : Operand) (t : TypeId) (hop : o.op = Op.call { callee := Callee.builtin Builtin.append, args := #[s, x], argTypes := #[t, t] })
    (base : Nat) (e : TypeId) (i : TypeInfo) (size : Nat) (h1 : P.underlying t = some (.slice e)) (h2 : P.info? e = some i) (h4 : i.size = size)
    (g k cap : Nat) (xs : List Value) (hs : a.eval s = .slice (some ⟨g, 0, none⟩) k cap) (hown : w.ownsRow base e size (.slice (some ⟨g, 0, none⟩) k cap) k xs) (ad : Addr) (m c : Nat) (news : List Value) (hx : a.eval x = .slice (some ad) m c) (hn : news.length = m * size)
    (hc : ∀ j u, news[j]? = some u → w.cell? (ad.add j) = some u) (h1c : ∀ u ∈ news, u.oneCell' = true) (b1 : k + m ≤ cap)
    (hK : ∀ w', w'.ownsRow base e size (.slice (some ⟨g, 0, none⟩) (k + m) cap) (k + m) (xs ++ news) → w.grownBy w' (some g) → K (a.put o.dst (.slice (some ⟨g, 0, none⟩) (k + m) cap)) w') :
    if Region.wanted o (yielded ops a.tmps) = true then Oper.wp P o a w K Q else E := by
  have hw : Region.wanted o (yielded ops a.tmps) = true := by simp [Region.wanted, hg]
  rw [if_pos hw]
  obtain ⟨w', hrun, r1, r2⟩ := run_append_fits (P := P) w base t o.type e i size h1 h2 h4 g k cap xs hown ad m c news hn hc h1c b1
  unfold Oper.wp
  simp [execOp, hop, resolve, invoke, builtin, hs, hx, hrun, Result.andThen]
  exact hK _ r1 r2

theorem three_new (W : World) (b : Nat) (hb : b = W.heap.size) (x y z : Value) (t : TypeId) : ∀ j u, [x, y, z][j]? = some u → (W.alloc (.cells #[x, y, z] t)).cell? ((⟨b, 0, none⟩ : Addr).add j) = some u := by
  subst hb
  intro j u hj
  match j, hj with
  | 0, hj => simp at hj; subst hj; rw [show (⟨W.heap.size, 0, none⟩ : Addr).add 0 = ⟨W.heap.size, 0, none⟩ from rfl, World.cell?_alloc_at _ _ _ _ (by simp)]; rfl
  | 1, hj => simp at hj; subst hj; rw [show (⟨W.heap.size, 0, none⟩ : Addr).add 1 = ⟨W.heap.size, 1, none⟩ from rfl, World.cell?_alloc_at _ _ _ _ (by simp)]; rfl
  | 2, hj => simp at hj; subst hj; rw [show (⟨W.heap.size, 0, none⟩ : Addr).add 2 = ⟨W.heap.size, 2, none⟩ from rfl, World.cell?_alloc_at _ _ _ _ (by simp)]; rfl
  | j + 3, hj => simp at hj

theorem three_one (s : ByteArray) (k : Int) : ∀ u ∈ [Value.string s, .pointer none, .int .u64 k], u.oneCell' = true := by
  intro u hu
  simp at hu
  rcases hu with rfl | rfl | rfl <;> rfl

/-- The binary search's answer beside the linear search's. -/
def GotIs (n : Nat) (ks : Nat → ByteArray) (kd : Nat → Int) (key : ByteArray) (g : Nat) (po : Option Addr) : Prop :=
  ∃ r : Nat, r ≤ n ∧ ((∀ t, t < r → Op.bytesLess (ks t).toList key.toList = true) ∧ (∀ t, r ≤ t → t < n → Op.bytesLess (ks t).toList key.toList = false)) ∧
    ((r < n ∧ (ks r).toList = key.toList ∧ kd r ≠ 0 ∧ po = some ⟨g, (2 * r + 1) * 3, none⟩) ∨ ((r < n → (ks r).toList = key.toList → kd r = 0) ∧ po = none))

theorem GivenPost.got {g m : Nat} {ks : Nat → ByteArray} {kd : Nat → Int} {key : ByteArray} {w : World} {e : Ending} {w' : World} (h : GivenPost g m ks kd key w e w') :
    ∃ po, e = .returned (.pointer po) ∧ GotIs m ks kd key g po ∧ Below w.heap.size w w' := by
  obtain ⟨r, hr, hs, h | h, hB⟩ := h
  · exact ⟨_, h.2.2.2, ⟨r, hr, hs, .inl ⟨h.1, h.2.1, h.2.2.1, rfl⟩⟩, hB⟩
  · exact ⟨_, h.2, ⟨r, hr, hs, .inr ⟨h.1, rfl⟩⟩, hB⟩

theorem got_empty (ks : Nat → ByteArray) (kd : Nat → Int) (key : ByteArray) (g : Nat) : GotIs 0 ks kd key g none :=
  ⟨0, Nat.le_refl _, ⟨fun _ h => absurd h (Nat.not_lt_zero _), fun _ _ h => absurd h (Nat.not_lt_zero _)⟩, .inr ⟨fun h => absurd h (Nat.not_lt_zero _), rfl⟩⟩

theorem got_end {n : Nat} {ks : Nat → ByteArray} {kd : Nat → Int} {key : ByteArray} {g : Nat} {po : Option Addr} {j : Int} (hi : Incr ks n) (hw : WantIs ks key n j) (hg : GotIs n ks kd key g po) :
    (j = -1 ∧ po = none) ∨ (∃ t : Nat, t < n ∧ j = t ∧ kd t = 0 ∧ po = none) ∨ (∃ t : Nat, t < n ∧ j = t ∧ kd t ≠ 0 ∧ po = some ⟨g, (2 * t + 1) * 3, none⟩) := by
  obtain ⟨r, hr, ⟨hs1, hs2⟩, hd⟩ := hg
  rcases hw with ⟨rfl, hw⟩ | ⟨t, ht, rfl, e⟩
  · rcases hd with ⟨h1, h2, _⟩ | ⟨_, h⟩
    · exact absurd h2 (hw r h1)
    · exact .inl ⟨rfl, h⟩
  · obtain rfl := want_eq hi hs1 hs2 ht e
    rcases hd with ⟨h1, h2, h3, h4⟩ | ⟨h1, h2⟩
    · exact .inr (.inr ⟨r, h1, rfl, h3, h4⟩)
    · exact .inr (.inl ⟨r, ht, rfl, h1 ht e, h2⟩)

/-- What the walk says at the end. -/
def Fine (w : World) (e : Ending) (w' : World) : Prop := e = .returned (.bool true) ∧ Below w.heap.size w w'

set_option maxHeartbeats 2000000 in
set_option maxRecDepth 100000 in
theorem early (a0 : Option Addr) (l0 c0 : Nat) (ks : Nat → ByteArray) (a1 : Option Addr) (l1 c1 : Nat) (a2 : Option Addr) (l2 c2 : Nat) (ts : Nat → ByteArray) (key : ByteArray) (w : World)
    (h0 : StrRow w a0 l0 ks) (hl1 : l1 ≤ 9223372036854775807) (h2 : StrRow w a2 l2 ts) (hk : key.size ≤ 9223372036854775807)
    (hbig : 65536 < l0 ∨ 65536 < l1 ∨ 65536 < l2 ∨ 1048576 < key.size) :
    Calls Try.prog 3 #[.slice a0 l0 c0, .slice a1 l1 c1, .slice a2 l2 c2, .string key] w (Fine w) := by
  have H5 := zzBytes_any a0 l0 c0 ks a1 l1 c1 a2 l2 c2 ts key w h0 hl1 h2 hk
  have h0l := h0.len
  have h2l := h2.len
  have HH : Hid _ := And.intro h0 h2
  clear h0 h2
  have hb : 65536 < l0 ∨ (l0 ≤ 65536 ∧ 65536 < l1) ∨ (l0 ≤ 65536 ∧ l1 ≤ 65536 ∧ 65536 < l2) ∨ (l0 ≤ 65536 ∧ l1 ≤ 65536 ∧ l2 ≤ 65536 ∧ 1048576 < key.size) := by omega
  clear hbig
  rcases hb with q | q | q | q
  all_goals
    go_enter Try.func3, Try.ntmps3
    go_wp2_with (go_at_call 5; refine H5.mono ?_; rintro e w' ⟨⟨b, rfl, _⟩, rfl⟩; cases b)
  all_goals
    go_ret
    exact ⟨rfl, Below.refl _ _⟩
end Go.Proofs.Qxb6001785a
