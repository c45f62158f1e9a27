/-
  Own rows of cells under one word of their own, and the copy-first idiom of the laws: make, copy. Nothing of the dump is named here.
-/
import Derived.WalkKit
import Derived.WalkSpells
import Derived.WalkLawsBesides
import Derived.Laws.CopyOwn
namespace Go.Proofs.Qxb6608908a
open Go.RowKit

/-- Block g of w is an unfrozen row of the cells cs, of element type e. -/
def HasRow (w : World) (g : Nat) (e : TypeId) (cs : List Value) : Prop := w.heap[g]? = some (.cells cs.toArray e (0, 0))

theorem HasRow.out {w : World} {g : Nat} {e : TypeId} {cs : List Value} (h : HasRow w g e cs) : w.heap[g]? = some (.cells cs.toArray e (0, 0)) := h

theorem HasRow.lt {w : World} {g : Nat} {e : TypeId} {cs : List Value} (h : HasRow w g e cs) : g < w.heap.size := by
  have h' := h.out
  exact (Array.getElem?_eq_some_iff.1 h').1

theorem HasRow.cell {w : World} {g : Nat} {e : TypeId} {cs : List Value} (h : HasRow w g e cs) (j : Nat) : w.cell? ⟨g, j, none⟩ = cs[j]? := by
  rw [cell_of_row w g j cs.toArray e (0, 0) h.out]; simp

theorem HasRow.frozen {w : World} {g : Nat} {e : TypeId} {cs : List Value} (h : HasRow w g e cs) (j : Nat) : w.frozen? ⟨g, j, none⟩ = false :=
  frozen_of_row w g j cs.toArray e h.out

theorem HasRow.below {B : Nat} {w w' : World} {g : Nat} {e : TypeId} {cs : List Value} (h : HasRow w g e cs) (hb : Below B w w') (hg : g < B) : HasRow w' g e cs :=
  (hb.block g hg).trans h.out

theorem HasRow.drewN {w : World} {g : Nat} {e : TypeId} {cs : List Value} (h : HasRow w g e cs) (n : Nat) : HasRow (w.drewN n) g e cs := h

theorem HasRow.setCell {w : World} {g : Nat} {e : TypeId} {cs : List Value} (h : HasRow w g e cs) (j : Nat) (u : Value) : HasRow (w.setCell ⟨g, j, none⟩ u) g e (cs.set j u) := by
  have := heap_setCell_same w g j cs.toArray e u h.out
  unfold HasRow
  rw [this]; simp

theorem HasRow.setCell_other {w : World} {g : Nat} {e : TypeId} {cs : List Value} (h : HasRow w g e cs) (a : Addr) (u : Value) (hne : g ≠ a.block) : HasRow (w.setCell a u) g e cs :=
  (heap_setCell_other w a g u hne).trans h.out

/-- 'make([]T, n)', T of one cell. -/
theorem wpList_make_row {P : Program} (w : World) {ops : Array Oper} {rest : List Oper} {o : Oper} {a : Act} {Q : Exit → Act → World → Prop}
    (hg : o.guard = none) (l c : Operand) (t : TypeId) (hop : o.op = Op.makeSlice t l c)
    (e : TypeId) (i : TypeInfo) (z : Value) (h1 : P.underlying t = some (.slice e)) (h2 : P.info? e = some i) (h3 : i.zero = some z) (h4 : i.size = 1) (hz : z.cells = #[z])
    (kl kc : IntKind) (L C : Int) (n : Nat) (hl : a.eval l = .int kl L) (hc : a.eval c = .int kc C) (hL : L = (n : Int)) (hC : C = (n : Int)) (b2 : i.bytes * n ≤ 281474976710656) (b3 : n ≤ maxLen)
    (hK : ∀ w', HasRow w' w.heap.size e (List.replicate n z) → Below w.heap.size w w' → wpList P ops Q rest (a.put o.dst (.slice (some ⟨w.heap.size, 0, none⟩) n n)) w') :
    wpList P ops Q (o :: rest) a w := by
  refine wpList_make_full w hg l c t hop w.heap.size e i z 1 h1 h2 h3 h4 kl kc L C n hl hc hL hC b2 b3 (Nat.le_refl _) fun w' hown hgrow => ?_
  refine hK w' ?_ ((Below.refl _ _).grown hgrow (Nat.le_refl _) (by intro k hk; cases hk))
  obtain ⟨_, h | ⟨g, cap, cur, hv, _, hh, _, _, hcs, htake⟩⟩ := hown
  · exact absurd h.1 (by simp)
  · simp only [Value.slice.injEq, Option.some.injEq, Addr.mk.injEq, and_true, true_and] at hv
    obtain ⟨rfl, rfl⟩ := hv
    have e1 : cur.toList = List.replicate n z := by
      rw [← toList_madeCells_one z n, ← hz]
      rw [Nat.mul_one] at htake
      rw [← htake, List.take_of_length_le]
      rw [Array.length_toList, hcs, Nat.mul_one]; exact Nat.le_refl _
    show w'.heap[w.heap.size]? = _
    rw [hh, ← e1]

/-- 'copy(own, src)', both of n elements, own a row of the call's own. -/
theorem wpList_copy_row {P : Program} {w : World} {ops : Array Oper} {rest : List Oper} {o : Oper} {a : Act} {Q : Exit → Act → World → Prop} (hgd : o.guard = none) (d s : Operand) (dT sT : TypeId)
    (ho : o.op = .call { callee := .builtin .copy, args := #[d, s], argTypes := #[dT, sT] }) (elem : TypeId) (hu : P.underlying dT = some (.slice elem)) (hsz : (P.info? elem).map (·.size) = some 1)
    (g n dCap sCap : Nat) (sp : Option Addr) (hd : a.eval d = .slice (some ⟨g, 0, none⟩) n dCap) (hs : a.eval s = .slice sp n sCap)
    (cur : List Value) (hg : HasRow w g elem cur) (hcur : cur.length = n) (cs : List Value) (hn : cs.length = n)
    (hpos : 0 < n → ∃ ad, sp = some ad ∧ ∀ j v, cs[j]? = some v → w.cell? (ad.add j) = some v)
    (h1 : ∀ v ∈ cs, v.oneCell' = true) (B : Nat) (w0 : World) (hb : Below B w0 w) (hBg : B ≤ g)
    (h : ∀ w', HasRow w' g elem cs → Below B w0 w' → wpList P ops Q rest (a.put o.dst (goInt n)) w') :
    wpList P ops Q (o :: rest) a w := by
  refine wpList_copy_splice hgd d s dT sT ho elem hu hsz _ sp n dCap n sCap hd hs g 0 cur elem hg.out cs (by rw [hn]; exact (Nat.min_self n).symm) (fun hp => ⟨rfl, hpos (by omega)⟩) (by omega) h1 B w0 hb hBg fun w' hh hb' => ?_
  rw [hn]
  refine h w' ?_ hb'
  have e1 : splice cur 0 cs = cs := by simp [splice]; omega
  have := hh.out
  rw [e1] at this
  exact this

end Go.Proofs.Qxb6608908a
