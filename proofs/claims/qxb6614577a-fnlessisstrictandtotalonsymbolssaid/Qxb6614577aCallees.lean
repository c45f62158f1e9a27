/- The callees: zzBytes (5), ZZbySymbolOf (6), Less (7). -/
import Derived.Test.Qxb6614577aRows
import Derived.Test.Qxb6614577aKit
import Derived.Test.Qxb6614577aPlain
import Derived.Deep.QuietTactic
import Derived.BigQuiet
import Derived.Deep.MidRow
namespace Go.Proofs.Qxb6614577a
open Go.RowKit

set_option maxHeartbeats 400000 in
theorem less_any (g n c i j : Nat) (s t : ByteArray) (w : World) (hi : i < n) (hj : j < n)
    (ci : w.cell? ⟨g, 9 * i, none⟩ = some (.string s)) (cj : w.cell? ⟨g, 9 * j, none⟩ = some (.string t)) :
    Calls Try.prog 7 #[.slice (some ⟨g, 0, none⟩) n c, .int .i64 (i : Int), .int .i64 (j : Int)] w fun e w' => e = .returned (.bool (lessS s t)) ∧ ∃ m, w' = w.drewN m := by
  have h1 : (i : Int) < n := by omega
  have h2 : (j : Int) < n := by omega
  rw [Nat.mul_comm] at ci cj
  go_enter Try.func7, Try.ntmps7
  go_wp2
  go_quiet (fail)
  go_wp2
  go_ret
  exact ⟨rfl, _, rfl⟩

theorem Try.info37 : (Try.prog.info? 37).map (fun i => (i.zero, i.size, i.bytes)) = some (some (.agg #[.string ByteArray.empty, .string ByteArray.empty, .string ByteArray.empty, .pointer none, .int .i32 0, .pointer none, .int .i32 0, .pointer none, .int .i32 0]), 9, 96) := by kernel_rfl

/-- 'make([]T, n)', T of whatever size. -/
theorem wpList_make_wide {P : Program} (w : World) {ops : Array Oper} {rest : List Oper} {o : Oper} {a : Act} {Q : Exit → Act → World → Prop}
    (hg : o.guard = none) (l c : Operand) (t : TypeId) (hop : o.op = Op.makeSlice t l c)
    (e : TypeId) (i : TypeInfo) (z : Value) (size : Nat) (h1 : P.underlying t = some (.slice e)) (h2 : P.info? e = some i) (h3 : i.zero = some z) (h4 : i.size = size)
    (kl kc : IntKind) (L C : Int) (n : Nat) (hl : a.eval l = .int kl L) (hc : a.eval c = .int kc C) (hL : L = (n : Int)) (hC : C = (n : Int)) (b2 : i.bytes * n ≤ 281474976710656) (b3 : n ≤ maxLen)
    (hK : ∀ w', w'.there w.heap.size 0 (n * size) → Below w.heap.size w w' → wpList P ops Q rest (a.put o.dst (.slice (some ⟨w.heap.size, 0, none⟩) n n)) w') :
    wpList P ops Q (o :: rest) a w := by
  refine wpList_make_full w hg l c t hop w.heap.size e i z size h1 h2 h3 h4 kl kc L C n hl hc hL hC b2 b3 (Nat.le_refl _) fun w' hown hgrow => ?_
  refine hK w' (fun j hj => ?_) ((Below.refl _ _).grown hgrow (Nat.le_refl _) (by intro k hk; cases hk))
  rw [Nat.zero_add]
  refine ⟨?_, hown.frozenAt j⟩
  rw [hown.cellAt j hj, List.getElem?_eq_getElem (by rw [hown.1]; exact hj)]
  rfl

theorem below_setCells {B g : Nat} {w0 : World} (hg : B ≤ g) : ∀ (vs : List Value) (o : Nat) (w : World), Below B w0 w → Below B w0 (w.setCells g o vs)
  | [], _, _, h => h
  | v :: r, o, _, h => below_setCells hg r (o + 1) _ (h.setCell (p := ⟨g, o, none⟩) hg v)

/-- The row of holdings in the making: it is there; the first k of n bear their symbols. -/
structure Inv6 (w : World) (g n k : Nat) (ss : List ByteArray) (wr : World) : Prop where
  lt : w.heap.size ≤ g
  there : wr.there g 0 (n * 9)
  syms : ∀ t, t < k → wr.cell? ⟨g, 9 * t, none⟩ = some (.string (ss.getD t ByteArray.empty))
  below : Below w.heap.size w wr

theorem Inv6.next {w : World} {g n k : Nat} {ss : List ByteArray} {wr : World} (h : Inv6 w g n k ss wr) (hk : k < n) (r : List Value) (hr : r.length = 8) :
    Inv6 w g n (k + 1) ss (wr.setCells g (k * 9) (.string (ss.getD k ByteArray.empty) :: r)) := by
  refine ⟨h.lt, ?_, ?_, below_setCells h.lt _ _ _ h.below⟩
  · intro j hj
    refine ⟨?_, ?_⟩
    · by_cases hin : k * 9 ≤ 0 + j ∧ 0 + j < k * 9 + (Value.string (ss.getD k ByteArray.empty) :: r).length
      · obtain ⟨d, hd⟩ : ∃ d, 0 + j = k * 9 + d := ⟨0 + j - k * 9, by omega⟩
        rw [hd, World.cell?_setCells_in g _ _ wr (fun i hi => by have := (h.there (k * 9 + i) (by simp [hr] at hi; omega)).1; simpa using this) d (by omega)]
        rfl
      · rw [World.cell?_setCells_out g _ _ wr _ (fun _ _ => by show 0 + j < _ ∨ _ ≤ 0 + j; omega)]
        exact (h.there j hj).1
    · rw [World.frozen?_setCells]; exact (h.there j hj).2
  · intro t ht
    by_cases e : t = k
    · subst e
      have := World.cell?_setCells_in g (Value.string (ss.getD t ByteArray.empty) :: r) (t * 9) wr (fun i hi => by have := (h.there (t * 9 + i) (by simp [hr] at hi; omega)).1; simpa using this) 0 (by simp)
      rw [Nat.mul_comm 9 t]
      simpa using this
    · rw [World.cell?_setCells_out g _ _ wr _ (fun _ _ => by show 9 * t < _ ∨ _ ≤ 9 * t; simp only [List.length_cons, hr]; omega)]
      exact h.syms t (by omega)

theorem Inv6.mid {w : World} {g n k : Nat} {ss : List ByteArray} {wr : World} (h : Inv6 w g n k ss wr) (hk : k < n) : wr.there g (k * 9) 9 := fun j hj => by
  have := h.there (k * 9 + j) (by omega)
  simpa using this

set_option maxHeartbeats 400000 in
theorem by_any (g n c : Nat) (ss : List ByteArray) (w : World) (hg : g < w.heap.size) (hn : n ≤ 65536)
    (hc : ∀ t, t < n → w.cell? ⟨g, t, none⟩ = some (.string (ss.getD t ByteArray.empty))) :
    Calls Try.prog 6 #[.slice (some ⟨g, 0, none⟩) n c] w fun e w' => e = .returned (.slice (some ⟨w.heap.size, 0, none⟩) n n) ∧ Inv6 w w.heap.size n n ss w' := by
  have hm : n ≤ maxLen := by unfold maxLen; omega
  have h4 : (n : Int) ≤ 65536 := by omega
  obtain ⟨i37, hi, hz0, hz1, hz2⟩ := info_parts Try.info37
  have HC : Hid (∀ t, t < n → w.cell? ⟨g, t, none⟩ = some (.string (ss.getD t ByteArray.empty))) := hc
  clear hc
  go_enter Try.func6, Try.ntmps6
  go_wp2_with (at_make; refine wpList_make_wide _ rfl (.tmp 6) (.tmp 6) 25 rfl 37 i37 _ 9 Try.underlying25 hi hz0 hz1 _ _ _ _ n rfl rfl rfl rfl (by rw [hz2]; omega) hm ?_; intro w1 ht1 hb1)
  have inv0 : Inv6 w w.heap.size n 0 ss w1 := ⟨Nat.le_refl _, ht1, fun t ht => absurd ht (by omega), hb1⟩
  clear ht1 hb1
  go_loopw [10] (fun t wr => ∃ k : Nat, k ≤ n ∧ t = .int .i64 k ∧ Inv6 w w.heap.size n k ss wr) (fun t _ => n - (intOf t).toNat)
  case atStart => exact ⟨0, Nat.zero_le _, rfl, inv0⟩
  case round =>
    clear inv0
    obtain ⟨k, hk, rfl, inv⟩ := hrel
    by_cases hlt : k < n
    · have hlt' : (k : Int) < n := by omega
      have hck : wr.cell? ⟨g, k, none⟩ = some (.string (ss.getD k ByteArray.empty)) := (inv.below.cell hg).trans (HC.out k hlt)
      have inv' := fun r hr => inv.next hlt r hr
      obtain ⟨s, hs⟩ : ∃ s, ss.getD k ByteArray.empty = s := ⟨_, rfl⟩
      rw [hs] at hck inv'
      have I' : Hid (∀ r : List Value, r.length = 8 → Inv6 w w.heap.size n (k + 1) ss (wr.setCells w.heap.size (k * 9) (.string s :: r))) := inv'
      have hmid := inv.mid hlt
      have h37 : (Try.prog.info? 37).map (·.size) = some 9 := by rw [hi]; simp [hz1]
      clear inv' hs inv
      go_wp2_with (show wpList _ _ _ (⟨none, _, _, _, _, _⟩ :: _) _ _; refine wpList_store_mid rfl 37 (.tmp 20) (.tmp 19) rfl w.heap.size (k * 9) _ rfl rfl hmid h37 (by simp [Value.oneCell']) ?_)
      go_roundw
      case rel => exact ⟨k + 1, by omega, by go_num, I'.out _ rfl⟩
      case measure => simp [intOf]; omega
    · obtain rfl : n = k := by omega
      go_wp2
      go_ret
      exact ⟨rfl, inv⟩
end Go.Proofs.Qxb6614577a
