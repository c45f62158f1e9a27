import Derived.Test.Qxb6614537aLeave
import Derived.Test.Qxb6614537aPlain5
namespace Go.Proofs.Qxb6614537a
open Go.RowKit

theorem Try.info4 : (Try.prog.info? 4).map (fun i => (i.zero, i.size, i.bytes)) = some (some (.bool false), 1, 1) := by kernel_rfl
theorem Try.info3 : (Try.prog.info? 3).map (fun i => (i.zero, i.size, i.bytes)) = some (some (.int .i64 0), 1, 8) := by kernel_rfl

def bcells (bs : List Bool) : List Value := bs.map Value.bool
def icells (ks : List Nat) : List Value := ks.map fun (k : Nat) => Value.int .i64 (k : Int)

theorem bcells_at (bs : List Bool) (j : Nat) (h : j < bs.length) : (bcells bs)[j]? = some (.bool (bs.getD j true)) := by
  simp [bcells, List.getElem?_map, List.getElem?_eq_getElem h, List.getD]
theorem oneCell_bcells (bs : List Bool) : ∀ v ∈ bcells bs, v.oneCell' = true := by
  intro v hv
  simp only [bcells, List.mem_map] at hv
  obtain ⟨z, _, rfl⟩ := hv
  rfl

/-- 'make([]T, 0, n)', T of one cell. -/
theorem wpList_make_kept {P : Program} (w : World) {ops : Array Oper} {rest : List Oper} {o : Oper} {a : Act} {Q : Exit → Act → World → Prop}
    (hg : o.guard = none) (l c : Operand) (t : TypeId) (hop : o.op = Op.makeSlice t l c)
    (e : TypeId) (i : TypeInfo) (z : Value) (h1 : P.underlying t = some (.slice e)) (h2 : P.info? e = some i) (h3 : i.zero = some z) (h4 : i.size = 1)
    (kl kc : IntKind) (C : Int) (n : Nat) (hl : a.eval l = .int kl 0) (hc : a.eval c = .int kc C) (hC : C = (n : Int)) (b2 : i.bytes * n ≤ 281474976710656) (b3 : n ≤ maxLen)
    (hK : ∀ w', w'.ownsRow w.heap.size e 1 (.slice (some ⟨w.heap.size, 0, none⟩) 0 n) 0 [] → Below w.heap.size w w' → wpList P ops Q rest (a.put o.dst (.slice (some ⟨w.heap.size, 0, none⟩) 0 n)) w') :
    wpList P ops Q (o :: rest) a w :=
  wpList_make_own w hg l c t hop w.heap.size e i z 1 h1 h2 h3 h4 kl kc C n hl hc hC b2 b3 (Nat.le_refl _) fun w' hown hgrow =>
    hK w' hown ((Below.refl _ _).grown hgrow (Nat.le_refl _) (by intro k hk; cases hk))

/-- The two rows of the call's own: the copy of the bools; what has been kept. -/
structure Inv5 (w : World) (g1 g2 n : Nat) (bs : List Bool) (ks : List Nat) (wr : World) : Prop where
  lt1 : w.heap.size ≤ g1
  lt12 : g1 < g2
  r1 : HasRow wr g1 4 (bcells bs)
  own : wr.ownsRow g2 3 1 (.slice (some ⟨g2, 0, none⟩) ks.length n) ks.length (icells ks)
  below : Below w.heap.size w wr

theorem Inv5.lt2 {w : World} {g1 g2 n : Nat} {bs : List Bool} {ks : List Nat} {wr : World} (h : Inv5 w g1 g2 n bs ks wr) : g2 < wr.heap.size := (h.own.lt g2 rfl).2

theorem grownBy_of_below {w w' : World} (h : Below w.heap.size w w') : w.grownBy w' none := ⟨h.os, h.tape, h.output, h.size, fun k hk _ => h.block k hk⟩

/-- Behind a call that only makes new memory. -/
theorem Inv5.later {w : World} {g1 g2 n : Nat} {bs : List Bool} {ks : List Nat} {wr w' : World} (h : Inv5 w g1 g2 n bs ks wr) (hb : Below wr.heap.size wr w') : Inv5 w g1 g2 n bs ks w' :=
  ⟨h.lt1, h.lt12, h.r1.below hb h.r1.lt, h.own.kept (grownBy_of_below hb) (.inr (by simp [Value.ownBlock])), h.below.trans (hb.mono h.below.size)⟩

/-- Behind an append of one element within the capacity. -/
theorem Inv5.push {w : World} {g1 g2 n : Nat} {bs : List Bool} {ks : List Nat} {wr w' : World} {k : Nat} (h : Inv5 w g1 g2 n bs ks wr)
    (hown : w'.ownsRow g2 3 1 (.slice (some ⟨g2, 0, none⟩) (ks.length + 1) n) (ks.length + 1) (icells ks ++ [.int .i64 (k : Int)])) (o : Obj) (hgrow : (wr.alloc o).grownBy w' (some g2)) :
    Inv5 w g1 g2 n bs (ks ++ [k]) w' := by
  have l12 := h.lt12
  have l1 := h.lt1
  have hs := h.below.size
  have hb1 : Below w.heap.size w (wr.alloc o) := h.below.alloc hs o
  have r1' : HasRow (wr.alloc o) g1 4 (bcells bs) := h.r1.below ((Below.refl wr.heap.size wr).alloc (Nat.le_refl _) o) h.r1.lt
  refine ⟨h.lt1, h.lt12, ?_, ?_, hb1.grown hgrow (by simp; omega) (by intro k hk; cases hk; omega)⟩
  · exact (hgrow.block g1 r1'.lt (by simp; omega)).trans r1'.out
  · simpa [icells] using hown

theorem Inv5.at (w : World) {g1 g2 n : Nat} {bs : List Bool} {ks : List Nat} {wr : World} (h : Inv5 w g1 g2 n bs ks wr) (p k : Nat) (hp : ks[p]? = some k) : wr.cell? ⟨g2, p, none⟩ = some (.int .i64 (k : Int)) := by
  have hl : p < ks.length := (List.getElem?_eq_some_iff.1 hp).1
  rw [h.own.cellAt p (by omega)]
  simp [icells, List.getElem?_map, hp]

set_option maxHeartbeats 400000 in
theorem walk5_long (a : Option Addr) (n c : Nat) (w : World) (hn : n ≤ maxLen) (hbig : 65536 < n) :
    Calls Try.prog 5 #[.slice a n c] w fun e w' => e = .returned (.bool true) ∧ Below w.heap.size w w' := by
  have hn' := hn
  unfold maxLen at hn'
  have h4 : (65536 : Int) < n := by omega
  by_cases h20 : n ≤ 1048576
  · go_enter Try.func5, Try.ntmps5
    go_wp2_with (go_at_call 9; refine (bytes9_any _ _ _ _ hn).mono ?_; rintro e w' ⟨rfl, rfl⟩)
    go_ret
    exact ⟨rfl, Below.refl _ _⟩
  · go_enter Try.func5, Try.ntmps5
    go_wp2_with (go_at_call 9; refine (bytes9_any _ _ _ _ hn).mono ?_; rintro e w' ⟨rfl, rfl⟩)
    go_ret
    exact ⟨rfl, Below.refl _ _⟩

set_option maxHeartbeats 400000 in
theorem walk5_nil (w : World) :
    Calls Try.prog 5 #[.slice none 0 0] w fun e w' => e = .returned (.bool true) ∧ Below w.heap.size w w' := by
  obtain ⟨i3, hi3, hy0, hy1, hy2⟩ := info_parts Try.info3
  go_enter Try.func5, Try.ntmps5
  go_wp2_with (first | (go_at_call 9; refine (bytes9_any _ _ _ _ (by decide)).mono ?_; rintro e w' ⟨rfl, rfl⟩) | (at_make; refine wpList_make_kept _ rfl _ _ 29 rfl 3 i3 (.int .i64 0) Try.underlying29 hi3 hy0 hy1 _ _ _ 0 rfl rfl rfl (by omega) (by decide) ?_; intro w1 hown hb1))
  refine wp_loop_rounds 1 ?_
  rw [rounds_succ]
  go_wp2
  refine wp_loop_rounds 1 ?_
  rw [rounds_succ]
  go_wp2
  go_ret
  exact ⟨rfl, hb1⟩

set_option maxHeartbeats 800000 in
theorem walk5_row (x : Addr) (n c : Nat) (bs : List Bool) (w : World) (hn : n ≤ 65536) (hbs : bs.length = n)
    (hcell : ∀ j v, (bcells bs)[j]? = some v → w.cell? (x.add j) = some v) :
    Calls Try.prog 5 #[.slice (some x) n c] w fun e w' => e = .returned (.bool true) ∧ Below w.heap.size w w' := by
  have hm : n ≤ maxLen := by unfold maxLen; omega
  have h4 : (n : Int) ≤ 65536 := by omega
  have h20 : n ≤ 1048576 := by omega
  obtain ⟨i3, hi3, hy0, hy1, hy2⟩ := info_parts Try.info3
  obtain ⟨i4, hi4, hz0, hz1, hz2⟩ := info_parts Try.info4
  have HC : Hid (∀ j v, (bcells bs)[j]? = some v → w.cell? (x.add j) = some v) := hcell
  clear hcell
  go_enter Try.func5, Try.ntmps5
  go_wp2_with (first | (go_at_call 9; refine (bytes9_any _ _ _ _ hm).mono ?_; rintro e w' ⟨rfl, rfl⟩) | (at_make; refine wpList_make_row _ rfl (.tmp 19) (.tmp 19) 27 rfl 4 i4 (.bool false) Try.underlying27 hi4 hz0 hz1 rfl _ _ _ _ n rfl rfl rfl rfl (by rw [hz2]; omega) hm ?_; intro w1 hr1 hb1) | (show wpList _ _ _ (⟨some 23, _, _, _, _, _⟩ :: _) _ _; refine wpList_copy_row rfl (.tmp 21) (.tmp 22) 27 27 rfl 4 Try.underlying27 (by rw [hi4]; simp [hz1]) _ n _ _ _ rfl rfl _ hr1 (by simp) (bcells bs) (by simp [bcells, hbs]) (fun _ => ⟨x, rfl, fun j v h => cell_later hb1 (HC.out j v h)⟩) (oneCell_bcells bs) w.heap.size w hb1 (Nat.le_refl _) ?_; intro w2 hr2 hb2) | (at_make; refine wpList_make_kept _ rfl _ (.tmp 27) 29 rfl 3 i3 (.int .i64 0) Try.underlying29 hi3 hy0 hy1 _ _ _ n rfl rfl rfl (by rw [hy2]; omega) hm ?_; intro w3 hown hb3))
  have inv0 : Inv5 w w.heap.size w2.heap.size n bs [] w3 := ⟨Nat.le_refl _, hr2.lt, hr2.below hb3 hr2.lt, hown, hb2.trans (hb3.mono hb2.size)⟩
  clear hr1 hb1 HC hr2 hb2 hown hb3
  go_loopw [5, 6] (fun v t wr => ∃ i : Nat, i ≤ n ∧ t = .int .i64 i ∧ v = .slice (some ⟨w2.heap.size, 0, none⟩) (fal bs i).length n ∧ Inv5 w w.heap.size w2.heap.size n bs (fal bs i) wr) (fun _ t _ => n - (intOf t).toNat)
  case atStart => exact ⟨0, Nat.zero_le _, rfl, rfl, inv0⟩
  case round =>
    clear inv0
    obtain ⟨i, hi, rfl, rfl, inv⟩ := hrel
    by_cases hlt : i < n
    · have hlt' : (i : Int) < n := by omega
      have hc := (inv.r1.cell i).trans (bcells_at bs i (by omega))
      have hg := inv.r1.lt
      have hle := fal_le bs i
      cases hb : bs.getD i true
      · have hy := fal_yes bs i hb
        rw [hb] at hc
        obtain ⟨ks, hks⟩ : ∃ ks, ks = fal bs i := ⟨_, rfl⟩
        rw [← hks] at inv hle hy ⊢
        clear hks
        have HC : Hid (wr.cell? ⟨w.heap.size, i, none⟩ = some (.bool false)) := hc
        have HY : Hid (fal bs (i + 1) = ks ++ [i]) := hy
        clear hc hy hb
        go_wp2_with (first | (go_at_call 10; refine (leave_false _ n n i _ hg hlt hn HC.out).mono ?_; rintro e wl ⟨rfl, hbl⟩; have inv1 := inv.later hbl) | (at_builtin; refine wpList_append_fits _ rfl (.tmp 46) (.tmp 48) 29 rfl w2.heap.size 3 i3 1 Try.underlying29 hi3 hy1 w2.heap.size ks.length n (icells ks) rfl (inv1.own.alloc _) ⟨wl.heap.size, 0, none⟩ 1 1 [.int .i64 (i : Int)] rfl rfl (cell_one_new _ _ _) (by simp [Value.oneCell']) (by omega) ?_; intro w5 hown5 hgrow5; have inv2 := inv1.push hown5 _ hgrow5; clear hown5 hgrow5))
        go_roundw
        case rel => exact ⟨i + 1, by omega, by go_num, by rw [HY.out]; simp, by rw [HY.out]; exact inv2⟩
        case measure => simp [intOf]; omega
      · have hy := fal_no bs i hb
        rw [hb] at hc
        have HC : Hid (wr.cell? ⟨w.heap.size, i, none⟩ = some (.bool true)) := hc
        have HY : Hid (fal bs (i + 1) = fal bs i) := hy
        clear hc hy hb
        go_wp2_with (go_at_call 10; refine (leave_true _ n n i _ hg hlt hn HC.out).mono ?_; rintro e wl ⟨rfl, hbl⟩; have inv1 := inv.later hbl)
        go_roundw
        case rel => exact ⟨i + 1, by omega, by go_num, by rw [HY.out], by rw [HY.out]; exact inv1⟩
        case measure => simp [intOf]; omega
    · obtain rfl : n = i := by omega
      clear hlt hi
      go_wp2
      go_loop [8, 9] (fun p t => ∃ i : Nat, i ≤ n ∧ t = .int .i64 i ∧ p = .int .i64 ((fal bs i).length : Int)) (fun _ t => n - (intOf t).toNat)
      case atStart => exact ⟨0, Nat.zero_le _, rfl, rfl⟩
      case round =>
        obtain ⟨i, hi, rfl, rfl⟩ := hrel
        have hle := fal_le bs i
        by_cases hlt : i < n
        · have hlt' : (i : Int) < n := by omega
          have hc := (inv.r1.cell i).trans (bcells_at bs i (by omega))
          cases hb : bs.getD i true
          · have HY : Hid (fal bs (i + 1) = fal bs i ++ [i]) := fal_yes bs i hb
            have hk := inv.at w _ i (fal_at bs i n hlt hb)
            have hl := fal_lt bs i n hlt hb
            have hl' : ((fal bs i).length : Int) < ((fal bs n).length : Int) := by omega
            rw [hb] at hc
            clear hb
            go_wp2
            go_round
            case rel => exact ⟨i + 1, by omega, by go_num, by rw [HY.out]; simp⟩
            case measure => simp [intOf]; omega
          · have HY : Hid (fal bs (i + 1) = fal bs i) := fal_no bs i hb
            rw [hb] at hc
            clear hb
            go_wp2
            go_round
            case rel => exact ⟨i + 1, by omega, by go_num, by rw [HY.out]⟩
            case measure => simp [intOf]; omega
        · obtain rfl : n = i := by omega
          go_wp2
          go_ret
          exact ⟨rfl, inv.below⟩
end Go.Proofs.Qxb6614537a
