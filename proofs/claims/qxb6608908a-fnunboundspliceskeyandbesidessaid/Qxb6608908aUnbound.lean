/- unbound (12), ZZunbound (6). -/
import Derived.Test.Qxb6608908aTexts
import Derived.Test.Qxb6608908aShelf
import Derived.Test.Qxb6608908aKit
namespace Go.Proofs.Qxb6608908a
open Go.RowKit

theorem Try.info9 : (Try.prog.info? 9).map (fun i => (i.zero, i.size, i.bytes)) = some (some (.string ByteArray.empty), 1, 16) := by kernel_rfl

def scells (ps : List ByteArray) : List Value := ps.map Value.string
def side (k : Nat) : List UInt8 := if k = 0 then cL else cR
def partsK (K b : List UInt8) (k : Nat) : List (List UInt8) := if k = 0 then [] else if k = 1 then parts2 cL K b else parts2 cL K b ++ parts2 cR K b
theorem partsK_succ (K b : List UInt8) (k : Nat) (hk : k < 2) : partsK K b (k + 1) = partsK K b k ++ [part1 (side k) K b, part2 (side k) K b] := by
  have : k = 0 ∨ k = 1 := by omega
  rcases this with rfl | rfl <;> rfl
theorem partsK_length (K b : List UInt8) (k : Nat) : (partsK K b k).length ≤ 4 := by
  unfold partsK
  split
  · simp
  · split <;> simp [parts2]

/-- What the loop keeps: the two names of the sides; the parts that have been made. -/
structure InvU (w : World) (v : Value) (ps : List ByteArray) (wr : World) : Prop where
  lits : HasRow wr w.heap.size 9 [.string ⟨#[108, 101, 102, 116]⟩, .string ⟨#[114, 105, 103, 104, 116]⟩]
  own : wr.ownsRow (w.heap.size + 1) 9 1 v ps.length (scells ps)
  below : Below w.heap.size w wr

theorem InvU.push {w : World} {v v' : Value} {ps qs : List ByteArray} {wr w' : World} (h : InvU w v ps wr) (m : Nat) (hm : qs.length = m)
    (hown : w'.ownsRow (w.heap.size + 1) 9 1 v' (ps.length + m) (scells ps ++ scells qs)) (o : Obj) (hgrow : (wr.alloc o).grownBy w' v.ownBlock) : InvU w v' (ps ++ qs) w' := by
  have hs := h.below.size
  have hl := h.lits.lt
  have l' : HasRow (wr.alloc o) w.heap.size 9 _ := h.lits.below ((Below.refl wr.heap.size wr).alloc (Nat.le_refl _) o) hl
  have hne : ∀ k, v.ownBlock = some k → w.heap.size + 1 ≤ k := fun k hk => (h.own.lt k hk).1
  refine ⟨?_, ?_, (h.below.alloc hs o).grown hgrow (by simp; omega) (fun k hk => by have := hne k hk; omega)⟩
  · refine (hgrow.block w.heap.size l'.lt ?_).trans l'.out
    intro e
    have := hne w.heap.size e.symm
    omega
  · subst hm
    simpa [scells] using hown

/-- What is owned, opened: a row of texts at some block's head. -/
theorem own_open {w : World} {base : Nat} {v : Value} {ps : List ByteArray} (h : w.ownsRow base 9 1 v ps.length (scells ps)) (hpos : 0 < ps.length) :
    ∃ g cap n, v = .slice (some ⟨g, 0, none⟩) n cap ∧ Hid (n = ps.length ∧ g < w.heap.size ∧ ps.length ≤ cap ∧ ∀ (j : Nat) x, ps[j]? = some x → w.cell? ⟨g, 0 + j, none⟩ = some (.string x)) := by
  rcases h.2 with ⟨_, h0⟩ | ⟨g, cap, cur, rfl, hb, hh, hnc, _, _, _⟩
  · omega
  · refine ⟨g, cap, ps.length, rfl, rfl, (Array.getElem?_eq_some_iff.1 hh).1, hnc, fun j x hx => ?_⟩
    have hj : j < ps.length := (List.getElem?_eq_some_iff.1 hx).1
    rw [Nat.zero_add, h.cellAt j (by omega)]
    simp [scells, List.getElem?_map, hx]

/-- The side's name, as the round reads it. -/
theorem InvU.side {w : World} {v : Value} {ps : List ByteArray} {wr : World} (h : InvU w v ps wr) (k : Nat) (hk : k < 2) : ∃ S : ByteArray, wr.cell? ⟨w.heap.size, k, none⟩ = some (.string S) ∧ Hid (S.data.toList = side k) ∧ S.size ≤ 1 * 2097152 := by
  have : k = 0 ∨ k = 1 := by omega
  rcases this with rfl | rfl
  · exact ⟨_, (h.lits.cell 0).trans rfl, show _ = _ from rfl, by decide⟩
  · exact ⟨_, (h.lits.cell 1).trans rfl, show _ = _ from rfl, by decide⟩

theorem bes_empty {B : ByteArray} (h : B.toList.isEmpty = true) : B.data.toList = bes B.data.toList := by
  have e : B.data.toList = [] := by
    have := Lib.toList_data B
    rw [← this]; simpa using h
  rw [e]; rfl
theorem bes_more {B : ByteArray} (h : B.toList.isEmpty = false) : cAnd ++ B.data.toList = bes B.data.toList := by
  have e : ¬ B.data.toList = [] := by
    have := Lib.toList_data B
    rw [← this]; simpa using h
  unfold bes
  rw [if_neg e]

/-- strings.Join at a length that is written otherwise. -/
theorem join_at (bk c n : Nat) (xs : List ByteArray) (sep : ByteArray) (l : List UInt8) (w : World) (h : Hid (n = xs.length ∧ bk < w.heap.size ∧ xs.length ≤ c ∧ ∀ (j : Nat) x, xs[j]? = some x → w.cell? ⟨bk, 0 + j, none⟩ = some (.string x)))
    (hN : xs.length ≤ 140737488355328) (hl : Lib.join (xs.map (·.data.toList)) sep.data.toList = l) (hlen : l.length ≤ 140737488355328) :
    Calls Try.prog 13 #[.slice (some ⟨bk, 0, none⟩) n c, .string sep] w fun e w' => e = .returned (.string ⟨l.toArray⟩) ∧ Below w.heap.size w w' := by
  obtain ⟨rfl, hb, hc, hcells⟩ := h.out
  subst hl
  exact Try.strings_Join bk 0 c xs sep w hcells hb hN hc hlen

/-- What holds at each round's head. -/
def RelU (w : World) (K bb : List UInt8) (v t : Value) (wr : World) : Prop :=
  ∃ (k : Nat) (ps : List ByteArray), k ≤ 2 ∧ t = .int .i64 k ∧ Hid (ps.map (·.data.toList) = partsK K bb k) ∧ InvU w v ps wr

set_option maxRecDepth 100000 in
set_option maxHeartbeats 1000000 in
theorem unbound_any (key besides : ByteArray) (w : World) (hk : key.size ≤ 1 * 2097152) (hb : besides.size ≤ 1 * 2097152) :
    Calls Try.prog 12 #[.string key, .string besides] w fun e w' => e = .returned (.string ⟨(unb key.data.toList besides.data.toList).toArray⟩) ∧ Below w.heap.size w w' := by
  obtain ⟨i9, hi9, hz0, hz1, hz2⟩ := info_parts Try.info9
  have lits0 : HasRow (w.alloc (.cells #[.string ⟨#[108, 101, 102, 116]⟩, .string ⟨#[114, 105, 103, 104, 116]⟩] 9)) w.heap.size 9 [.string ⟨#[108, 101, 102, 116]⟩, .string ⟨#[114, 105, 103, 104, 116]⟩] := heap_alloc_new w _
  have below0 : Below w.heap.size w (w.alloc (.cells #[.string ⟨#[108, 101, 102, 116]⟩, .string ⟨#[114, 105, 103, 104, 116]⟩] 9)) := (Below.refl _ _).alloc (Nat.le_refl _) _
  obtain ⟨bb, HBB⟩ : ∃ bb, Hid (bes besides.data.toList = bb) := ⟨_, show _ = _ from rfl⟩
  cases hB : besides.toList.isEmpty
  case' false =>
    have HBes : Hid (cAnd ++ besides.data.toList = bes besides.data.toList) := bes_more hB
    go_enter Try.func12, Try.ntmps12
    go_wp2_with (show wpList _ _ _ (⟨some 13, _, _, _, _, _⟩ :: _) _ _; refine wpList_cat rfl 9 9 _ _ rfl _ _ rfl rfl 1 1 (lit_le (by decide)) hb (by decide) ?_; intro Z hZ hz)
    have HB1 : Hid (Z.data.toList = bb) := (hZ.out.trans HBes.out).trans HBB.out
    clear hZ HBes hB
  case' true =>
    have HB1 : Hid (besides.data.toList = bb) := (bes_empty hB).trans HBB.out
    go_enter Try.func12, Try.ntmps12
    go_wp2
    clear hB
  all_goals
    go_loopw [6, 16] (fun v t wr => RelU w key.data.toList bb v t wr) (fun _ t _ => 2 - (intOf t).toNat)
    case atStart => exact ⟨0, [], Nat.zero_le _, rfl, show _ = _ from rfl, lits0, World.ownsRow_nil _ _ _ _, below0⟩
    case round =>
      clear lits0 below0
      obtain ⟨k, ps, hk2, rfl, hps, inv⟩ := hrel
      have hpl : ps.length ≤ 4 := by
        have h1 := congrArg List.length hps.out
        have h2 := partsK_length key.data.toList bb k
        simp only [List.length_map] at h1
        omega
      have hws : w.heap.size + 1 ≤ wr.heap.size := inv.lits.lt
      by_cases hlt : k < 2
      · have hlt' : (k : Int) < 2 := by omega
        obtain ⟨S, hS, HS, sS⟩ := inv.side k hlt
        go_wp2_with (first | (at_builtin; refine wpList_append_own _ rfl (.tmp 29) (.tmp 44) 28 rfl (w.heap.size + 1) 9 i9 (.string ByteArray.empty) 1 16 Try.underlying28 hi9 hz0 hz1 hz2 rfl (by decide) _ _ _ rfl (inv.own.alloc _) ⟨wr.heap.size, 0, none⟩ 2 2 (scells [Z38, Z43]) rfl rfl (cell_two_new _ _ _ _) (by simp [scells, Value.oneCell']) (by unfold maxLen; omega) (by omega) (by simp; omega) ?_; intro v5 w5 hown5 hgrow5 _; have inv5 := inv.push 2 rfl hown5 _ hgrow5; clear hown5 hgrow5) | (show wpList _ _ _ (⟨some 21, _, _, _, _, _⟩ :: _) _ _; refine wpList_cat rfl 9 9 _ _ rfl _ _ rfl rfl _ _ (by first | assumption | exact lit_le (by decide +kernel)) (by first | assumption | exact lit_le (by decide +kernel)) (by decide) ?_; intro Z21 h21 z21) | (show wpList _ _ _ (⟨some 22, _, _, _, _, _⟩ :: _) _ _; refine wpList_cat rfl 9 9 _ _ rfl _ _ rfl rfl _ _ (by first | assumption | exact lit_le (by decide +kernel)) (by first | assumption | exact lit_le (by decide +kernel)) (by decide) ?_; intro Z22 h22 z22) | (show wpList _ _ _ (⟨some 24, _, _, _, _, _⟩ :: _) _ _; refine wpList_cat rfl 9 9 _ _ rfl _ _ rfl rfl _ _ (by first | assumption | exact lit_le (by decide +kernel)) (by first | assumption | exact lit_le (by decide +kernel)) (by decide) ?_; intro Z24 h24 z24) | (show wpList _ _ _ (⟨some 25, _, _, _, _, _⟩ :: _) _ _; refine wpList_cat rfl 9 9 _ _ rfl _ _ rfl rfl _ _ (by first | assumption | exact lit_le (by decide +kernel)) (by first | assumption | exact lit_le (by decide +kernel)) (by decide) ?_; intro Z25 h25 z25) | (show wpList _ _ _ (⟨some 27, _, _, _, _, _⟩ :: _) _ _; refine wpList_cat rfl 9 9 _ _ rfl _ _ rfl rfl _ _ (by first | assumption | exact lit_le (by decide +kernel)) (by first | assumption | exact lit_le (by decide +kernel)) (by decide) ?_; intro Z27 h27 z27) | (show wpList _ _ _ (⟨some 28, _, _, _, _, _⟩ :: _) _ _; refine wpList_cat rfl 9 9 _ _ rfl _ _ rfl rfl _ _ (by first | assumption | exact lit_le (by decide +kernel)) (by first | assumption | exact lit_le (by decide +kernel)) (by decide) ?_; intro Z28 h28 z28) | (show wpList _ _ _ (⟨some 31, _, _, _, _, _⟩ :: _) _ _; refine wpList_cat rfl 9 9 _ _ rfl _ _ rfl rfl _ _ (by first | assumption | exact lit_le (by decide +kernel)) (by first | assumption | exact lit_le (by decide +kernel)) (by decide) ?_; intro Z31 h31 z31) | (show wpList _ _ _ (⟨some 32, _, _, _, _, _⟩ :: _) _ _; refine wpList_cat rfl 9 9 _ _ rfl _ _ rfl rfl _ _ (by first | assumption | exact lit_le (by decide +kernel)) (by first | assumption | exact lit_le (by decide +kernel)) (by decide) ?_; intro Z32 h32 z32) | (show wpList _ _ _ (⟨some 34, _, _, _, _, _⟩ :: _) _ _; refine wpList_cat rfl 9 9 _ _ rfl _ _ rfl rfl _ _ (by first | assumption | exact lit_le (by decide +kernel)) (by first | assumption | exact lit_le (by decide +kernel)) (by decide) ?_; intro Z34 h34 z34) | (show wpList _ _ _ (⟨some 35, _, _, _, _, _⟩ :: _) _ _; refine wpList_cat rfl 9 9 _ _ rfl _ _ rfl rfl _ _ (by first | assumption | exact lit_le (by decide +kernel)) (by first | assumption | exact lit_le (by decide +kernel)) (by decide) ?_; intro Z35 h35 z35) | (show wpList _ _ _ (⟨some 37, _, _, _, _, _⟩ :: _) _ _; refine wpList_cat rfl 9 9 _ _ rfl _ _ rfl rfl _ _ (by first | assumption | exact lit_le (by decide +kernel)) (by first | assumption | exact lit_le (by decide +kernel)) (by decide) ?_; intro Z37 h37 z37) | (show wpList _ _ _ (⟨some 38, _, _, _, _, _⟩ :: _) _ _; refine wpList_cat rfl 9 9 _ _ rfl _ _ rfl rfl _ _ (by first | assumption | exact lit_le (by decide +kernel)) (by first | assumption | exact lit_le (by decide +kernel)) (by decide) ?_; intro Z38 h38 z38) | (show wpList _ _ _ (⟨some 40, _, _, _, _, _⟩ :: _) _ _; refine wpList_cat rfl 9 9 _ _ rfl _ _ rfl rfl _ _ (by first | assumption | exact lit_le (by decide +kernel)) (by first | assumption | exact lit_le (by decide +kernel)) (by decide) ?_; intro Z40 h40 z40) | (show wpList _ _ _ (⟨some 42, _, _, _, _, _⟩ :: _) _ _; refine wpList_cat rfl 9 9 _ _ rfl _ _ rfl rfl _ _ (by first | assumption | exact lit_le (by decide +kernel)) (by first | assumption | exact lit_le (by decide +kernel)) (by decide) ?_; intro Z42 h42 z42) | (show wpList _ _ _ (⟨some 43, _, _, _, _, _⟩ :: _) _ _; refine wpList_cat rfl 9 9 _ _ rfl _ _ rfl rfl _ _ (by first | assumption | exact lit_le (by decide +kernel)) (by first | assumption | exact lit_le (by decide +kernel)) (by decide) ?_; intro Z43 h43 z43))
        have p28 : Z28.data.toList = bnd (side k) key.data.toList := by
          rw [h28.out, h27.out, h25.out, h24.out, h22.out, h21.out, HS.out]; rfl
        have p38 : Z38.data.toList = part1 (side k) key.data.toList bb := by
          rw [h38.out, h37.out, h35.out, h34.out, h32.out, h31.out, p28, HB1.out]; rfl
        have p43 : Z43.data.toList = part2 (side k) key.data.toList bb := by
          rw [h43.out, h42.out, h40.out, p28, HB1.out]; rfl
        have hps' : (ps ++ [Z38, Z43]).map (·.data.toList) = partsK key.data.toList bb (k + 1) := by
          rw [List.map_append, hps.out, partsK_succ _ _ _ hlt]
          simp only [List.map_cons, List.map_nil, p38, p43]
        have HR : ∀ t, t = Value.int .i64 ((k + 1 : Nat) : Int) → RelU w key.data.toList bb v5 t w5 := fun t ht => ⟨k + 1, _, by omega, ht, hps', inv5⟩
        go_roundw
        case rel => first | exact HR _ (by go_num) | exact ⟨v5, _, _, _, HR _ (by go_num), rfl, rfl, rfl, rfl⟩
        case measure => simp [intOf]; omega
      · obtain rfl : k = 2 := by omega
        clear hlt hk2
        go_wp2_with (first | (at_builtin; refine wpList_append_own _ rfl (.tmp 47) (.tmp 51) 28 rfl (w.heap.size + 1) 9 i9 (.string ByteArray.empty) 1 16 Try.underlying28 hi9 hz0 hz1 hz2 rfl (by decide) _ _ _ rfl (inv.own.alloc _) ⟨wr.heap.size, 0, none⟩ 1 1 (scells [Z50]) rfl rfl (cell_one_new _ _ _) (by simp [scells, Value.oneCell']) (by unfold maxLen; omega) (by omega) (by simp; omega) ?_; intro v5 w5 hown5 hgrow5 _; have inv5 := inv.push 1 rfl hown5 _ hgrow5; clear hown5 hgrow5; obtain ⟨g, cap, n5, rfl, hcl⟩ := own_open inv5.own (by simp)) | (show wpList _ _ _ (⟨some 49, _, _, _, _, _⟩ :: _) _ _; refine wpList_cat rfl 9 9 _ _ rfl _ _ rfl rfl _ _ (by first | assumption | exact lit_le (by decide +kernel)) (by first | assumption | exact lit_le (by decide +kernel)) (by decide) ?_; intro Z49 h49 z49) | (show wpList _ _ _ (⟨some 50, _, _, _, _, _⟩ :: _) _ _; refine wpList_cat rfl 9 9 _ _ rfl _ _ rfl rfl _ _ (by first | assumption | exact lit_le (by decide +kernel)) (by first | assumption | exact lit_le (by decide +kernel)) (by decide) ?_; intro Z50 h50 z50))
        have p50 : Z50.data.toList = part5 key.data.toList := by
          rw [h50.out, h49.out]; rfl
        have hall : (ps ++ [Z50]).map (·.data.toList) = parts2 cL key.data.toList bb ++ parts2 cR key.data.toList bb ++ [part5 key.data.toList] := by
          rw [List.map_append, hps.out]
          simp only [List.map_cons, List.map_nil, p50]
          rfl
        have hjoin : Lib.join ((ps ++ [Z50]).map (·.data.toList)) (⟨#[32, 65, 78, 68, 32]⟩ : ByteArray).data.toList = unb key.data.toList besides.data.toList := by
          rw [hall, ← HBB.out]; rfl
        have hlen : (unb key.data.toList besides.data.toList).length ≤ 140737488355328 := by
          have h1 := unb_length key.data.toList besides.data.toList
          have h2 := bes_length besides.data.toList
          have h3 : key.data.toList.length = key.size := by simp
          have h4 : besides.data.toList.length = besides.size := by simp
          split at h2 <;> omega
        refine (join_at g cap n5 (ps ++ [Z50]) ⟨#[32, 65, 78, 68, 32]⟩ _ w5 hcl (by simp; omega) hjoin hlen).mono ?_
        rintro e w7 ⟨rfl, hb7⟩
        have hbw := inv5.below.trans (hb7.mono inv5.below.size)
        clear hjoin hall hlen p50 hb7 inv5 inv hcl hps HB1 HBB
        go_wp2
        go_ret
        exact ⟨rfl, hbw⟩

set_option maxHeartbeats 400000 in
theorem zzunbound_any (key besides : ByteArray) (w : World) (hk : key.size ≤ 1 * 2097152) (hb : besides.size ≤ 1 * 2097152) :
    Calls Try.prog 6 #[.string key, .string besides] w fun e w' => e = .returned (.string ⟨(unb key.data.toList besides.data.toList).toArray⟩) ∧ Below w.heap.size w w' := by
  go_enter Try.func6, Try.ntmps6
  go_wp2_with (go_at_call 12; refine (unbound_any key besides _ hk hb).mono ?_; rintro e w' ⟨rfl, hb'⟩)
  go_ret
  exact ⟨rfl, hb'⟩

end Go.Proofs.Qxb6608908a
