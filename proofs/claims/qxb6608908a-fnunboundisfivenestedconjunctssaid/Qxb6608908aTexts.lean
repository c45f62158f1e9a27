/- The callees that make texts: fiveNotExists (11), topLevelText (10). -/
import Derived.Test.Qxb6608908aScans
import Derived.Laws.Concat
import Derived.Laws.IdiomStrings
namespace Go.Proofs.Qxb6608908a
open Go.RowKit

/-- 'x + y' on texts, as one step of a plain region: the new text is a name, of which the bytes and a bound on the length are known (in units of 2^21 bytes). -/
theorem wpList_cat {P : Program} {w : World} {ops : Array Oper} {rest : List Oper} {o : Oper} {a : Act} {Q : Exit → Act → World → Prop} (hgd : o.guard = none) (t u : TypeId) (x y : Operand)
    (ho : o.op = .binOp .add t x y u) (X Y : ByteArray) (hx : a.eval x = .string X) (hy : a.eval y = .string Y) (c d : Nat) (hX : X.size ≤ c * 2097152) (hY : Y.size ≤ d * 2097152) (hcd : c + d ≤ 1000)
    (h : ∀ Z : ByteArray, Hid (Z.data.toList = X.data.toList ++ Y.data.toList) → Z.size ≤ (c + d) * 2097152 → wpList P ops Q rest (a.put o.dst (.string Z)) w) : wpList P ops Q (o :: rest) a w := by
  refine wpList_plain hgd fun K hK => ?_
  have hrun := run_string_add_sum (P := P) w X Y (by omega)
  unfold Oper.wp
  simp [execOp, ho, hx, hy, binOp, eqGuard, hrun, Result.andThen]
  refine hK _ _ (h (X ++ Y) ?_ ?_)
  · show _ = _
    simp [ByteArray.data_append]
  · rw [ByteArray.size_append]; omega

theorem lit_le {X : ByteArray} (h : X.size ≤ 2097152) : X.size ≤ 1 * 2097152 := by omega

/-- What 'fiveNotExists' has put together behind n rounds. -/
def fiveN : Nat → List UInt8
  | 0 => cNot
  | n + 1 => fiveN n ++ cMore
theorem fiveN_all : fiveN 4 = five := rfl
theorem text_eq {S : ByteArray} {l : List UInt8} (h : S.data.toList = l) : S = ⟨l.toArray⟩ := by
  rw [← h]
theorem ret_text {S : ByteArray} {l : List UInt8} (h : S.data.toList = l) : Ending.returned (.string S) = .returned (.string ⟨l.toArray⟩) := by rw [← h]

set_option maxHeartbeats 400000 in
theorem five_any (w : World) : Calls Try.prog 11 #[] w fun e w' => e = .returned (.string ⟨five.toArray⟩) ∧ w = w' := by
  go_enter Try.func11, Try.ntmps11
  go_wp2
  go_loop [1, 2] (fun u t => ∃ (m : Nat) (S : ByteArray), m ≤ 4 ∧ t = .int .i64 (m + 1 : Nat) ∧ u = .string S ∧ Hid (S.data.toList = fiveN m) ∧ S.size ≤ 1 * 2097152 * (m + 1)) (fun _ t => 5 - (intOf t).toNat)
  case atStart => exact ⟨0, _, Nat.zero_le _, rfl, rfl, show _ = _ from rfl, by decide⟩
  case round =>
    obtain ⟨m, S, hm, rfl, rfl, hS, hsz⟩ := hrel
    by_cases hlt : m < 4
    · have hlt' : (((m + 1 : Nat)) : Int) < 5 := by omega
      have hsz' : S.size ≤ (m + 1) * 2097152 := by omega
      go_wp2_with (show wpList _ _ _ (⟨some 8, _, _, _, _, _⟩ :: _) _ _; refine wpList_cat rfl 9 9 _ _ rfl S _ rfl rfl (m + 1) 1 hsz' (lit_le (by decide)) (by omega) ?_; intro Z hZ hz)
      go_round
      case rel => exact ⟨m + 1, Z, by omega, by go_num, rfl, hZ.out.trans (by rw [hS.out]; rfl), by omega⟩
      case measure => simp [intOf]; omega
    · obtain rfl : m = 4 := by omega
      go_wp2
      go_ret
      exact ⟨ret_text (hS.out.trans fiveN_all), rfl⟩

theorem Try.info5 : (Try.prog.info? 5).map (fun i => (i.zero, i.size, i.bytes)) = some (some (.int .u8 0), 1, 1) := by kernel_rfl

/-- The cells of a row of bytes. -/
def bcells (l : List UInt8) : List Value := l.map fun b => Value.int .u8 (b.toNat : Int)
theorem bcells_snoc (l : List UInt8) (b : UInt8) : bcells (l ++ [b]) = bcells l ++ [.int .u8 (b.toNat : Int)] := by simp [bcells]

/-- The row of the call's own in which the bytes at depth zero are gathered. -/
structure InvT (w : World) (g n : Nat) (o : List UInt8) (wr : World) : Prop where
  lt : w.heap.size ≤ g
  own : wr.ownsRow g 5 1 (.slice (some ⟨g, 0, none⟩) o.length n) o.length (bcells o)
  below : Below w.heap.size w wr

theorem InvT.push {w : World} {g n : Nat} {o : List UInt8} {wr w' : World} {b : UInt8} (h : InvT w g n o wr)
    (hown : w'.ownsRow g 5 1 (.slice (some ⟨g, 0, none⟩) (o.length + 1) n) (o.length + 1) (bcells o ++ [.int .u8 (b.toNat : Int)])) (ob : Obj) (hgrow : (wr.alloc ob).grownBy w' (some g)) :
    InvT w g n (o ++ [b]) w' := by
  have hl := h.lt
  have hs := h.below.size
  refine ⟨h.lt, ?_, (h.below.alloc hs ob).grown hgrow (by simp; omega) (by intro k hk; cases hk; omega)⟩
  rw [bcells_snoc]
  simpa using hown

theorem InvT.text {P : Program} {w : World} {g n : Nat} {o : List UInt8} {wr : World} (h : InvT w g n o wr) (src dst : TypeId) (hs : P.underlying src = some (.slice 5)) (he : P.underlying 5 = some (.int .u8)) (hd : P.underlying dst = some .string) :
    (convert src dst (.slice (some ⟨g, 0, none⟩) o.length n)).run P wr = .ok (.string ⟨o.toArray⟩) wr := by
  refine run_convert_bytes_back wr src dst 5 ⟨g, 0, none⟩ n o hs he hd (fun j hj => ?_)
  have e : (⟨g, 0, none⟩ : Addr).add j = ⟨g, j, none⟩ := by
    simp [Addr.add]
    intro h0
    exact h0.symm
  rw [e, h.own.cellAt j (by omega)]
  simp [bcells, List.getElem?_map, List.getElem?_eq_getElem hj]

set_option maxHeartbeats 800000 in
theorem top_any (s : ByteArray) (O : List UInt8) (w : World) (hs : s.size ≤ 16777216) (hrun : run s.data.toList 0 = some (0, O)) :
    Calls Try.prog 10 #[.string s] w fun e w' => e = .returned (.string ⟨O.toArray⟩) ∧ Below w.heap.size w w' := by
  have hm : s.size ≤ maxLen := by unfold maxLen; omega
  obtain ⟨i5, hi5, hz0, hz1, hz2⟩ := info_parts Try.info5
  have HR : Hid (run s.data.toList 0 = some (0, O)) := hrun
  clear hrun
  go_enter Try.func10, Try.ntmps10
  go_wp2_with (at_make; refine wpList_make_own _ rfl _ _ 27 rfl w.heap.size 5 i5 (.int .u8 0) 1 Try.underlying27 hi5 hz0 hz1 _ _ _ s.size rfl rfl rfl (by rw [hz2]; omega) hm (Nat.le_refl _) ?_; intro w1 hown hgrow)
  have inv0 : InvT w w.heap.size s.size [] w1 := ⟨Nat.le_refl _, hown, (Below.refl _ _).grown hgrow (Nat.le_refl _) (by intro k hk; cases hk)⟩
  clear hown hgrow
  go_loopw [3, 4, 5] (fun v u t wr => ∃ (k d : Nat) (o : List UInt8), k ≤ s.size ∧ d ≤ k ∧ o.length ≤ k ∧ v = .slice (some ⟨w.heap.size, 0, none⟩) o.length s.size ∧ u = .int .i64 d ∧ t = .int .i64 k ∧ RunAt s k d o ∧ InvT w w.heap.size s.size o wr) (fun _ _ t _ => s.size - (intOf t).toNat)
  case atStart => exact ⟨0, 0, [], Nat.zero_le _, Nat.le_refl _, Nat.le_refl _, rfl, rfl, rfl, runAt_zero s, inv0⟩
  case round =>
    clear inv0
    obtain ⟨k, d, o, hk, hd, ho, rfl, rfl, rfl, hr, inv⟩ := hrel
    by_cases hlt : k < s.size
    · have hlt' : (k : Int) < s.size := by omega
      by_cases e1 : s[k] = 40
      · have hb1 : ((s[k].toNat : Int) == 40) = true := by rw [e1]; rfl
        have hr' := runAt_open hlt hr e1
        clear e1
        go_wp2
        go_roundw
        case rel => exact ⟨k + 1, d + 1, o, by omega, by omega, by omega, rfl, by go_num, by go_num, hr', inv⟩
        case measure => simp [intOf]; omega
      · have hb1 : ((s[k].toNat : Int) == 40) = false := by
          rw [Bool.eq_false_iff]; intro h; exact e1 (byte_is (n := 40) (by decide) h)
        by_cases e2 : s[k] = 41
        · have hb2 : ((s[k].toNat : Int) == 41) = true := by rw [e2]; rfl
          cases d with
          | zero =>
            have hf := runAt_below hlt hr e2
            rw [HR.out] at hf
            cases hf
          | succ d =>
            have hr' := runAt_close hlt hr e2
            clear e1 e2
            go_wp2
            go_roundw
            case rel => exact ⟨k + 1, d, o, by omega, by omega, by omega, rfl, by go_num, by go_num, hr', inv⟩
            case measure => simp [intOf]; omega
        · have hb2 : ((s[k].toNat : Int) == 41) = false := by
            rw [Bool.eq_false_iff]; intro h; exact e2 (byte_is (n := 41) (by decide) h)
          by_cases hd0 : d = 0
          · subst hd0
            have hr' := runAt_top hlt hr e1 e2
            obtain ⟨b, hb⟩ : ∃ b, s[k] = b := ⟨_, rfl⟩
            rw [hb] at hr'
            have HB : Hid (s[k] = b) := hb
            clear e1 e2 hb
            go_wp2_with (at_builtin; refine wpList_append_fits _ rfl (.tmp 29) (.tmp 31) 27 rfl w.heap.size 5 i5 1 Try.underlying27 hi5 hz1 w.heap.size o.length s.size (bcells o) rfl (inv.own.alloc _) ⟨wr.heap.size, 0, none⟩ 1 1 [.int .u8 (s[k].toNat : Int)] rfl rfl (cell_one_new _ _ _) (by simp [Value.oneCell']) (by omega) ?_; intro w5 hown5 hgrow5; have inv2 := inv.push hown5 _ hgrow5; clear hown5 hgrow5)
            go_roundw
            case rel => exact ⟨k + 1, 0, _, by omega, by omega, by simp; omega, by simp, rfl, by go_num, hr', by rw [← HB.out]; exact inv2⟩
            case measure => simp [intOf]; omega
          · have hr' := runAt_deep hlt hr e1 e2 hd0
            have hdb : ((d : Int) == 0) = false := by simp; omega
            clear e1 e2
            go_wp2
            go_roundw
            case rel => exact ⟨k + 1, d, o, by omega, by omega, by omega, rfl, rfl, by go_num, hr', inv⟩
            case measure => simp [intOf]; omega
    · obtain rfl : k = s.size := by omega
      have hend := runAt_end hr
      rw [HR.out] at hend
      simp only [Option.some.injEq, Prod.mk.injEq] at hend
      obtain ⟨rfl, rfl⟩ := hend
      have hcv := inv.text (P := Try.prog) 27 9 Try.underlying27 Try.underlying5 Try.underlying9
      go_wp2
      go_ret
      exact ⟨rfl, inv.below⟩

end Go.Proofs.Qxb6608908a
