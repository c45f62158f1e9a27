/- Plain: the texts that 'unbound' is made of; what a scan of parentheses makes of a text; sub-sequences. No Go in sight. -/
import Derived.Lib.Join
namespace Go.Proofs.Qxb6608908a

def cL : List UInt8 := [108, 101, 102, 116]
def cR : List UInt8 := [114, 105, 103, 104, 116]
def cS : List UInt8 := [95, 115, 111, 117, 114, 99, 101, 44, 32]
def cX : List UInt8 := [95, 101, 120, 116, 101, 114, 110, 97, 108, 95, 105, 100, 41, 32, 61, 32, 40]
def c1 : List UInt8 := [78, 79, 84, 32, 69, 88, 73, 83, 84, 83, 32, 40, 83, 69, 76, 69, 67, 84, 32, 70, 82, 79, 77, 32, 108, 105, 110, 107, 115, 32, 87, 72, 69, 82, 69, 32, 115, 116, 97, 116, 117, 115, 32, 60, 62, 32, 39, 115, 117, 103, 103, 101, 115, 116, 101, 100, 39, 32, 65, 78, 68, 32]
def c2 : List UInt8 := [32, 65, 78, 68, 32, 40, 115, 116, 97, 116, 117, 115, 32, 61, 32, 39, 99, 111, 110, 102, 105, 114, 109, 101, 100, 39, 32, 79, 82, 32, 78, 79, 84, 32]
def cRej : List UInt8 := [69, 88, 73, 83, 84, 83, 32, 40, 83, 69, 76, 69, 67, 84, 32, 70, 82, 79, 77, 32, 100, 101, 99, 105, 115, 105, 111, 110, 115, 32, 87, 72, 69, 82, 69, 32, 100, 101, 99, 105, 115, 105, 111, 110, 32, 61, 32, 39, 114, 101, 106, 101, 99, 116, 101, 100, 39, 32, 65, 78, 68, 32, 40, 100, 101, 99, 105, 115, 105, 111, 110, 115, 46, 108, 101, 102, 116, 95, 115, 111, 117, 114, 99, 101, 44, 10, 9, 9, 100, 101, 99, 105, 115, 105, 111, 110, 115, 46, 108, 101, 102, 116, 95, 101, 120, 116, 101, 114, 110, 97, 108, 95, 105, 100, 44, 32, 100, 101, 99, 105, 115, 105, 111, 110, 115, 46, 114, 105, 103, 104, 116, 95, 115, 111, 117, 114, 99, 101, 44, 32, 100, 101, 99, 105, 115, 105, 111, 110, 115, 46, 114, 105, 103, 104, 116, 95, 101, 120, 116, 101, 114, 110, 97, 108, 95, 105, 100, 41, 32, 61, 32, 40, 108, 105, 110, 107, 115, 46, 108, 101, 102, 116, 95, 115, 111, 117, 114, 99, 101, 44, 10, 9, 9, 108, 105, 110, 107, 115, 46, 108, 101, 102, 116, 95, 101, 120, 116, 101, 114, 110, 97, 108, 95, 105, 100, 44, 32, 108, 105, 110, 107, 115, 46, 114, 105, 103, 104, 116, 95, 115, 111, 117, 114, 99, 101, 44, 32, 108, 105, 110, 107, 115, 46, 114, 105, 103, 104, 116, 95, 101, 120, 116, 101, 114, 110, 97, 108, 95, 105, 100, 41, 41]
def c3 : List UInt8 := [78, 79, 84, 32, 69, 88, 73, 83, 84, 83, 32, 40, 83, 69, 76, 69, 67, 84, 32, 70, 82, 79, 77, 32, 100, 101, 99, 105, 115, 105, 111, 110, 115, 32, 87, 72, 69, 82, 69, 32, 100, 101, 99, 105, 115, 105, 111, 110, 32, 61, 32, 39, 99, 111, 110, 102, 105, 114, 109, 101, 100, 39, 32, 65, 78, 68, 32]
def c4 : List UInt8 := [78, 79, 84, 32, 69, 88, 73, 83, 84, 83, 32, 40, 83, 69, 76, 69, 67, 84, 32, 70, 82, 79, 77, 32, 104, 97, 110, 100, 95, 108, 105, 110, 107, 101, 100, 95, 114, 101, 99, 111, 114, 100, 115, 32, 87, 72, 69, 82, 69, 32, 40, 115, 111, 117, 114, 99, 101, 44, 32, 101, 120, 116, 101, 114, 110, 97, 108, 95, 105, 100, 41, 32, 61, 32, 40]
def cAnd : List UInt8 := [32, 65, 78, 68, 32]
def cNot : List UInt8 := [78, 79, 84, 32, 69, 88, 73, 83, 84, 83, 32]
def cMore : List UInt8 := [32, 65, 78, 68, 32, 78, 79, 84, 32, 69, 88, 73, 83, 84, 83, 32]

def bnd (side K : List UInt8) : List UInt8 := [40] ++ side ++ cS ++ side ++ cX ++ K ++ [41]
def part1 (side K b : List UInt8) : List UInt8 := c1 ++ bnd side K ++ c2 ++ cRej ++ [41] ++ b ++ [41]
def part2 (side K b : List UInt8) : List UInt8 := c3 ++ bnd side K ++ b ++ [41]
def part5 (K : List UInt8) : List UInt8 := c4 ++ K ++ [41, 41]
def bes (B : List UInt8) : List UInt8 := if B = [] then [] else cAnd ++ B
/-- The two parts of one side. -/
def parts2 (side K b : List UInt8) : List (List UInt8) := [part1 side K b, part2 side K b]
/-- What 'unbound' gives. -/
def unb (K B : List UInt8) : List UInt8 := Lib.join (parts2 cL K (bes B) ++ parts2 cR K (bes B) ++ [part5 K]) cAnd
/-- What 'fiveNotExists' gives. -/
def five : List UInt8 := cNot ++ cMore ++ cMore ++ cMore ++ cMore

theorem unb_eq (K B : List UInt8) : unb K B = part1 cL K (bes B) ++ (cAnd ++ (part2 cL K (bes B) ++ (cAnd ++ (part1 cR K (bes B) ++ (cAnd ++ (part2 cR K (bes B) ++ (cAnd ++ part5 K))))))) := by
  simp [unb, parts2, Lib.join_cons, Lib.joinTail]

/-! ### Its length -/
theorem bnd_length (side K : List UInt8) : (bnd side K).length = 28 + 2 * side.length + K.length := by
  simp only [bnd, List.length_append, List.length_cons, List.length_nil, show cS.length = 9 from rfl, show cX.length = 17 from rfl]; omega

theorem part1_length (side K b : List UInt8) : (part1 side K b).length = 388 + 2 * side.length + K.length + b.length := by
  simp only [part1, List.length_append, List.length_cons, List.length_nil, bnd_length, show c1.length = 62 from rfl, show c2.length = 34 from rfl, show cRej.length = 262 from by decide +kernel]; omega
theorem part2_length (side K b : List UInt8) : (part2 side K b).length = 96 + 2 * side.length + K.length + b.length := by
  simp only [part2, List.length_append, List.length_cons, List.length_nil, bnd_length, show c3.length = 67 from rfl]; omega
theorem part5_length (K : List UInt8) : (part5 K).length = 77 + K.length := by
  simp only [part5, List.length_append, List.length_cons, List.length_nil, show c4.length = 75 from rfl]; omega
theorem bes_length (B : List UInt8) : (bes B).length = if B = [] then 0 else B.length + 5 := by
  unfold bes
  split
  · rfl
  · simp only [List.length_append, show cAnd.length = 5 from rfl]; omega

theorem unb_length (K B : List UInt8) : (unb K B).length = 1101 + 5 * K.length + 4 * (bes B).length := by
  rw [unb_eq]
  simp only [List.length_append, part1_length, part2_length, part5_length, show cL.length = 4 from rfl, show cR.length = 5 from rfl, show cAnd.length = 5 from rfl]; omega

/-! ### Sub-sequences -/
theorem sub_app {a b c d : List UInt8} (h : List.Sublist a b) (k : List.Sublist c d) : List.Sublist (a ++ c) (b ++ d) := List.Sublist.append h k
theorem bnd_sub (side : List UInt8) {K K' : List UInt8} (h : List.Sublist K K') : List.Sublist (bnd side K) (bnd side K') :=
  sub_app (sub_app (List.Sublist.refl _) h) (List.Sublist.refl _)
theorem part1_sub (side : List UInt8) {K K' b b' : List UInt8} (h : List.Sublist K K') (k : List.Sublist b b') : List.Sublist (part1 side K b) (part1 side K' b') :=
  sub_app (sub_app (sub_app (sub_app (sub_app (sub_app (List.Sublist.refl _) (bnd_sub side h)) (List.Sublist.refl _)) (List.Sublist.refl _)) (List.Sublist.refl _)) k) (List.Sublist.refl _)
theorem part2_sub (side : List UInt8) {K K' b b' : List UInt8} (h : List.Sublist K K') (k : List.Sublist b b') : List.Sublist (part2 side K b) (part2 side K' b') :=
  sub_app (sub_app (sub_app (List.Sublist.refl _) (bnd_sub side h)) k) (List.Sublist.refl _)
theorem part5_sub {K K' : List UInt8} (h : List.Sublist K K') : List.Sublist (part5 K) (part5 K') :=
  sub_app (sub_app (List.Sublist.refl _) h) (List.Sublist.refl _)
theorem unb_sub {K K' B B' : List UInt8} (h : List.Sublist K K') (k : List.Sublist (bes B) (bes B')) : List.Sublist (unb K B) (unb K' B') := by
  rw [unb_eq, unb_eq]
  exact sub_app (part1_sub _ h k) (sub_app (List.Sublist.refl _) (sub_app (part2_sub _ h k) (sub_app (List.Sublist.refl _) (sub_app (part1_sub _ h k) (sub_app (List.Sublist.refl _) (sub_app (part2_sub _ h k) (sub_app (List.Sublist.refl _) (part5_sub h))))))))
theorem sub_noBesides (K B : List UInt8) : List.Sublist (unb K []) (unb K B) := unb_sub (List.Sublist.refl _) (List.nil_sublist _)
theorem sub_noKey (K B : List UInt8) : List.Sublist (unb [] B) (unb K B) := unb_sub (List.nil_sublist _) (List.Sublist.refl _)

/-- The greedy step: where the heads are one, both go on; else the greater goes on alone. -/
theorem greedy_hit {s : UInt8} {a b : List UInt8} (h : List.Sublist (s :: a) (s :: b)) : List.Sublist a b := List.cons_sublist_cons.1 h
theorem greedy_miss {s t : UInt8} {a b : List UInt8} (hne : ¬ t = s) (h : List.Sublist (s :: a) (t :: b)) : List.Sublist (s :: a) b := by
  cases h with
  | cons _ h => exact h
  | cons_cons _ h => exact absurd rfl hne

/-! ### The scan of parentheses: the depth behind a text, none where it falls below zero; and the bytes at depth zero -/
def run : List UInt8 → Nat → Option (Nat × List UInt8)
  | [], d => some (d, [])
  | c :: l, d => if c = 40 then run l (d + 1) else if c = 41 then (match d with | 0 => none | e + 1 => run l e) else (run l d).map fun p => (p.1, if d = 0 then c :: p.2 else p.2)

theorem run_append (l r : List UInt8) (d : Nat) : run (l ++ r) d = (run l d).bind fun p => (run r p.1).map fun q => (q.1, p.2 ++ q.2) := by
  induction l generalizing d with
  | nil => cases h : run r d <;> simp [run, h]
  | cons c l ih =>
    simp only [List.cons_append, run]
    split
    · exact ih _
    · split
      · cases d with
        | zero => rfl
        | succ e => exact ih e
      · rw [ih]
        cases h : run l d with
        | none => rfl
        | some p =>
          cases h2 : run r p.1 with
          | none => simp [h2]
          | some q => simp only [Option.bind_some, Option.map_some, h2]; split <;> simp

theorem run_up {l : List UInt8} {d e : Nat} {o : List UInt8} (h : run l d = some (e, o)) (k : Nat) (hk : 0 < k) : run l (d + k) = some (e + k, []) := by
  induction l generalizing d e o with
  | nil => simp [run] at h ⊢; omega
  | cons c l ih =>
    simp only [run] at h ⊢
    split
    · rename_i hc
      rw [if_pos hc] at h
      have := ih h
      rw [show d + k + 1 = d + 1 + k by omega]; exact this
    · rename_i hc
      rw [if_neg hc] at h
      split
      · rename_i hc2
        rw [if_pos hc2] at h
        cases d with
        | zero => simp at h
        | succ d =>
          have := ih h
          rw [show d + 1 + k = (d + k) + 1 by omega]
          exact this
      · rename_i hc2
        rw [if_neg hc2] at h
        cases h2 : run l d with
        | none => rw [h2] at h; simp at h
        | some p =>
          rw [h2] at h
          simp at h
          have := ih (e := e) (o := p.2) (h2.trans (by rw [← h.1]))
          rw [this]
          simp
          omega

/-- Do the parentheses balance? -/
def balB (l : List UInt8) : Bool := match run l 0 with | some (0, _) => true | _ => false
theorem balB_true {l : List UInt8} (h : balB l = true) : ∃ o, run l 0 = some (0, o) := by
  unfold balB at h
  split at h
  · exact ⟨_, by assumption⟩
  · cases h
/-- A balanced text inside a parenthesis: the depth stays, nothing is at depth zero. -/
theorem run_in {l : List UInt8} (h : balB l = true) (k : Nat) (hk : 0 < k) : run l k = some (k, []) := by
  obtain ⟨o, ho⟩ := balB_true h
  have := run_up ho k hk
  simpa using this
/-- One text behind another. -/
theorem run_seq {l r : List UInt8} {d e f : Nat} {o p : List UInt8} (h : run l d = some (e, o)) (k : run r e = some (f, p)) : run (l ++ r) d = some (f, o ++ p) := by
  rw [run_append, h]
  simp [k]

theorem run_bes {B : List UInt8} (h : balB B = true) : run (bes B) 1 = some (1, []) := by
  unfold bes
  split
  · rfl
  · exact run_seq (show run cAnd 1 = some (1, []) from rfl) (run_in h 1 (by decide))
theorem run_bndL {K : List UInt8} (h : balB K = true) : run (bnd cL K) 1 = some (1, []) :=
  run_seq (run_seq (show run ([40] ++ cL ++ cS ++ cL ++ cX) 1 = some (2, []) from rfl) (run_in h 2 (by decide))) (show run [41] 2 = some (1, []) from rfl)
theorem run_bndR {K : List UInt8} (h : balB K = true) : run (bnd cR K) 1 = some (1, []) :=
  run_seq (run_seq (show run ([40] ++ cR ++ cS ++ cR ++ cX) 1 = some (2, []) from rfl) (run_in h 2 (by decide))) (show run [41] 2 = some (1, []) from rfl)
theorem run_c1 : run c1 0 = some (1, cNot) := by decide +kernel
theorem run_c2 : run c2 1 = some (2, []) := by decide +kernel
theorem run_rej : run cRej 2 = some (2, []) := by decide +kernel
theorem run_c3 : run c3 0 = some (1, cNot) := by decide +kernel
theorem run_c4 : run c4 0 = some (2, cNot) := by decide +kernel
theorem run_part1 {side K b : List UInt8} (hs : run (bnd side K) 1 = some (1, [])) (hb : run b 1 = some (1, [])) : run (part1 side K b) 0 = some (0, cNot) :=
  run_seq (run_seq (run_seq (run_seq (run_seq (run_seq run_c1 hs) run_c2) run_rej) (show run [41] 2 = some (1, []) from rfl)) hb) (show run [41] 1 = some (0, []) from rfl)
theorem run_part2 {side K b : List UInt8} (hs : run (bnd side K) 1 = some (1, [])) (hb : run b 1 = some (1, [])) : run (part2 side K b) 0 = some (0, cNot) :=
  run_seq (run_seq (run_seq run_c3 hs) hb) (show run [41] 1 = some (0, []) from rfl)
theorem run_part5 {K : List UInt8} (h : balB K = true) : run (part5 K) 0 = some (0, cNot) :=
  run_seq (run_seq run_c4 (run_in h 2 (by decide))) (show run [41, 41] 2 = some (0, []) from rfl)
/-- THE LAW: balanced key and besides: the condition balances, and at depth zero it reads five NOT EXISTS joined by AND. -/
theorem run_unb {K B : List UInt8} (hK : balB K = true) (hB : balB B = true) : run (unb K B) 0 = some (0, five) := by
  rw [unb_eq]
  have hA : run cAnd 0 = some (0, cAnd) := by decide +kernel
  have hF : five = cNot ++ (cAnd ++ (cNot ++ (cAnd ++ (cNot ++ (cAnd ++ (cNot ++ (cAnd ++ cNot))))))) := by decide +kernel
  rw [hF]
  exact run_seq (run_part1 (run_bndL hK) (run_bes hB)) (run_seq hA (run_seq (run_part2 (run_bndL hK) (run_bes hB)) (run_seq hA (run_seq (run_part1 (run_bndR hK) (run_bes hB)) (run_seq hA (run_seq (run_part2 (run_bndR hK) (run_bes hB)) (run_seq hA (run_part5 hK))))))))
theorem balB_unb {K B : List UInt8} (hK : balB K = true) (hB : balB B = true) : balB (unb K B) = true := by
  simp only [balB, run_unb hK hB]

end Go.Proofs.Qxb6608908a
