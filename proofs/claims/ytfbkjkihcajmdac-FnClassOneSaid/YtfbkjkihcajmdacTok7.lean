/- The reference's cut of a script into tokens is by the same law as the tokenizer's steps. -/
import Derived.Test.YtfbkjkihcajmdacTok6
namespace Go.Proofs.Ytfbkjkihcajmdac.Tok
open Go.RowKit Go.Proofs.YtfbkjkihcajmdacW.PrintWords Go.Proofs.YtfbkjkihcajmdacW.PrintLast Go.Proofs.YtfbkjkihcajmdacW.PrintMore Go.Proofs.Ytfbkjkihcajmdac.QFnClasses
set_option linter.unusedVariables false
set_option linter.unusedSimpArgs false
theorem tokW64 {x : Int} (h0 : 0 ≤ x) (h1 : x ≤ 9223372036854775807) : wrap64 x = x := by
  unfold wrap64; omega
/-- The tokens from i on, and where the first one stands that is not whole. -/
inductive Toks (s : List Int) : Nat → List S36 → Int → Prop
  | done {i : Nat} : s.length ≤ i → Toks s i [] (-1)
  | bad {i : Nat} : i < s.length → dat s i = none → Toks s i [] i
  | step {i a d : Nat} {l : List S36} {b : Int} : i < s.length → dat s i = some (a, d) → Toks s (a + d) l b → Toks s i (⟨s.getD i 0, (s.drop a).take d, i⟩ :: l) b
theorem toks_total (s : List Int) : ∀ n i, s.length ≤ i + n → ∃ l b, Toks s i l b ∧ l.length ≤ n
  | 0, i, h => ⟨[], -1, .done (by omega), by simp⟩
  | n + 1, i, h => by
    rcases Nat.lt_or_ge i s.length with hi | hi
    · rcases hd : dat s i with _ | ⟨a, d⟩
      · exact ⟨[], i, .bad hi hd, by simp⟩
      · obtain ⟨h1, h2⟩ := dat_le hi hd
        obtain ⟨l, b, hl, hn⟩ := toks_total s n (a + d) (by omega)
        exact ⟨_, b, .step hi hd hl, by simpa using hn⟩
    · exact ⟨[], -1, .done hi, by simp⟩
theorem rd_nat (s : List Int) (i : Nat) : rd s (i : Int) = s.getD i 0 := by unfold rd; rw [Int.toNat_natCast]
theorem word_step (y : List Int) (x : Int) (j : Nat) (hj : j < y.length) (hl : y.length ≤ 1000000) (hx : 0 ≤ x) (hx1 : x * 256 + y.getD j 0 ≤ 9223372036854775807) (hb : ByteL y) (k : Nat) :
    spec_word.l0 (k + 1) y x j = spec_word.l0 k y (x * 256 + y.getD j 0) ((j : Int) - 1) := by
  obtain ⟨b0, b1⟩ := hb.at j
  rw [spec_word.l0, if_pos (by omega), if_pos (by omega), if_pos (by omega), rd_nat, tokW64 b0 (by omega), tokW64 (x := x * 256) (by omega) (by omega), tokW64 (x := x * 256 + y.getD j 0) (by omega) hx1, show wrap64 ((j : Int) - 1) = (j : Int) - 1 by unfold wrap64; omega]
theorem word_end (y : List Int) (x : Int) (k : Nat) : spec_word.l0 (k + 1) y x (-1) = some (x, true) := by
  unfold spec_word.l0
  rw [if_neg (by decide)]
theorem ev_word0 (y : List Int) (n : Int) (h : (y.length : Int) < n) : Ev (fun k => spec_word.f k y n) (0, false) := by
  refine Ev.congr (f := fun _ => some (0, false)) (fun k => ?_) (Ev.now _)
  unfold spec_word.f
  rw [if_pos h]
theorem ev_word1 (y : List Int) (h : 1 ≤ y.length) (hl : y.length ≤ 1000000) (hb : ByteL y) : Ev (fun k => spec_word.f k y 1) (y.getD 0 0, true) := by
  obtain ⟨b0, b1⟩ := hb.at 0
  refine Ev.congr (f := fun k => spec_word.l0 k y 0 ((0 : Nat) : Int)) (fun k => ?_) ?_
  · unfold spec_word.f
    rw [if_neg (by omega), show wrap64 ((1 : Int) - 1) = ((0 : Nat) : Int) by unfold wrap64; omega]
  refine Ev.step (fun k => word_step y 0 0 (by omega) hl (by omega) (by omega) hb k) ?_
  refine Ev.step (f := fun _ => some (y.getD 0 0, true)) (fun k => ?_) (Ev.now _)
  rw [show ((0 : Nat) : Int) - 1 = -1 from rfl, word_end]
  congr 2
  omega
theorem ev_word2 (y : List Int) (h : 2 ≤ y.length) (hl : y.length ≤ 1000000) (hb : ByteL y) : Ev (fun k => spec_word.f k y 2) (y.getD 0 0 + y.getD 1 0 * 256, true) := by
  obtain ⟨b0, b1⟩ := hb.at 0
  obtain ⟨c0, c1⟩ := hb.at 1
  refine Ev.congr (f := fun k => spec_word.l0 k y 0 ((1 : Nat) : Int)) (fun k => ?_) ?_
  · unfold spec_word.f
    rw [if_neg (by omega), show wrap64 ((2 : Int) - 1) = ((1 : Nat) : Int) by unfold wrap64; omega]
  refine Ev.step (fun k => word_step y 0 1 (by omega) hl (by omega) (by omega) hb k) ?_
  rw [show ((1 : Nat) : Int) - 1 = ((0 : Nat) : Int) from rfl]
  refine Ev.step (fun k => word_step y _ 0 (by omega) hl (by omega) (by omega) hb k) ?_
  refine Ev.step (f := fun _ => some (y.getD 0 0 + y.getD 1 0 * 256, true)) (fun k => ?_) (Ev.now _)
  rw [show ((0 : Nat) : Int) - 1 = -1 from rfl, word_end]
  congr 2
  omega
theorem ev_word4 (y : List Int) (h : 4 ≤ y.length) (hl : y.length ≤ 1000000) (hb : ByteL y) : Ev (fun k => spec_word.f k y 4) (y.getD 0 0 + y.getD 1 0 * 256 + y.getD 2 0 * 65536 + y.getD 3 0 * 16777216, true) := by
  obtain ⟨b0, b1⟩ := hb.at 0
  obtain ⟨c0, c1⟩ := hb.at 1
  obtain ⟨d0, d1⟩ := hb.at 2
  obtain ⟨e0, e1⟩ := hb.at 3
  refine Ev.congr (f := fun k => spec_word.l0 k y 0 ((3 : Nat) : Int)) (fun k => ?_) ?_
  · unfold spec_word.f
    rw [if_neg (by omega), show wrap64 ((4 : Int) - 1) = ((3 : Nat) : Int) by unfold wrap64; omega]
  refine Ev.step (fun k => word_step y 0 3 (by omega) hl (by omega) (by omega) hb k) ?_
  rw [show ((3 : Nat) : Int) - 1 = ((2 : Nat) : Int) from rfl]
  refine Ev.step (fun k => word_step y _ 2 (by omega) hl (by omega) (by omega) hb k) ?_
  rw [show ((2 : Nat) : Int) - 1 = ((1 : Nat) : Int) from rfl]
  refine Ev.step (fun k => word_step y _ 1 (by omega) hl (by omega) (by omega) hb k) ?_
  rw [show ((1 : Nat) : Int) - 1 = ((0 : Nat) : Int) from rfl]
  refine Ev.step (fun k => word_step y _ 0 (by omega) hl (by omega) (by omega) hb k) ?_
  refine Ev.step (f := fun _ => some (y.getD 0 0 + y.getD 1 0 * 256 + y.getD 2 0 * 65536 + y.getD 3 0 * 16777216, true)) (fun k => ?_) (Ev.now _)
  rw [show ((0 : Nat) : Int) - 1 = -1 from rfl, word_end]
  congr 2
  omega
/-- A round's head. -/
theorem tok_head (s : List Int) (i : Nat) (hi : i < s.length) (hn : s.length ≤ 1000000) (hB : ByteL s) (pre : List S36) (k : Nat) :
    spec_Tokens.l0 (k + 1) s pre i = if s.getD i 0 ≥ 1 then spec_Tokens.j1 k s pre i (s.getD i 0) (s.drop (i + 1)) 0 0 true (decide (s.getD i 0 < 76)) else spec_Tokens.j1 k s pre i (s.getD i 0) (s.drop (i + 1)) 0 0 true false := by
  obtain ⟨b0, b1⟩ := hB.at i
  rw [spec_Tokens.l0, if_pos (by omega), if_pos (by omega), tokW64 (x := (i : Int) + 1) (by omega) (by omega), if_pos (by omega), if_pos (by omega), rd_nat, tokW64 b0 (by omega), Option.bind_some, show ((i : Int) + 1).toNat = i + 1 by omega]
theorem tok_keep (s : List Int) (i : Nat) (hi : i ≤ 1000000) (pre : List S36) (hp : pre.length < 3518437208883) (v x7 : Int) (y : List Int) (hy : y.length ≤ 1000000) (h0 : 0 ≤ x7) (hx : x7 ≤ y.length) :
    ∀ F : Nat → List Int → List S36 → Int → Option (List S36 × Int), ∀ k,
    (if x7 > (wrap64 ((y.length : Int) - 0)) then (some (pre, (i : Int))) else (if 0 ≤ (0 : Int) then (if 0 ≤ (wrap64 (0 + x7)) then (if (wrap64 (0 + x7)) ≤ (y.length : Int) then (if pre.length < 3518437208883 then (F k s (pre ++ [(⟨v, ((y.take ((wrap64 (0 + x7)) : Int).toNat).drop (0 : Int).toNat), (i : Int)⟩ : S36)]) (wrap64 ((i : Int) + (wrap64 ((wrap64 (1 + 0)) + x7))))) else (none)) else (none)) else (none)) else (none)))
      = F k s (pre ++ [⟨v, y.take x7.toNat, (i : Int)⟩]) ((i + 1 + x7.toNat : Nat) : Int) := by
  intro F k
  rw [Int.sub_zero, Int.zero_add, tokW64 (x := (y.length : Int)) (by omega) (by omega), tokW64 h0 (by omega), if_neg (by omega), if_pos (by omega), if_pos h0, if_pos hx, if_pos hp]
  rw [show wrap64 ((i : Int) + (wrap64 ((wrap64 (1 + 0)) + x7))) = ((i + 1 + x7.toNat : Nat) : Int) by rw [show wrap64 (1 + 0) = 1 by unfold wrap64; omega, tokW64 (x := 1 + x7) (by omega) (by omega), tokW64 (x := (i : Int) + (1 + x7)) (by omega) (by omega)]; omega]
  rfl
theorem j2_plain (s : List Int) (i : Nat) (hi : i ≤ 1000000) (pre : List S36) (hp : pre.length < 3518437208883) (v : Int) (y : List Int) (hy : y.length ≤ 1000000) (k : Nat) :
    spec_Tokens.j2 (k + 1) s pre i v y 0 0 true false = spec_Tokens.l0 k s (pre ++ [⟨v, [], (i : Int)⟩]) ((i + 1 : Nat) : Int) := by
  rw [spec_Tokens.j2, if_neg (by decide), if_pos rfl]
  have h := tok_keep s i hi pre hp v 0 y hy (by omega) (by omega) spec_Tokens.l0 k
  rw [h]
  rfl
theorem round_zero (s : List Int) (i : Nat) (hi : i < s.length) (hn : s.length ≤ 1000000) (hB : ByteL s) (pre : List S36) (hp : pre.length < 3518437208883) (hv : s.getD i 0 < 1 ∨ 78 < s.getD i 0) (k : Nat) :
    spec_Tokens.l0 (k + 3) s pre i = spec_Tokens.l0 k s (pre ++ [⟨s.getD i 0, [], (i : Int)⟩]) ((i + 1 : Nat) : Int) := by
  have hy : (s.drop (i + 1)).length ≤ 1000000 := by rw [List.length_drop]; omega
  rw [tok_head s i hi hn hB pre (k + 2)]
  rcases hv with hv | hv
  · rw [if_neg (by omega), spec_Tokens.j1, if_neg (by decide), if_neg (by omega), j2_plain s i (by omega) pre hp _ _ hy]
  · rw [if_pos (by omega), decide_eq_false (by omega), spec_Tokens.j1, if_neg (by decide), if_pos (by omega), decide_eq_false (by omega), j2_plain s i (by omega) pre hp _ _ hy]
theorem round_many (s : List Int) (i : Nat) (hi : i < s.length) (hn : s.length ≤ 1000000) (hB : ByteL s) (pre : List S36) (hp : pre.length < 3518437208883) (h1 : 1 ≤ s.getD i 0) (h2 : s.getD i 0 < 76) (k : Nat) :
    spec_Tokens.l0 (k + 2) s pre i = if i + 1 + (s.getD i 0).toNat ≤ s.length then spec_Tokens.l0 k s (pre ++ [⟨s.getD i 0, (s.drop (i + 1)).take (s.getD i 0).toNat, (i : Int)⟩]) ((i + 1 + (s.getD i 0).toNat : Nat) : Int) else some (pre, (i : Int)) := by
  have hy : (s.drop (i + 1)).length = s.length - (i + 1) := by rw [List.length_drop]
  rw [tok_head s i hi hn hB pre (k + 1), if_pos h1, decide_eq_true h2, spec_Tokens.j1, if_pos rfl, if_pos rfl]
  by_cases hf : i + 1 + (s.getD i 0).toNat ≤ s.length
  · rw [if_pos hf]
    exact tok_keep s i (by omega) pre hp (s.getD i 0) (s.getD i 0) _ (by omega) (by omega) (by omega) spec_Tokens.l0 k
  · rw [if_neg hf, Int.sub_zero, tokW64 (by omega) (by omega), if_pos (by omega)]
/-- A length ahead of w bytes. -/
theorem j2_push (s : List Int) (i : Nat) (hi : i ≤ 1000000) (pre : List S36) (hp : pre.length < 3518437208883) (v : Int) (y : List Int) (hy : y.length ≤ 1000000) (w : Nat) (hw : shl .i64 1 (wrap64 (v - 76)) = (w : Int)) (hw4 : w ≤ 4) (hv : 0 ≤ wrap64 (v - 76)) (k : Nat) :
    spec_Tokens.j2 (k + 1) s pre i v y 0 0 true true = (spec_word.f k y w).bind fun bt => if bt.2 = true then (if bt.1 > wrap64 ((y.length : Int) - w) then some (pre, (i : Int)) else (if 0 ≤ (w : Int) then (if (w : Int) ≤ wrap64 (w + bt.1) then (if wrap64 (w + bt.1) ≤ (y.length : Int) then (if pre.length < 3518437208883 then spec_Tokens.l0 k s (pre ++ [⟨v, (y.take (wrap64 (w + bt.1)).toNat).drop (w : Int).toNat, (i : Int)⟩]) (wrap64 ((i : Int) + wrap64 (wrap64 (1 + w) + bt.1))) else none) else none) else none) else none)) else some (pre, (i : Int)) := by
  rw [spec_Tokens.j2, if_pos rfl, if_pos hv, hw]
theorem getD_drop (s : List Int) (n j : Nat) : (s.drop n).getD j 0 = s.getD (n + j) 0 := by simp [List.getD_eq_getElem?_getD, List.getElem?_drop]
theorem ByteL.drop {s : List Int} (h : ByteL s) (n : Nat) : ByteL (s.drop n) := fun d hd => h d (List.mem_of_mem_drop hd)
theorem ev_push (s : List Int) (i : Nat) (hi : i < s.length) (hn : s.length ≤ 1000000) (hB : ByteL s) (pre : List S36) (hp : pre.length < 3518437208883) (w : Nat) (hv : 76 ≤ s.getD i 0) (hv8 : s.getD i 0 ≤ 78)
    (hw : shl .i64 1 (wrap64 (s.getD i 0 - 76)) = (w : Int)) (hw4 : w ≤ 4) (bt : Int × Bool) (hbt : Ev (fun k => spec_word.f k (s.drop (i + 1)) w) bt) (R : List S36 × Int)
    (hR : Ev (fun k => if bt.2 = true then (if bt.1 > wrap64 (((s.drop (i + 1)).length : Int) - w) then some (pre, (i : Int)) else (if 0 ≤ (w : Int) then (if (w : Int) ≤ wrap64 (w + bt.1) then (if wrap64 (w + bt.1) ≤ ((s.drop (i + 1)).length : Int) then (if pre.length < 3518437208883 then spec_Tokens.l0 k s (pre ++ [⟨s.getD i 0, ((s.drop (i + 1)).take (wrap64 (w + bt.1)).toNat).drop (w : Int).toNat, (i : Int)⟩]) (wrap64 ((i : Int) + wrap64 (wrap64 (1 + w) + bt.1))) else none) else none) else none) else none)) else some (pre, (i : Int))) R) :
    Ev (fun k => spec_Tokens.l0 k s pre i) R := by
  have hy : (s.drop (i + 1)).length = s.length - (i + 1) := by rw [List.length_drop]
  refine Ev.step (fun k => tok_head s i hi hn hB pre k) ?_
  simp only [if_pos (show s.getD i 0 ≥ 1 by omega), decide_eq_false (show ¬ s.getD i 0 < 76 by omega)]
  refine Ev.step (f := fun k => spec_Tokens.j2 k s pre i (s.getD i 0) (s.drop (i + 1)) 0 0 true true) (fun k => ?_) ?_
  · rw [spec_Tokens.j1, if_neg (by decide), if_pos (by omega), decide_eq_true hv8]
  refine Ev.step (fun k => j2_push s i (by omega) pre hp (s.getD i 0) _ (by omega) w hw hw4 (by unfold wrap64; omega) k) ?_
  exact Ev.bind hbt hR
theorem push_keep (s : List Int) (i : Nat) (hi : i < s.length) (hn : s.length ≤ 1000000) (pre : List S36) (hp : pre.length < 3518437208883) (w : Nat) (hw4 : w ≤ 4) (hlen : i + 1 + w ≤ s.length) (c : Int) (c0 : 0 ≤ c) (c1 : c < 4294967296) (v : Int) (k : Nat) :
    (if ((c, true) : Int × Bool).2 = true then (if ((c, true) : Int × Bool).1 > wrap64 (((s.drop (i + 1)).length : Int) - w) then some (pre, (i : Int)) else (if 0 ≤ (w : Int) then (if (w : Int) ≤ wrap64 (w + ((c, true) : Int × Bool).1) then (if wrap64 (w + ((c, true) : Int × Bool).1) ≤ ((s.drop (i + 1)).length : Int) then (if pre.length < 3518437208883 then spec_Tokens.l0 k s (pre ++ [⟨v, ((s.drop (i + 1)).take (wrap64 (w + ((c, true) : Int × Bool).1)).toNat).drop (w : Int).toNat, (i : Int)⟩]) (wrap64 ((i : Int) + wrap64 (wrap64 (1 + w) + ((c, true) : Int × Bool).1))) else none) else none) else none) else none)) else some (pre, (i : Int)))
      = if i + 1 + w + c.toNat ≤ s.length then spec_Tokens.l0 k s (pre ++ [⟨v, (s.drop (i + 1 + w)).take c.toNat, (i : Int)⟩]) ((i + 1 + w + c.toNat : Nat) : Int) else some (pre, (i : Int)) := by
  have hy : (s.drop (i + 1)).length = s.length - (i + 1) := by rw [List.length_drop]
  have hy2 : (((s.drop (i + 1)).length : Nat) : Int) = (s.length : Int) - (i + 1) := by rw [hy]; omega
  rw [if_pos rfl]
  simp only []
  rw [hy2, tokW64 (x := (s.length : Int) - (i + 1) - w) (by omega) (by omega), tokW64 (x := (w : Int) + c) (by omega) (by omega), tokW64 (x := 1 + (w : Int)) (by omega) (by omega), tokW64 (x := 1 + (w : Int) + c) (by omega) (by omega), tokW64 (x := (i : Int) + (1 + (w : Int) + c)) (by omega) (by omega)]
  by_cases hf : i + 1 + w + c.toNat ≤ s.length
  · rw [if_pos hf, if_neg (by omega), if_pos (by omega), if_pos (by omega), if_pos (by omega), if_pos hp]
    rw [show ((w : Int) + c).toNat = w + c.toNat by omega, Int.toNat_natCast, List.drop_take, List.drop_drop, show w + c.toNat - w = c.toNat by omega, show (i : Int) + (1 + (w : Int) + c) = ((i + 1 + w + c.toNat : Nat) : Int) by omega]
  · rw [if_neg hf, if_pos (by omega)]
theorem shl1 : shl .i64 1 (wrap64 (76 - 76)) = ((1 : Nat) : Int) := by kernel_rfl
theorem shl2 : shl .i64 1 (wrap64 (77 - 76)) = ((2 : Nat) : Int) := by kernel_rfl
theorem shl4 : shl .i64 1 (wrap64 (78 - 76)) = ((4 : Nat) : Int) := by kernel_rfl
theorem word2_drop (s : List Int) (i : Nat) : (s.drop (i + 1)).getD 0 0 + (s.drop (i + 1)).getD 1 0 * 256 = word2 s i := by rw [getD_drop, getD_drop]; rfl
theorem word4_drop (s : List Int) (i : Nat) : (s.drop (i + 1)).getD 0 0 + (s.drop (i + 1)).getD 1 0 * 256 + (s.drop (i + 1)).getD 2 0 * 65536 + (s.drop (i + 1)).getD 3 0 * 16777216 = word4 s i := by rw [getD_drop, getD_drop, getD_drop, getD_drop]; rfl
theorem word_range (s : List Int) (hB : ByteL s) (i : Nat) : (0 ≤ word2 s i ∧ word2 s i < 4294967296) ∧ (0 ≤ word4 s i ∧ word4 s i < 4294967296) := by
  obtain ⟨p0, p1⟩ := hB.at (i + 1 + 0)
  obtain ⟨p2, p3⟩ := hB.at (i + 1 + 1)
  obtain ⟨p4, p5⟩ := hB.at (i + 1 + 2)
  obtain ⟨p6, p7⟩ := hB.at (i + 1 + 3)
  unfold word2 word4
  omega
theorem ev_steps {α : Type} {g f : Nat → Option α} {r : α} (m : Nat) (h : ∀ k, g (k + m) = f k) (hf : Ev f r) : Ev g r := by
  obtain ⟨K, hK⟩ := hf
  refine ⟨K + m, fun k hk => ?_⟩
  obtain ⟨j, rfl⟩ : ∃ j, k = j + m := ⟨k - m, by omega⟩
  rw [h]
  exact hK j (by omega)
/-- One round of the reference, by the tokenizer's law. -/
theorem ev_round (s : List Int) (i : Nat) (hi : i < s.length) (hn : s.length ≤ 1000000) (hB : ByteL s) (pre : List S36) (hp : pre.length < 3518437208883) (R : List S36 × Int)
    (hR : (dat s i = none ∧ R = (pre, (i : Int))) ∨ ∃ a d, dat s i = some (a, d) ∧ Ev (fun k => spec_Tokens.l0 k s (pre ++ [⟨s.getD i 0, (s.drop a).take d, (i : Int)⟩]) ((a + d : Nat) : Int)) R) :
    Ev (fun k => spec_Tokens.l0 k s pre i) R := by
  obtain ⟨v0, v1⟩ := hB.at i
  obtain ⟨⟨x0, x1⟩, y0, y1⟩ := word_range s hB i
  obtain ⟨b0, b1⟩ := hB.at (i + 1 + 0)
  have hyB := hB.drop (i + 1)
  have hyl : (s.drop (i + 1)).length = s.length - (i + 1) := by rw [List.length_drop]
  have push : ∀ (w : Nat) (c : Int), 76 ≤ s.getD i 0 → s.getD i 0 ≤ 78 → shl .i64 1 (wrap64 (s.getD i 0 - 76)) = (w : Int) → w ≤ 4 → 0 ≤ c → c < 4294967296 →
      dat s i = (if i + 1 + w ≤ s.length ∧ i + 1 + w + c.toNat ≤ s.length then some (i + 1 + w, c.toNat) else none) →
      (i + 1 + w ≤ s.length → Ev (fun k => spec_word.f k (s.drop (i + 1)) w) (c, true)) → Ev (fun k => spec_Tokens.l0 k s pre i) R := by
    intro w c h76 h78 hw hw4 c0 c1 hd hev
    by_cases hlen : i + 1 + w ≤ s.length
    · refine ev_push s i hi hn hB pre hp w h76 h78 hw hw4 (c, true) (hev hlen) R ?_
      refine Ev.congr (fun k => push_keep s i hi hn pre hp w hw4 hlen c c0 c1 (s.getD i 0) k) ?_
      by_cases hf : i + 1 + w + c.toNat ≤ s.length
      · rw [if_pos ⟨hlen, hf⟩] at hd
        simp only [if_pos hf]
        rcases hR with ⟨h1, _⟩ | ⟨a, d, h1, h2⟩
        · rw [hd] at h1; cases h1
        · rw [hd] at h1; injection h1 with h1; injection h1 with h3 h4; subst h3; subst h4; exact h2
      · rw [if_neg (fun h => hf h.2)] at hd
        simp only [if_neg hf]
        rcases hR with ⟨_, h2⟩ | ⟨a, d, h1, _⟩
        · rw [h2]; exact Ev.now _
        · rw [hd] at h1; cases h1
    · rw [if_neg (fun h => hlen h.1)] at hd
      refine ev_push s i hi hn hB pre hp w h76 h78 hw hw4 (0, false) (ev_word0 _ _ (by rw [hyl]; omega)) R ?_
      refine Ev.congr (f := fun _ => some (pre, (i : Int))) (fun k => by rw [if_neg (by decide)]) ?_
      rcases hR with ⟨_, h2⟩ | ⟨a, d, h1, _⟩
      · rw [h2]; exact Ev.now _
      · rw [hd] at h1; cases h1
  by_cases h76 : s.getD i 0 = 76
  · refine push 1 (s.getD (i + 1 + 0) 0) (by omega) (by omega) (by rw [h76]; exact shl1) (by omega) b0 (by omega) (by unfold dat; rw [if_pos h76]) (fun h => ?_)
    have := ev_word1 (s.drop (i + 1)) (by omega) (by omega) hyB
    rw [getD_drop] at this
    exact this
  by_cases h77 : s.getD i 0 = 77
  · refine push 2 (word2 s i) (by omega) (by omega) (by rw [h77]; exact shl2) (by omega) x0 x1 (by unfold dat; rw [if_neg h76, if_pos h77]) (fun h => ?_)
    have := ev_word2 (s.drop (i + 1)) (by omega) (by omega) hyB
    rw [word2_drop] at this
    exact this
  by_cases h78 : s.getD i 0 = 78
  · refine push 4 (word4 s i) (by omega) (by omega) (by rw [h78]; exact shl4) (by omega) y0 y1 (by unfold dat; rw [if_neg h76, if_neg h77, if_pos h78]) (fun h => ?_)
    have := ev_word4 (s.drop (i + 1)) (by omega) (by omega) hyB
    rw [word4_drop] at this
    exact this
  unfold dat at hR
  rw [if_neg h76, if_neg h77, if_neg h78] at hR
  by_cases hm : 1 ≤ s.getD i 0 ∧ s.getD i 0 < 76
  · rw [if_pos hm] at hR
    refine ev_steps 2 (fun k => round_many s i hi hn hB pre hp hm.1 hm.2 k) ?_
    by_cases hf : i + 1 + (s.getD i 0).toNat ≤ s.length
    · rw [if_pos hf] at hR
      simp only [if_pos hf]
      rcases hR with ⟨h1, _⟩ | ⟨a, d, h1, h2⟩
      · cases h1
      · injection h1 with h1; injection h1 with h3 h4; subst h3; subst h4; exact h2
    · rw [if_neg hf] at hR
      simp only [if_neg hf]
      rcases hR with ⟨_, h2⟩ | ⟨a, d, h1, _⟩
      · rw [h2]; exact Ev.now _
      · cases h1
  · rw [if_neg hm] at hR
    refine ev_steps 3 (fun k => round_zero s i hi hn hB pre hp (by omega) k) ?_
    rcases hR with ⟨h1, _⟩ | ⟨a, d, h1, h2⟩
    · cases h1
    · injection h1 with h1; injection h1 with h3 h4; subst h3; subst h4; simpa using h2
theorem ev_tokens (s : List Int) (hn : s.length ≤ 1000000) (hB : ByteL s) : ∀ {i : Nat} {l : List S36} {b : Int}, Toks s i l b → ∀ pre : List S36, pre.length + l.length ≤ 2000000 → Ev (fun k => spec_Tokens.l0 k s pre i) (pre ++ l, b) := by
  intro i l b h
  induction h with
  | done h1 =>
    intro pre hp
    refine Ev.step (f := fun _ => some (pre, (-1 : Int))) (fun k => ?_) (by rw [List.append_nil]; exact Ev.now _)
    rw [spec_Tokens.l0, if_neg (by omega)]
  | bad h1 h2 =>
    intro pre hp
    simp only [List.length_nil] at hp
    exact ev_round s _ h1 hn hB pre (by omega) _ (Or.inl ⟨h2, by rw [List.append_nil]⟩)
  | @step i a d l b h1 h2 h3 ih =>
    intro pre hp
    simp only [List.length_cons] at hp
    refine ev_round s _ h1 hn hB pre (by omega) _ (Or.inr ⟨_, _, h2, ?_⟩)
    have := ih (pre ++ [⟨s.getD i 0, (s.drop a).take d, (i : Int)⟩]) (by rw [List.length_append]; simp only [List.length_cons, List.length_nil]; omega)
    rw [List.append_assoc, List.singleton_append] at this
    exact this
theorem ev_Tokens (s : List Int) (hn : s.length ≤ 1000000) (hB : ByteL s) {l : List S36} {b : Int} (h : Toks s 0 l b) (hl : l.length ≤ 1000000) : Ev (fun k => spec_Tokens.f k s) (l, b) :=
  Ev.congr (fun k => rfl) (ev_tokens s hn hB h [] (by simp; omega))
end Go.Proofs.Ytfbkjkihcajmdac.Tok
