/- Bits of numbers, most significant first, and their values: plain lists and integers. -/
import Derived.Test.YtnbecklojmbbbaaQFnRegroupx3
namespace Go.Proofs.Ytnbecklojmbbbaa.RG
open Go.RowKit Go.Proofs.YtnbecklojmbbbaaW.PrintWords Go.Proofs.YtnbecklojmbbbaaW.PrintLast Go.Proofs.YtnbecklojmbbbaaW.PrintMore

def acc (n : Int) (B : List Int) : Int := B.foldl (fun n b => 2 * n + b) n
def val (B : List Int) : Int := acc 0 B
def Bits (B : List Int) : Prop := ∀ b ∈ B, 0 ≤ b ∧ b ≤ 1
def bitsOf : Nat → Int → List Int
  | 0, _ => []
  | f + 1, x => (x / 2 ^ f % 2) :: bitsOf f x
def all (f : Nat) (l : List Int) : List Int := l.flatMap (bitsOf f)
def chunks (t q : Nat) (B : List Int) : List Int := (List.range q).map fun j => val ((B.drop (j * t)).take t)

theorem acc_cons (n b : Int) (B : List Int) : acc n (b :: B) = acc (2 * n + b) B := rfl
theorem acc_eq (B : List Int) : ∀ n, acc n B = n * 2 ^ B.length + val B := by
  induction B with
  | nil => intro n; simp [acc, val]
  | cons b B ih =>
    intro n
    have h1 := ih (2 * n + b)
    have h2 := ih (2 * 0 + b)
    show acc (2 * n + b) B = n * 2 ^ (B.length + 1) + acc (2 * 0 + b) B
    rw [h1, h2, Int.pow_succ]
    simp only [Int.mul_zero, Int.zero_add, Int.add_mul]
    rw [show 2 * n * 2 ^ B.length = n * (2 ^ B.length * 2) by rw [Int.mul_comm 2 n, Int.mul_assoc, Int.mul_comm 2]]
    omega
theorem acc_append (n : Int) (A B : List Int) : acc n (A ++ B) = acc (acc n A) B := by simp [acc, List.foldl_append]
theorem val_append (A B : List Int) : val (A ++ B) = val A * 2 ^ B.length + val B := by
  unfold val; rw [acc_append, acc_eq]; rfl
theorem val_nil : val [] = 0 := rfl
theorem val_one (b : Int) : val [b] = b := by simp [val, acc]
theorem bits_append {A B : List Int} (ha : Bits A) (hb : Bits B) : Bits (A ++ B) := fun b h => by
  rcases List.mem_append.1 h with h | h
  · exact ha b h
  · exact hb b h
theorem bits_take {A : List Int} (ha : Bits A) (n : Nat) : Bits (A.take n) := fun b h => ha b (List.mem_of_mem_take h)
theorem bits_drop {A : List Int} (ha : Bits A) (n : Nat) : Bits (A.drop n) := fun b h => ha b (List.mem_of_mem_drop h)
theorem two_pow_pos (n : Nat) : (0 : Int) < 2 ^ n := Int.pow_pos (by decide)
theorem val_range {B : List Int} (h : Bits B) : 0 ≤ val B ∧ val B < 2 ^ B.length := by
  induction B with
  | nil => simp [val, acc]
  | cons b B ih =>
    have h1 := ih (fun x hx => h x (List.mem_cons_of_mem _ hx))
    have h0 := h b List.mem_cons_self
    have e : val (b :: B) = b * 2 ^ B.length + val B := by rw [show b :: B = [b] ++ B from rfl, val_append, val_one]
    have hp := two_pow_pos B.length
    rw [e, List.length_cons, Int.pow_succ]
    rcases (show b = 0 ∨ b = 1 by omega) with rfl | rfl
    · rw [Int.zero_mul]; omega
    · rw [Int.one_mul]; omega
theorem val_take {R : List Int} (h : Bits R) (e : Nat) (_he : e ≤ R.length) : val (R.take e) = val R / 2 ^ (R.length - e) := by
  have h1 : val R = val (R.take e) * 2 ^ (R.length - e) + val (R.drop e) := by
    conv => lhs; rw [← List.take_append_drop e R]
    rw [val_append, List.length_drop]
  have h2 := val_range (bits_drop h e)
  rw [List.length_drop] at h2
  have hp := two_pow_pos (R.length - e)
  rw [h1, Int.add_comm, Int.add_mul_ediv_right _ _ (by omega), Int.ediv_eq_zero_of_lt h2.1 h2.2, Int.zero_add]
theorem val_drop {R : List Int} (h : Bits R) (e : Nat) : val (R.drop e) = val R % 2 ^ (R.length - e) := by
  have h1 : val R = val (R.take e) * 2 ^ (R.length - e) + val (R.drop e) := by
    conv => lhs; rw [← List.take_append_drop e R]
    rw [val_append, List.length_drop]
  have h2 := val_range (bits_drop h e)
  rw [List.length_drop] at h2
  rw [h1, Int.add_comm, Int.add_mul_emod_self_right, Int.emod_eq_of_lt h2.1 h2.2]
theorem bitsOf_length (f : Nat) (x : Int) : (bitsOf f x).length = f := by
  induction f with
  | zero => rfl
  | succ f ih => simp [bitsOf, ih]
theorem bitsOf_bits (f : Nat) (x : Int) : Bits (bitsOf f x) := by
  induction f with
  | zero => intro b h; cases h
  | succ f ih =>
    intro b h
    rcases List.mem_cons.1 h with rfl | h
    · omega
    · exact ih b h
theorem bitsOf_val (f : Nat) (x : Int) : val (bitsOf f x) = x % 2 ^ f := by
  induction f with
  | zero => simp [bitsOf, val, acc, Int.emod_one]
  | succ f ih =>
    rw [bitsOf, show (x / 2 ^ f % 2) :: bitsOf f x = [x / 2 ^ f % 2] ++ bitsOf f x from rfl, val_append, val_one, bitsOf_length, ih]
    have hp := two_pow_pos f
    have h1 := Int.mul_ediv_add_emod x (2 ^ f)
    have h2 := Int.mul_ediv_add_emod (x / 2 ^ f) 2
    have h3 := Int.emod_nonneg x (Int.ne_of_gt hp)
    have h4 := Int.emod_lt_of_pos x hp
    have h5 : x / 2 ^ (f + 1) = x / 2 ^ f / 2 := by rw [Int.pow_succ, ← Int.ediv_ediv_of_nonneg (Int.le_of_lt hp)]
    have h6 := Int.mul_ediv_add_emod x (2 ^ (f + 1))
    rw [h5] at h6
    generalize x / 2 ^ f = y at *
    generalize y / 2 = z at *
    generalize y % 2 = b at *
    rw [Int.pow_succ] at h6 ⊢
    generalize x % 2 ^ f = m at *
    generalize (2 : Int) ^ f = p at *
    subst h2
    rw [show p * 2 * z = 2 * (p * z) by rw [Int.mul_comm p 2, Int.mul_assoc]] at h6
    rw [Int.mul_add, show p * (2 * z) = 2 * (p * z) by rw [← Int.mul_assoc, Int.mul_comm p 2, Int.mul_assoc], Int.mul_comm p b] at h1
    omega
theorem all_bits (f : Nat) (l : List Int) : Bits (all f l) := fun b h => by
  unfold all at h
  obtain ⟨x, _, hx⟩ := List.mem_flatMap.1 h
  exact bitsOf_bits f x b hx
theorem all_length (f : Nat) (l : List Int) : (all f l).length = l.length * f := by
  induction l with
  | nil => simp [all]
  | cons x l ih => simp only [all, List.flatMap_cons, List.length_append, bitsOf_length, List.length_cons] at *; rw [ih, Nat.add_mul]; omega
theorem all_cons (f : Nat) (x : Int) (l : List Int) : all f (x :: l) = bitsOf f x ++ all f l := by simp [all]
theorem chunks_length (t q : Nat) (B : List Int) : (chunks t q B).length = q := by simp [chunks]
theorem chunks_succ (t q : Nat) (B : List Int) : chunks t (q + 1) B = chunks t q B ++ [val ((B.drop (q * t)).take t)] := by
  simp [chunks, List.range_succ]
theorem chunks_cons (t q : Nat) (B : List Int) : chunks t (q + 1) B = val (B.take t) :: chunks t q (B.drop t) := by
  simp only [chunks, List.range_succ_eq_map, List.map_cons, Nat.zero_mul, List.drop_zero, List.map_map]
  congr 1
  apply List.map_congr_left
  intro j _
  simp only [Function.comp, List.drop_drop]
  congr 3
  rw [Nat.succ_mul]; omega
theorem chunks_append (t q : Nat) (C X : List Int) (h : q * t ≤ C.length) : chunks t q (C ++ X) = chunks t q C := by
  apply List.map_congr_left
  intro j hj
  rw [List.mem_range] at hj
  have h1 : (j + 1) * t ≤ q * t := Nat.mul_le_mul_right _ hj
  rw [Nat.succ_mul] at h1
  rw [List.drop_append_of_le_length (by omega), List.take_append_of_le_length (by rw [List.length_drop]; omega)]
end Go.Proofs.Ytnbecklojmbbbaa.RG
