/- FnBloom: the plain law. -/
import Derived.Test.YtbbeedclkfcmeaaBj6
namespace Go.Proofs.Ytbbeedclkfcmeaa.KFnBloom
open Go.RowKit Go.Proofs.YtbbeedclkfcmeaaW.PrintWords Go.Proofs.YtbbeedclkfcmeaaW.PrintLast Go.Proofs.YtbbeedclkfcmeaaW.PrintMore Go.Proofs.Ytbbeedclkfcmeaa.Snk Go.Proofs.Ytbbeedclkfcmeaa.Tok
set_option linter.unusedVariables false
set_option linter.unusedSimpArgs false
theorem ev_bit (L d : List Int) (hl1 : 1 ≤ L.length) (hl2 : L.length ≤ 2000) (n tw : Int) (i : Nat) (ht0 : 0 ≤ tw) (ht1 : tw < 4294967296) (hB : Tok.ByteL d) (hd : d.length ≤ 100000) : Ev (fun k => spec_bit.f k L n tw (i : Int) d) (bitF tw L.length i d) := by
  have hm := ev_murmur d hB hd (((i : Int) * 4221880213 + tw) % 4294967296) (by omega) (by omega)
  have hr := mur_range (((i : Int) * 4221880213 + tw) % 4294967296) d
  refine Ev.congr (f := fun k => (spec_Murmur.f k (((i : Int) * 4221880213 + tw) % 4294967296) d).bind fun t => some (Int.tmod t ((L.length : Int) * 8))) (fun k => ?_) ?_
  · unfold spec_bit.f
    have e : wrap64 (8 * (L.length : Int)) % 4294967296 = (L.length : Int) * 8 := by rw [w64 (by omega) (by omega)]; omega
    rw [e]
    refine congrArg _ (funext fun t => ?_)
    rw [if_neg (by omega)]
  · refine Ev.bind hm (Ev.congr (f := fun _ => some (bitF tw L.length i d)) (fun k => ?_) (Ev.now _))
    unfold bitF
    rw [Int.tmod_eq_emod_of_nonneg hr.1]
theorem or_nat (a b : Nat) (ha : a < 256) (hb : b < 256) : Go.bits .or .u8 (a : Int) (b : Int) = ((a ||| b : Nat) : Int) := by
  have h : Go.bits .or .u8 (a : Int) (b : Int) = IntKind.u8.wrap ((BitVec.ofInt 8 (a : Int) ||| BitVec.ofInt 8 (b : Int)).toNat : Int) := rfl
  rw [h, BitVec.ofInt_natCast, BitVec.ofInt_natCast, BitVec.toNat_or, BitVec.toNat_ofNat, BitVec.toNat_ofNat, Nat.mod_eq_of_lt (show a < 2 ^ 8 by omega), Nat.mod_eq_of_lt (show b < 2 ^ 8 by omega), IntKind.wrap_u8]
  have := Nat.or_lt_two_pow (show a < 2 ^ 8 by omega) (show b < 2 ^ 8 by omega)
  omega
theorem and_nat (a b : Nat) (ha : a < 256) (hb : b < 256) : Go.bits .and .u8 (a : Int) (b : Int) = ((a &&& b : Nat) : Int) := by
  have h : Go.bits .and .u8 (a : Int) (b : Int) = IntKind.u8.wrap ((BitVec.ofInt 8 (a : Int) &&& BitVec.ofInt 8 (b : Int)).toNat : Int) := rfl
  rw [h, BitVec.ofInt_natCast, BitVec.ofInt_natCast, BitVec.toNat_and, BitVec.toNat_ofNat, BitVec.toNat_ofNat, Nat.mod_eq_of_lt (show a < 2 ^ 8 by omega), Nat.mod_eq_of_lt (show b < 2 ^ 8 by omega), IntKind.wrap_u8]
  have := Nat.and_lt_two_pow a (show b < 2 ^ 8 by omega)
  omega
theorem pow_lt {r : Nat} (h : r < 8) : 2 ^ r < 256 := Nat.pow_lt_pow_right (by decide) h
theorem and_pow (m r : Nat) : m &&& 2 ^ r = if m.testBit r = true then 2 ^ r else 0 := by
  refine Nat.eq_of_testBit_eq fun j => ?_
  rw [Nat.testBit_and, Nat.testBit_two_pow]
  by_cases h : r = j
  · subst h
    cases q : m.testBit r <;> simp [Nat.testBit_two_pow_self]
  · cases q : m.testBit r <;> simp [h, Nat.testBit_two_pow]
theorem bitSet_nat (m r : Nat) (hm : m < 256) (hr : r < 8) : bitSet (m : Int) r = m.testBit r := by
  unfold bitSet
  rw [and_nat m (2 ^ r) hm (pow_lt hr), and_pow]
  cases h : m.testBit r with
  | false => rfl
  | true =>
    have : 0 < 2 ^ r := Nat.pow_pos (by decide)
    rw [if_pos rfl]
    have : (((2 ^ r : Nat) : Int) == 0) = false := by rw [beq_eq_false_iff_ne]; omega
    rw [this]; rfl
theorem setB_nat (m r : Nat) (hm : m < 256) (hr : r < 8) : setB (m : Int) r = ((m ||| 2 ^ r : Nat) : Int) := or_nat m (2 ^ r) hm (pow_lt hr)
theorem set_same {y : Int} (h0 : 0 ≤ y) (h1 : y < 256) {r : Nat} (hr : r < 8) : bitSet (setB y r) r = true := by
  obtain ⟨m, rfl⟩ : ∃ m : Nat, y = m := ⟨y.toNat, by omega⟩
  rw [setB_nat m r (by omega) hr, bitSet_nat _ r (Nat.or_lt_two_pow (n := 8) (by omega) (pow_lt hr)) hr, Nat.testBit_or, Nat.testBit_two_pow_self]
  simp
theorem set_keep {y : Int} (h0 : 0 ≤ y) (h1 : y < 256) {r q : Nat} (hr : r < 8) (hq : q < 8) (h : bitSet y q = true) : bitSet (setB y r) q = true := by
  obtain ⟨m, rfl⟩ : ∃ m : Nat, y = m := ⟨y.toNat, by omega⟩
  rw [bitSet_nat m q (by omega) hq] at h
  rw [setB_nat m r (by omega) hr, bitSet_nat _ q (Nat.or_lt_two_pow (n := 8) (by omega) (pow_lt hr)) hq, Nat.testBit_or, h]
  simp
theorem spec_set {y : Int} {b : Int} (h0 : 0 ≤ b) : Go.bits .or .u8 y (shl .u8 1 (Int.tmod b 8)) = setB y (b % 8).toNat := by
  unfold setB
  rw [Int.tmod_eq_emod_of_nonneg h0]
  congr 1
  unfold shl
  have hm : (b % 8).toNat ≤ IntKind.u8.bits := by have : IntKind.u8.bits = 8 := rfl; omega
  rw [Nat.min_eq_left hm, Int.one_mul]
  have := pow_lt (show (b % 8).toNat < 8 by omega)
  rw [IntKind.wrap_u8]
  have e : ((2 ^ (b % 8).toNat : Nat) : Int) = (2 : Int) ^ (b % 8).toNat := by push_cast; rfl
  rw [← e]
  obtain ⟨p, hp⟩ : ∃ p : Nat, 2 ^ (b % 8).toNat = p := ⟨_, rfl⟩
  rw [hp] at this ⊢
  omega
theorem spec_has {y : Int} (y0 : 0 ≤ y) (y1 : y < 256) {b : Int} (h0 : 0 ≤ b) : (Go.bits .and .u8 (shr .u8 y (Int.tmod b 8)) 1 = 0) ↔ bitSet y (b % 8).toNat = false := by
  obtain ⟨m, rfl⟩ : ∃ m : Nat, y = m := ⟨y.toNat, by omega⟩
  rw [Int.tmod_eq_emod_of_nonneg h0]
  obtain ⟨r, hr⟩ : ∃ r : Nat, (b % 8).toNat = r := ⟨_, rfl⟩
  have hr8 : r < 8 := by omega
  have hb : b % 8 = (r : Int) := by omega
  rw [hr, hb, bitSet_nat m r (by omega) hr8]
  unfold shr
  have hm : r ≤ IntKind.u8.bits := by have : IntKind.u8.bits = 8 := rfl; omega
  rw [Int.toNat_natCast, Nat.min_eq_left hm]
  have e : (m : Int) / 2 ^ r = ((m / 2 ^ r : Nat) : Int) := by push_cast; rfl
  have hl : m / 2 ^ r < 256 := Nat.lt_of_le_of_lt (Nat.div_le_self _ _) (by omega)
  rw [e]
  have a := and_nat (m / 2 ^ r) 1 hl (by decide)
  rw [show ((1 : Nat) : Int) = 1 from rfl] at a
  rw [a, Nat.and_one_is_mod, Nat.testBit_eq_decide_div_mod_eq]
  have := Nat.mod_lt (m / 2 ^ r) (show 0 < 2 by decide)
  rw [decide_eq_false_iff_not]
  omega
theorem set_bytes {L : List Int} (h : Tok.ByteL L) (j : Nat) {v : Int} (h0 : 0 ≤ v) (h1 : v < 256) : Tok.ByteL (L.set j v) := fun x hx => by
  rcases List.mem_or_eq_of_mem_set hx with q | q
  · exact h x q
  · subst q; exact ⟨h0, h1⟩
theorem addF_bytes (tw : Int) (d : List Int) {L : List Int} (h : Tok.ByteL L) : ∀ i, Tok.ByteL (addF tw d L i)
  | 0 => h
  | i + 1 => set_bytes (addF_bytes tw d h i) _ (or8 _ _).1 (or8 _ _).2
theorem getD_set {L : List Int} {j q : Nat} {v : Int} : (L.set j v).getD q 0 = if j = q ∧ j < L.length then v else L.getD q 0 := by
  rw [List.getD_eq_getElem?_getD, List.getElem?_set, List.getD_eq_getElem?_getD]
  by_cases h : j = q
  · subst h
    by_cases h2 : j < L.length
    · simp [h2]
    · simp [h2, List.getElem?_eq_none (Nat.le_of_not_lt h2)]
  · simp [h]
/-- What is set stays set. -/
theorem add_keep (tw : Int) (d : List Int) {L : List Int} (hB : Tok.ByteL L) (hl : 1 ≤ L.length) (e : List Int) (j : Nat) (h : hasB tw e L j = true) : ∀ i, hasB tw e (addF tw d L i) j = true
  | 0 => h
  | i + 1 => by
    have ih := add_keep tw d hB hl e j h i
    have hb := (addF_bytes tw d hB i).at (bitF tw L.length i d / 8).toNat
    have r1 := bit_range tw L.length i d hl
    have r2 := bit_range tw L.length j e hl
    show hasB tw e (stepL tw i d (addF tw d L i)) j = true
    unfold hasB stepL at *
    rw [addF_len] at ih
    rw [List.length_set, addF_len, getD_set]
    split
    · rename_i hq
      rw [hq.1] at hb
      rw [hq.1]
      exact set_keep hb.1 hb.2 (by omega) (by omega) ih
    · exact ih
theorem add_has (tw : Int) (d : List Int) {L : List Int} (hB : Tok.ByteL L) (hl : 1 ≤ L.length) : ∀ i j, j < i → hasB tw d (addF tw d L i) j = true
  | 0, j, h => absurd h (Nat.not_lt_zero j)
  | i + 1, j, h => by
    have hb := (addF_bytes tw d hB i).at (bitF tw L.length i d / 8).toNat
    have r1 := bit_range tw L.length i d hl
    rcases Nat.lt_or_ge j i with q | q
    · have ih := add_has tw d hB hl i j q
      have r2 := bit_range tw L.length j d hl
      show hasB tw d (stepL tw i d (addF tw d L i)) j = true
      unfold hasB stepL at *
      rw [addF_len] at ih
      rw [List.length_set, addF_len, getD_set]
      split
      · rename_i hq
        rw [hq.1] at hb
        rw [hq.1]
        exact set_keep hb.1 hb.2 (by omega) (by omega) ih
      · exact ih
    · obtain rfl : j = i := by omega
      show hasB tw d (stepL tw j d (addF tw d L j)) j = true
      unfold hasB stepL
      rw [List.length_set, addF_len, getD_set, if_pos ⟨rfl, by rw [addF_len]; omega⟩]
      exact set_same hb.1 hb.2 (by omega)
theorem ev_add (L d : List Int) (hl1 : 1 ≤ L.length) (hl2 : L.length ≤ 2000) (n : Nat) (hn : n ≤ 50) (tw : Int) (ht0 : 0 ≤ tw) (ht1 : tw < 4294967296) (hB : Tok.ByteL d) (hd : d.length ≤ 100000) : Ev (fun k => spec_BloomAdd.f k L n tw d) (addF tw d L n, (n : Int), tw) := by
  have go : ∀ m i, i + m = n → Ev (fun k => spec_BloomAdd.l0 k d (i : Int) (addF tw d L i) (n : Int) tw) (addF tw d L n, (n : Int), tw) := by
    intro m
    induction m with
    | zero =>
      intro i hi
      obtain rfl : i = n := by omega
      refine Ev.step (f := fun _ => some _) (fun k => ?_) (Ev.now _)
      rw [spec_BloomAdd.l0, if_neg (by omega)]
    | succ m ih =>
      intro i hi
      have hb := ev_bit (addF tw d L i) d (by rw [addF_len]; exact hl1) (by rw [addF_len]; exact hl2) (n : Int) tw i ht0 ht1 hB hd
      have r1 := bit_range tw (addF tw d L i).length i d (by rw [addF_len]; exact hl1)
      refine Ev.step (f := fun k => (spec_bit.f k (addF tw d L i) (n : Int) tw (i : Int) d).bind fun t144 => (if 0 ≤ ((Int.tdiv t144 8) % 4294967296) then (if ((Int.tdiv t144 8) % 4294967296) < ((addF tw d L i).length : Int) then (if 0 ≤ (Int.tmod t144 8) then (spec_BloomAdd.l0 k d (((i : Int) + 1) % 4294967296) ((addF tw d L i).set (((Int.tdiv t144 8) % 4294967296) : Int).toNat (Go.bits .or .u8 (rd (addF tw d L i) ((Int.tdiv t144 8) % 4294967296)) (shl .u8 1 (Int.tmod t144 8)))) (n : Int) tw) else (none)) else (none)) else (none))) (fun k => ?_) (Ev.bind hb (Ev.congr (fun k => ?_) (ih (i + 1) (by omega))))
      · rw [spec_BloomAdd.l0, if_pos (by omega)]
      · have e : (Int.tdiv (bitF tw (addF tw d L i).length i d) 8) % 4294967296 = bitF tw (addF tw d L i).length i d / 8 := by
          rw [Int.tdiv_eq_ediv_of_nonneg r1.1]
          have := addF_len tw d L i
          omega
        rw [e, if_pos (by omega), if_pos (by omega), if_pos (by rw [Int.tmod_eq_emod_of_nonneg r1.1]; omega), spec_set r1.1, show ((i : Int) + 1) % 4294967296 = ((i + 1 : Nat) : Int) by omega]
        rfl
  refine Ev.congr (f := fun k => spec_BloomAdd.l0 k d ((0 : Nat) : Int) (addF tw d L 0) (n : Int) tw) (fun k => ?_) (go n 0 (by omega))
  unfold spec_BloomAdd.f
  rw [Option.bind_some, if_pos (by simp; omega), Option.bind_some, List.nil_append, if_neg (by omega)]
  rfl
theorem ev_has (L d : List Int) (hl1 : 1 ≤ L.length) (hl2 : L.length ≤ 2000) (hL : Tok.ByteL L) (n : Nat) (hn : n ≤ 50) (tw : Int) (ht0 : 0 ≤ tw) (ht1 : tw < 4294967296) (hB : Tok.ByteL d) (hd : d.length ≤ 100000) : Ev (fun k => spec_BloomHas.f k L n tw d) (hasF tw d L n) := by
  have go : ∀ m i, i + m = n → hasF tw d L i = true → Ev (fun k => spec_BloomHas.l0 k d (i : Int) L (n : Int) tw) (hasF tw d L n) := by
    intro m
    induction m with
    | zero =>
      intro i hi ha
      obtain rfl : i = n := by omega
      refine Ev.step (f := fun _ => some _) (fun k => ?_) (Ev.now _)
      rw [spec_BloomHas.l0, if_neg (by omega), ha]
    | succ m ih =>
      intro i hi ha
      have hb := ev_bit L d hl1 hl2 (n : Int) tw i ht0 ht1 hB hd
      have r1 := bit_range tw L.length i d hl1
      have hy := hL.at (bitF tw L.length i d / 8).toNat
      have st : ∀ k, spec_BloomHas.l0 (k + 1) d (i : Int) L (n : Int) tw = (spec_bit.f k L (n : Int) tw (i : Int) d).bind fun t156 => (if 0 ≤ ((Int.tdiv t156 8) % 4294967296) then (if ((Int.tdiv t156 8) % 4294967296) < (L.length : Int) then (if 0 ≤ (Int.tmod t156 8) then (if (Go.bits .and .u8 (shr .u8 (rd L ((Int.tdiv t156 8) % 4294967296)) (Int.tmod t156 8)) 1) = 0 then (some false) else (spec_BloomHas.l0 k d (((i : Int) + 1) % 4294967296) L (n : Int) tw)) else (none)) else (none)) else (none)) := fun k => by
        rw [spec_BloomHas.l0, if_pos (by omega)]
      have e : (Int.tdiv (bitF tw L.length i d) 8) % 4294967296 = bitF tw L.length i d / 8 := by
        rw [Int.tdiv_eq_ediv_of_nonneg r1.1]; omega
      have hs := spec_has hy.1 hy.2 r1.1
      have hrd : rd L (bitF tw L.length i d / 8) = L.getD (bitF tw L.length i d / 8).toNat 0 := rfl
      have body : ∀ k, (if 0 ≤ ((Int.tdiv (bitF tw L.length i d) 8) % 4294967296) then (if ((Int.tdiv (bitF tw L.length i d) 8) % 4294967296) < (L.length : Int) then (if 0 ≤ (Int.tmod (bitF tw L.length i d) 8) then (if (Go.bits .and .u8 (shr .u8 (rd L ((Int.tdiv (bitF tw L.length i d) 8) % 4294967296)) (Int.tmod (bitF tw L.length i d) 8)) 1) = 0 then (some false) else (spec_BloomHas.l0 k d (((i : Int) + 1) % 4294967296) L (n : Int) tw)) else (none)) else (none)) else (none)) = if hasB tw d L i = false then some false else spec_BloomHas.l0 k d ((i + 1 : Nat) : Int) L (n : Int) tw := fun k => by
        rw [e, if_pos (by omega), if_pos (by omega), if_pos (by rw [Int.tmod_eq_emod_of_nonneg r1.1]; omega), hrd, show ((i : Int) + 1) % 4294967296 = ((i + 1 : Nat) : Int) by omega]
        by_cases h : hasB tw d L i = false
        · rw [if_pos (hs.2 h), if_pos h]
        · rw [if_neg (fun q => h (hs.1 q)), if_neg h]
      cases hh : hasB tw d L i with
      | false =>
        rw [hasF_lt (show i < n by omega) hh]
        refine Ev.step st (Ev.bind hb (Ev.congr (f := fun _ => some false) (fun k => ?_) (Ev.now _)))
        rw [body k, if_pos hh]
      | true =>
        refine Ev.step st (Ev.bind hb (Ev.congr (fun k => ?_) (ih (i + 1) (by omega) (by rw [hasF_succ, ha, hh]; rfl))))
        rw [body k, if_neg (by rw [hh]; decide)]
  refine Ev.congr (f := fun k => spec_BloomHas.l0 k d ((0 : Nat) : Int) L (n : Int) tw) (fun k => ?_) (go n 0 (by omega) rfl)
  unfold spec_BloomHas.f
  rw [if_neg (by omega)]; rfl
theorem ev_same (l : List Int) (hl : l.length ≤ 1000000) : Ev (fun k => laws_same.f k l l) true := by
  have key : ∀ d (i : Nat), i + d = l.length → Ev (fun k => laws_same.l0 k l l i) true := by
    intro d
    induction d with
    | zero =>
      intro i hi
      refine Ev.step (fun k => ?_) (Ev.now _)
      rw [laws_same.l0, if_neg (by omega)]
    | succ d ih =>
      intro i hi
      refine Ev.step (fun k => ?_) (ih (i + 1) (by omega))
      rw [laws_same.l0, if_pos (by omega), if_pos (by omega), if_pos (by omega), if_pos rfl, w64 (by omega) (by omega)]
      rfl
  refine Ev.congr (fun k => ?_) (key l.length 0 (by omega))
  unfold laws_same.f
  rw [if_pos rfl]; rfl
theorem hasF_add (tw : Int) (d : List Int) {L : List Int} (hB : Tok.ByteL L) (hl : 1 ≤ L.length) (n : Nat) : hasF tw d (addF tw d L n) n = true := by
  unfold hasF
  rw [List.all_eq_true]
  exact fun j hj => add_has tw d hB hl n j (List.mem_range.1 hj)
theorem hasF_keep (tw : Int) (d e : List Int) {L : List Int} (hB : Tok.ByteL L) (hl : 1 ≤ L.length) (n : Nat) (h : hasF tw e L n = true) : hasF tw e (addF tw d L n) n = true := by
  unfold hasF at *
  rw [List.all_eq_true] at *
  exact fun j hj => add_keep tw d hB hl e j (h j hj) n
/-- The law. -/
theorem pure (L : List Int) (a1 a2 : Int) (d e : List Int) (hL : Tok.ByteL L) (hd : Tok.ByteL d) (he : Tok.ByteL e) (h0 : 0 ≤ a2) (h1 : a2 < 4294967296) : ∃ k, laws_FnBloom.f k L a1 a2 d e = some true := by
  have j0t : ∀ k, laws_FnBloom.j0 (k + 1) d e true L a1 a2 = some true := fun k => by rw [laws_FnBloom.j0, if_pos rfl]
  have j1t : ∀ k, laws_FnBloom.j1 (k + 1) d e true L a1 a2 = some true := fun k => by rw [laws_FnBloom.j1, if_pos rfl]
  by_cases g0 : (L.length : Int) > 2147483647
  · refine ⟨1, ?_⟩
    unfold laws_FnBloom.f laws_zzFits14.f
    rw [if_pos g0, Option.bind_some, if_neg (by decide)]
    exact j0t 0
  have eL : ∀ k, laws_FnBloom.f k L a1 a2 d e = laws_FnBloom.j0 k d e (decide ((d.length : Int) > 2147483647) || decide ((e.length : Int) > 2147483647)) L a1 a2 := fun k => by
    unfold laws_FnBloom.f laws_zzFits14.f
    rw [if_neg g0, Option.bind_some, if_pos rfl]
    by_cases h : (d.length : Int) > 2147483647
    · rw [if_pos h]; simp [h]
    · rw [if_neg h]; simp [h]
  by_cases g1 : (decide ((d.length : Int) > 2147483647) || decide ((e.length : Int) > 2147483647)) = true
  · exact ⟨1, by rw [eL, g1]; exact j0t 0⟩
  rw [Bool.not_eq_true] at g1
  by_cases gb : 1 ≤ (L.length : Int) ∧ (L.length : Int) ≤ 2000 ∧ 1 ≤ a1 ∧ a1 ≤ 50
  · obtain ⟨q1, q2, q3, q4⟩ := gb
    have hbl : laws_bloom.f L a1 a2 = some true := by
      unfold laws_bloom.f
      rw [if_pos q1, if_pos q2, if_pos q3]; simp [q4]
    rw [Bool.or_eq_false_iff, decide_eq_false_iff_not, decide_eq_false_iff_not] at g1
    have e0 : ∀ k, laws_FnBloom.j0 (k + 1) d e false L a1 a2 = laws_FnBloom.j1 k d e (decide ((d.length : Int) + (e.length : Int) > 100000)) L a1 a2 := fun k => by
      rw [laws_FnBloom.j0, if_neg (by decide), hbl, Option.bind_some, if_pos rfl, w64 (by omega) (by omega)]
    have g1' : (decide ((d.length : Int) > 2147483647) || decide ((e.length : Int) > 2147483647)) = false := by
      rw [Bool.or_eq_false_iff, decide_eq_false_iff_not, decide_eq_false_iff_not]; exact g1
    by_cases g2 : (d.length : Int) + (e.length : Int) > 100000
    · exact ⟨2, by rw [eL, g1', e0, decide_eq_true g2]; exact j1t 0⟩
    obtain ⟨n, rfl⟩ : ∃ n : Nat, a1 = (n : Int) := ⟨a1.toNat, by omega⟩
    have okA : impl_BloomAdd.f L (n : Int) a2 d = some (addF a2 d L n, (n : Int), a2) := by
      unfold impl_BloomAdd.f
      rw [if_pos ⟨by omega, by omega, q3, q4, h0, h1, by omega, hd⟩, Int.toNat_natCast]
    have hg := addF_len a2 d L n
    have hgB := addF_bytes a2 d hL n
    have okH : ∀ M x : List Int, M.length = L.length → Tok.ByteL x → x.length ≤ 100000 → impl_BloomHas.f M (n : Int) a2 x = some (hasF a2 x M n) := fun M x hM hx hxl => by
      unfold impl_BloomHas.f
      rw [if_pos ⟨by omega, by omega, q3, q4, h0, h1, hxl, hx⟩, Int.toNat_natCast]
    obtain ⟨K1, k1⟩ := ev_add L d (by omega) (by omega) n (by omega) a2 h0 h1 hd (by omega)
    obtain ⟨K2, k2⟩ := ev_same (addF a2 d L n) (by omega)
    obtain ⟨K3, k3⟩ := ev_has (addF a2 d L n) e (by omega) (by omega) hgB n (by omega) a2 h0 h1 he (by omega)
    obtain ⟨K, hK⟩ : ∃ K, K = max K1 (max K2 K3) := ⟨_, rfl⟩
    have k1' : spec_BloomAdd.f K L (n : Int) a2 d = some (addF a2 d L n, (n : Int), a2) := k1 K (by omega)
    have k2' : laws_same.f K (addF a2 d L n) (addF a2 d L n) = some true := k2 K (by omega)
    have k3' : spec_BloomHas.f K (addF a2 d L n) (n : Int) a2 e = some (hasF a2 e (addF a2 d L n) n) := k3 K (by omega)
    refine ⟨K + 2, ?_⟩
    rw [eL, g1', e0, decide_eq_false g2, laws_FnBloom.j1, if_neg (by decide), okA, Option.bind_some, k1', Option.bind_some]
    have hs : laws_sameBloom.f K (addF a2 d L n) (n : Int) a2 (addF a2 d L n) (n : Int) a2 = some true := by
      unfold laws_sameBloom.f
      rw [k2', Option.bind_some, if_pos rfl, if_pos rfl, beq_self_eq_true]
    show ((laws_sameBloom.f K (addF a2 d L n) (n : Int) a2 (addF a2 d L n) (n : Int) a2).bind fun t175 => _) = _
    rw [hs, Option.bind_some, if_pos rfl]
    show ((impl_BloomHas.f (addF a2 d L n) (n : Int) a2 d).bind fun t176 => (if t176 = true then ((impl_BloomHas.f (addF a2 d L n) (n : Int) a2 e).bind fun t177 => ((spec_BloomHas.f K (addF a2 d L n) (n : Int) a2 e).bind fun t178 => (if (t177 == t178) = true then ((impl_BloomHas.f L (n : Int) a2 e).bind fun t179 => (if t179 = true then ((impl_BloomHas.f (addF a2 d L n) (n : Int) a2 e).bind fun t180 => (some t180)) else (some true))) else (some false)))) else (some false))) = _
    rw [okH _ d hg hd (by omega), okH _ e hg he (by omega), okH L e rfl he (by omega), Option.bind_some, hasF_add a2 d hL (by omega) n, if_pos rfl, Option.bind_some, k3', Option.bind_some, if_pos (by rw [beq_self_eq_true]), Option.bind_some]
    by_cases hh : hasF a2 e L n = true
    · rw [if_pos hh, Option.bind_some, hasF_keep a2 d e hL (by omega) n hh]
    · rw [if_neg hh]
  · have hbl : laws_bloom.f L a1 a2 = some false := by
      unfold laws_bloom.f
      by_cases c1 : (L.length : Int) ≥ 1
      · rw [if_pos c1]
        by_cases c2 : (L.length : Int) ≤ 2000
        · rw [if_pos c2]
          by_cases c3 : a1 ≥ 1
          · rw [if_pos c3]
            have : ¬ a1 ≤ 50 := fun c4 => gb ⟨c1, c2, c3, c4⟩
            simp [this]
          · rw [if_neg c3]
        · rw [if_neg c2]
      · rw [if_neg c1]
    refine ⟨2, ?_⟩
    rw [eL, g1, laws_FnBloom.j0, if_neg (by decide), hbl, Option.bind_some, if_neg (by decide)]
    exact j1t 0
end Go.Proofs.Ytbbeedclkfcmeaa.KFnBloom
