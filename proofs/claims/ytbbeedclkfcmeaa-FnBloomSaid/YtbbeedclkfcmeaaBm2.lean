/- A bloom filter's hash, Add and Matches. -/
import Derived.Test.YtbbeedclkfcmeaaBm1
namespace Go.Proofs.Ytbbeedclkfcmeaa.Snk
open Go.RowKit Go.Proofs.YtbbeedclkfcmeaaW.PrintWords Go.Proofs.YtbbeedclkfcmeaaW.PrintLast Go.Proofs.YtbbeedclkfcmeaaW.PrintMore Go.Proofs.Ytbbeedclkfcmeaa.KFnBloom
set_option linter.unusedVariables false
set_option linter.unusedSimpArgs false
theorem xor_range (a b : Int) : 0 ≤ Go.bits .xor .u32 a b ∧ Go.bits .xor .u32 a b < 4294967296 := by
  have h : Go.bits .xor .u32 a b = IntKind.u32.wrap ((BitVec.ofInt 32 a ^^^ BitVec.ofInt 32 b).toNat : Int) := rfl
  rw [h, IntKind.wrap_u32]; omega
theorem mur_range (seed : Int) (s : List Int) : 0 ≤ Tok.murF seed s ∧ Tok.murF seed s < 4294967296 := by
  unfold Tok.murF Tok.finF
  exact xor_range _ _
/-- The bit that a hash names. -/
def bitF (tw : Int) (len : Nat) (i : Nat) (d : List Int) : Int := Tok.murF (((i : Int) * 4221880213 + tw) % 4294967296) d % ((len : Int) * 8)
theorem bit_range (tw : Int) (len i : Nat) (d : List Int) (h : 1 ≤ len) : 0 ≤ bitF tw len i d ∧ bitF tw len i d < (len : Int) * 8 := by
  have := (mur_range (((i : Int) * 4221880213 + tw) % 4294967296) d).1
  unfold bitF
  exact ⟨Int.emod_nonneg _ (by omega), Int.emod_lt_of_pos _ (by omega)⟩
set_option maxRecDepth 100000 in
set_option maxHeartbeats 4000000 in
theorem hashC (f m g c len : Nat) (n tw : Int) (ht0 : 0 ≤ tw) (ht1 : tw < 4294967296) (w : World) (c2 : w.cell? ⟨f, 2, none⟩ = some (.pointer (some ⟨m, 0, none⟩))) (d0 : w.cell? ⟨m, 0, none⟩ = some (.slice (some ⟨g, 0, none⟩) len c)) (d2 : w.cell? ⟨m, 2, none⟩ = some (.int .u32 tw)) (hl1 : 1 ≤ len) (hl2 : len ≤ 2000)
    (A : Option Addr) (d : List Int) (cd : Nat) (hC : Kd.C (Kd.int .u8) w A d.length d) (hc : d.length ≤ cd) (hn : d.length ≤ 100000) (hB : Tok.ByteL d) (i : Nat) (hi : i ≤ 50) :
    Calls Try.prog 27 #[.pointer (some ⟨f, 0, none⟩), .int .u32 i, .slice A d.length cd] w fun e w' => e = .returned (.int .u32 (bitF tw len i d)) ∧ Below w.heap.size w w' := by
  have HM := Aside0.mk (Tok.mmC A d cd w (((i : Int) * 4221880213 + tw) % 4294967296) (by omega) (by omega) hC hc hn hB)
  obtain ⟨nd, hnd⟩ : ∃ n, d.length = n := ⟨_, rfl⟩
  rw [hnd] at HM ⊢
  have HR := mur_range (((i : Int) * 4221880213 + tw) % 4294967296) d
  have HB1 : Aside0 (Tok.murF (((i : Int) * 4221880213 + tw) % 4294967296) d % ((len : Int) * 8) = bitF tw len i d) := ⟨rfl⟩
  obtain ⟨mv, hmv⟩ : ∃ x, Tok.murF (((i : Int) * 4221880213 + tw) % 4294967296) d = x := ⟨_, rfl⟩
  rw [hmv] at HM HB1 HR
  have HRR := Aside0.mk HR
  have HC := Aside0.mk (And.intro c2 d0)
  have HL := Aside0.mk (And.intro hl1 hl2)
  clear hC hc hn hB hnd hmv HR
  go_enter Try.func27, Try.ntmps27
  go_wp2_with fail
  go_at_call 36
  refine HM.out.mono ?_
  rintro e w' ⟨rfl, hb⟩
  have e2 := pw_cell_below hb HC.out.1
  have e0 := pw_cell_below hb HC.out.2
  have hz : ¬ (len : Int) * 8 = 0 := by omega
  have hz2 : ((len : Int) * 8 == 0) = false := by rw [beq_eq_false_iff_ne]; omega
  obtain ⟨hm0, hm1⟩ := HRR.out
  have HBB := Aside0.mk hb
  clear c2 d0 d2 hb
  go_wp2_with fail
  go_ret
  refine ⟨?_, HBB.out⟩
  rw [← HB1.out]
  rfl
/-- The bit r of a byte is set. -/
def setB (y : Int) (r : Nat) : Int := Go.bits .or .u8 y ((2 ^ r : Nat) : Int)
theorem setB_0 (y : Int) : setB y 0 = Go.bits .or .u8 y 1 := by unfold setB; rw [show ((2 ^ 0 : Nat) : Int) = 1 by decide]
theorem setB_1 (y : Int) : setB y 1 = Go.bits .or .u8 y 2 := by unfold setB; rw [show ((2 ^ 1 : Nat) : Int) = 2 by decide]
theorem setB_2 (y : Int) : setB y 2 = Go.bits .or .u8 y 4 := by unfold setB; rw [show ((2 ^ 2 : Nat) : Int) = 4 by decide]
theorem setB_3 (y : Int) : setB y 3 = Go.bits .or .u8 y 8 := by unfold setB; rw [show ((2 ^ 3 : Nat) : Int) = 8 by decide]
theorem setB_4 (y : Int) : setB y 4 = Go.bits .or .u8 y 16 := by unfold setB; rw [show ((2 ^ 4 : Nat) : Int) = 16 by decide]
theorem setB_5 (y : Int) : setB y 5 = Go.bits .or .u8 y 32 := by unfold setB; rw [show ((2 ^ 5 : Nat) : Int) = 32 by decide]
theorem setB_6 (y : Int) : setB y 6 = Go.bits .or .u8 y 64 := by unfold setB; rw [show ((2 ^ 6 : Nat) : Int) = 64 by decide]
theorem setB_7 (y : Int) : setB y 7 = Go.bits .or .u8 y 128 := by unfold setB; rw [show ((2 ^ 7 : Nat) : Int) = 128 by decide]
theorem or8 (a b : Int) : 0 ≤ Go.bits .or .u8 a b ∧ Go.bits .or .u8 a b < 256 := by
  have h : Go.bits .or .u8 a b = IntKind.u8.wrap ((BitVec.ofInt 8 a ||| BitVec.ofInt 8 b).toNat : Int) := rfl
  rw [h, IntKind.wrap_u8]; omega
def stepL (tw : Int) (i : Nat) (d L : List Int) : List Int := L.set (bitF tw L.length i d / 8).toNat (setB (L.getD (bitF tw L.length i d / 8).toNat 0) (bitF tw L.length i d % 8).toNat)
def addF (tw : Int) (d L : List Int) : Nat → List Int
  | 0 => L
  | i + 1 => stepL tw i d (addF tw d L i)
theorem addF_len (tw : Int) (d L : List Int) : ∀ i, (addF tw d L i).length = L.length
  | 0 => rfl
  | i + 1 => by rw [addF, stepL, List.length_set, addF_len]
theorem and7 (x : Int) (h0 : 0 ≤ x) (h1 : x < 4294967296) : Go.bits .and .u32 7 x = x % 8 := by
  obtain ⟨n, rfl⟩ : ∃ n : Nat, x = n := ⟨x.toNat, by omega⟩
  have e : (BitVec.ofInt 32 7 &&& BitVec.ofInt 32 (n : Int)).toNat = n % 8 := by
    have h1 : BitVec.ofInt 32 (n : Int) = BitVec.ofNat 32 n := by simp
    have h2 : BitVec.ofInt 32 7 = BitVec.ofNat 32 7 := by decide
    rw [h1, h2, BitVec.toNat_and, BitVec.toNat_ofNat, BitVec.toNat_ofNat, Nat.mod_eq_of_lt (show n < 2 ^ 32 by omega), Nat.mod_eq_of_lt (by decide), Nat.and_comm, show 7 = 2 ^ 3 - 1 from rfl, Nat.and_two_pow_sub_one_eq_mod]
  have e2 : Go.bits .and .u32 7 (n : Int) = IntKind.u32.wrap ((BitVec.ofInt 32 7 &&& BitVec.ofInt 32 (n : Int)).toNat : Int) := rfl
  rw [e2, e, IntKind.wrap_u32]; omega
theorem and7' (x : Int) (h0 : 0 ≤ x) (h1 : x < 4294967296) : Go.bits .and .u32 x 7 = x % 8 := by
  rw [← and7 x h0 h1]
  show IntKind.u32.wrap ((BitVec.ofInt 32 x &&& BitVec.ofInt 32 7).toNat : Int) = IntKind.u32.wrap ((BitVec.ofInt 32 7 &&& BitVec.ofInt 32 x).toNat : Int)
  rw [BitVec.and_comm]
theorem BR.set' {w : World} {g : Nat} {l : List Int} (h : BR w g l) (j : Nat) (v : Int) : BR (w.setCell ⟨g, j, none⟩ (.int .u8 v)) g (l.set j v) := BR.set h j v
theorem FilAt.setB {w : World} {f m g c : Nat} {st : Int} {L : List Int} {n tw : Int} (h : FilAt w f m g c st L n tw) (j : Nat) (v : Int) : FilAt (w.setCell ⟨g, j, none⟩ (.int .u8 v)) f m g c st (L.set j v) n tw :=
  ⟨(Below.heap_setCell w ⟨g, j, none⟩ _ f h.fg).trans h.hf, by rw [List.length_set]; exact (Below.heap_setCell w ⟨g, j, none⟩ _ m h.mg).trans h.hm, h.hg.set j v, h.fm, h.fg, h.mg, by rw [List.length_set]; exact h.lc⟩
theorem FilAt.below {w w1 : World} {f m g c : Nat} {st : Int} {L : List Int} {n tw : Int} (h : FilAt w f m g c st L n tw) (hb : Below w.heap.size w w1) : FilAt w1 f m g c st L n tw :=
  ⟨(hb.block _ (blk_lt' h.hf)).trans h.hf, (hb.block _ (blk_lt' h.hm)).trans h.hm, h.hg.below hb, h.fm, h.fg, h.mg, h.lc⟩
set_option maxRecDepth 100000 in
set_option maxHeartbeats 8000000 in
theorem addC (f m g c : Nat) (st : Int) (L : List Int) (n : Nat) (tw : Int) (ht0 : 0 ≤ tw) (ht1 : tw < 4294967296) (w0 w : World) (h : FilAt w f m g c st L n tw) (hl1 : 1 ≤ L.length) (hl2 : L.length ≤ 2000) (hn50 : n ≤ 50) (hw : Below w0.heap.size w0 w) (hgs : w0.heap.size ≤ g)
    (A : Option Addr) (d : List Int) (cd : Nat) (hC : Kd.C (Kd.int .u8) w0 A d.length d) (hc : d.length ≤ cd) (hn : d.length ≤ 100000) (hB : Tok.ByteL d) :
    Calls Try.prog 20 #[.pointer (some ⟨f, 0, none⟩), .slice A d.length cd] w fun e w' => e = .returned (.tuple #[]) ∧ FilAt w' f m g c st (addF tw d L n) n tw ∧ Below w0.heap.size w0 w' := by
  have HH : Aside0 (∀ (i : Nat) (M : List Int) (wr : World), i ≤ 50 → M.length = L.length → FilAt wr f m g c st M n tw → Below w0.heap.size w0 wr → Calls Try.prog 27 #[.pointer (some ⟨f, 0, none⟩), .int .u32 i, .slice A d.length cd] wr fun e w' => e = .returned (.int .u32 (bitF tw L.length i d)) ∧ Below wr.heap.size wr w') := ⟨fun i M wr hi hM hf hb => by
    have h0 := cell_of hf.hm (j := 0) rfl
    rw [hM] at h0
    exact hashC f m g c L.length n tw ht0 ht1 wr (cell_of hf.hf (j := 2) rfl) h0 (cell_of hf.hm (j := 2) rfl) hl1 hl2 A d cd (Kd.C_below hC hb) hc hn hB i hi⟩
  have HF := Aside0.mk h
  have HW := Aside0.mk hw
  have HL := Aside0.mk (And.intro hl1 hl2)
  have HN := Aside0.mk hn50
  have HG := Aside0.mk hgs
  obtain ⟨nd, hnd⟩ : ∃ n, d.length = n := ⟨_, rfl⟩
  rw [hnd] at HH ⊢
  have c2 := cell_of h.hf (j := 2) rfl
  clear h hw hl1 hl2 hC hc hn hB hnd hgs ht0 ht1
  go_enter Try.func20, Try.ntmps20
  go_wp2_with fail
  clear c2
  go_loopw [4, 5] (fun v4 v5 wr => ∃ (i : Nat) (x : Value), i ≤ n ∧ v4 = .int .u32 i ∧ v5 = x ∧ Aside0 (FilAt wr f m g c st (addF tw d L i) n tw) ∧ Aside0 (Below w0.heap.size w0 wr)) (fun v4 _ _ => n - (intOf v4).toNat)
  case atStart => exact ⟨0, _, Nat.zero_le _, rfl, rfl, HF, HW⟩
  case round =>
    obtain ⟨i, x, hi, rfl, rfl, HF1, HW1⟩ := hrel
    have c2 := cell_of HF1.out.hf (j := 2) rfl
    have d1 := cell_of HF1.out.hm (j := 1) rfl
    by_cases hlt : i < n
    · have hlI : (i : Int) < (n : Int) := by omega
      have HLT := Aside0.mk hlt
      clear hlt hi
      go_upto_region 4 with fail
      clear c2 d1
      go_wp2_with fail
      go_at_call 27
      refine (HH.out i _ wr (by have := HLT.out; have := HN.out; omega) (addF_len _ _ _ _) HF1.out HW1.out).mono ?_
      rintro e w2 ⟨rfl, hb⟩
      have HF2 := Aside0.mk (HF1.out.below hb)
      have HW2 : Aside0 (Below w0.heap.size w0 w2) := ⟨HW1.out.trans ⟨hb.os, hb.tape, hb.output, hb.size, fun k hk => hb.block k (Nat.lt_of_lt_of_le hk HW1.out.size)⟩⟩
      have hr := bit_range tw L.length i d HL.out.1
      have HS : Aside0 (addF tw d L (i + 1) = (addF tw d L i).set (bitF tw L.length i d / 8).toNat (setB ((addF tw d L i).getD (bitF tw L.length i d / 8).toNat 0) (bitF tw L.length i d % 8).toNat)) := ⟨by
        rw [addF, stepL, addF_len]⟩
      obtain ⟨b, hb1⟩ : ∃ b : Nat, bitF tw L.length i d = b := ⟨(bitF tw L.length i d).toNat, by omega⟩
      rw [hb1] at hr HS ⊢
      obtain ⟨M, hM⟩ : ∃ M, addF tw d L i = M := ⟨_, rfl⟩
      have hMl : M.length = L.length := by rw [← hM, addF_len]
      rw [hM] at HF2 HS
      obtain ⟨q, hq⟩ : ∃ q : Nat, b / 8 = q := ⟨_, rfl⟩
      have hqI : (b : Int) / 8 = (q : Int) := by omega
      have hr7 := and7 (b : Int) (by omega) (by have := HL.out.2; omega)
      have hql : q < M.length := by rw [hMl]; omega
      have hqlI : (q : Int) < (M.length : Int) := by omega
      have cg := HF2.out.hg.cell q hql
      have fg := HF2.out.hg.frozen q hql
      have c2 := cell_of HF2.out.hf (j := 2) rfl
      have d0 := cell_of HF2.out.hm (j := 0) rfl
      obtain ⟨y, hy⟩ : ∃ y, M.getD q 0 = y := ⟨_, rfl⟩
      rw [hy] at cg
      have HS2 : Aside0 (addF tw d L (i + 1) = M.set q (setB y (b % 8))) := ⟨by
        rw [HS.out, show ((b : Int) / 8).toNat = q by omega, hy, show ((b : Int) % 8).toNat = b % 8 by omega]⟩
      have hi1 : (i : Int) + 1 ≤ 50 := by have := HN.out; have := HLT.out; omega
      have h8 : b % 8 = 0 ∨ b % 8 = 1 ∨ b % 8 = 2 ∨ b % 8 = 3 ∨ b % 8 = 4 ∨ b % 8 = 5 ∨ b % 8 = 6 ∨ b % 8 = 7 := by omega
      have hb8 : (b : Int) % 8 = ((b % 8 : Nat) : Int) := by omega
      rw [hb8] at hr7
      clear hb hr hb1 hM hMl hq hql hy hb8
      rcases h8 with h8 | h8 | h8 | h8 | h8 | h8 | h8 | h8
      · rw [h8, setB_0] at HS2
        rw [h8] at hr7
        go_wp2_with fail
        go_roundw
        case rel => exact ⟨i + 1, _, by have := HLT.out; omega, by go_num, rfl, ⟨by rw [HS2.out]; exact HF2.out.setB q _⟩, ⟨HW2.out.setCell (p := ⟨g, q, none⟩) HG.out _⟩⟩
        case measure => simp [intOf]; have := HLT.out; omega
      · rw [h8, setB_1] at HS2
        rw [h8] at hr7
        go_wp2_with fail
        go_roundw
        case rel => exact ⟨i + 1, _, by have := HLT.out; omega, by go_num, rfl, ⟨by rw [HS2.out]; exact HF2.out.setB q _⟩, ⟨HW2.out.setCell (p := ⟨g, q, none⟩) HG.out _⟩⟩
        case measure => simp [intOf]; have := HLT.out; omega
      · rw [h8, setB_2] at HS2
        rw [h8] at hr7
        go_wp2_with fail
        go_roundw
        case rel => exact ⟨i + 1, _, by have := HLT.out; omega, by go_num, rfl, ⟨by rw [HS2.out]; exact HF2.out.setB q _⟩, ⟨HW2.out.setCell (p := ⟨g, q, none⟩) HG.out _⟩⟩
        case measure => simp [intOf]; have := HLT.out; omega
      · rw [h8, setB_3] at HS2
        rw [h8] at hr7
        go_wp2_with fail
        go_roundw
        case rel => exact ⟨i + 1, _, by have := HLT.out; omega, by go_num, rfl, ⟨by rw [HS2.out]; exact HF2.out.setB q _⟩, ⟨HW2.out.setCell (p := ⟨g, q, none⟩) HG.out _⟩⟩
        case measure => simp [intOf]; have := HLT.out; omega
      · rw [h8, setB_4] at HS2
        rw [h8] at hr7
        go_wp2_with fail
        go_roundw
        case rel => exact ⟨i + 1, _, by have := HLT.out; omega, by go_num, rfl, ⟨by rw [HS2.out]; exact HF2.out.setB q _⟩, ⟨HW2.out.setCell (p := ⟨g, q, none⟩) HG.out _⟩⟩
        case measure => simp [intOf]; have := HLT.out; omega
      · rw [h8, setB_5] at HS2
        rw [h8] at hr7
        go_wp2_with fail
        go_roundw
        case rel => exact ⟨i + 1, _, by have := HLT.out; omega, by go_num, rfl, ⟨by rw [HS2.out]; exact HF2.out.setB q _⟩, ⟨HW2.out.setCell (p := ⟨g, q, none⟩) HG.out _⟩⟩
        case measure => simp [intOf]; have := HLT.out; omega
      · rw [h8, setB_6] at HS2
        rw [h8] at hr7
        go_wp2_with fail
        go_roundw
        case rel => exact ⟨i + 1, _, by have := HLT.out; omega, by go_num, rfl, ⟨by rw [HS2.out]; exact HF2.out.setB q _⟩, ⟨HW2.out.setCell (p := ⟨g, q, none⟩) HG.out _⟩⟩
        case measure => simp [intOf]; have := HLT.out; omega
      · rw [h8, setB_7] at HS2
        rw [h8] at hr7
        go_wp2_with fail
        go_roundw
        case rel => exact ⟨i + 1, _, by have := HLT.out; omega, by go_num, rfl, ⟨by rw [HS2.out]; exact HF2.out.setB q _⟩, ⟨HW2.out.setCell (p := ⟨g, q, none⟩) HG.out _⟩⟩
        case measure => simp [intOf]; have := HLT.out; omega
    · obtain rfl : i = n := by omega
      have hge : ¬ (i : Int) < (i : Int) := by omega
      go_wp2_with fail
      go_end0
      exact ⟨rfl, HF1.out, HW1.out⟩
/-- A filter may have bytes: all bits that its hashes name are set. -/
def bitSet (y : Int) (r : Nat) : Bool := !(Go.bits .and .u8 y ((2 ^ r : Nat) : Int) == 0)
theorem bitSet_0 (y : Int) : bitSet y 0 = !(Go.bits .and .u8 y 1 == 0) := by unfold bitSet; rw [show ((2 ^ 0 : Nat) : Int) = 1 by decide]
theorem bitSet_1 (y : Int) : bitSet y 1 = !(Go.bits .and .u8 y 2 == 0) := by unfold bitSet; rw [show ((2 ^ 1 : Nat) : Int) = 2 by decide]
theorem bitSet_2 (y : Int) : bitSet y 2 = !(Go.bits .and .u8 y 4 == 0) := by unfold bitSet; rw [show ((2 ^ 2 : Nat) : Int) = 4 by decide]
theorem bitSet_3 (y : Int) : bitSet y 3 = !(Go.bits .and .u8 y 8 == 0) := by unfold bitSet; rw [show ((2 ^ 3 : Nat) : Int) = 8 by decide]
theorem bitSet_4 (y : Int) : bitSet y 4 = !(Go.bits .and .u8 y 16 == 0) := by unfold bitSet; rw [show ((2 ^ 4 : Nat) : Int) = 16 by decide]
theorem bitSet_5 (y : Int) : bitSet y 5 = !(Go.bits .and .u8 y 32 == 0) := by unfold bitSet; rw [show ((2 ^ 5 : Nat) : Int) = 32 by decide]
theorem bitSet_6 (y : Int) : bitSet y 6 = !(Go.bits .and .u8 y 64 == 0) := by unfold bitSet; rw [show ((2 ^ 6 : Nat) : Int) = 64 by decide]
theorem bitSet_7 (y : Int) : bitSet y 7 = !(Go.bits .and .u8 y 128 == 0) := by unfold bitSet; rw [show ((2 ^ 7 : Nat) : Int) = 128 by decide]
def hasB (tw : Int) (d L : List Int) (i : Nat) : Bool := bitSet (L.getD (bitF tw L.length i d / 8).toNat 0) (bitF tw L.length i d % 8).toNat
def hasF (tw : Int) (d L : List Int) (n : Nat) : Bool := (List.range n).all (hasB tw d L)
theorem hasF_succ (tw : Int) (d L : List Int) (n : Nat) : hasF tw d L (n + 1) = (hasF tw d L n && hasB tw d L n) := by
  unfold hasF
  rw [List.range_succ, List.all_append]; simp
theorem hasF_lt {tw : Int} {d L : List Int} {n i : Nat} (hi : i < n) (h : hasB tw d L i = false) : hasF tw d L n = false := by
  unfold hasF
  rw [List.all_eq_false]
  exact ⟨i, List.mem_range.2 hi, by rw [h]; decide⟩
set_option maxRecDepth 100000 in
set_option maxHeartbeats 8000000 in
theorem matchC (f m g c : Nat) (st : Int) (L : List Int) (n : Nat) (tw : Int) (ht0 : 0 ≤ tw) (ht1 : tw < 4294967296) (w : World) (h : FilAt w f m g c st L n tw) (hl1 : 1 ≤ L.length) (hl2 : L.length ≤ 2000) (hn1 : 1 ≤ n) (hn50 : n ≤ 50)
    (A : Option Addr) (d : List Int) (cd : Nat) (hC : Kd.C (Kd.int .u8) w A d.length d) (hc : d.length ≤ cd) (hn : d.length ≤ 100000) (hB : Tok.ByteL d) :
    Calls Try.prog 24 #[.pointer (some ⟨f, 0, none⟩), .slice A d.length cd] w fun e w' => e = .returned (.bool (hasF tw d L n)) ∧ Below w.heap.size w w' := by
  have HH : Aside0 (∀ (i : Nat) (wr : World), i ≤ 50 → Below w.heap.size w wr → Calls Try.prog 27 #[.pointer (some ⟨f, 0, none⟩), .int .u32 i, .slice A d.length cd] wr fun e w' => e = .returned (.int .u32 (bitF tw L.length i d)) ∧ Below wr.heap.size wr w') := ⟨fun i wr hi hb => by
    have hf := h.below hb
    exact hashC f m g c L.length n tw ht0 ht1 wr (cell_of hf.hf (j := 2) rfl) (cell_of hf.hm (j := 0) rfl) (cell_of hf.hm (j := 2) rfl) hl1 hl2 A d cd (Kd.C_below hC hb) hc hn hB i hi⟩
  have HF := Aside0.mk h
  have HL := Aside0.mk (And.intro hl1 hl2)
  have HN := Aside0.mk (And.intro hn1 hn50)
  obtain ⟨nd, hnd⟩ : ∃ n, d.length = n := ⟨_, rfl⟩
  rw [hnd] at HH ⊢
  have c2 := cell_of h.hf (j := 2) rfl
  clear h hl1 hl2 hC hc hn hB hnd ht0 ht1
  go_enter Try.func24, Try.ntmps24
  go_wp2_with fail
  clear c2
  go_loopw [5, 6] (fun v5 v6 wr => ∃ (i : Nat) (x : Value), i ≤ n ∧ v5 = .int .u32 i ∧ v6 = x ∧ Aside0 (hasF tw d L i = true) ∧ Aside0 (Below w.heap.size w wr)) (fun v5 _ _ => n - (intOf v5).toNat)
  case atStart => exact ⟨0, _, Nat.zero_le _, rfl, rfl, ⟨rfl⟩, ⟨Below.refl _ _⟩⟩
  case round =>
    obtain ⟨i, x, hi, rfl, rfl, HA1, HW1⟩ := hrel
    have c2 := cell_of (HF.out.below HW1.out).hf (j := 2) rfl
    have d1 := cell_of (HF.out.below HW1.out).hm (j := 1) rfl
    by_cases hlt : i < n
    · have hlI : (i : Int) < (n : Int) := by omega
      have HLT := Aside0.mk hlt
      clear hlt hi
      go_upto_region 6 with fail
      clear c2 d1
      go_wp2_with fail
      go_at_call 27
      refine (HH.out i wr (by have := HLT.out; have := HN.out; omega) HW1.out).mono ?_
      rintro e w2 ⟨rfl, hb⟩
      have HW2 : Aside0 (Below w.heap.size w w2) := ⟨HW1.out.trans ⟨hb.os, hb.tape, hb.output, hb.size, fun k hk => hb.block k (Nat.lt_of_lt_of_le hk HW1.out.size)⟩⟩
      have HF2 := Aside0.mk (HF.out.below HW2.out)
      have hr := bit_range tw L.length i d HL.out.1
      have HS : Aside0 (hasB tw d L i = bitSet (L.getD (bitF tw L.length i d / 8).toNat 0) (bitF tw L.length i d % 8).toNat) := ⟨rfl⟩
      obtain ⟨b, hb1⟩ : ∃ b : Nat, bitF tw L.length i d = b := ⟨(bitF tw L.length i d).toNat, by omega⟩
      rw [hb1] at hr HS ⊢
      obtain ⟨q, hq⟩ : ∃ q : Nat, b / 8 = q := ⟨_, rfl⟩
      have hqI : (b : Int) / 8 = (q : Int) := by omega
      have hr7 := and7' (b : Int) (by omega) (by have := HL.out.2; omega)
      have hql : q < L.length := by omega
      have hqlI : (q : Int) < (L.length : Int) := by omega
      have cg := HF2.out.hg.cell q hql
      have c2 := cell_of HF2.out.hf (j := 2) rfl
      have d0 := cell_of HF2.out.hm (j := 0) rfl
      obtain ⟨y, hy⟩ : ∃ y, L.getD q 0 = y := ⟨_, rfl⟩
      rw [hy] at cg
      have HS2 : Aside0 (hasB tw d L i = bitSet y (b % 8)) := ⟨by
        rw [HS.out, show ((b : Int) / 8).toNat = q by omega, hy, show ((b : Int) % 8).toNat = b % 8 by omega]⟩
      have hi1 : (i : Int) + 1 ≤ 50 := by have := HN.out; have := HLT.out; omega
      have h8 : b % 8 = 0 ∨ b % 8 = 1 ∨ b % 8 = 2 ∨ b % 8 = 3 ∨ b % 8 = 4 ∨ b % 8 = 5 ∨ b % 8 = 6 ∨ b % 8 = 7 := by omega
      have hb8 : (b : Int) % 8 = ((b % 8 : Nat) : Int) := by omega
      rw [hb8] at hr7
      clear hb hr hb1 hq hql hy hb8
      rcases h8 with h8 | h8 | h8 | h8 | h8 | h8 | h8 | h8
      · rw [h8, bitSet_0] at HS2
        rw [h8] at hr7
        cases hz : (Go.bits .and .u8 y 1 == 0) with
        | true =>
          have HZ : Aside0 (hasB tw d L i = false) := ⟨by rw [HS2.out, hz]; rfl⟩
          go_wp2_with fail
          go_ret
          exact ⟨by rw [hasF_lt HLT.out HZ.out]; rfl, HW2.out⟩
        | false =>
          have HZ : Aside0 (hasB tw d L i = true) := ⟨by rw [HS2.out, hz]; rfl⟩
          go_wp2_with fail
          go_roundw
          case rel => exact ⟨i + 1, _, by have := HLT.out; omega, by go_num, rfl, ⟨by rw [hasF_succ, HA1.out, HZ.out]; rfl⟩, HW2⟩
          case measure => simp [intOf]; have := HLT.out; omega
      · rw [h8, bitSet_1] at HS2
        rw [h8] at hr7
        cases hz : (Go.bits .and .u8 y 2 == 0) with
        | true =>
          have HZ : Aside0 (hasB tw d L i = false) := ⟨by rw [HS2.out, hz]; rfl⟩
          go_wp2_with fail
          go_ret
          exact ⟨by rw [hasF_lt HLT.out HZ.out]; rfl, HW2.out⟩
        | false =>
          have HZ : Aside0 (hasB tw d L i = true) := ⟨by rw [HS2.out, hz]; rfl⟩
          go_wp2_with fail
          go_roundw
          case rel => exact ⟨i + 1, _, by have := HLT.out; omega, by go_num, rfl, ⟨by rw [hasF_succ, HA1.out, HZ.out]; rfl⟩, HW2⟩
          case measure => simp [intOf]; have := HLT.out; omega
      · rw [h8, bitSet_2] at HS2
        rw [h8] at hr7
        cases hz : (Go.bits .and .u8 y 4 == 0) with
        | true =>
          have HZ : Aside0 (hasB tw d L i = false) := ⟨by rw [HS2.out, hz]; rfl⟩
          go_wp2_with fail
          go_ret
          exact ⟨by rw [hasF_lt HLT.out HZ.out]; rfl, HW2.out⟩
        | false =>
          have HZ : Aside0 (hasB tw d L i = true) := ⟨by rw [HS2.out, hz]; rfl⟩
          go_wp2_with fail
          go_roundw
          case rel => exact ⟨i + 1, _, by have := HLT.out; omega, by go_num, rfl, ⟨by rw [hasF_succ, HA1.out, HZ.out]; rfl⟩, HW2⟩
          case measure => simp [intOf]; have := HLT.out; omega
      · rw [h8, bitSet_3] at HS2
        rw [h8] at hr7
        cases hz : (Go.bits .and .u8 y 8 == 0) with
        | true =>
          have HZ : Aside0 (hasB tw d L i = false) := ⟨by rw [HS2.out, hz]; rfl⟩
          go_wp2_with fail
          go_ret
          exact ⟨by rw [hasF_lt HLT.out HZ.out]; rfl, HW2.out⟩
        | false =>
          have HZ : Aside0 (hasB tw d L i = true) := ⟨by rw [HS2.out, hz]; rfl⟩
          go_wp2_with fail
          go_roundw
          case rel => exact ⟨i + 1, _, by have := HLT.out; omega, by go_num, rfl, ⟨by rw [hasF_succ, HA1.out, HZ.out]; rfl⟩, HW2⟩
          case measure => simp [intOf]; have := HLT.out; omega
      · rw [h8, bitSet_4] at HS2
        rw [h8] at hr7
        cases hz : (Go.bits .and .u8 y 16 == 0) with
        | true =>
          have HZ : Aside0 (hasB tw d L i = false) := ⟨by rw [HS2.out, hz]; rfl⟩
          go_wp2_with fail
          go_ret
          exact ⟨by rw [hasF_lt HLT.out HZ.out]; rfl, HW2.out⟩
        | false =>
          have HZ : Aside0 (hasB tw d L i = true) := ⟨by rw [HS2.out, hz]; rfl⟩
          go_wp2_with fail
          go_roundw
          case rel => exact ⟨i + 1, _, by have := HLT.out; omega, by go_num, rfl, ⟨by rw [hasF_succ, HA1.out, HZ.out]; rfl⟩, HW2⟩
          case measure => simp [intOf]; have := HLT.out; omega
      · rw [h8, bitSet_5] at HS2
        rw [h8] at hr7
        cases hz : (Go.bits .and .u8 y 32 == 0) with
        | true =>
          have HZ : Aside0 (hasB tw d L i = false) := ⟨by rw [HS2.out, hz]; rfl⟩
          go_wp2_with fail
          go_ret
          exact ⟨by rw [hasF_lt HLT.out HZ.out]; rfl, HW2.out⟩
        | false =>
          have HZ : Aside0 (hasB tw d L i = true) := ⟨by rw [HS2.out, hz]; rfl⟩
          go_wp2_with fail
          go_roundw
          case rel => exact ⟨i + 1, _, by have := HLT.out; omega, by go_num, rfl, ⟨by rw [hasF_succ, HA1.out, HZ.out]; rfl⟩, HW2⟩
          case measure => simp [intOf]; have := HLT.out; omega
      · rw [h8, bitSet_6] at HS2
        rw [h8] at hr7
        cases hz : (Go.bits .and .u8 y 64 == 0) with
        | true =>
          have HZ : Aside0 (hasB tw d L i = false) := ⟨by rw [HS2.out, hz]; rfl⟩
          go_wp2_with fail
          go_ret
          exact ⟨by rw [hasF_lt HLT.out HZ.out]; rfl, HW2.out⟩
        | false =>
          have HZ : Aside0 (hasB tw d L i = true) := ⟨by rw [HS2.out, hz]; rfl⟩
          go_wp2_with fail
          go_roundw
          case rel => exact ⟨i + 1, _, by have := HLT.out; omega, by go_num, rfl, ⟨by rw [hasF_succ, HA1.out, HZ.out]; rfl⟩, HW2⟩
          case measure => simp [intOf]; have := HLT.out; omega
      · rw [h8, bitSet_7] at HS2
        rw [h8] at hr7
        cases hz : (Go.bits .and .u8 y 128 == 0) with
        | true =>
          have HZ : Aside0 (hasB tw d L i = false) := ⟨by rw [HS2.out, hz]; rfl⟩
          go_wp2_with fail
          go_ret
          exact ⟨by rw [hasF_lt HLT.out HZ.out]; rfl, HW2.out⟩
        | false =>
          have HZ : Aside0 (hasB tw d L i = true) := ⟨by rw [HS2.out, hz]; rfl⟩
          go_wp2_with fail
          go_roundw
          case rel => exact ⟨i + 1, _, by have := HLT.out; omega, by go_num, rfl, ⟨by rw [hasF_succ, HA1.out, HZ.out]; rfl⟩, HW2⟩
          case measure => simp [intOf]; have := HLT.out; omega
    · obtain rfl : i = n := by omega
      have hge : ¬ (i : Int) < (i : Int) := by omega
      have hpos : (0 : Int) < (i : Int) := by have := HN.out; omega
      have hposN : 0 < i := by omega
      have hposD : decide (0 < i) = true := decide_eq_true hposN
      go_wp2_with fail
      go_ret
      exact ⟨by rw [HA1.out]; rfl, HW1.out⟩
end Go.Proofs.Ytbbeedclkfcmeaa.Snk
