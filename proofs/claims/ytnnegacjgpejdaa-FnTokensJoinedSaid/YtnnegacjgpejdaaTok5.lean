/- The tokenizer: its step in one; the spec's cut into tokens by the same law. -/
import Derived.Test.YtnnegacjgpejdaaTok4
import Derived.Test.YtnnegacjgpejdaaQFnTokensJoinedx
namespace Go.Proofs.Ytnnegacjgpejdaa.Tok
open Go.RowKit Go.Proofs.YtnnegacjgpejdaaW.PrintWords Go.Proofs.YtnnegacjgpejdaaW.PrintLast Go.Proofs.YtnnegacjgpejdaaW.PrintMore Go.Proofs.Ytnnegacjgpejdaa.QFnTokensJoined
set_option linter.unusedVariables false
set_option linter.unusedSimpArgs false
def ByteL (b : List Int) : Prop := ∀ d ∈ b, 0 ≤ d ∧ d < 256
theorem ByteL.at {s : List Int} (h : ByteL s) (i : Nat) : 0 ≤ s.getD i 0 ∧ s.getD i 0 < 256 := by
  rw [List.getD_eq_getElem?_getD]
  rcases Nat.lt_or_ge i s.length with hi | hi
  · rw [List.getElem?_eq_getElem hi]; exact h _ (List.getElem_mem _)
  · rw [List.getElem?_eq_none hi]; decide
def word2 (s : List Int) (i : Nat) : Int := s.getD (i + 1 + 0) 0 + s.getD (i + 1 + 1) 0 * 256
def word4 (s : List Int) (i : Nat) : Int := s.getD (i + 1 + 0) 0 + s.getD (i + 1 + 1) 0 * 256 + s.getD (i + 1 + 2) 0 * 65536 + s.getD (i + 1 + 3) 0 * 16777216
/-- Where the data of the token at i stand, and how many they are. -/
def dat (s : List Int) (i : Nat) : Option (Nat × Nat) :=
  if s.getD i 0 = 76 then (if i + 2 ≤ s.length ∧ i + 2 + (s.getD (i + 1 + 0) 0).toNat ≤ s.length then some (i + 2, (s.getD (i + 1 + 0) 0).toNat) else none)
  else if s.getD i 0 = 77 then (if i + 3 ≤ s.length ∧ i + 3 + (word2 s i).toNat ≤ s.length then some (i + 3, (word2 s i).toNat) else none)
  else if s.getD i 0 = 78 then (if i + 5 ≤ s.length ∧ i + 5 + (word4 s i).toNat ≤ s.length then some (i + 5, (word4 s i).toNat) else none)
  else if 1 ≤ s.getD i 0 ∧ s.getD i 0 < 76 then (if i + 1 + (s.getD i 0).toNat ≤ s.length then some (i + 1, (s.getD i 0).toNat) else none)
  else some (i + 1, 0)
theorem dat_le {s : List Int} {i a d : Nat} (hi : i < s.length) (h : dat s i = some (a, d)) : i < a ∧ a + d ≤ s.length := by
  unfold dat at h
  split at h
  · split at h
    · injection h with h; injection h with h1 h2; omega
    · cases h
  · split at h
    · split at h
      · injection h with h; injection h with h1 h2; omega
      · cases h
    · split at h
      · split at h
        · injection h with h; injection h with h1 h2; omega
        · cases h
      · split at h
        · split at h
          · injection h with h; injection h with h1 h2; omega
          · cases h
        · injection h with h; injection h with h1 h2; omega
/-- A step that makes a token. -/
def Step (g : Nat) (A : Option Addr) (s : List Int) (c i : Nat) (oks : Nat → Prop) (base : Nat) (w : World) (a d : Nat) (e : Ending) (w' : World) : Prop :=
  e = .returned (.bool true) ∧ ∃ pos' o dv nm ol, Tk w' g A s.length c ((a + d : Nat) : Int) pos' (.pointer (some ⟨o, 0, none⟩)) dv .nilIface ∧ w'.heap[o]? = some (.cells #[.int .u8 (s.getD i 0), .string nm, .int .i64 ol] 49 (0, 0)) ∧ w.heap.size ≤ o ∧ Kd.V (Kd.int .u8) 5 w' base oks dv ((s.drop a).take d) ∧ Only g w w'
/-- A step that finds none. -/
def Halt (g : Nat) (A : Option Addr) (s : List Int) (c i : Nat) (w : World) (e : Ending) (w' : World) : Prop :=
  e = .returned (.bool false) ∧ ∃ pos' op' data' str, Tk w' g A s.length c i pos' op' data' (.iface 44 (.agg #[.int .i64 27, .string str])) ∧ Only g w w'
theorem wrapBig (x : Int) (h0 : 0 ≤ x) (h1 : x < 4294967296) (n i : Nat) (hn : n ≤ 1000000) (hi : i < n) (h : n < i + 5 + x.toNat) : (n : Int) - (i + 1 + 4) < wrap32 x ∨ wrap32 x < 0 := by
  unfold wrap32; omega
theorem olen_neg (v : Nat) : (v = 76 → olen v = -1) ∧ (v = 77 → olen v = -2) ∧ (v = 78 → olen v = -4) ∧ (1 ≤ v → v < 76 → olen v = ((v + 1 : Nat) : Int)) ∧ (v = 0 ∨ 78 < v → olen v = 1) := by
  unfold olen
  refine ⟨?_, ?_, ?_, ?_, ?_⟩ <;> intros <;> (repeat' split) <;> omega
theorem nextC (g : Nat) (ad : Addr) (s : List Int) (c i : Nat) (pos : Int) (op data : Value) (oks : Nat → Prop) (base : Nat) (w : World)
    (hok : ∀ k, oks k → k ≠ g) (hV : Kd.V (Kd.int .u8) 5 w base oks (.slice (some ad) s.length c) s) (hT : Tk w g (some ad) s.length c i pos op data .nilIface)
    (hn : s.length ≤ 1000000) (hi : i < s.length) (hB : ByteL s) :
    Calls Try.prog 8 #[.pointer (some ⟨g, 0, none⟩)] w fun e w' =>
      (∃ a d, dat s i = some (a, d) ∧ Step g (some ad) s c i oks base w a d e w') ∨ (dat s i = none ∧ Halt g (some ad) s c i w e w') := by
  obtain ⟨v0, v1⟩ := hB.at i
  obtain ⟨v, hv⟩ := Int.eq_ofNat_of_zero_le v0
  have hsv : s.getD i 0 = (v : Int) := hv
  have hv256 : v < 256 := by omega
  obtain ⟨l76, l77, l78, lm, l1⟩ := olen_neg v
  obtain ⟨p0, p1⟩ := hB.at (i + 1 + 0)
  obtain ⟨p2, p3⟩ := hB.at (i + 1 + 1)
  obtain ⟨p4, p5⟩ := hB.at (i + 1 + 2)
  obtain ⟨p6, p7⟩ := hB.at (i + 1 + 3)
  unfold dat
  rw [hsv]
  by_cases h76 : v = 76
  · rw [if_pos (by omega)]
    by_cases hk : i + 2 ≤ s.length
    · by_cases hf : i + 2 + (s.getD (i + 1 + 0) 0).toNat ≤ s.length
      · rw [if_pos ⟨hk, hf⟩]
        refine (pushFit1 g ad s c i pos op data oks base w hok hV hT hn hi v hv256 hsv (l76 h76) _ rfl p0 p1 (by omega) (s.getD (i + 1 + 0) 0).toNat (by rw [Int.toNat_of_nonneg p0]; exact tokW32 p0 (by omega)) hf).mono ?_
        rintro e w' ⟨rfl, pos', o, dv, nm, ol, r1, r2, r3, r4, r5⟩
        exact Or.inl ⟨_, _, rfl, rfl, pos', o, dv, nm, ol, r1, by rw [hsv]; exact r2, r3, r4, r5⟩
      · rw [if_neg (fun h => hf h.2)]
        refine (pushBad1 g ad s c i pos op data oks base w hok hV hT hn hi v hv256 hsv (l76 h76) _ rfl p0 p1 (by omega) (s.getD (i + 1 + 0) 0) (tokW32 p0 (by omega)) (by omega)).mono ?_
        rintro e w' ⟨rfl, r⟩
        exact Or.inr ⟨rfl, rfl, r⟩
    · rw [if_neg (fun h => hk h.1)]
      refine (pushNone1 g ad s c i pos op data oks base w hok hV hT hn hi v hv256 hsv (l76 h76) (by omega)).mono ?_
      rintro e w' ⟨rfl, r⟩
      exact Or.inr ⟨rfl, rfl, r⟩
  rw [if_neg (by omega)]
  by_cases h77 : v = 77
  · rw [if_pos (by omega)]
    have u0 : 0 ≤ word2 s i := by unfold word2; omega
    have u1 : word2 s i ≤ 65535 := by unfold word2; omega
    by_cases hk : i + 3 ≤ s.length
    · by_cases hf : i + 3 + (word2 s i).toNat ≤ s.length
      · rw [if_pos ⟨hk, hf⟩]
        refine (pushFit2 g ad s c i pos op data oks base w hok hV hT hn hi v hv256 hsv (l77 h77) _ rfl p0 p1 _ rfl p2 p3 (by omega) (word2 s i).toNat (by rw [Int.toNat_of_nonneg u0]; exact tokW32 u0 (by omega)) hf).mono ?_
        rintro e w' ⟨rfl, pos', o, dv, nm, ol, r1, r2, r3, r4, r5⟩
        exact Or.inl ⟨_, _, rfl, rfl, pos', o, dv, nm, ol, r1, by rw [hsv]; exact r2, r3, r4, r5⟩
      · rw [if_neg (fun h => hf h.2)]
        refine (pushBad2 g ad s c i pos op data oks base w hok hV hT hn hi v hv256 hsv (l77 h77) _ rfl p0 p1 _ rfl p2 p3 (by omega) (word2 s i) (tokW32 u0 (by omega)) (by omega)).mono ?_
        rintro e w' ⟨rfl, r⟩
        exact Or.inr ⟨rfl, rfl, r⟩
    · rw [if_neg (fun h => hk h.1)]
      refine (pushNone2 g ad s c i pos op data oks base w hok hV hT hn hi v hv256 hsv (l77 h77) (by omega)).mono ?_
      rintro e w' ⟨rfl, r⟩
      exact Or.inr ⟨rfl, rfl, r⟩
  rw [if_neg (by omega)]
  by_cases h78 : v = 78
  · rw [if_pos (by omega)]
    have u0 : 0 ≤ word4 s i := by unfold word4; omega
    have u1 : word4 s i < 4294967296 := by unfold word4; omega
    by_cases hk : i + 5 ≤ s.length
    · by_cases hf : i + 5 + (word4 s i).toNat ≤ s.length
      · rw [if_pos ⟨hk, hf⟩]
        refine (pushFit4 g ad s c i pos op data oks base w hok hV hT hn hi v hv256 hsv (l78 h78) _ rfl p0 p1 _ rfl p2 p3 _ rfl p4 p5 _ rfl p6 p7 (by omega) (word4 s i).toNat (by rw [Int.toNat_of_nonneg u0]; exact tokW32 (x := word4 s i) u0 (by omega)) hf).mono ?_
        rintro e w' ⟨rfl, pos', o, dv, nm, ol, r1, r2, r3, r4, r5⟩
        exact Or.inl ⟨_, _, rfl, rfl, pos', o, dv, nm, ol, r1, by rw [hsv]; exact r2, r3, r4, r5⟩
      · rw [if_neg (fun h => hf h.2)]
        have hw : (s.length : Int) - (i + 1 + 4) < wrap32 (word4 s i) ∨ wrap32 (word4 s i) < 0 := wrapBig _ u0 u1 _ _ hn hi (by omega)
        refine (pushBad4 g ad s c i pos op data oks base w hok hV hT hn hi v hv256 hsv (l78 h78) _ rfl p0 p1 _ rfl p2 p3 _ rfl p4 p5 _ rfl p6 p7 (by omega) (wrap32 (word4 s i)) rfl hw).mono ?_
        rintro e w' ⟨rfl, r⟩
        exact Or.inr ⟨rfl, rfl, r⟩
    · rw [if_neg (fun h => hk h.1)]
      refine (pushNone4 g ad s c i pos op data oks base w hok hV hT hn hi v hv256 hsv (l78 h78) (by omega)).mono ?_
      rintro e w' ⟨rfl, r⟩
      exact Or.inr ⟨rfl, rfl, r⟩
  rw [if_neg (by omega)]
  by_cases hm : 1 ≤ v ∧ v < 76
  · rw [if_pos (by omega), Int.toNat_natCast]
    by_cases hf : i + 1 + v ≤ s.length
    · rw [if_pos hf]
      refine (nextMany g ad s c i pos op data oks base w hok hV hT hn hi v hv256 hsv (v + 1) (lm hm.1 hm.2) (by omega) (by omega) (by omega)).mono ?_
      rintro e w' ⟨rfl, pos', o, dv, nm, ol, r1, r2, r3, r4, r5⟩
      exact Or.inl ⟨_, _, rfl, rfl, pos', o, dv, nm, ol, by rw [show i + 1 + v = i + (v + 1) by omega]; exact r1, by rw [hsv]; exact r2, r3, r4, r5⟩
    · rw [if_neg hf]
      refine (nextShort g ad s c i pos op data oks base w hok hV hT hn hi v hv256 hsv (v + 1) (lm hm.1 hm.2) (by omega) (by omega) (by omega)).mono ?_
      rintro e w' ⟨rfl, r⟩
      exact Or.inr ⟨rfl, rfl, r⟩
  · rw [if_neg (by omega)]
    refine (nextOne g ad s c i pos op data oks base w hok hV hT hn hi v hv256 hsv (l1 (by omega))).mono ?_
    rintro e w' ⟨rfl, pos', o, dv, nm, ol, r1, r2, r3, r4, r5⟩
    exact Or.inl ⟨_, _, rfl, rfl, pos', o, dv, nm, ol, r1, by rw [hsv]; exact r2, r3, by simpa using r4, r5⟩
end Go.Proofs.Ytnnegacjgpejdaa.Tok
