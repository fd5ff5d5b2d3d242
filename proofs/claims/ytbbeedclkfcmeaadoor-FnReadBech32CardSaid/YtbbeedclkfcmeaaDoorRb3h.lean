/- What the branch of a wrong sum needs. -/
import Derived.Test.YtbbeedclkfcmeaaDoorRb3v
import Derived.Test.YtbbeedclkfcmeaaDoorBl5
namespace Go.Proofs.YtbbeedclkfcmeaaDoor.KFnReadBech32
open Go.RowKit Go.Proofs.YtbbeedclkfcmeaaDoorW.PrintWords Go.Proofs.YtbbeedclkfcmeaaDoorW.PrintLast Go.Proofs.YtbbeedclkfcmeaaDoorW.PrintMore Go.Proofs.YtbbeedclkfcmeaaDoor.Snk
set_option linter.unusedVariables false
set_option linter.unusedSimpArgs false
def ErrIs (r : Option (Nat × Value)) (v : Value) : Prop := match r with
  | none => v = .nilIface
  | some _ => ∃ t x, v = .iface t x
theorem w64 {x : Int} (h0 : -9223372036854775808 ≤ x) (h1 : x ≤ 9223372036854775807) : wrap64 x = x := by unfold wrap64; omega
theorem toBytes_l0 : ∀ (k : Nat) (s : ByteArray) (l : List Int) (i : Nat) (r : List Int), s.size ≤ 281474976710656 → i ≤ s.size → bech32_toBytes.l0 k s l (i : Int) = some (r, none) → r.length + i = l.length + s.size := by
  intro k
  induction k with
  | zero => intro s l i r _ _ h; simp [bech32_toBytes.l0] at h
  | succ k ih =>
    intro s l i r hs hi h
    rw [bech32_toBytes.l0] at h
    by_cases h1 : (i : Int) < (s.size : Int)
    · rw [if_pos h1, if_pos (Int.natCast_nonneg i)] at h
      obtain ⟨t, ht, h⟩ := Option.bind_eq_some_iff.mp h
      by_cases h2 : t < 0
      · rw [if_pos h2] at h; simp at h
      · rw [if_neg h2] at h
        by_cases h3 : l.length < 140737488355328
        · rw [if_pos h3] at h
          have e : wrap64 ((i : Int) + 1) = ((i + 1 : Nat) : Int) := by rw [w64 (by omega) (by omega)]; omega
          rw [e] at h
          have := ih s _ (i + 1) r hs (by omega) h
          rw [List.length_append, List.length_singleton] at this
          omega
        · rw [if_neg h3] at h; cases h
    · rw [if_neg h1] at h
      have := Option.some.inj h
      have h4 : l = r := (Prod.mk.inj this).1
      subst h4
      omega
theorem toBytes_len {k : Nat} {s : ByteArray} {r : List Int} (h : bech32_toBytes.f k s = some (r, none)) : r.length = s.size ∧ s.size ≤ 281474976710656 := by
  unfold bech32_toBytes.f at h
  rw [if_pos (Int.natCast_nonneg _)] at h
  by_cases h1 : ((s.size : Int) : Int).toNat ≤ 281474976710656
  · rw [if_pos h1] at h
    have := toBytes_l0 k s _ 0 r (by omega) (Nat.zero_le _) h
    simp at this
    omega
  · rw [if_neg h1] at h; cases h
theorem verify_some {s : ByteArray} {l : List Int} {r : Int × Bool} (h : bech32_bech32VerifyChecksum.f s l = some r) : 6 ≤ l.length ∧ l.length ≤ 1006 ∧ s.size ≤ 1000 ∧ ByteL (l.take (l.length - 6)) := by
  unfold bech32_bech32VerifyChecksum.f at h
  by_cases h1 : 0 ≤ wrap64 ((l.length : Int) - 6)
  · rw [if_pos h1] at h
    by_cases h2 : wrap64 ((l.length : Int) - 6) ≤ (l.length : Int)
    · rw [if_pos h2] at h
      obtain ⟨t, ht, h⟩ := Option.bind_eq_some_iff.mp h
      unfold bech32_bech32Polymod.f at ht
      split at ht
      · rename_i hc
        obtain ⟨a, b, c, d, e⟩ := hc
        rw [List.length_take] at b
        rw [List.length_drop] at c
        have hj : (wrap64 ((l.length : Int) - 6)).toNat = l.length - 6 := by omega
        rw [hj] at b c d
        exact ⟨by omega, by omega, a, d⟩
      · cases ht
    · rw [if_neg h2] at h; cases h
  · rw [if_neg h1] at h; cases h
theorem leafFacts {x : ByteArray} {t j : Int} {l : List Int} {k : Nat} {r : Int × Bool} (h0 : 0 ≤ t) (h1 : t ≤ (x.size : Int)) (hj : wrap64 (t + 1) = j) (h2 : 0 ≤ j) (h3 : j ≤ (x.size : Int)) (hb : bech32_toBytes.f k (x.extract j.toNat x.size) = some (l, none)) (hv : bech32_bech32VerifyChecksum.f (x.extract 0 t.toNat) l = some r) :
    (0 ≤ wrap64 ((x.size : Int) - 6) ∧ wrap64 ((x.size : Int) - 6) ≤ (x.size : Int)) ∧ (0 ≤ wrap64 ((l.length : Int) - 6) ∧ wrap64 ((l.length : Int) - 6) ≤ (l.length : Int)) ∧ (wrap64 ((l.length : Int) - 6)).toNat = l.length - 6 ∧ l.length ≤ 1006 ∧ (x.extract 0 t.toNat).size ≤ 1000 ∧ ByteL (l.take (l.length - 6)) := by
  obtain ⟨a, b, c, d⟩ := verify_some hv
  obtain ⟨e, _⟩ := toBytes_len hb
  rw [ByteArray.size_extract] at e
  have c' := c
  rw [ByteArray.size_extract] at c'
  have ht : t ≤ 1000 := by omega
  rw [w64 (by omega) (by omega)] at hj
  rw [w64 (by omega) (by omega), w64 (by omega) (by omega)]
  refine ⟨⟨by omega, by omega⟩, ⟨by omega, by omega⟩, by omega, b, c, d⟩
end Go.Proofs.YtbbeedclkfcmeaaDoor.KFnReadBech32
