/- The law FnHashNumber's walk for every hash; an array of bytes that came in. -/
import Derived.Test.YtnbecklojmbbbaaHashLaw
import Derived.OpenShut
namespace Go.Proofs.Ytnbecklojmbbbaa.Big
open Go.RowKit Go.Proofs.YtnbecklojmbbbaaW.PrintWords Go.Proofs.YtnbecklojmbbbaaW.PrintLast Go.Proofs.YtnbecklojmbbbaaW.PrintMore Go.Proofs.Ytnbecklojmbbbaa.QFnTarget
set_option linter.unusedVariables false
set_option linter.unusedSimpArgs false
theorem walkHash (xs : List Int) (hl : xs.length = 32) (hx : Bytes xs) (w : World) :
    Calls Try.prog 5 #[.agg (xs.map (Value.int .u8)).toArray] w fun e w' => e = .returned (.bool true) ∧ Below w.heap.size w w' := by
  have hrl : xs.reverse.length = 32 := by rw [List.length_reverse, hl]
  have hxr : Bytes xs.reverse := fun d hd => hx d (List.mem_reverse.1 hd)
  obtain ⟨r, ⟨K0, h0⟩, hn, hd, ht, hlr⟩ := ev_norm _ (dg (vB xs.reverse) 8) rfl (by rw [dg_length]; decide) (dg_Dig _ _)
  rw [dg_length] at hlr
  obtain ⟨b, ⟨K1, hb⟩, b1, b2, b3, b4⟩ := ev_bitLen r hd ht (by omega)
  obtain ⟨v1, v2⟩ := bytes_of r hd b b1 b2 b4
  obtain ⟨K2, hs⟩ := ev_trim xs.reverse (by rw [hrl]; decide)
  have hbl : (bytesOf r (((b : Int) + 7) / 8).toNat).length < 1000000 := by rw [bytesOf_length]; omega
  have hrg := vB_range hxr
  rw [hrl, pow256] at hrg
  have heq : bytesOf r (((b : Int) + 7) / 8).toNat = trimL xs.reverse :=
    uniq2 (bytesOf_bytes _ _) (trimL_bytes hxr) v2 (trimL_lead _) (by rw [v1, trimL_vB, hn, dg_nv, Int.emod_eq_of_lt hrg.1 hrg.2])
  obtain ⟨K3, hsm⟩ := ev_same _ hbl
  have hcp := copied_any _ hbl
  have k0 := h0 (K0 + K1 + K2 + K3) (by omega)
  have k1 := hb (K0 + K1 + K2 + K3) (by omega)
  have k2 := hs (K0 + K1 + K2 + K3) (by omega)
  have k3 := hsm (K0 + K1 + K2 + K3) (by omega)
  exact lawHash xs hl hx (K0 + K1 + K2 + K3) r k0 b (bytesOf r (((b : Int) + 7) / 8).toNat) (by omega) hd k1 (by omega) (by omega) hcp _ k2 (by rw [← heq]; exact k3) w _ rfl
section
variable {H : Type} {enc : TypeId × Value → H} {P : Program} {w : World} {base : Nat} {sp : Nat → Bool} {held : Bool}
/-- An array of bytes that came in. -/
theorem open_u8s {r : Reach} {b0 : Nat} {t e : TypeId} {n : Nat} {v : Value} {d : DataW H} {ps : List MemPlace} (ht : P.underlying t = some (.array n e)) (he : P.underlying e = some (.int .u8)) (hce : P.cellsOf e = 1) (hct : P.cellsOf t = n)
    (hval : Value.okWide P w r b0 t v) (hd : DataW.Trod enc P w base sp held t v d ps) : ∃ xs : List Int, v = .agg (xs.map (Value.int .u8)).toArray ∧ xs.length = n ∧ Bytes xs := by
  simp only [Value.okWide, ht] at hval
  obtain ⟨cs, rfl, h2, _⟩ := hval
  obtain ⟨fuel, hf⟩ := hd
  obtain ⟨ys, m, _, _, hc, hy, hall⟩ := DataW.trod_array ht hf
  have hlen : cs.toList.length = n := by rw [← hct]; simpa using h2
  have key : ∀ i, i < n → ∃ a, cs.toList[i]? = some (.int .u8 a) ∧ 0 ≤ a ∧ a < 256 := by
    intro i hi
    have h := hall i hi
    rw [hce, Nat.mul_one, List.getElem?_eq_getElem (by omega)] at h
    obtain ⟨a, ea, _, wa⟩ := DataW.trod_int he h
    refine ⟨a, ?_, ?_⟩
    · have e2 : (List.take 1 (List.drop i cs.toList))[0]? = some (.int .u8 a) := by
        have : List.take 1 (List.drop i cs.toList) = [.int .u8 a] := ea
        rw [this]; rfl
      simpa using e2
    · have := bounds_u8 wa
      omega
  refine ⟨cs.toList.map intOf, ?_, by simpa using hlen, ?_⟩
  · congr 1
    apply Array.ext'
    simp only [List.map_map]
    apply List.ext_getElem?
    intro i
    rw [List.getElem?_map]
    by_cases hi : i < n
    · obtain ⟨a, ha, _⟩ := key i hi
      rw [ha]; rfl
    · rw [List.getElem?_eq_none (by omega)]; rfl
  · intro d hd
    obtain ⟨u, hu, rfl⟩ := List.mem_map.1 hd
    obtain ⟨i, hi, hiu⟩ := List.mem_iff_getElem.1 hu
    obtain ⟨a, ha, h3⟩ := key i (by omega)
    rw [List.getElem?_eq_getElem hi, hiu] at ha
    obtain rfl := Option.some.inj ha
    exact h3
end
end Go.Proofs.Ytnbecklojmbbbaa.Big
