/- spec.HashNumber and impl.HashNumber: a hash as a number. -/
import Derived.Test.YtnbecklojmbbbaaSetBytes
import Derived.Test.YtnbecklojmbbbaaTargetPure
namespace Go.Proofs.Ytnbecklojmbbbaa.Big
open Go.RowKit Go.Proofs.YtnbecklojmbbbaaW.PrintWords Go.Proofs.YtnbecklojmbbbaaW.PrintLast Go.Proofs.YtnbecklojmbbbaaW.PrintMore Go.Proofs.Ytnbecklojmbbbaa.QFnTarget
set_option linter.unusedVariables false
set_option linter.unusedSimpArgs false
/-- A hash as a value. -/
def hv (xs : List Int) : Value := .agg (xs.map (Value.int .u8)).toArray

set_option maxRecDepth 100000 in
set_option maxHeartbeats 4000000 in
theorem specHash (xs : List Int) (hl : xs.length = 32) (k : Nat) (r : List Int) (hr : spec_trim.f k xs.reverse = some r) (w : World) :
    Calls Try.prog 15 #[hv xs] w fun e w' => ∃ v, e = .returned v ∧ Kd.R (Kd.int .u8) 5 w' w.heap.size (fun k => w.heap.size ≤ k) v r ∧ Below w.heap.size w w' := by
  obtain ⟨ys, hys⟩ : ∃ ys, xs.reverse = ys := ⟨_, rfl⟩
  have HYL := Aside0.mk (show ys.length = 32 by rw [← hys, List.length_reverse, hl])
  rw [hys] at hr
  have HYS := Aside0.mk hys
  have HR := Aside0.mk hr
  have HL := Aside0.mk hl
  clear hr hl hys
  go_enter Try.func15, Try.ntmps15
  unfold hv
  go_wp2
  obtain ⟨W0, hW0⟩ : ∃ W0, w.alloc (.cells (List.map (Value.int .u8) xs).toArray 25) = W0 := ⟨_, rfl⟩
  have HG := Aside0.mk (show W0.heap[w.heap.size]? = some (.cells (List.map (Value.int .u8) xs).toArray 25 (0, 0)) by rw [← hW0]; exact heap_alloc_new w _)
  have HB0 := Aside0.mk (show Below w.heap.size w W0 by rw [← hW0]; exact below_alloc (Below.refl _ _) _)
  have hsz : W0.heap.size = w.heap.size + 1 := by rw [← hW0]; simp
  rw [hW0]
  clear hW0
  go_loopw [3, 4] (fun v3 v4 wr => ∃ j : Nat, j ≤ 32 ∧ v4 = .int .i64 (31 - (j : Int)) ∧ Aside0 (Kd.R (Kd.int .u8) 5 wr W0.heap.size (fun _ => True) v3 (ys.take j)) ∧ Aside0 (Below W0.heap.size W0 wr)) (fun _ v4 _ => (intOf v4 + 1).toNat)
  case atStart => exact ⟨0, Nat.zero_le _, rfl, ⟨Kd.R_nil _ _ _ _ _⟩, ⟨Below.refl _ _⟩⟩
  case round =>
    obtain ⟨j, hj, rfl, HRj, HBj⟩ := hrel
    have hlj : (ys.take j).length = j := by rw [List.length_take, HYL.out]; omega
    by_cases hlt : j < 32
    · have b0 : decide ((0 : Int) ≤ 31 - (j : Int)) = true := decide_eq_true (by omega)
      have b1 : (0 : Int) ≤ 31 - (j : Int) := by omega
      have b2 : 31 - (j : Int) < 32 := by omega
      obtain ⟨i, hi⟩ : ∃ i : Nat, 31 - (j : Int) = i := ⟨31 - j, by omega⟩
      have hg := (HBj.out.block _ (by omega)).trans HG.out
      obtain ⟨c, hc⟩ : ∃ c, xs[i]? = some c := ⟨xs[i]'(by have := HL.out; omega), by rw [List.getElem?_eq_getElem]⟩
      have hy := cell_of hg (j := i) (v := .int .u8 c) (by simp [hc])
      have HI := Aside0.mk hi
      have HJ := Aside0.mk hlj
      have HC := Aside0.mk hc
      rw [hi] at b0 b1 b2
      rw [hi]
      clear hg hi hlj hc
      go_wp2_with ((with_reducible refine gate_builtin (b := .append) (xs := #[.tmp 9, .tmp 13]) rfl ?_); at_builtin; refine Kd.R_append (Kd.int .u8) (w0 := W0) W0.heap.size rfl (.tmp 9) (.tmp 13) 27 5 (.int .u8 0) 1 rfl Try.underlying27 info5 rfl (by decide) (by omega) u3 (ys.take j) c [.int .u8 c] (fun _ => True) (fun _ => False) rfl rfl ?aP (fun _ hk => hk.elim) ?aF ?aO ?aB ?aS ?aL ?_; (case aP => exact rfl); (case aB => exact HBj.out); (case aF => exact (fun _ _ => trivial)); (case aO => exact HRj.out); (case aS => exact HBj.out.size); (case aL => have := HJ.out; omega); intro v1 w1 ho hb hg hat; have HO := Aside0.mk ho; have HB1 := Aside0.mk hb; clear ho hb hg hat)
      refine ⟨⟨j + 1, by omega, by have := HI.out; congr 1; omega, ⟨?_⟩, HB1⟩, by simp only [intOf]; omega⟩
      have e : ys.take (j + 1) = ys.take j ++ [c] := by
        have h2 := HI.out
        have h3 := HL.out
        rw [List.take_add_one, ← HYS.out, List.getElem?_reverse (by omega), show xs.length - 1 - j = i by omega, HC.out]; rfl
      rw [e]; exact HO.out
    · obtain rfl : j = 32 := by omega
      rw [show (31 : Int) - ((32 : Nat) : Int) = -1 from rfl]
      clear hj hlj hlt
      rw [List.take_of_length_le (by have := HYL.out; omega)] at HRj
      obtain ⟨A9, c9, e9, hl9, hC9⟩ := Kd.R_reads HRj.out
      subst e9
      have HC9 := Aside0.mk hC9
      have HL9 := Aside0.mk hl9
      clear hl9 hC9
      go_wp2_with (go_at_call 33; refine (spec_trim.calls k A9 c9 _ r _ HC9.out HL9.out HR.out).mono ?_; rintro e w3 ⟨v3, rfl, hr, hb⟩; have HR3 := Aside0.mk hr; have HB3 := Aside0.mk hb; clear hr hb)
      go_ret
      have hs := HBj.out.size
      refine ⟨_, rfl, Kd.R_mono (Kd.R_lower (Kd.R_bound HR3.out) (by omega)) (fun k hk => by have := hk.2.1; omega), HB0.out.trans ((HBj.out.mono (by omega)).trans (HB3.out.mono (by omega)))⟩
end Go.Proofs.Ytnbecklojmbbbaa.Big
