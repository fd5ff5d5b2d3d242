/- FnReadBech32: a text is read as bech32, of either sum, just as the reference reads it, for every text; where the table of the sum's generator reads as the program's text lays it (the card ties it). -/
import Derived.Test.YtbbeedclkfcmeaaDoorRows
import Derived.Test.YtbbeedclkfcmeaaDoorRb8
import Derived.MakeChecks
import Derived.Test.YtbbeedclkfcmeaaDoorTie
import Derived.Test.YtbbeedclkfcmeaaDoorCards
import Derived.LaidMore
import Derived.LaidHandle
import Derived.SevenTiedAt
import Derived.WalkKit
import Derived.ProofKit
import Derived.OpenShut
import Derived.ShutString
import Derived.ChangeOld
import Derived.Below
import Derived.SizedLaws
import Derived.Test.YtbbeedclkfcmeaaDoorWSized
namespace Go.Proofs.YtbbeedclkfcmeaaDoor.fnReadBech32
open Go.ChangeShapes Go.WideShapes Go.ChangeAt Go.RowKit Go.Proofs.YtbbeedclkfcmeaaDoorW.PrintWords Go.Proofs.YtbbeedclkfcmeaaDoorW.PrintLast Go.Proofs.YtbbeedclkfcmeaaDoor.Snk Go.Proofs.YtbbeedclkfcmeaaDoor
open Go.ChangeMaps (open_string shut_string)
set_option linter.unusedVariables false
theorem own : ownKnob Tryd.prog.godebug = none := by kernel_rfl
theorem laidOut : laidOutB Tryd.prog = true := by kernel_rfl
theorem gGen : Tryd.prog.globalNamed "pub-mintmark/pub/btcdaddress/bech32.gen" = some 1 := by kernel_rfl
theorem tGen : (Tryd.prog.globals[1]?).map (·.type) = some 66 := by kernel_rfl
/-- What the listed variable holds. -/
theorem of_laid {W : World} (h : laidMetH Tryd.prog Rows.fnReadBech32Row.laid W) : KFnReadBech32.GenS W := by
  rw [MakeChecks.laidMetH_plain _ _ _ (by kernel_rfl)] at h
  obtain ⟨ps, ⟨g0, t0, cs0, f0, p0, q0, hg0, ht0, hv0, hd0, _, _⟩, _, _⟩ := h
  obtain rfl := Option.some.inj (gGen.symm.trans hg0)
  obtain rfl := Option.some.inj (tGen.symm.trans ht0)
  have k0 := World.var?_cell hg0 hv0 0
  obtain ⟨l0⟩ := cs0
  rcases open_ints Tryd.underlying66 Tryd.underlying3 (by kernel_rfl) hd0 with ⟨_, hx⟩ | ⟨a, len, cap, zs, hcs, _, hl, hm, hz, hx, hcell, _⟩
  · simp [Rows.laid_pub_mintmark_pub_btcdaddress_bech32_gen] at hx
  · have hcs' : l0 = [.slice (some a) len cap] := hcs
    subst hcs'
    have hx1 := congrArg Prod.fst hx
    simp only [Rows.laid_pub_mintmark_pub_btcdaddress_bech32_gen, DataW.slice.injEq] at hx1
    obtain ⟨h1, h2⟩ := hx1
    have e : zs.take len = [996825010, 642813549, 513874426, 1027748829, 705979059] := by
      generalize zs.take len = t at h1
      match t, h1 with
      | [a1, a2, a3, a4, a5], h1 =>
        simp [lits] at h1
        obtain ⟨rfl, rfl, rfl, rfl, rfl⟩ := h1
        rfl
    have hlen : len = 5 := by
      have := congrArg List.length e
      rw [List.length_take] at this
      have h3 : (zs.drop len).length = 0 := by
        have := congrArg List.length h2
        simpa [lits] using this.symm
      rw [List.length_drop] at h3
      simp at this
      split at hz <;> omega
    subst hlen
    refine ⟨a, cap, by simpa using k0, fun j hj => ?_⟩
    have hzl : 5 ≤ zs.length := by
      have := congrArg List.length e
      rw [List.length_take] at this
      simp at this
      omega
    rw [hcell j (by omega)]
    have e2 : zs.getD j 0 = (zs.take 5).getD j 0 := by
      rw [List.getD_eq_getElem?_getD, List.getD_eq_getElem?_getD, List.getElem?_take_of_lt hj]
    rw [e2, e]
    rcases j with _ | _ | _ | _ | _ | j
    iterate 5 rfl
    omega
/-- The door's own heap meets the condition. -/
theorem door_met (os : Os) (args : Array Value) : laidMetH Tryd.prog Rows.fnReadBech32Row.laid ((World.doorLaid Tryd.prog 14 os).forCall (fun _ _ => 0) ⟨#[], args, []⟩).memory :=
  laidMetH_of_parts3 (fuel := 8) (laidMet_of_run' 8 (by kernel_rfl) (by kernel_rfl)) (by kernel_rfl) (by kernel_rfl)
set_option maxRecDepth 100000 in
theorem lifted (os : Os) (started : os.Started) (H : Type) (enc : TypeId × Value → H) :
    ReturnsInHanded {} Tryd.checked os 3 .any (fun w args => (Rows.fnReadBech32Spec.pre enc Tryd.prog Tryd.f3 [] false w args ∧ laidMetH Tryd.prog Rows.fnReadBech32Row.laid w) ∧ sizedMet enc Tryd.prog Tryd.f3 (OpenSpec.ofChange Rows.fnReadBech32Spec) false w args)
      (Rows.fnReadBech32Spec.post enc Tryd.prog Tryd.f3 false true false false) := by
  refine returnsInHanded_of_change_and (C := Tryd.checked) (X := fun w _ => laidMetH Tryd.prog Rows.fnReadBech32Row.laid w) (fun _ _ _ hh h => h.of_heap hh) own started (by kernel_rfl) Tryd.func3
    (ChangeSpec.witness_shaped (enc := enc) (C := Tryd.checked) (os := os) (X := fun w _ => laidMetH Tryd.prog Rows.fnReadBech32Row.laid w) false (World.doorLaid Tryd.prog 14 os) #[.string { data := #[] }] 8 rfl (World.shaped_of_RefB (by kernel_rfl) (by kernel_rfl)) (by kernel_rfl) (by kernel_rfl) (by kernel_rfl) (door_met os _)) ?_
  intro W base args ds gs before hval0 hW hcnd hsz0 hL _
  have hsz : (DataW.weightsEach Tryd.prog (Tryd.f3.params.toList ++ Rows.fnReadBech32Spec.plain.varTypes Tryd.prog) (ds ++ gs)).all (· ≤ reachBytes) = true := hsz0
  have hval : ∀ (j : Nat) t v, Tryd.f3.params[j]? = some t → args[j]? = some v → Value.okWide Tryd.prog W .any base t v := hval0
  have hW' := hW
  obtain ⟨p, q, hA0, hV, rfl, hfz, hnd⟩ := hW
  have hA : DataW.TrodAll enc Tryd.prog W 0 (fun _ => true) true Tryd.f3.params.toList args.toList ds p := hA0
  rw [Tryd.params3] at hA hval hsz
  obtain ⟨v0, vs0, d0, ds0, p0, q0, hargs, rfl, rfl, h0, r0⟩ := trodAll_cons hA
  obtain ⟨rfl, rfl, rfl⟩ := trodAll_nil r0
  obtain rfl : args = #[v0] := by cases args; simp_all
  obtain ⟨rfl, rfl⟩ := trodVars_none hV
  have k0 := h0
  have lt0 : ∀ x ∈ p0, x.block < W.heap.size := by obtain ⟨m, hm⟩ := k0; exact DataW.trod_lt m _ _ _ hm
  obtain ⟨s0, rfl, rfl, rfl, _⟩ := open_string Tryd.underlying9 (hval 0 9 v0 rfl rfl) h0
  have hG := of_laid hL
  obtain ⟨kk, hk⟩ := KFnReadBech32.pure s0
  refine (KFnReadBech32.laws_FnReadBech32.calls kk s0 true W hk hG).mono fun e W' ⟨he, bel⟩ => ?_
  subst he
  exact ⟨_, rfl, _, _, _, [], _, [], hW', trodAll_mk1 (shut_bool Tryd.underlying4 _), (trodAll_cons_mk (Below.trod laidOut (by kernel_rfl) (of_decide_eq_true (by kernel_rfl)) k0 bel lt0) trodAll_mk0), rfl, bel.frame _, fun h => by cases h⟩
theorem over : Rows.fnReadBech32Row.holds Tryd.pinned (OpenSpec.ofChange Rows.fnReadBech32Spec) :=
  OpenClaim.holds_of_wide 3 Tryd.f3 rfl rfl rfl rfl rfl rfl rfl ⟨rfl, rfl, rfl, rfl, rfl⟩ rfl rfl rfl rfl rfl (by kernel_rfl) Tryd.func3 (by kernel_rfl)
    (of_decide_eq_true (by kernel_rfl)) (by unfold Func.isWrapper; first | (rw [if_pos (by decide +kernel)]; kernel_rfl) | (rw [if_neg (by decide +kernel)]; exact ⟨rfl, rfl⟩))
    (fun os started H enc _ => lifted os started H enc)
theorem proved : Rows.FnReadBech32CardSaid :=
  Claim7.holds_tied_plain_at .later [] [.data] true (true, "28d9d167da9e75a7b86fc8946783325075acc2e206dff2f1acc82ceb12c04fc4") false
    over (fun _ h => by cases h) (by kernel_rfl) (fun _ h => by cases h) fnReadBech32_row_tie rfl ⟨rfl, rfl⟩ (by kernel_rfl) rfl
    (fun f fn hf hfn => by
      obtain rfl : f = 3 := Option.some.inj ((show Tryd.prog.funcNamed "pub-mintmark/laws.FnReadBech32" = some 3 by kernel_rfl).symm.trans hf) |>.symm
      obtain rfl : fn = Tryd.f3 := (Option.some.inj (Tryd.func3.symm.trans hfn)).symm
      exact ⟨by kernel_rfl, fun j t ht => by
        rw [Tryd.params3] at ht
        have hm : t ∈ [9] := by
          have h1 := Array.mem_of_getElem? ht
          simp at h1 ⊢
          omega
        have hall : ([9].all fun u => !Tryd.prog.wantsStandIn u) = true := by kernel_rfl
        exact (show Tryd.prog.wantsStandIn t = false by simpa using List.all_eq_true.1 hall t hm)⟩)
    (by kernel_rfl)
#print axioms proved
end Go.Proofs.YtbbeedclkfcmeaaDoor.fnReadBech32
