/- FnHeader: a header's bytes and its name are those of the reference, and it is read again from its bytes, whatever stands behind them; where io.ErrShortBuffer, io.EOF and io.ErrUnexpectedEOF read as the program's text lays them (the card ties them). -/
import Derived.WalkKit
import Derived.ProofKit
import Derived.LaidLaws
import Derived.Test.YtigpdgfhngknhaaDoorRows
import Derived.Test.YtigpdgfhngknhaaDoorTie
import Derived.Test.YtigpdgfhngknhaaDoorCards
import Derived.LaidMore
import Derived.LaidHandle
import Derived.SevenTiedAt
import Derived.OpenShut
import Derived.ShutString
import Derived.ChangeOld
import Derived.Below
import Derived.SizedLaws
import Derived.Test.YtigpdgfhngknhaaDoorWSized
import Derived.Test.YtigpdgfhngknhaaDoorH4
import Derived.Test.YtigpdgfhngknhaaDoorH6
/- A header that came in. -/
namespace Go.Proofs.YtigpdgfhngknhaaDoor.Snk
open Go.RowKit Go.Proofs.YtigpdgfhngknhaaDoorW.PrintWords Go.Proofs.YtigpdgfhngknhaaDoorW.PrintLast Go.Proofs.YtigpdgfhngknhaaDoorW.PrintMore
set_option linter.unusedVariables false
set_option linter.unusedSimpArgs false
/-- The kinds of a header's cells. -/
def kindAt (i : Nat) : IntKind := if i = 0 then .i32 else if i < 65 then .u8 else .u32
set_option maxRecDepth 100000 in
theorem open_hdr {W : World} {r : Reach} {base : Nat} {v : Value} (hv : Value.okWide Tryd.prog W r base 25 v) : ∃ h : HdV, h.ok ∧ v = .agg (hdC .u32 h).toArray := by
  unfold Value.okWide at hv
  rw [Tryd.underlying25] at hv
  obtain ⟨cs, rfl, hs, ts, hts, _, hall⟩ := hv
  rw [show Tryd.prog.cellTypes Tryd.prog.depth 25 = some (21 :: (List.replicate 64 5 ++ [23, 23, 23])) by kernel_rfl] at hts
  cases hts
  have hsz : cs.size = 68 := by rw [hs]; kernel_rfl
  have key : ∀ i, i < 68 → ∃ n, cs.toList[i]? = some (.int (kindAt i) n) ∧ (kindAt i).has n := by
    intro i hi
    obtain ⟨u, hu, hok⟩ := hall i cs[i] (by simp [hsz, hi])
    rw [show (21 :: (List.replicate 64 5 ++ [23, 23, 23])).length = 68 from rfl, Nat.mod_eq_of_lt hi] at hu
    have hk : Tryd.prog.underlying u = some (.int (kindAt i)) := by
      unfold kindAt
      by_cases c0 : i = 0
      · subst c0
        have e : u = 21 := by simpa using hu.symm
        rw [e, if_pos rfl]; exact Tryd.underlying21
      · obtain ⟨j, rfl⟩ : ∃ j, i = j + 1 := ⟨i - 1, by omega⟩
        rw [List.getElem?_cons_succ] at hu
        rw [if_neg c0]
        by_cases c1 : j < 64
        · rw [List.getElem?_append_left (by simpa using c1), List.getElem?_replicate, if_pos c1] at hu
          have e : u = 5 := (Option.some.inj hu).symm
          rw [if_pos (by omega), e]; exact Tryd.underlying5
        · rw [List.getElem?_append_right (by simpa using c1), List.length_replicate] at hu
          rw [if_neg (by omega)]
          have e : u = 23 := by
            have hj : j - 64 = 0 ∨ j - 64 = 1 ∨ j - 64 = 2 := by omega
            rcases hj with h | h | h <;> rw [h] at hu <;> exact (Option.some.inj hu).symm
          rw [e]; exact Tryd.underlying23
    have hv : cs.toList[i]? = some cs[i] := by simp [hsz, hi]
    unfold Cell.okWide at hok
    rw [hk] at hok
    have hok2 : Cell.ok Tryd.prog W r base u cs[i] := by
      cases hx : cs[i] <;> rw [hx] at hok <;> exact hok
    unfold Cell.ok at hok2
    rw [hk] at hok2
    cases hx : cs[i] <;> rw [hx] at hok2 hv <;> simp at hok2
    obtain ⟨rfl, hh⟩ := hok2
    exact ⟨_, hv, hh⟩
  have hat : ∀ i, i < 68 → cs.toList[i]? = some (.int (kindAt i) (Sha.intV (cs.toList.getD i undef))) ∧ (kindAt i).has (Sha.intV (cs.toList.getD i undef)) := by
    intro i hi
    obtain ⟨n, h1, h2⟩ := key i hi
    have e : Sha.intV (cs.toList.getD i undef) = n := by rw [List.getD_eq_getElem?_getD, h1]; rfl
    rw [e]
    exact ⟨h1, h2⟩
  obtain ⟨f, hf⟩ : ∃ f : Nat → Int, f = fun i => Sha.intV (cs.toList.getD i undef) := ⟨_, rfl⟩
  have hat2 : ∀ i, i < 68 → cs.toList[i]? = some (.int (kindAt i) (f i)) ∧ (kindAt i).has (f i) := by rw [hf]; exact hat
  have r0 := (hat2 0 (by decide)).2
  have r65 := (hat2 65 (by decide)).2
  have r66 := (hat2 66 (by decide)).2
  have r67 := (hat2 67 (by decide)).2
  simp only [kindAt, IntKind.has, IntKind.min, IntKind.max, IntKind.signed, IntKind.bits] at r0 r65 r66 r67
  obtain ⟨H, hH⟩ : ∃ H : HdV, H = ⟨f 0, (List.range 32).map fun j => f (1 + j), (List.range 32).map fun j => f (33 + j), f 65, f 66, f 67⟩ := ⟨_, rfl⟩
  have hok : H.ok := by
    subst hH
    refine ⟨?_, ?_, by simp, by simp, ?_, ?_, ?_, ?_, ?_, ?_⟩
    all_goals (simp at r0 r65 r66 r67 ⊢; omega)
  refine ⟨H, hok, ?_⟩
  congr 1
  apply Array.ext'
  apply List.ext_getElem?
  intro i
  show cs.toList[i]? = (hdC .u32 H)[i]?
  rcases Nat.lt_or_ge i 68 with hi | hi
  · rw [(hat2 i hi).1]
    by_cases c0 : i = 0
    · subst c0
      rw [hH]; rfl
    · by_cases c1 : i < 33
      · obtain ⟨j, rfl⟩ : ∃ j, i = 1 + j := ⟨i - 1, by omega⟩
        have e := hdC_p .u32 hok [] j (by omega)
        rw [List.append_nil] at e
        rw [e, hH]
        have e2 : ((List.range 32).map fun j => f (1 + j)).getD j 0 = f (1 + j) := by
          rw [List.getD_eq_getElem?_getD, List.getElem?_map, List.getElem?_range (by omega)]; rfl
        show _ = some (Value.int .u8 (((List.range 32).map fun j => f (1 + j)).getD j 0))
        rw [e2]
        unfold kindAt
        rw [if_neg (by omega), if_pos (by omega)]
      · by_cases c2 : i < 65
        · obtain ⟨j, rfl⟩ : ∃ j, i = 33 + j := ⟨i - 33, by omega⟩
          have e := hdC_r .u32 hok [] j (by omega)
          rw [List.append_nil] at e
          rw [e, hH]
          have e2 : ((List.range 32).map fun j => f (33 + j)).getD j 0 = f (33 + j) := by
            rw [List.getD_eq_getElem?_getD, List.getElem?_map, List.getElem?_range (by omega)]; rfl
          show _ = some (Value.int .u8 (((List.range 32).map fun j => f (33 + j)).getD j 0))
          rw [e2]
          unfold kindAt
          rw [if_neg (by omega), if_pos (by omega)]
        · obtain ⟨j, rfl⟩ : ∃ j, i = 65 + j := ⟨i - 65, by omega⟩
          have e := hdC_tail .u32 hok [] j
          rw [List.append_nil] at e
          rw [e, hH]
          have hj : j = 0 ∨ j = 1 ∨ j = 2 := by omega
          rcases hj with rfl | rfl | rfl <;> rfl
  · rw [List.getElem?_eq_none (by simpa [hsz] using hi), List.getElem?_eq_none (by rw [hdC_len _ hok]; exact hi)]
end Go.Proofs.YtigpdgfhngknhaaDoor.Snk
/- A tied row whose walk asks the shape of a package's variable. -/
namespace Go.Proofs.YtigpdgfhngknhaaDoor.Sha
open Go.RowKit
theorem returnsInHanded_shaped_and {H : Type} {enc : TypeId × Value → H} {a : Assume} {C : Checked} {os : Os} {f : FuncId} {fn : Func} {s : ChangeSpec} {conds : List PathCond} {apart fresh handsOn again : Bool} {X : World → Array Value → Prop}
    (hX : ∀ (w w' : World) (args : Array Value), w.heap = w'.heap → X w args → X w' args)
    (own : ownKnob C.prog.godebug = none) (started : os.Started) (noInit : C.prog.inits.idxOf? f = none) (hfn : C.prog.funcs[f]? = some fn)
    (witness : ∃ (w : World) (tape : Tape) (i : Input), w.os = os ∧ (w.forCall tape i).Shaped C.prog ∧ i.vars = [] ∧ Input.okWide C.prog (w.forCall tape i) .any w.heap.size f i ∧
      ((s.pre enc C.prog fn conds apart (w.forCall tape i).memory i.args ∧ X (w.forCall tape i).memory i.args) ∧ sizedMet enc C.prog fn (OpenSpec.ofChange s) apart (w.forCall tape i).memory i.args) ∧ a.holds C.prog (lone (Frame.enter C.prog f i.args .normal) [] (w.forCall tape i)))
    (contract : ∀ (W : World) (base : Nat) (args : Array Value) (ds gs : List (DataW H)) (before : List MemPlace),
      (∀ (j : Nat) t v, fn.params[j]? = some t → args[j]? = some v → Value.okWide C.prog W .any base t v) →
      DataW.Whole enc C.prog fn.params.toList s.vars apart W args.toList ds gs before →
      conds.all (PathCond.test C.prog ⟨fn.params.toList, ds, s.plain.varTypes C.prog, gs⟩) = true →
      (DataW.weightsEach C.prog (fn.params.toList ++ s.plain.varTypes C.prog) (ds ++ gs)).all (· ≤ reachBytes) = true → X W args →
      a.holds C.prog (lone (Frame.enter C.prog f args .normal) [] W) → W.ShapedOpen C.prog →
      Calls C.prog f args W fun e W' => ∃ v, e = .returned v ∧ s.post enc C.prog fn apart fresh handsOn again W args v W') :
    ReturnsInHanded a C os f .any (fun w args => (s.pre enc C.prog fn conds apart w args ∧ X w args) ∧ sizedMet enc C.prog fn (OpenSpec.ofChange s) apart w args) (s.post enc C.prog fn apart fresh handsOn again) := by
  refine returnsInHanded_of_calls own started noInit witness ?_
  intro w tape i _ hsh _ hok hpre hholds
  obtain ⟨_, _, _, fn', hfn', _, _, _, _, hval⟩ := hok
  have e : fn' = fn := Option.some.inj (hfn'.symm.trans hfn)
  subst e
  obtain ⟨⟨⟨ds, gs, before, hw, hc⟩, hx⟩, hz⟩ := hpre
  have hw' := DataW.Whole.of_heap (w' := w.forCall tape i) (by rfl) hw
  refine (contract (w.forCall tape i) w.heap.size i.args ds gs before hval hw' hc (hz.weights hw) (hX _ _ _ (by rfl) hx) hholds hsh).mono fun e W' ⟨v, he, hp⟩ => ?_
  subst he
  exact ChangeSpec.post_blind hp
end Go.Proofs.YtigpdgfhngknhaaDoor.Sha
/- FnHeader: a header's bytes and its name are those of the reference, and it is read again from its bytes, whatever stands behind them; where io.ErrShortBuffer, io.EOF and io.ErrUnexpectedEOF read as the program's text lays them (the card ties them). -/
namespace Go.Proofs.YtigpdgfhngknhaaDoor.fnHeader
open Go.ChangeShapes Go.WideShapes Go.ChangeAt Go.RowKit Go.Proofs.YtigpdgfhngknhaaDoorW.PrintWords Go.Proofs.YtigpdgfhngknhaaDoorW.PrintLast Go.Proofs.YtigpdgfhngknhaaDoor.Snk Go.Proofs.YtigpdgfhngknhaaDoor
open Go.ChangeMaps (open_string shut_string)
set_option linter.unusedVariables false
theorem own : ownKnob Tryd.prog.godebug = none := by kernel_rfl
theorem laidOut : laidOutB Tryd.prog = true := by kernel_rfl
def IsRow (k : IntKind) (w : World) (a : Option Addr) (len cap : Nat) (zs : List Int) : Prop :=
  (a = none ∧ len = 0 ∧ cap = 0 ∧ zs = []) ∨
  ∃ x, a = some x ∧ len ≤ cap ∧ cap ≤ maxLen ∧ zs.length = cap ∧ (∀ i, i < zs.length → w.cell? (x.add i) = some (.int k (zs.getD i 0))) ∧ ∀ n ∈ zs, (Lit.int k n).wf = true
/-- The door's own heap meets the condition. -/
theorem door_met (os : Os) (args : Array Value) : laidMetH Tryd.prog Rows.fnHeaderRow.laid ((World.doorLaid Tryd.prog 90 os).forCall (fun _ _ => 0) ⟨#[], args, []⟩).memory :=
  laidMetH_of_parts3 (fuel := 8) (laidMet_of_run' 8 (by kernel_rfl) (by kernel_rfl)) (by kernel_rfl) (by kernel_rfl)
set_option maxRecDepth 100000 in
theorem lifted (os : Os) (started : os.Started) (H : Type) (enc : TypeId × Value → H) :
    ReturnsInHanded {} Tryd.checked os 3 .any (fun w args => (Rows.fnHeaderSpec.pre enc Tryd.prog Tryd.f3 [] false w args ∧ laidMetH Tryd.prog Rows.fnHeaderRow.laid w) ∧ sizedMet enc Tryd.prog Tryd.f3 (OpenSpec.ofChange Rows.fnHeaderSpec) false w args)
      (Rows.fnHeaderSpec.post enc Tryd.prog Tryd.f3 false true false false) := by
  refine Sha.returnsInHanded_shaped_and (C := Tryd.checked) (X := fun w _ => laidMetH Tryd.prog Rows.fnHeaderRow.laid w) (fun _ _ _ hh h => h.of_heap hh) own started (by kernel_rfl) Tryd.func3
    (ChangeSpec.witness_shaped (enc := enc) (C := Tryd.checked) (os := os) (X := fun w _ => laidMetH Tryd.prog Rows.fnHeaderRow.laid w) false (World.doorLaid Tryd.prog 90 os) #[.agg #[.int .i32 0, .int .u8 0, .int .u8 0, .int .u8 0, .int .u8 0, .int .u8 0, .int .u8 0, .int .u8 0, .int .u8 0, .int .u8 0, .int .u8 0, .int .u8 0, .int .u8 0, .int .u8 0, .int .u8 0, .int .u8 0, .int .u8 0, .int .u8 0, .int .u8 0, .int .u8 0, .int .u8 0, .int .u8 0, .int .u8 0, .int .u8 0, .int .u8 0, .int .u8 0, .int .u8 0, .int .u8 0, .int .u8 0, .int .u8 0, .int .u8 0, .int .u8 0, .int .u8 0, .int .u8 0, .int .u8 0, .int .u8 0, .int .u8 0, .int .u8 0, .int .u8 0, .int .u8 0, .int .u8 0, .int .u8 0, .int .u8 0, .int .u8 0, .int .u8 0, .int .u8 0, .int .u8 0, .int .u8 0, .int .u8 0, .int .u8 0, .int .u8 0, .int .u8 0, .int .u8 0, .int .u8 0, .int .u8 0, .int .u8 0, .int .u8 0, .int .u8 0, .int .u8 0, .int .u8 0, .int .u8 0, .int .u8 0, .int .u8 0, .int .u8 0, .int .u8 0, .int .u32 0, .int .u32 0, .int .u32 0], .slice none 0 0] 8 rfl (World.shaped_of_RefB (by kernel_rfl) (by kernel_rfl)) (by kernel_rfl) (by kernel_rfl) (by kernel_rfl) (door_met os _)) ?_
  intro W base args ds gs before hval0 hW hcnd hsz0 hL _ hsh
  have hsz : (DataW.weightsEach Tryd.prog (Tryd.f3.params.toList ++ Rows.fnHeaderSpec.plain.varTypes Tryd.prog) (ds ++ gs)).all (· ≤ reachBytes) = true := hsz0
  have hval : ∀ (j : Nat) t v, Tryd.f3.params[j]? = some t → args[j]? = some v → Value.okWide Tryd.prog W .any base t v := hval0
  have hW' := hW
  obtain ⟨p, q, hA0, hV, rfl, hfz, hnd⟩ := hW
  have hA : DataW.TrodAll enc Tryd.prog W 0 (fun _ => true) true Tryd.f3.params.toList args.toList ds p := hA0
  rw [Tryd.params3] at hA hval hsz
  obtain ⟨v0, vs0, d0, ds0, p0, q0, hargs, rfl, rfl, h0, r0⟩ := trodAll_cons hA
  obtain ⟨v1, vs1, d1, ds1, p1, q1, rfl, rfl, rfl, h1, r1⟩ := trodAll_cons r0
  obtain ⟨rfl, rfl, rfl⟩ := trodAll_nil r1
  obtain rfl : args = #[v0, v1] := by cases args; simp_all
  obtain ⟨rfl, rfl⟩ := trodVars_none hV
  have k0 := h0
  have lt0 : ∀ x ∈ p0, x.block < W.heap.size := by obtain ⟨m, hm⟩ := k0; exact DataW.trod_lt m _ _ _ hm
  obtain ⟨hdr, hokr, rfl⟩ := open_hdr (hval 0 25 v0 rfl rfl)
  have k1 := h1
  have lt1 : ∀ x ∈ p1, x.block < W.heap.size := by obtain ⟨m, hm⟩ := k1; exact DataW.trod_lt m _ _ _ hm
  obtain ⟨a1, len1, cap1, rfl⟩ := okWide_slice Tryd.underlying26 (hval 1 26 v1 rfl rfl)
  obtain ⟨z1, w1⟩ : ∃ zs, IsRow .u8 W a1 len1 cap1 zs := by
    obtain ⟨fuel, hf⟩ := h1
    rcases open_ints Tryd.underlying26 Tryd.underlying5 (by kernel_rfl) hf with ⟨hcs, _⟩ | ⟨x, l, c, zs, hcs, _, hl, hm, hz, _, hcell, hwz⟩
    · simp [Value.cells] at hcs
      obtain ⟨rfl, rfl, rfl⟩ := hcs
      exact ⟨[], .inl ⟨rfl, rfl, rfl, rfl⟩⟩
    · simp [Value.cells] at hcs
      obtain ⟨rfl, rfl, rfl⟩ := hcs
      exact ⟨zs, .inr ⟨_, rfl, hl, hm, by simpa using hz, hcell, hwz⟩⟩
  obtain ⟨l1, rfl, hr1, hm1, hw1, hc1⟩ := ReadsInt.ofRowC w1
  have hB1 : ∀ d ∈ l1, 0 ≤ d ∧ d < 256 := fun d hd => by have := bounds_u8 (hw1 d hd); omega
  refine (walkHeader hdr hokr a1 cap1 l1 W (Sha.krow_of hsh) hr1 hc1).mono fun e W' ⟨he, bel⟩ => ?_
  subst he
  exact ⟨_, rfl, _, _, _, [], _, [], hW', trodAll_mk1 (shut_bool Tryd.underlying4 _), (trodAll_cons_mk (Below.trod laidOut (by kernel_rfl) (of_decide_eq_true (by kernel_rfl)) k0 bel lt0) (trodAll_cons_mk (Below.trod laidOut (by kernel_rfl) (of_decide_eq_true (by kernel_rfl)) k1 bel lt1) trodAll_mk0)), rfl, bel.frame _, fun h => by cases h⟩
theorem over : Rows.fnHeaderRow.holds Tryd.pinned (OpenSpec.ofChange Rows.fnHeaderSpec) :=
  OpenClaim.holds_of_wide 3 Tryd.f3 rfl rfl rfl rfl rfl rfl rfl ⟨rfl, rfl, rfl, rfl, rfl⟩ rfl rfl rfl rfl rfl (by kernel_rfl) Tryd.func3 (by kernel_rfl)
    (of_decide_eq_true (by kernel_rfl)) (by unfold Func.isWrapper; first | (rw [if_pos (by decide +kernel)]; kernel_rfl) | (rw [if_neg (by decide +kernel)]; exact ⟨rfl, rfl⟩))
    (fun os started H enc _ => lifted os started H enc)
theorem proved : Rows.FnHeaderCardSaid :=
  Claim7.holds_tied_plain_at .later [] [.sentinel, .sentinel, .sentinel] true (true, "4874447272aa5874ef9c0399724f01fcc1a31933dc834f09f1dff3b3419cb314") true
    over (fun _ h => by cases h) (by kernel_rfl) (fun _ h => by cases h) fnHeader_row_tie rfl ⟨rfl, rfl⟩ (by kernel_rfl) rfl
    (fun f fn hf hfn => by
      obtain rfl : f = 3 := Option.some.inj ((show Tryd.prog.funcNamed "pub-mintmark/laws.FnHeader" = some 3 by kernel_rfl).symm.trans hf) |>.symm
      obtain rfl : fn = Tryd.f3 := (Option.some.inj (Tryd.func3.symm.trans hfn)).symm
      exact ⟨by kernel_rfl, fun j t ht => by
        rw [Tryd.params3] at ht
        have hm : t ∈ [25, 26] := by
          have h1 := Array.mem_of_getElem? ht
          simp at h1 ⊢
          omega
        have hall : ([25, 26].all fun u => !Tryd.prog.wantsStandIn u) = true := by kernel_rfl
        exact (show Tryd.prog.wantsStandIn t = false by simpa using List.all_eq_true.1 hall t hm)⟩)
    (by kernel_rfl)
#print axioms proved
end Go.Proofs.YtigpdgfhngknhaaDoor.fnHeader
