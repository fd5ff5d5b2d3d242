/- spec.isNone, spec.IsCoinbase: the walks. -/
import Derived.Test.YtdheoajaaofmbaaTf2
import Derived.Test.YtdheoajaaofmbaaTfP
namespace Go.Proofs.Ytdheoajaaofmbaa.QFnScriptPlaces
open Go.RowKit Go.Proofs.YtdheoajaaofmbaaW.PrintWords Go.Proofs.YtdheoajaaofmbaaW.PrintLast Go.Proofs.YtdheoajaaofmbaaW.PrintMore
set_option linter.unusedVariables false
set_option linter.unusedSimpArgs false
/-- A guarded operation that is carried out. -/
theorem wpList_runw {P : Program} {ops : Array Oper} {rest : List Oper} {o : Oper} {a : Act} {w w' : World} {Q : Exit → Act → World → Prop} (hw : Region.wanted o (yielded ops a.tmps) = true) (v : Value) (hr : (execOp a.eval o).run P w = .ok (.value v) w') (h : wpList P ops Q rest (a.put o.dst v) w') : wpList P ops Q (o :: rest) a w := by
  unfold wpList
  rw [if_pos hw]
  refine Or.inl ?_
  unfold Oper.wp
  rw [hr]
  exact h
/-- '==' or '!=' of structs or arrays. -/
theorem run_bin {P : Program} {o : Oper} {ρ : Operand → Value} {w : World} {b : BinOp} {t u : TypeId} {x y : Operand} {xs ys : Array Value} {r : Value} (ho : o.op = .binOp b t x y u) (hx : ρ x = .agg xs) (hy : ρ y = .agg ys) (hm : P.eqGuardType P.depth t = false) (h : (binOp b t (.agg xs) (.agg ys)).run P w = .ok r w) : (execOp ρ o).run P w = .ok (.value r) w := by
  unfold execOp
  simp [ho, hx, hy, h, Result.andThen, run_eqGuard_agg w b t x y xs ys hm]
def zero32 : List Int := List.replicate 32 0
theorem zero32_ok : zero32.length = 32 ∧ ∀ x ∈ zero32, (Lit.int .u8 x).wf = true := ⟨rfl, fun x hx => by rw [List.eq_of_mem_replicate hx]; rfl⟩
def isNo (h : List Int) (n : Int) : Bool := decide (n = 4294967295) && decide (h = zero32)
theorem opC_one (h : List Int) (n : Int) : (opC h n).toArray.all (·.oneCell') = true := by
  rw [List.all_toArray, List.all_eq_true]
  intro u hu
  unfold opC hashC at hu
  rw [List.mem_append, List.mem_map] at hu
  rcases hu with ⟨y, _, rfl⟩ | hu
  · rfl
  · simp at hu; rw [hu]; rfl
theorem opC_len {h : List Int} (hl : h.length = 32) (n : Int) : (opC h n).length = 33 := by unfold opC; rw [List.length_append, hashC_len hl]; rfl
set_option maxRecDepth 100000 in
set_option maxHeartbeats 4000000 in
theorem isNoneC (h : List Int) (n : Int) (k : OpOk h n) (w : World) :
    Calls Try.prog 39 #[.agg (opC h n).toArray] w fun e w' => e = .returned (.bool (isNo h n)) ∧ Below w.heap.size w w' := by
  have hrun : ∀ W : World, (binOp .eql 29 (.agg (hashC h).toArray) (.agg (hashC zero32).toArray)).run Try.prog W = .ok (.bool (decide (h = zero32))) W := fun W =>
    (run_eq_of W (m := 2) (by decide) (by kernel_rfl) Try.underlying29 (Or.inl ⟨_, _, rfl⟩) (keyOf_ha1 k.l k.b) (keyOf_ha1 zero32_ok.1 zero32_ok.2) (by rw [decide_eq_true_eq, haL_iff k.l k.b zero32_ok.1 zero32_ok.2])).1
  obtain ⟨cs, hcs⟩ : ∃ cs, opC h n = cs := ⟨_, rfl⟩
  obtain ⟨hh, hhh⟩ : ∃ hh, hashC h = hh := ⟨_, rfl⟩
  have hl32 : hh.length = 32 := by rw [← hhh, hashC_len k.l]
  have hw0 := heap_alloc_new w (.cells cs.toArray 31)
  have hce : cs = hh ++ [Value.int .u32 n] := by rw [← hcs, ← hhh]; rfl
  have k1 := cell_of hw0 (j := 32) (v := .int .u32 n) (by rw [List.getElem?_toArray, hce, List.getElem?_append_right (by omega), hl32]; rfl)
  have HH : Aside0 (∀ j v, hh[j]? = some v → (w.alloc (.cells cs.toArray 31)).cell? ((⟨w.heap.size, 0, none⟩ : Addr).add j) = some v) := ⟨fun j v hv => by
    rw [add_plain]
    exact cell_of hw0 (j := j) (by rw [List.getElem?_toArray, hce, List.getElem?_append_left (List.getElem?_eq_some_iff.1 hv).1]; exact hv)⟩
  have HB : Aside0 (Below w.heap.size w (w.alloc (.cells cs.toArray 31))) := ⟨below_alloc (Below.refl _ _) _⟩
  have HL := Aside0.mk hl32
  rw [hhh] at hrun
  have HRUN : Aside0 (∀ W : World, (binOp .eql 29 (.agg hh.toArray) (.agg (hashC zero32).toArray)).run Try.prog W = .ok (.bool (decide (h = zero32))) W) := ⟨hrun⟩
  rw [hcs]
  clear hw0 hl32 hce hcs hhh hrun
  obtain ⟨bz, hbz⟩ : ∃ b, decide (h = zero32) = b := ⟨_, rfl⟩
  unfold isNo
  rw [hbz] at HRUN ⊢
  clear hbz
  by_cases hn : n = 4294967295
  · subst hn
    go_enter Try.func39, Try.ntmps39
    go_upto_region 1 with fail
    generalize (w.alloc (.cells cs.toArray 31)) = w2 at *
    go_wp2_with (first
      | ((with_reducible refine at_dst (N := 8) rfl ?_); refine wpList_runw (by rfl) _ (run_load_at 29 (.tmp 7) rfl ⟨w.heap.size, 0, none⟩ rfl hh _ HH.out Try.underlying29 rfl (by rw [HL.out]; exact sizeH)) ?_)
      | ((with_reducible refine at_dst (N := 10) rfl ?_); refine wpList_runw (by rfl) _ (run_bin rfl rfl rfl (by kernel_rfl) (HRUN.out _)) ?_))
    go_ret
    exact ⟨by simp, HB.out⟩
  · have hn2 : ¬ (n = 4294967295) := hn
    have hn3 : (n == 4294967295) = false := beq_false_of_ne hn
    go_enter Try.func39, Try.ntmps39
    go_upto_region 1 with fail
    generalize (w.alloc (.cells cs.toArray 31)) = w2 at *
    go_wp2_with fail
    go_ret
    exact ⟨by simp [hn], HB.out⟩
def isCoin : List S35 → Bool
  | [x] => isNo x.f0.f0 x.f0.f1
  | _ => false
theorem isCoin_len {ins : List S35} (h : ¬ ins.length = 1) : isCoin ins = false := by
  match ins, h with
  | [], _ => rfl
  | [x], h => exact absurd rfl h
  | x :: y :: l, _ => rfl
set_option maxRecDepth 100000 in
set_option maxHeartbeats 4000000 in
theorem isCoinC (v lock : Int) (Ai : Option Addr) (ci : Nat) (ins : List S35) (Ao : Option Addr) (co : Nat) (outs : List S41) (w : World) (hi : Kd.C k35 w Ai ins.length ins) (hok : ∀ x ∈ ins, OpOk x.f0.f0 x.f0.f1) :
    Calls Try.prog 38 #[.agg #[.int .i32 v, .slice Ai ins.length ci, .slice Ao outs.length co, .int .u32 lock]] w fun e w' => e = .returned (.bool (isCoin ins)) ∧ Below w.heap.size w w' := by
  obtain ⟨m, hm⟩ : ∃ m, ins.length = m := ⟨_, rfl⟩
  have hw0 := heap_alloc_new w (.cells #[.int .i32 v, .slice Ai m ci, .slice Ao outs.length co, .int .u32 lock] 26)
  have kb1 := cell_of hw0 (j := 1) (v := .slice Ai m ci) rfl
  have HB : Aside0 (Below w.heap.size w (w.alloc (.cells #[.int .i32 v, .slice Ai m ci, .slice Ao outs.length co, .int .u32 lock] 26))) := ⟨below_alloc (Below.refl _ _) _⟩
  by_cases h1 : m = 1
  · subst h1
    match ins, hm with
    | [x], _ =>
      obtain ⟨ad, cs, A1, c1, A2, c2, e2, hI, hcc⟩ := cells_at (Kd.C_below hi HB.out) 0 (by decide) (by simp)
      subst e2
      have hxx : rd_T35 [x] 0 = x := rfl
      rw [hxx] at hI
      obtain ⟨hx, hhx⟩ : ∃ l, cs.take 33 = l := ⟨_, rfl⟩
      have hxe : hx = opC x.f0.f0 x.f0.f1 := by rw [← hhx]; exact take33 hI
      have HXL : Aside0 (hx.length = 33) := ⟨by rw [hxe]; exact opC_len hI.hl _⟩
      have HK : Aside0 (OpOk x.f0.f0 x.f0.f1) := ⟨hok x List.mem_cons_self⟩
      have HCC : Aside0 (∀ j u, hx[j]? = some u → (w.alloc (.cells #[.int .i32 v, .slice (some ad) 1 ci, .slice Ao outs.length co, .int .u32 lock] 26)).cell? (ad.add j) = some u) := ⟨fun j u hj => by
        rw [← hhx, List.getElem?_take] at hj
        split at hj
        · have h := hcc j u hj
          rw [Addr.add_add] at h
          simpa using h
        · cases hj⟩
      have HN : Aside0 (∀ W : World, Calls Try.prog 39 #[.agg hx.toArray] W fun e w' => e = .returned (.bool (isNo x.f0.f0 x.f0.f1)) ∧ Below W.heap.size W w') := ⟨fun W => by rw [hxe]; exact isNoneC _ _ HK.out W⟩
      show Calls _ _ _ _ fun e w' => e = .returned (.bool (isNo x.f0.f0 x.f0.f1)) ∧ _
      obtain ⟨b, hb⟩ : ∃ b, isNo x.f0.f0 x.f0.f1 = b := ⟨_, rfl⟩
      rw [hb] at HN ⊢
      clear hcc hI hhx hxe hw0 hb hi hxx
      go_enter Try.func38, Try.ntmps38
      go_upto_region 1 with fail
      generalize (w.alloc (.cells #[.int .i32 v, .slice (some ad) 1 ci, .slice Ao outs.length co, .int .u32 lock] 26)) = w2 at *
      go_wp2_with (first
        | ((with_reducible refine at_dst (N := 12) rfl ?_); refine wpList_runw (by rfl) _ (run_load_at 31 (.tmp 11) rfl ad rfl hx _ HCC.out Try.underlying31 rfl (by rw [HXL.out]; exact sizeIp)) ?_)
        | (go_at_call 39; (with_reducible refine (HN.out _).mono ?_); rintro e w3 ⟨rfl, hb⟩; have HB3 := Aside0.mk hb; clear hb))
      go_ret
      exact ⟨rfl, HB.out.trans (HB3.out.mono HB.out.size)⟩
  · have hne : ¬ ((m : Int) = 1) := by omega
    have hne2 : ((m : Int) == 1) = false := beq_false_of_ne hne
    rw [isCoin_len (by rw [hm]; exact h1), hm]
    go_enter Try.func38, Try.ntmps38
    go_upto_region 1 with fail
    generalize (w.alloc (.cells #[.int .i32 v, .slice Ai m ci, .slice Ao outs.length co, .int .u32 lock] 26)) = w2 at *
    go_wp2_with fail
    go_ret
    exact ⟨rfl, HB.out⟩
end Go.Proofs.Ytdheoajaaofmbaa.QFnScriptPlaces
