/- A coinbase, a place that names nothing, an error's code: the package's walks. -/
import Derived.Test.YtdheoajaaofmbaaTf7
namespace Go.Proofs.Ytdheoajaaofmbaa.QFnScriptPlaces
open Go.RowKit Go.Proofs.YtdheoajaaofmbaaW.PrintWords Go.Proofs.YtdheoajaaofmbaaW.PrintLast Go.Proofs.YtdheoajaaofmbaaW.PrintMore
set_option linter.unusedVariables false
set_option linter.unusedSimpArgs false
/-- The pointer to an input, its place, its script. -/
theorem in_ptrH {w : World} {A : Option Addr} {n : Nat} {xs : List S35} (h : Kd.C pIn w A n xs) (i : Nat) (hn : n = xs.length) (hi : i < xs.length) :
    ∃ ad g A1 c1, A = some ad ∧ w.cell? (ad.add i) = some (.pointer (some ⟨g, 0, none⟩)) ∧ (xs[i]).f0.f0.length = 32 ∧ (∀ j u, (opC (xs[i]).f0.f0 (xs[i]).f0.f1)[j]? = some u → w.cell? ⟨g, j, none⟩ = some u) ∧ w.cell? ⟨g, 33, none⟩ = some (.slice A1 (xs[i]).f1.length c1) := by
  obtain ⟨ad, g, c, e, h2, hg, hk⟩ := Kd.ptr_at h z35 (i : Int) (by omega) (by omega)
  rw [Int.toNat_natCast] at h2 hk
  rw [List.getD_eq_getElem?_getD, List.getElem?_eq_getElem hi] at hk
  obtain ⟨A1, c1, A2, c2, hI0⟩ := InCells.of hk.1
  have hI : InCells w xs[i] c.toList A1 c1 A2 c2 := hI0
  refine ⟨ad, g, A1, c1, e, h2, hI.hl, fun j u hj => ?_, cell_of hg (j := 33) (by rw [← Array.getElem?_toList]; exact hI.scr)⟩
  have h33 : c.toList.take 33 = opC (xs[i]).f0.f0 (xs[i]).f0.f1 := take33 hI
  rw [← h33, List.getElem?_take] at hj
  split at hj
  · exact cell_of hg (by rw [← Array.getElem?_toList]; exact hj)
  · cases hj
theorem sizeHw : (Try.prog.info? 100).map (·.size) = some 32 := by kernel_rfl
theorem sizeOw : (Try.prog.info? 102).map (·.size) = some 33 := by kernel_rfl
/-- What a place's cells hold, told for the walk. -/
theorem place_told {w : World} {g : Nat} {h : List Int} {n : Int} (k : OpOk h n) (hc : ∀ j u, (opC h n)[j]? = some u → w.cell? ⟨g, j, none⟩ = some u) :
    w.cell? ⟨g, 32, none⟩ = some (.int .u32 n) ∧ ∀ j u, (hashC h)[j]? = some u → w.cell? ((⟨g, 0, none⟩ : Addr).add j) = some u := by
  have hl := hashC_len k.l
  refine ⟨hc 32 _ ?_, fun j u hj => ?_⟩
  · unfold opC; rw [List.getElem?_append_right (by omega), hl]; rfl
  · rw [add_plain]
    refine hc j u ?_
    unfold opC; rw [List.getElem?_append_left (List.getElem?_eq_some_iff.1 hj).1]; exact hj
theorem hash_runs {h : List Int} {n : Int} (k : OpOk h n) (W : World) :
    (binOp .eql 100 (.agg (hashC h).toArray) (.agg (hashC zero32).toArray)).run Try.prog W = .ok (.bool (decide (h = zero32))) W ∧
    (binOp .neq 100 (.agg (hashC h).toArray) (.agg (hashC zero32).toArray)).run Try.prog W = .ok (.bool (!decide (h = zero32))) W :=
  run_eq_of W (m := 2) (by decide) (by kernel_rfl) Try.underlying100 (Or.inl ⟨_, _, rfl⟩) (keyOf_ha2 k.l k.b) (keyOf_ha2 zero32_ok.1 zero32_ok.2) (by rw [decide_eq_true_eq, haL_iff k.l k.b zero32_ok.1 zero32_ok.2])
set_option maxRecDepth 100000 in
set_option maxHeartbeats 4000000 in
theorem isNullC (g : Nat) (h : List Int) (n : Int) (k : OpOk h n) (w : World) (hc : ∀ j u, (opC h n)[j]? = some u → w.cell? ⟨g, j, none⟩ = some u) :
    Calls Try.prog 56 #[.pointer (some ⟨g, 0, none⟩)] w fun e w' => e = .returned (.bool (isNo h n)) ∧ w = w' := by
  obtain ⟨k1, hh⟩ := place_told k hc
  have HL : Aside0 ((hashC h).length = 32) := ⟨hashC_len k.l⟩
  have HRUN : Aside0 (∀ W : World, (binOp .eql 100 (.agg (hashC h).toArray) (.agg (hashC zero32).toArray)).run Try.prog W = .ok (.bool (decide (h = zero32))) W) := ⟨fun W => (hash_runs k W).1⟩
  obtain ⟨hs, hhs⟩ : ∃ l, hashC h = l := ⟨_, rfl⟩
  obtain ⟨bz, hbz⟩ : ∃ b, decide (h = zero32) = b := ⟨_, rfl⟩
  unfold isNo
  rw [hhs] at hh HL HRUN
  rw [hbz] at HRUN ⊢
  have HH := Aside0.mk hh
  clear hc hh hhs hbz k
  by_cases hn : n = 4294967295
  · subst hn
    go_enter Try.func56, Try.ntmps56
    go_upto_if 15 with (first
      | ((with_reducible refine at_dst (N := 12) rfl ?_); refine wpList_runw (by rfl) _ (run_load_at 100 (.tmp 11) rfl ⟨g, 0, none⟩ rfl hs _ HH.out Try.underlying100 rfl (by rw [HL.out]; exact sizeHw)) ?_)
      | ((with_reducible refine at_dst (N := 14) rfl ?_); refine wpList_runw (by rfl) _ (run_bin rfl rfl rfl (by kernel_rfl) (HRUN.out _)) ?_))
    cases bz
    · go_wp2_with fail
      go_ret
      exact ⟨by simp, rfl⟩
    · go_wp2_with fail
      go_ret
      exact ⟨by simp, rfl⟩
  · have hn2 : ¬ (n = 4294967295) := hn
    have hn3 : (n == 4294967295) = false := beq_false_of_ne hn
    go_enter Try.func56, Try.ntmps56
    go_wp2_with fail
    go_ret
    exact ⟨by simp [hn], rfl⟩
set_option maxRecDepth 100000 in
set_option maxHeartbeats 4000000 in
theorem coinTxC (g : Nat) (v lock : Int) (ins : List S35) (outs : List S41) (A1 : Option Addr) (c1 : Nat) (A2 : Option Addr) (c2 : Nat) (w : World) (hm : Msg w g v lock ins outs A1 c1 A2 c2) (hok : ∀ x ∈ ins, OpOk x.f0.f0 x.f0.f1) :
    Calls Try.prog 69 #[.pointer (some ⟨g, 0, none⟩)] w fun e w' => e = .returned (.bool (isCoin ins)) ∧ w = w' := by
  have kb1 := cell_of hm.blk (j := 1) (v := .slice A1 ins.length c1) rfl
  have hg1 := hm.g1
  clear hm
  by_cases h1 : ins.length = 1
  · match ins, h1 with
    | [x], _ =>
      have k := hok x List.mem_cons_self
      obtain ⟨ad, g0, B1, d1, e1, hx, _, hc, _⟩ := in_ptrH hg1 0 rfl (by simp)
      subst e1
      have hx0 : w.cell? ad = some (.pointer (some ⟨g0, 0, none⟩)) := by have h := hx; simpa [Addr.add] using h
      obtain ⟨k1, hh⟩ := place_told k hc
      show Calls _ _ _ _ fun e w' => e = .returned (.bool (isNo x.f0.f0 x.f0.f1)) ∧ _
      obtain ⟨h, hhh⟩ : ∃ h, x.f0.f0 = h := ⟨_, rfl⟩
      obtain ⟨n, hnn⟩ : ∃ n, x.f0.f1 = n := ⟨_, rfl⟩
      rw [hhh] at k hh ⊢
      rw [hnn] at k k1 ⊢
      have HL : Aside0 ((hashC h).length = 32) := ⟨hashC_len k.l⟩
      have HRUN : Aside0 (∀ W : World, (binOp .neq 100 (.agg (hashC h).toArray) (.agg (hashC zero32).toArray)).run Try.prog W = .ok (.bool (!decide (h = zero32))) W) := ⟨fun W => (hash_runs k W).2⟩
      obtain ⟨hs, hhs⟩ : ∃ l, hashC h = l := ⟨_, rfl⟩
      obtain ⟨bz, hbz⟩ : ∃ b, decide (h = zero32) = b := ⟨_, rfl⟩
      unfold isNo
      rw [hhs] at hh HL HRUN
      rw [hbz] at HRUN ⊢
      have HH := Aside0.mk hh
      have kb2 : w.cell? ⟨g, 1, none⟩ = some (.slice (some ad) 1 c1) := kb1
      clear hc hh hhs hbz k hg1 hx kb1 hok hhh hnn
      by_cases hn : n = 4294967295
      · subst hn
        go_enter Try.func69, Try.ntmps69
        go_upto_if 30 with (first
          | ((with_reducible refine at_dst (N := 27) rfl ?_); refine wpList_runw (by rfl) _ (run_load_at 100 (.tmp 26) rfl ⟨g0, 0, none⟩ rfl hs _ HH.out Try.underlying100 rfl (by rw [HL.out]; exact sizeHw)) ?_)
          | ((with_reducible refine at_dst (N := 29) rfl ?_); refine wpList_runw (by rfl) _ (run_bin rfl rfl rfl (by kernel_rfl) (HRUN.out _)) ?_))
        cases bz
        · go_wp2_with fail
          go_ret
          exact ⟨by simp, rfl⟩
        · go_wp2_with fail
          go_ret
          exact ⟨by simp, rfl⟩
      · have hn2 : ¬ (n = 4294967295) := hn
        have hn3 : (n == 4294967295) = false := beq_false_of_ne hn
        have hn4 : (n != 4294967295) = true := by simp [hn]
        go_enter Try.func69, Try.ntmps69
        go_wp2_with fail
        go_ret
        exact ⟨by simp [hn], rfl⟩
  · rw [isCoin_len h1]
    obtain ⟨m, hm⟩ : ∃ m, ins.length = m := ⟨_, rfl⟩
    rw [hm] at kb1 h1
    have hne : ¬ ((m : Int) = 1) := by omega
    have hne2 : ((m : Int) == 1) = false := beq_false_of_ne hne
    have hne3 : ((m : Int) != 1) = true := by simp [hne]
    clear hg1 hm hok
    go_enter Try.func69, Try.ntmps69
    go_wp2_with fail
    go_ret
    exact ⟨rfl, rfl⟩
set_option maxRecDepth 100000 in
theorem coinUC (b g : Nat) (v lock : Int) (ins : List S35) (outs : List S41) (A1 : Option Addr) (c1 : Nat) (A2 : Option Addr) (c2 : Nat) (w : World) (hu : UTx w b g) (hm : Msg w g v lock ins outs A1 c1 A2 c2) (hok : ∀ x ∈ ins, OpOk x.f0.f0 x.f0.f1) :
    Calls Try.prog 55 #[.pointer (some ⟨b, 0, none⟩)] w fun e w' => e = .returned (.bool (isCoin ins)) ∧ w = w' := by
  obtain ⟨z, hz⟩ : ∃ z, isCoin ins = z := ⟨_, rfl⟩
  have HC : Aside0 (Calls Try.prog 69 #[.pointer (some ⟨g, 0, none⟩)] w fun e w' => e = .returned (.bool z) ∧ w = w') := ⟨by rw [← hz]; exact coinTxC g v lock ins outs A1 c1 A2 c2 w hm hok⟩
  have HU := Aside0.mk hu
  rw [hz]
  clear hm hok hz hu
  go_enter Try.func55, Try.ntmps55
  go_wp2_with (first
    | (go_at_call 52; (with_reducible refine (msgTxC b g w HU.out).mono ?_); rintro e w2 ⟨rfl, rfl⟩)
    | (go_at_call 69; (with_reducible refine HC.out.mono ?_); rintro e w2 ⟨rfl, rfl⟩))
  go_ret
  exact ⟨rfl, rfl⟩
/-- A rule's error, or none: by its code (0: none). -/
def ErrV (c : Int) (v : Value) : Prop := (c = 0 ∧ v = .nilIface) ∨ ∃ d : ByteArray, v = .iface 115 (.agg #[.int .i64 c, .string d])
set_option maxRecDepth 100000 in
set_option maxHeartbeats 4000000 in
theorem faultC (c : Int) (v : Value) (h : ErrV c v) (w : World) : Calls Try.prog 32 #[v] w fun e w' => e = .returned (.int .i64 c) ∧ Below w.heap.size w w' := by
  rcases h with ⟨rfl, rfl⟩ | ⟨d, rfl⟩
  · go_enter Try.func32, Try.ntmps32
    go_wp2_with fail
    go_ret
    exact ⟨rfl, Below.refl _ _⟩
  · have h9 : ∀ w : World, (Instr.typeAssert (.iface 115 (.agg #[.int .i64 c, .string d])) 67 115 true).run Try.prog w = .ok (.tuple #[.agg #[.int .i64 c, .string d], .bool true]) w := fun w => by kernel_rfl
    go_enter Try.func32, Try.ntmps32
    go_wp2_with fail
    go_ret
    exact ⟨rfl, below_alloc (Below.refl _ _) _⟩
end Go.Proofs.Ytdheoajaaofmbaa.QFnScriptPlaces
