/- impl.HashNumber and the law's walk. -/
import Derived.Test.YtnbecklojmbbbaaHashBig
namespace Go.Proofs.Ytnbecklojmbbbaa.Big
open Go.RowKit Go.Proofs.YtnbecklojmbbbaaW.PrintWords Go.Proofs.YtnbecklojmbbbaaW.PrintLast Go.Proofs.YtnbecklojmbbbaaW.PrintMore Go.Proofs.Ytnbecklojmbbbaa.QFnTarget
set_option linter.unusedVariables false
set_option linter.unusedSimpArgs false
theorem at_none {P : Program} {ops : Array Oper} {rest : List Oper} {o : Oper} {a : Act} {w : World} {Q : Exit → Act → World → Prop} (_h : o.dst = none) (h : wpList P ops Q (o :: rest) a w) : wpList P ops Q (o :: rest) a w := h
theorem size_alloc_ (w : World) (o : Obj) : (w.alloc o).heap.size = w.heap.size + 1 := by simp
theorem run_load_row {P : Program} {o : Oper} {ρ : Operand → Value} {w : World} {g : Nat} {t : TypeId} {cs : Array Value} {fr : Nat × Nat} {d : TypeDesc} (ty : TypeId) (x : Operand) (ho : o.op = .load ty x)
    (hx : ρ x = .pointer (some ⟨g, 0, none⟩)) (hg : w.heap[g]? = some (.cells cs t fr))
    (hu : P.underlying ty = some d) (hd : (match d with | .struct _ | .array _ _ => true | _ => false) = true) (hi : (P.info? ty).map (·.size) = some cs.size) : (execOp ρ o).run P w = .ok (.value (.agg cs)) w := by
  unfold execOp
  simp only [ho, hx, Instr.loadAt, Instr.sureAddr, Sem.run_bind, Sem.run_pure, Result.andThen_ok, run_loadVar_row w g t ty cs fr d hg hu hd hi]

set_option maxHeartbeats 1000000 in
theorem hashToBig2 (g : Nat) (xs : List Int) (hl : xs.length = 32) (hx : Bytes xs) (k : Nat) (r : List Int) (hr : smallbig_nat_norm.f k (dg (vB xs.reverse) 8) = some r) (w : World) (T : TypeId)
    (hg : w.heap[g]? = some (.cells (xs.map (Value.int .u8)).toArray T (0, 0))) :
    Calls Try.prog 31 #[.pointer (some ⟨g, 0, none⟩)] w fun e w' => e = .returned (.pointer (some ⟨w.heap.size + 1, 0, none⟩)) ∧ Is w' (w.heap.size + 1) (· ≠ w.heap.size + 1) false r ∧ Below w.heap.size w w' := by
  have H := Aside0.mk (hashToBig g xs hl hx k r hr w T hg)
  clear hr hg
  go_enter Try.func31, Try.ntmps31
  go_wp2_with (go_at_call 50; refine H.out.mono ?_; rintro e w1 ⟨rfl, hi, hb⟩; have HI := Aside0.mk hi; have HB := Aside0.mk hb; clear hi hb)
  go_ret
  exact ⟨rfl, HI.out, HB.out⟩

set_option maxRecDepth 100000 in
set_option maxHeartbeats 4000000 in
theorem implHash (xs : List Int) (hl : xs.length = 32) (hx : Bytes xs) (k : Nat) (r : List Int) (hr : smallbig_nat_norm.f k (dg (vB xs.reverse) 8) = some r) (bl : Int) (out : List Int) (hlen : r.length ≤ 1000000000) (hdig : ∀ x ∈ r, 0 ≤ x ∧ x < 4294967296)
    (hbl : smallbig_nat_bitLen.f k r = some bl) (hbl0 : 0 ≤ bl) (hbl1 : bl ≤ 32000000000) (hc : impl_copied.f (bytesOf r ((bl + 7) / 8).toNat) = some out) (w : World) (arr : Array Value) (ha : (xs.map (Value.int .u8)).toArray = arr) :
    Calls Try.prog 14 #[.agg arr] w fun e w' => ∃ v, e = .returned v ∧ Kd.R (Kd.int .u8) 5 w' w.heap.size (fun k => w.heap.size ≤ k) v out ∧ Below w.heap.size w w' := by
  have HA := Aside0.mk ha
  have HAS := Aside0.mk (show arr.size = 32 by rw [← ha]; simp [hl])
  have HA1 := Aside0.mk (show arr.all (·.oneCell') = true by rw [← ha]; simp [Value.oneCell'])
  have HR := Aside0.mk hr
  have HL := Aside0.mk hl
  have HX := Aside0.mk hx
  have HC := Aside0.mk hc
  have HD := Aside0.mk hdig
  have HBL := Aside0.mk hbl
  clear hr hl hx hc hdig hbl ha
  go_enter Try.func14, Try.ntmps14
  go_wp2_with (first
    | ((with_reducible refine at_dst (N := 4) rfl ?_); refine wpList_load_row rfl 25 (.tmp 1) rfl w.heap.size rfl 25 arr (0, 0) _ (heap_alloc_new w _) Try.underlying25 rfl (by rw [HAS.out]; kernel_rfl) ?_)
    | ((with_reducible refine at_none rfl ?_); refine wpList_store_new rfl 75 (.tmp 3) (.tmp 4) rfl arr (by rw [size_alloc_]; rfl) rfl rfl 75 _ (by rw [HAS.out]; kernel_rfl) (by rw [HAS.out]; rfl) HA1.out ?_; intro W1 hg1 hb1 hz1; rw [size_alloc_] at hg1 hb1 hz1; have HG1 := Aside0.mk hg1; have HB := Aside0.mk (((Below.refl w.heap.size w).alloc (Nat.le_refl _) _).trans (hb1.mono (Nat.le_succ _))); have HZ1 := Aside0.mk hz1; clear hg1 hb1 hz1)
    | (go_at_call 31; refine (hashToBig2 (w.heap.size + 1) xs HL.out HX.out k r HR.out _ 75 (by rw [HA.out]; exact HG1.out)).mono ?_; rw [HZ1.out]; rintro e w2 ⟨rfl, hi, hb⟩; have HI := Aside0.mk hi; have n0_ := Aside0.mk (HB.out.trans (hb.mono (by have := HZ1.out; omega))); clear HB; have HB := n0_; clear n0_ hi hb)
    | (go_at_call 32; refine (bytes (w.heap.size + 1 + 1 + 1) _ false r k bl _ (Is.bound HI.out) (fun k hk => hk.2) hlen HD.out HBL.out hbl0 hbl1).mono ?_; rintro e w3 ⟨v2, rfl, hr, hb⟩; have HR2 := Aside0.mk hr; have n0_ := Aside0.mk (HB.out.trans (hb.mono HB.out.size)); clear HB; have HB := n0_; clear n0_ hr hb; obtain ⟨A9, c9, e9, hl9, hC9⟩ := Kd.R_reads HR2.out; subst e9; have HL9 := Aside0.mk hl9; have HC9 := Aside0.mk hC9; clear hl9 hC9 HR2)
    | (go_at_call 30; refine (impl_copied.calls A9 c9 _ out _ HC9.out HL9.out HC.out).mono ?_; rintro e w4 ⟨v3, rfl, hr, hb⟩; have HR4 := Aside0.mk hr; have n0_ := Aside0.mk (HB.out.trans (hb.mono HB.out.size)); have n2_ := Aside0.mk HB.out.size; clear HB; have HB := n0_; have HZ := n2_; clear n0_ n2_ hr hb))
  go_ret
  refine ⟨_, rfl, Kd.R_mono (Kd.R_lower (Kd.R_bound HR4.out) HZ.out) (fun k hk => ?_), HB.out⟩
  have := hk.2.1
  have := HZ.out
  omega

theorem specHash2 (xs : List Int) (hl : xs.length = 32) (k : Nat) (r : List Int) (hr : spec_trim.f k xs.reverse = some r) (w : World) (arr : Array Value) (ha : (xs.map (Value.int .u8)).toArray = arr) :
    Calls Try.prog 15 #[.agg arr] w fun e w' => ∃ v, e = .returned v ∧ Kd.R (Kd.int .u8) 5 w' w.heap.size (fun k => w.heap.size ≤ k) v r ∧ Below w.heap.size w w' := by
  subst ha; exact specHash xs hl k r hr w

set_option maxRecDepth 100000 in
set_option maxHeartbeats 4000000 in
theorem lawHash (xs : List Int) (hl : xs.length = 32) (hx : Bytes xs) (k : Nat) (r : List Int) (hr : smallbig_nat_norm.f k (dg (vB xs.reverse) 8) = some r) (bl : Int) (out : List Int) (hlen : r.length ≤ 1000000000) (hdig : ∀ x ∈ r, 0 ≤ x ∧ x < 4294967296)
    (hbl : smallbig_nat_bitLen.f k r = some bl) (hbl0 : 0 ≤ bl) (hbl1 : bl ≤ 32000000000) (hc : impl_copied.f (bytesOf r ((bl + 7) / 8).toNat) = some out)
    (want : List Int) (hs : spec_trim.f k xs.reverse = some want) (he : laws_same.f k out want = some true) (w : World) (arr : Array Value) (ha : (xs.map (Value.int .u8)).toArray = arr) :
    Calls Try.prog 5 #[.agg arr] w fun e w' => e = .returned (.bool true) ∧ Below w.heap.size w w' := by
  have HA := Aside0.mk ha
  have HAS := Aside0.mk (show arr.size = 32 by rw [← ha]; simp [hl])
  have HR := Aside0.mk hr
  have HL := Aside0.mk hl
  have HX := Aside0.mk hx
  have HC := Aside0.mk hc
  have HD := Aside0.mk hdig
  have HBL := Aside0.mk hbl
  have HS2 := Aside0.mk hs
  have HE := Aside0.mk he
  have HS := Aside0.mk (show (w.alloc (.cells arr 25)).drew.heap[w.heap.size]? = some (.cells arr 25 (0, 0)) from heap_alloc_new w _)
  clear hr hl hx hc hdig hbl ha hs he
  go_enter Try.func5, Try.ntmps5
  go_wp2
  refine start_ (n := 6) (S := fun w' => w'.heap[w.heap.size]? = some (.cells arr 25 (0, 0))) (ds := []) #[false, false, false, false, false, false] (by kernel_rfl) rfl rfl HS.out (fun hHeld => ?_)
  refine take_ (i := 0) (N := some 3) (v := ?_) (a' := ?_) #[true, false, false, false, false, false] rfl rfl (by kernel_rfl) (fun _ _ _ h => h) (Or.inl ⟨by rfl, ?_⟩) hHeld ?_ ?_
  rotate_left
  · rintro w' s0
    refine run_load_row 25 (.tmp 1) ?_ ?_ s0 Try.underlying25 rfl (by rw [HAS.out]; kernel_rfl) <;> rfl
  rotate_left
  · simp only [Act.put, List.setIfInBounds_toArray, List.set_cons_zero, List.set_cons_succ, i64_w, i32_w]
    rfl
  refine take_ (i := 2) (N := some 5) (v := ?_) (a' := ?_) #[true, false, true, false, false, false] rfl rfl (by kernel_rfl) (fun _ _ _ h => h) (Or.inl ⟨by rfl, ?_⟩) hHeld ?_ ?_
  rotate_left
  · rintro w' s0
    refine run_load_row 25 (.tmp 1) ?_ ?_ s0 Try.underlying25 rfl (by rw [HAS.out]; kernel_rfl) <;> rfl
  rotate_left
  · simp only [Act.put, List.setIfInBounds_toArray, List.set_cons_zero, List.set_cons_succ, i64_w, i32_w]
    rfl
  refine one_ (i := 1) (N := some 4) #[true, true, true, false, false, false] rfl rfl (by kernel_rfl) (by decide) (fun K hK => ?_)
  refine goes_ Try.func14 (by kernel_rfl) rfl #[.agg arr] (by rfl) rfl rfl (by (try simp only [List.map_toArray, List.map_cons, List.map_nil]); first | done | rfl | (simp only [List.length_drop, List.length_take]; rfl)) ?_
  with_reducible refine (implHash xs HL.out HX.out k r HR.out bl out hlen HD.out HBL.out hbl0 hbl1 HC.out _ arr HA.out).mono ?_
  rintro e w1 ⟨v1, rfl, hr, hb⟩
  refine ⟨_, rfl, ?_⟩
  have hS1 := (hb.block w.heap.size (by show w.heap.size < (w.alloc _).heap.size; simp)).trans hHeld
  have HR1 := Aside0.mk hr
  have HB := Aside0.mk (((below_drew ((Below.refl w.heap.size w).alloc (Nat.le_refl _) (.cells arr 25)))).trans (hb.mono (by show w.heap.size ≤ (w.alloc _).heap.size; simp)))
  clear hr hb
  refine hK.out _ _ hS1 (fun hHeld => ?_)
  clear hK K
  refine norm_ (a' := ?_) ?_ ?_
  rotate_left
  · show Act.put _ (some 4) _ = _
    simp only [Act.put, List.setIfInBounds_toArray, List.set_cons_zero, List.set_cons_succ, i64_w, i32_w]
    rfl
  refine one_ (i := 3) (N := some 6) #[true, true, true, true, false, false] rfl rfl (by kernel_rfl) (by decide) (fun K hK => ?_)
  refine goes_ Try.func15 (by kernel_rfl) rfl #[.agg arr] (by rfl) rfl rfl (by (try simp only [List.map_toArray, List.map_cons, List.map_nil]); first | done | rfl | (simp only [List.length_drop, List.length_take]; rfl)) ?_
  with_reducible refine (specHash2 xs HL.out k want HS2.out _ arr HA.out).mono ?_
  rintro e w2 ⟨v2, rfl, hr, hb⟩
  refine ⟨_, rfl, ?_⟩
  have hS1 := (hb.block w.heap.size (blk_lt' hHeld)).trans hHeld
  have HR2 := Aside0.mk hr
  have n0_ := Aside0.mk (HB.out.trans (hb.mono HB.out.size))
  have n1_ := Aside0.mk (Kd.R_below HR1.out hb)
  clear HB HR1
  have HB := n0_
  have HR1 := n1_
  clear n0_ n1_ hr hb
  obtain ⟨A9, c9, e9, hl9, hC9⟩ := Kd.R_reads HR1.out
  subst e9
  obtain ⟨A8, c8, e8, hl8, hC8⟩ := Kd.R_reads HR2.out
  subst e8
  have HL9 := Aside0.mk hl9
  have HC9 := Aside0.mk hC9
  have HL8 := Aside0.mk hl8
  have HC8 := Aside0.mk hC8
  clear hl9 hC9 hl8 hC8 HR1 HR2
  refine hK.out _ _ hS1 (fun hHeld => ?_)
  clear hK K
  refine norm_ (a' := ?_) ?_ ?_
  rotate_left
  · show Act.put _ (some 6) _ = _
    simp only [Act.put, List.setIfInBounds_toArray, List.set_cons_zero, List.set_cons_succ, i64_w, i32_w]
    rfl
  refine one_ (i := 4) (N := some 7) #[true, true, true, true, true, false] rfl rfl (by kernel_rfl) (by decide) (fun K hK => ?_)
  refine goes_ Try.func13 (by kernel_rfl) rfl #[.slice A9 out.length c9, .slice A8 want.length c8] (by rfl) rfl rfl (by (try simp only [List.map_toArray, List.map_cons, List.map_nil]); first | done | rfl | (simp only [List.length_drop, List.length_take]; rfl)) ?_
  with_reducible refine (laws_same.calls k A9 c9 out A8 c8 want true _ HC9.out HL9.out HC8.out HL8.out HE.out).mono ?_
  rintro e w3 ⟨rfl, ⟨⟨nd, rfl⟩⟩⟩
  refine ⟨_, rfl, ?_⟩
  refine hK.out _ _ hHeld (fun hHeld => ?_)
  clear hK K
  refine norm_ (a' := ?_) ?_ ?_
  rotate_left
  · show Act.put _ (some 7) _ = _
    simp only [Act.put, List.setIfInBounds_toArray, List.set_cons_zero, List.set_cons_succ, i64_w, i32_w]
    rfl
  refine pure_ (i := 5) (N := some 2) (v := ?_) (a' := ?_) #[true, true, true, true, true, true] rfl rfl (by kernel_rfl) (fun _ _ _ h => h) (Or.inl ⟨by rfl, ?_⟩) ?_ ?_
  rotate_left
  · intro w'
    go_simp
    with_reducible rfl
  rotate_left
  · simp only [Act.put, List.setIfInBounds_toArray, List.set_cons_zero, List.set_cons_succ, i64_w, i32_w]
    rfl
  refine done_ (by kernel_rfl) ?_
  clear hHeld HS
  go_wp2
  go_ret
  exact ⟨by simp, pw_below_drewN HB.out nd⟩
end Go.Proofs.Ytnbecklojmbbbaa.Big
