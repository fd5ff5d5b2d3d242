/- Rsh and Set of the package's whole numbers; number. -/
import Derived.Test.YtdmpjoglejnpbaaRsh
namespace Go.Proofs.Ytdmpjoglejnpbaa.Big
open Go.RowKit Go.Proofs.YtdmpjoglejnpbaaW.PrintWords Go.Proofs.YtdmpjoglejnpbaaW.PrintLast Go.Proofs.YtdmpjoglejnpbaaW.PrintMore Go.Proofs.Ytdmpjoglejnpbaa.QFnTargetBack
set_option linter.unusedVariables false
set_option linter.unusedSimpArgs false

set_option maxRecDepth 100000 in
set_option maxHeartbeats 4000000 in
theorem rshInt (g : Nat) (okx : Nat → Prop) (l : List Int) (n W s : Nat) (k : Nat) (r : List Int) (w : World) (hn : n = 32 * W + s) (hs : s < 32) (hW : W < l.length) (hl : l.length ≤ 1000000) (hd : Dig l)
    (hI : Is w g okx false l) (hr : smallbig_nat_norm.f k (dg (nv (l.drop W) / 2 ^ s) (l.length - W)) = some r) :
    Calls Try.prog 61 #[.pointer (some ⟨g, 0, none⟩), .pointer (some ⟨g, 0, none⟩), .int .u64 n] w fun e w' => e = .returned (.pointer (some ⟨g, 0, none⟩)) ∧ Is w' g (· ≠ g) false r ∧ Only g w w' := by
  obtain ⟨v, hg, hv⟩ := hI
  obtain ⟨A9, c9, rfl, hl9, hF⟩ := hv
  have HRC := Aside0.mk (rshC A9 c9 l n W s k r w hn hs hW hl hd hl9 (Kd.F_now hF) hr)
  have hc0 := cell_of hg (j := 0) (v := .bool false) rfl
  have hc1 := cell_of hg (j := 1) (v := .slice A9 l.length c9) rfl
  have HG := Aside0.mk hg
  clear hn hr hF hl9 hg hd
  go_enter Try.func61, Try.ntmps61
  go_wp2_with (go_at_call 71; refine HRC.out.mono ?_; rintro e w1 ⟨v1, rfl, hv, hb⟩; have HV := Aside0.mk hv; have HB := Aside0.mk hb; clear hv hb; obtain ⟨A8, c8, e8⟩ := Kd.V_slice HV.out; subst e8; have hg1 := (HB.out.block g (blk_lt' HG.out)).trans HG.out; clear hc0 hc1; have hc0 := cell_of hg1 (j := 0) (v := .bool false) rfl; have hc1 := cell_of hg1 (j := 1) (v := .slice A9 l.length c9) rfl; have hf0 := frozen_of hg1 0; have hf1 := frozen_of hg1 1; have HG1 := Aside0.mk hg1; clear hg1)
  go_ret
  have ho : Only g w1 ((w1.setCell ⟨g, 1, none⟩ (.slice A8 r.length c8)).setCell ⟨g, 0, none⟩ (.bool false)) := ((Only.refl g w1).set 1 _).set 0 _
  have hlt := blk_lt' HG.out
  refine ⟨rfl, ⟨.slice A8 r.length c8, heap_set_same (heap_set_same HG1.out _) _, ?_⟩, (Only.of_below HB.out).trans ho⟩
  exact Kd.V_mono (Kd.V_only (Kd.V_any HV.out) ho (fun k hk => by omega)) (fun k hk => by omega)

set_option maxRecDepth 100000 in
set_option maxHeartbeats 4000000 in
theorem setInt (gz g : Nat) (z0 z1 : Value) (okx : Nat → Prop) (neg : Bool) (l : List Int) (w : World) (hne : gz ≠ g) (hok : ∀ k, okx k → k ≠ gz)
    (hz : w.heap[gz]? = some (.cells #[z0, z1] 105 (0, 0))) (hI : Is w g okx neg l) :
    Calls Try.prog 60 #[.pointer (some ⟨gz, 0, none⟩), .pointer (some ⟨g, 0, none⟩)] w fun e w' => e = .returned (.pointer (some ⟨gz, 0, none⟩)) ∧ Is w' gz okx neg l ∧ Only gz w w' := by
  obtain ⟨v, hg, hv⟩ := hI
  have HV := Aside0.mk hv
  obtain ⟨A9, c9, rfl, hl9, hF⟩ := hv
  have HS := Aside0.mk (And.intro (cell_of (w := w.drew) hg (j := 0) (v := .bool neg) rfl) (cell_of (w := w.drew) hg (j := 1) (v := .slice A9 l.length c9) rfl))
  have HZ := Aside0.mk hz
  have HNE := Aside0.mk hne
  have HOK := Aside0.mk hok
  clear hg hF hl9 hz hne hok
  go_enter Try.func60, Try.ntmps60
  go_wp2
  refine start_ (n := 16) (S := fun w' => w'.cell? ⟨g, 0, none⟩ = some (.bool neg) ∧ w'.cell? ⟨g, 1, none⟩ = some (.slice A9 l.length c9)) (ds := [12, 15]) #[false, false, false, false, false, false, false, false, false, false, false, false, false, false, false, false] (by kernel_rfl) rfl rfl HS.out (fun hHeld => ?_)
  refine pure_ (i := 0) (N := some 5) (v := ?_) (a' := ?_) #[true, false, false, false, false, false, false, false, false, false, false, false, false, false, false, false] rfl rfl (by kernel_rfl) (fun _ _ _ h => h) (Or.inl ⟨by rfl, ?_⟩) ?_ ?_
  rotate_left
  · intro w'
    go_simp
    with_reducible rfl
  rotate_left
  · simp only [Act.put, List.setIfInBounds_toArray, List.set_cons_zero, List.set_cons_succ, i64_w, i32_w]
    rfl
  refine pure_ (i := 1) (N := some 6) (v := ?_) (a' := ?_) #[true, true, false, false, false, false, false, false, false, false, false, false, false, false, false, false] rfl rfl (by kernel_rfl) (fun _ _ _ h => h) (Or.inl ⟨by rfl, ?_⟩) ?_ ?_
  rotate_left
  · intro w'
    go_simp
    with_reducible rfl
  rotate_left
  · simp only [Act.put, List.setIfInBounds_toArray, List.set_cons_zero, List.set_cons_succ, i64_w, i32_w]
    rfl
  refine pure_ (i := 2) (N := some 7) (v := ?_) (a' := ?_) #[true, true, true, false, false, false, false, false, false, false, false, false, false, false, false, false] rfl rfl (by kernel_rfl) (fun _ _ _ h => h) (Or.inl ⟨by rfl, ?_⟩) ?_ ?_
  rotate_left
  · intro w'
    go_simp
    with_reducible rfl
  rotate_left
  · simp only [Act.put, List.setIfInBounds_toArray, List.set_cons_zero, List.set_cons_succ, i64_w, i32_w]
    rfl
  refine pure_ (i := 3) (N := some 8) (v := ?_) (a' := ?_) #[true, true, true, true, false, false, false, false, false, false, false, false, false, false, false, false] rfl rfl (by kernel_rfl) (fun _ _ _ h => h) (Or.inl ⟨by rfl, ?_⟩) ?_ ?_
  rotate_left
  · intro w'
    go_simp
    with_reducible rfl
  rotate_left
  · simp only [Act.put, List.setIfInBounds_toArray, List.set_cons_zero, List.set_cons_succ, i64_w, i32_w]
    rfl
  refine pure_ (i := 4) (N := some 9) (v := ?_) (a' := ?_) #[true, true, true, true, true, false, false, false, false, false, false, false, false, false, false, false] rfl rfl (by kernel_rfl) (fun _ _ _ h => h) (Or.inl ⟨by rfl, ?_⟩) ?_ ?_
  rotate_left
  · intro w'
    go_simp
    with_reducible rfl
  rotate_left
  · simp only [Act.put, List.setIfInBounds_toArray, List.set_cons_zero, List.set_cons_succ, i64_w, i32_w]
    rfl
  refine take_ (i := 5) (N := some 10) (v := ?_) (a' := ?_) #[true, true, true, true, true, true, false, false, false, false, false, false, false, false, false, false] rfl rfl (by kernel_rfl) (fun _ _ _ h => h) (Or.inl ⟨by rfl, ?_⟩) hHeld ?_ ?_
  rotate_left
  · rintro w' ⟨s0, s1⟩
    go_simp
    with_reducible rfl
  rotate_left
  · simp only [Act.put, List.setIfInBounds_toArray, List.set_cons_zero, List.set_cons_succ, i64_w, i32_w]
    rfl
  refine pure_ (i := 6) (N := some 11) (v := ?_) (a' := ?_) #[true, true, true, true, true, true, true, false, false, false, false, false, false, false, false, false] rfl rfl (by kernel_rfl) (fun _ _ _ h => h) (Or.inl ⟨by rfl, ?_⟩) ?_ ?_
  rotate_left
  · intro w'
    go_simp
    with_reducible rfl
  rotate_left
  · simp only [Act.put, List.setIfInBounds_toArray, List.set_cons_zero, List.set_cons_succ, i64_w, i32_w]
    rfl
  refine pure_ (i := 7) (N := some 12) (v := ?_) (a' := ?_) #[true, true, true, true, true, true, true, true, false, false, false, false, false, false, false, false] rfl rfl (by kernel_rfl) (fun _ _ _ h => h) (Or.inl ⟨by rfl, ?_⟩) ?_ ?_
  rotate_left
  · intro w'
    go_simp
    with_reducible rfl
  rotate_left
  · simp only [Act.put, List.setIfInBounds_toArray, List.set_cons_zero, List.set_cons_succ, i64_w, i32_w]
    rfl
  refine pure_ (i := 8) (N := some 13) (v := ?_) (a' := ?_) #[true, true, true, true, true, true, true, true, true, false, false, false, false, false, false, false] rfl rfl (by kernel_rfl) (fun _ _ _ h => h) (Or.inl ⟨by rfl, ?_⟩) ?_ ?_
  rotate_left
  · intro w'
    go_simp
    with_reducible rfl
  rotate_left
  · simp only [Act.put, List.setIfInBounds_toArray, List.set_cons_zero, List.set_cons_succ, i64_w, i32_w]
    rfl
  refine take_ (i := 9) (N := some 14) (v := ?_) (a' := ?_) #[true, true, true, true, true, true, true, true, true, true, false, false, false, false, false, false] rfl rfl (by kernel_rfl) (fun _ _ _ h => h) (Or.inl ⟨by rfl, ?_⟩) hHeld ?_ ?_
  rotate_left
  · rintro w' ⟨s0, s1⟩
    go_simp
    with_reducible rfl
  rotate_left
  · simp only [Act.put, List.setIfInBounds_toArray, List.set_cons_zero, List.set_cons_succ, i64_w, i32_w]
    rfl
  refine pure_ (i := 10) (N := some 15) (v := ?_) (a' := ?_) #[true, true, true, true, true, true, true, true, true, true, true, false, false, false, false, false] rfl rfl (by kernel_rfl) (fun _ _ _ h => h) (Or.inl ⟨by rfl, ?_⟩) ?_ ?_
  rotate_left
  · intro w'
    go_simp
    with_reducible rfl
  rotate_left
  · simp only [Act.put, List.setIfInBounds_toArray, List.set_cons_zero, List.set_cons_succ, i64_w, i32_w]
    rfl
  refine pure_ (i := 11) (N := some 16) (v := ?_) (a' := ?_) #[true, true, true, true, true, true, true, true, true, true, true, true, false, false, false, false] rfl rfl (by kernel_rfl) (fun _ _ _ h => h) (Or.inl ⟨by rfl, ?_⟩) ?_ ?_
  rotate_left
  · intro w'
    go_simp
    with_reducible rfl
  rotate_left
  · simp only [Act.put, List.setIfInBounds_toArray, List.set_cons_zero, List.set_cons_succ, i64_w, i32_w]
    rfl
  refine last_ (i := 12) (N := none) #[true, true, true, true, true, true, true, true, true, true, true, true, true, false, false, false] rfl rfl (by kernel_rfl) (by decide) (fun K hK => ?_)
  have hz1 := cell_of HZ.out (j := 1) (v := z1) rfl
  have hf1 := frozen_of HZ.out 1
  refine skip_ (w1 := ?_) (by rfl) rfl ?_ ?_
  rotate_left
  · go_simp
    rfl
  refine hK.out _ _ ?_
  clear hK K
  refine norm_ (a' := ?_) ?_ ?_
  rotate_left
  · rfl
  refine pure_ (i := 13) (N := some 17) (v := ?_) (a' := ?_) #[true, true, true, true, true, true, true, true, true, true, true, true, true, true, false, false] rfl rfl (by kernel_rfl) (fun _ _ _ h => h) (Or.inl ⟨by rfl, ?_⟩) ?_ ?_
  rotate_left
  · intro w'
    go_simp
    with_reducible rfl
  rotate_left
  · simp only [Act.put, List.setIfInBounds_toArray, List.set_cons_zero, List.set_cons_succ, i64_w, i32_w]
    rfl
  refine pure_ (i := 14) (N := some 18) (v := ?_) (a' := ?_) #[true, true, true, true, true, true, true, true, true, true, true, true, true, true, true, false] rfl rfl (by kernel_rfl) (fun _ _ _ h => h) (Or.inl ⟨by rfl, ?_⟩) ?_ ?_
  rotate_left
  · intro w'
    go_simp
    with_reducible rfl
  rotate_left
  · simp only [Act.put, List.setIfInBounds_toArray, List.set_cons_zero, List.set_cons_succ, i64_w, i32_w]
    rfl
  refine last_ (i := 15) (N := none) #[true, true, true, true, true, true, true, true, true, true, true, true, true, true, true, true] rfl rfl (by kernel_rfl) (by decide) (fun K hK => ?_)
  have hz0 := cell_of (heap_set_same HZ.out (j := 1) (.slice A9 l.length c9)) (j := 0) (v := z0) rfl
  have hf0 := frozen_of HZ.out 0
  refine skip_ (w1 := ?_) (by rfl) rfl ?_ ?_
  rotate_left
  · go_simp
    rfl
  refine hK.out _ _ ?_
  clear hK K
  refine norm_ (a' := ?_) ?_ ?_
  rotate_left
  · rfl
  refine done_ (by kernel_rfl) ?_
  clear hHeld HS
  go_wp2
  go_ret
  have ho : Only gz w ((w.setCell ⟨gz, 1, none⟩ (.slice A9 l.length c9)).setCell ⟨gz, 0, none⟩ (.bool neg)) := ((Only.refl gz w).set 1 _).set 0 _
  refine ⟨rfl, ⟨.slice A9 l.length c9, heap_set_same (heap_set_same HZ.out _) _, ?_⟩, ho.drew⟩
  exact Kd.V_drew (Kd.V_only HV.out ho HOK.out)
end Go.Proofs.Ytdmpjoglejnpbaa.Big
