/- Contracts of the package's whole numbers: SetInt64, NewInt, Lsh, Neg, Sign. -/
import Derived.Deep.QuietTactic
import Derived.BigQuiet
import Derived.OpenShut
import Derived.Laws.Tables
import Derived.Laws.Rows
import Derived.Laws.CopyOwn
import Derived.Test.YtigpdgfhngknhaaK0
import Derived.Test.YtigpdgfhngknhaaK1
namespace Go.Proofs.Ytigpdgfhngknhaa.Big
open Go.RowKit Go.Proofs.YtigpdgfhngknhaaW.PrintWords Go.Proofs.YtigpdgfhngknhaaW.PrintLast Go.Proofs.YtigpdgfhngknhaaW.PrintMore Go.Proofs.Ytigpdgfhngknhaa.QFnProofFault
set_option linter.unusedVariables false
set_option linter.unusedSimpArgs false

/-- A number at block g: its sign, and its digits of 32 bits. -/
def Is (w : World) (g : Nat) (ok : Nat → Prop) (neg : Bool) (l : List Int) : Prop :=
  ∃ v, w.heap[g]? = some (.cells #[.bool neg, v] 73 (0, 0)) ∧ Kd.V (Kd.int .u32) 23 w 0 ok v l
theorem Is.only {w w1 : World} {g g1 : Nat} {ok : Nat → Prop} {neg : Bool} {l : List Int} (h : Is w g ok neg l) (ho : Only g1 w w1) (hg : g ≠ g1) (hok : ∀ k, ok k → k ≠ g1) : Is w1 g ok neg l := by
  obtain ⟨v, h1, h2⟩ := h
  exact ⟨v, (ho.block g (blk_lt' h1) hg).trans h1, Kd.V_only h2 ho hok⟩
theorem Is.below {w w1 : World} {g : Nat} {ok : Nat → Prop} {neg : Bool} {l : List Int} (h : Is w g ok neg l) (hb : Below w.heap.size w w1) : Is w1 g ok neg l := by
  obtain ⟨v, h1, h2⟩ := h
  exact ⟨v, (hb.block g (blk_lt' h1)).trans h1, Kd.V_below h2 hb⟩
theorem Is.bound {w : World} {g : Nat} {ok : Nat → Prop} {neg : Bool} {l : List Int} (h : Is w g ok neg l) : Is w g (fun k => ok k ∧ k < w.heap.size) neg l := by
  obtain ⟨v, h1, h2⟩ := h
  exact ⟨v, h1, Kd.V_bound h2⟩
theorem Is.mono {w : World} {g : Nat} {ok ok' : Nat → Prop} {neg : Bool} {l : List Int} (h : Is w g ok neg l) (hk : ∀ k, ok k → ok' k) : Is w g ok' neg l := by
  obtain ⟨v, h1, h2⟩ := h
  exact ⟨v, h1, Kd.V_mono h2 hk⟩

set_option maxHeartbeats 1000000 in
theorem setInt64 (k : Nat) (g : Nat) (x : Int) (h0 : 0 ≤ x) (h1 : x ≤ 9223372036854775807) (r : List Int) (x0 x1 : Value) (w : World)
    (hg : w.heap[g]? = some (.cells #[x0, x1] 73 (0, 0))) (h : smallbig_natOf.f k x = some r) :
    Calls Try.prog 57 #[.pointer (some ⟨g, 0, none⟩), .int .i64 x] w fun e w' => e = .returned (.pointer (some ⟨g, 0, none⟩)) ∧ Is w' g (· ≠ g) false r ∧ Only g w w' := by
  have b0 : decide (x < 0) = false := decide_eq_false (by omega)
  have e0 : IntKind.u64.wrap x = x := by simp [IntKind.wrap, IntKind.signed, IntKind.bits]; omega
  have H := Aside0.mk h
  have HG := Aside0.mk hg
  clear h hg
  go_enter Try.func57, Try.ntmps57
  go_wp2_with fail
  refine (smallbig_natOf.calls k x r _ H.out).mono ?_
  rintro e w1 ⟨v, rfl, hv, hb⟩
  have HV := Aside0.mk hv
  have HB := Aside0.mk hb
  clear hv hb
  obtain ⟨A9, c9, e9⟩ := Kd.V_slice HV.out
  subst e9
  have hg1 := (HB.out.block g (blk_lt' HG.out)).trans HG.out
  have hc0 := cell_of hg1 (j := 0) (v := x0) rfl
  have hc1 := cell_of hg1 (j := 1) (v := x1) rfl
  have hf0 := frozen_of hg1 0
  have hf1 := frozen_of hg1 1
  have HG1 := Aside0.mk hg1
  clear hg1
  go_wp2
  go_ret
  have ho : Only g w1 ((w1.setCell ⟨g, 1, none⟩ (.slice A9 r.length c9)).setCell ⟨g, 0, none⟩ (.bool false)) := ((Only.refl g w1).set 1 _).set 0 _
  refine ⟨rfl, ⟨.slice A9 r.length c9, heap_set_same (heap_set_same HG1.out _) _, ?_⟩, (Only.of_below HB.out).trans ho⟩
  exact Kd.V_mono (Kd.V_only (Kd.V_any HV.out) ho (fun k hk => by have := blk_lt' HG.out; omega)) (fun k hk => by have := blk_lt' HG.out; omega)

set_option maxHeartbeats 1000000 in
theorem newInt (k : Nat) (x : Int) (h0 : 0 ≤ x) (h1 : x ≤ 9223372036854775807) (r : List Int) (w : World) (h : smallbig_natOf.f k x = some r) :
    Calls Try.prog 49 #[.int .i64 x] w fun e w' => e = .returned (.pointer (some ⟨w.heap.size, 0, none⟩)) ∧ Is w' w.heap.size (· ≠ w.heap.size) false r ∧ Below w.heap.size w w' := by
  have H := Aside0.mk h
  clear h
  go_enter Try.func49, Try.ntmps49
  go_wp2_with (go_at_call 57; refine (setInt64 k w.heap.size x h0 h1 r (.bool false) (.slice none 0 0) _ (heap_alloc_new w _) H.out).mono ?_; rintro e w1 ⟨rfl, h2, h3⟩; have H2 := Aside0.mk h2; have H3 := Aside0.mk h3; clear h2 h3)
  go_ret
  exact ⟨rfl, H2.out, H3.out.below ((Below.refl _ _).alloc (Nat.le_refl _) _) (Nat.le_refl _) (by simp)⟩

set_option maxRecDepth 100000 in
set_option maxHeartbeats 2000000 in
theorem lsh (k : Nat) (g : Nat) (neg : Bool) (l : List Int) (n : Int) (r : List Int) (w : World) (hI : Is w g (· ≠ g) neg l) (h : smallbig_nat_lsh.f k l n = some r) :
    Calls Try.prog 50 #[.pointer (some ⟨g, 0, none⟩), .pointer (some ⟨g, 0, none⟩), .int .u64 n] w fun e w' => e = .returned (.pointer (some ⟨g, 0, none⟩)) ∧ Is w' g (· ≠ g) neg r ∧ Only g w w' := by
  obtain ⟨v, hg, hv⟩ := hI
  obtain ⟨A9, c9, rfl, hl, hF⟩ := hv
  have HC := Aside0.mk (Kd.F_now hF)
  have HL := Aside0.mk hl
  have HG := Aside0.mk hg
  have H := Aside0.mk h
  have HS := Aside0.mk (And.intro (cell_of (w := w.drew) hg (j := 0) (v := .bool neg) rfl) (And.intro (cell_of (w := w.drew) hg (j := 1) (v := .slice A9 l.length c9) rfl) (Aside0.mk (Below.refl w.heap.size w).drew)))
  clear h hg hF hl
  go_enter Try.func50, Try.ntmps50
  go_wp2
  refine start_ (n := 18) (S := fun w' => w'.cell? ⟨g, 0, none⟩ = some (.bool neg) ∧ w'.cell? ⟨g, 1, none⟩ = some (.slice A9 l.length c9) ∧ Aside0 (Below w.heap.size w w')) (ds := [14, 17]) #[false, false, false, false, false, false, false, false, false, false, false, false, false, false, false, false, false, false] (by kernel_rfl) rfl rfl HS.out (fun hHeld => ?_)
  refine pure_ (i := 0) (N := some 7) (v := ?_) (a' := ?_) #[true, false, false, false, false, false, false, false, false, false, false, false, false, false, false, false, false, false] rfl rfl (by kernel_rfl) (fun _ _ _ h => h) (Or.inl ⟨by rfl, ?_⟩) ?_ ?_
  rotate_left
  · intro w'
    go_simp
    with_reducible rfl
  rotate_left
  · simp only [Act.put, List.setIfInBounds_toArray, List.set_cons_zero, List.set_cons_succ, i64_w, i32_w]
    rfl
  refine pure_ (i := 1) (N := some 8) (v := ?_) (a' := ?_) #[true, true, false, false, false, false, false, false, false, false, false, false, false, false, false, false, false, false] rfl rfl (by kernel_rfl) (fun _ _ _ h => h) (Or.inl ⟨by rfl, ?_⟩) ?_ ?_
  rotate_left
  · intro w'
    go_simp
    with_reducible rfl
  rotate_left
  · simp only [Act.put, List.setIfInBounds_toArray, List.set_cons_zero, List.set_cons_succ, i64_w, i32_w]
    rfl
  refine pure_ (i := 2) (N := some 9) (v := ?_) (a' := ?_) #[true, true, true, false, false, false, false, false, false, false, false, false, false, false, false, false, false, false] rfl rfl (by kernel_rfl) (fun _ _ _ h => h) (Or.inl ⟨by rfl, ?_⟩) ?_ ?_
  rotate_left
  · intro w'
    go_simp
    with_reducible rfl
  rotate_left
  · simp only [Act.put, List.setIfInBounds_toArray, List.set_cons_zero, List.set_cons_succ, i64_w, i32_w]
    rfl
  refine pure_ (i := 3) (N := some 10) (v := ?_) (a' := ?_) #[true, true, true, true, false, false, false, false, false, false, false, false, false, false, false, false, false, false] rfl rfl (by kernel_rfl) (fun _ _ _ h => h) (Or.inl ⟨by rfl, ?_⟩) ?_ ?_
  rotate_left
  · intro w'
    go_simp
    with_reducible rfl
  rotate_left
  · simp only [Act.put, List.setIfInBounds_toArray, List.set_cons_zero, List.set_cons_succ, i64_w, i32_w]
    rfl
  refine pure_ (i := 4) (N := some 11) (v := ?_) (a' := ?_) #[true, true, true, true, true, false, false, false, false, false, false, false, false, false, false, false, false, false] rfl rfl (by kernel_rfl) (fun _ _ _ h => h) (Or.inl ⟨by rfl, ?_⟩) ?_ ?_
  rotate_left
  · intro w'
    go_simp
    with_reducible rfl
  rotate_left
  · simp only [Act.put, List.setIfInBounds_toArray, List.set_cons_zero, List.set_cons_succ, i64_w, i32_w]
    rfl
  refine take_ (i := 5) (N := some 12) (v := ?_) (a' := ?_) #[true, true, true, true, true, true, false, false, false, false, false, false, false, false, false, false, false, false] rfl rfl (by kernel_rfl) (fun _ _ _ h => h) (Or.inl ⟨by rfl, ?_⟩) hHeld ?_ ?_
  rotate_left
  · rintro w' ⟨s0, s1, s2⟩
    go_simp
    with_reducible rfl
  rotate_left
  · simp only [Act.put, List.setIfInBounds_toArray, List.set_cons_zero, List.set_cons_succ, i64_w, i32_w]
    rfl
  refine pure_ (i := 6) (N := some 13) (v := ?_) (a' := ?_) #[true, true, true, true, true, true, true, false, false, false, false, false, false, false, false, false, false, false] rfl rfl (by kernel_rfl) (fun _ _ _ h => h) (Or.inl ⟨by rfl, ?_⟩) ?_ ?_
  rotate_left
  · intro w'
    go_simp
    with_reducible rfl
  rotate_left
  · simp only [Act.put, List.setIfInBounds_toArray, List.set_cons_zero, List.set_cons_succ, i64_w, i32_w]
    rfl
  refine pure_ (i := 8) (N := some 15) (v := ?_) (a' := ?_) #[true, true, true, true, true, true, true, false, true, false, false, false, false, false, false, false, false, false] rfl rfl (by kernel_rfl) (fun _ _ _ h => h) (Or.inl ⟨by rfl, ?_⟩) ?_ ?_
  rotate_left
  · intro w'
    go_simp
    with_reducible rfl
  rotate_left
  · simp only [Act.put, List.setIfInBounds_toArray, List.set_cons_zero, List.set_cons_succ, i64_w, i32_w]
    rfl
  refine pure_ (i := 9) (N := some 16) (v := ?_) (a' := ?_) #[true, true, true, true, true, true, true, false, true, true, false, false, false, false, false, false, false, false] rfl rfl (by kernel_rfl) (fun _ _ _ h => h) (Or.inl ⟨by rfl, ?_⟩) ?_ ?_
  rotate_left
  · intro w'
    go_simp
    with_reducible rfl
  rotate_left
  · simp only [Act.put, List.setIfInBounds_toArray, List.set_cons_zero, List.set_cons_succ, i64_w, i32_w]
    rfl
  refine pure_ (i := 10) (N := some 17) (v := ?_) (a' := ?_) #[true, true, true, true, true, true, true, false, true, true, true, false, false, false, false, false, false, false] rfl rfl (by kernel_rfl) (fun _ _ _ h => h) (Or.inl ⟨by rfl, ?_⟩) ?_ ?_
  rotate_left
  · intro w'
    go_simp
    with_reducible rfl
  rotate_left
  · simp only [Act.put, List.setIfInBounds_toArray, List.set_cons_zero, List.set_cons_succ, i64_w, i32_w]
    rfl
  refine take_ (i := 11) (N := some 18) (v := ?_) (a' := ?_) #[true, true, true, true, true, true, true, false, true, true, true, true, false, false, false, false, false, false] rfl rfl (by kernel_rfl) (fun _ _ _ h => h) (Or.inl ⟨by rfl, ?_⟩) hHeld ?_ ?_
  rotate_left
  · rintro w' ⟨s0, s1, s2⟩
    go_simp
    with_reducible rfl
  rotate_left
  · simp only [Act.put, List.setIfInBounds_toArray, List.set_cons_zero, List.set_cons_succ, i64_w, i32_w]
    rfl
  refine one_ (i := 7) (N := some 14) #[true, true, true, true, true, true, true, true, true, true, true, true, false, false, false, false, false, false] rfl rfl (by kernel_rfl) (by decide) (fun K hK => ?_)
  refine goes_ Try.func58 (by kernel_rfl) rfl #[.slice A9 l.length c9, .int .u64 n] (by rfl) rfl rfl (by (try simp only [List.map_toArray, List.map_cons, List.map_nil]); first | done | rfl | (simp only [List.length_drop, List.length_take]; rfl)) ?_
  with_reducible refine (smallbig_nat_lsh.calls k A9 c9 l n r _ (Kd.C_below HC.out hHeld.2.2.out) HL.out H.out).mono ?_
  rintro e w1 ⟨v1, rfl, hv, hb⟩
  refine ⟨_, rfl, ?_⟩
  have HBW0 := Aside0.mk (Nat.lt_of_lt_of_le (blk_lt' HG.out) hHeld.2.2.out.size)
  have HV := Aside0.mk hv
  have HB := Aside0.mk hb
  clear hv hb
  obtain ⟨A8, c8, e8⟩ := Kd.V_slice HV.out
  subst e8
  have HBW := Aside0.mk (hHeld.2.2.out.trans (HB.out.mono hHeld.2.2.out.size))
  have hg1 := (HBW.out.block g (blk_lt' HG.out)).trans HG.out
  have HG1 := Aside0.mk hg1
  clear hg1
  refine hK.out _ _ ⟨cell_of HG1.out (v := .bool neg) rfl, cell_of HG1.out (v := .slice A9 l.length c9) rfl, HBW⟩ (fun hHeld => ?_)
  clear hK K
  refine norm_ (a' := ?_) ?_ ?_
  rotate_left
  · show Act.put _ (some 14) _ = _
    simp only [Act.put, List.setIfInBounds_toArray, List.set_cons_zero, List.set_cons_succ, i64_w, i32_w]
    rfl
  refine pure_ (i := 12) (N := some 19) (v := ?_) (a' := ?_) #[true, true, true, true, true, true, true, true, true, true, true, true, true, false, false, false, false, false] rfl rfl (by kernel_rfl) (fun _ _ _ h => h) (Or.inl ⟨by rfl, ?_⟩) ?_ ?_
  rotate_left
  · intro w'
    go_simp
    with_reducible rfl
  rotate_left
  · simp only [Act.put, List.setIfInBounds_toArray, List.set_cons_zero, List.set_cons_succ, i64_w, i32_w]
    rfl
  refine pure_ (i := 13) (N := some 20) (v := ?_) (a' := ?_) #[true, true, true, true, true, true, true, true, true, true, true, true, true, true, false, false, false, false] rfl rfl (by kernel_rfl) (fun _ _ _ h => h) (Or.inl ⟨by rfl, ?_⟩) ?_ ?_
  rotate_left
  · intro w'
    go_simp
    with_reducible rfl
  rotate_left
  · simp only [Act.put, List.setIfInBounds_toArray, List.set_cons_zero, List.set_cons_succ, i64_w, i32_w]
    rfl
  refine last_ (i := 14) (N := none) #[true, true, true, true, true, true, true, true, true, true, true, true, true, true, true, false, false, false] rfl rfl (by kernel_rfl) (by decide) (fun K hK => ?_)
  have hc1 := cell_of HG1.out (j := 1) (v := .slice A9 l.length c9) rfl
  have hf1 := frozen_of HG1.out 1
  refine skip_ (w1 := ?_) (by rfl) rfl ?_ ?_
  rotate_left
  · go_simp
    rfl
  refine hK.out _ _ ?_
  clear hK K
  refine norm_ (a' := ?_) ?_ ?_
  rotate_left
  · rfl
  refine pure_ (i := 15) (N := some 21) (v := ?_) (a' := ?_) #[true, true, true, true, true, true, true, true, true, true, true, true, true, true, true, true, false, false] rfl rfl (by kernel_rfl) (fun _ _ _ h => h) (Or.inl ⟨by rfl, ?_⟩) ?_ ?_
  rotate_left
  · intro w'
    go_simp
    with_reducible rfl
  rotate_left
  · simp only [Act.put, List.setIfInBounds_toArray, List.set_cons_zero, List.set_cons_succ, i64_w, i32_w]
    rfl
  refine pure_ (i := 16) (N := some 22) (v := ?_) (a' := ?_) #[true, true, true, true, true, true, true, true, true, true, true, true, true, true, true, true, true, false] rfl rfl (by kernel_rfl) (fun _ _ _ h => h) (Or.inl ⟨by rfl, ?_⟩) ?_ ?_
  rotate_left
  · intro w'
    go_simp
    with_reducible rfl
  rotate_left
  · simp only [Act.put, List.setIfInBounds_toArray, List.set_cons_zero, List.set_cons_succ, i64_w, i32_w]
    rfl
  refine last_ (i := 17) (N := none) #[true, true, true, true, true, true, true, true, true, true, true, true, true, true, true, true, true, true] rfl rfl (by kernel_rfl) (by decide) (fun K hK => ?_)
  have hc0 := cell_of (heap_set_same HG1.out (j := 1) (.slice A8 r.length c8)) (j := 0) (v := .bool neg) rfl
  have hf0 := frozen_of (heap_set_same HG1.out (j := 1) (.slice A8 r.length c8)) 0
  refine skip_ (w1 := ?_) (by rfl) rfl ?_ ?_
  rotate_left
  · go_simp
    rfl
  refine hK.out _ _ ?_
  clear hK K
  refine norm_ (a' := ?_) ?_ ?_
  rotate_left
  · rfl
  refine done_ (by kernel_rfl) ?_
  clear hHeld HS
  go_wp2
  go_ret
  have ho : Only g w1 ((w1.setCell ⟨g, 1, none⟩ (.slice A8 r.length c8)).setCell ⟨g, 0, none⟩ (.bool neg)) := ((Only.refl g w1).set 1 _).set 0 _
  have hlt := blk_lt' HG.out
  refine ⟨rfl, ⟨.slice A8 r.length c8, heap_set_same (heap_set_same HG1.out _) _, ?_⟩, (Only.of_below HBW.out).trans ho⟩
  exact Kd.V_mono (Kd.V_only (Kd.V_any HV.out) ho (fun k hk => by have := HBW0.out; omega)) (fun k hk => by have := HBW0.out; omega)

set_option maxRecDepth 100000 in
set_option maxHeartbeats 2000000 in
theorem neg_pos (g : Nat) (neg : Bool) (l : List Int) (hl0 : 0 < l.length) (w : World) (hI : Is w g (· ≠ g) neg l) :
    Calls Try.prog 51 #[.pointer (some ⟨g, 0, none⟩), .pointer (some ⟨g, 0, none⟩)] w fun e w' => e = .returned (.pointer (some ⟨g, 0, none⟩)) ∧ Is w' g (· ≠ g) (!neg) l ∧ Only g w w' := by
  obtain ⟨v, hg, hv⟩ := hI
  have HVV := Aside0.mk hv
  obtain ⟨A9, c9, rfl, hl, hF⟩ := hv
  have g0 : decide (0 < l.length) = true := decide_eq_true hl0
  have g1 : decide ((0 : Int) < (l.length : Int)) = true := decide_eq_true (by omega)
  have HG := Aside0.mk hg
  have HG1 := Aside0.mk (show w.drew.heap[g]? = _ from hg)
  have HS := Aside0.mk (And.intro (cell_of (w := w.drew) hg (j := 0) (v := .bool neg) rfl) (cell_of (w := w.drew) hg (j := 1) (v := .slice A9 l.length c9) rfl))
  clear hg hF hl
  go_enter Try.func51, Try.ntmps51
  go_wp2
  refine start_ (n := 25) (S := fun w' => w'.cell? ⟨g, 0, none⟩ = some (.bool neg) ∧ w'.cell? ⟨g, 1, none⟩ = some (.slice A9 l.length c9)) (ds := [21, 24]) #[false, false, false, false, false, false, false, false, false, false, false, false, false, false, false, false, false, false, false, false, false, false, false, false, false] (by kernel_rfl) rfl rfl HS.out (fun hHeld => ?_)
  refine pure_ (i := 0) (N := some 5) (v := ?_) (a' := ?_) #[true, false, false, false, false, false, false, false, false, false, false, false, false, false, false, false, false, false, false, false, false, false, false, false, false] rfl rfl (by kernel_rfl) (fun _ _ _ h => h) (Or.inl ⟨by rfl, ?_⟩) ?_ ?_
  rotate_left
  · intro w'
    go_simp
    with_reducible rfl
  rotate_left
  · simp only [Act.put, List.setIfInBounds_toArray, List.set_cons_zero, List.set_cons_succ, i64_w, i32_w]
    rfl
  refine pure_ (i := 1) (N := some 6) (v := ?_) (a' := ?_) #[true, true, false, false, false, false, false, false, false, false, false, false, false, false, false, false, false, false, false, false, false, false, false, false, false] rfl rfl (by kernel_rfl) (fun _ _ _ h => h) (Or.inl ⟨by rfl, ?_⟩) ?_ ?_
  rotate_left
  · intro w'
    go_simp
    with_reducible rfl
  rotate_left
  · simp only [Act.put, List.setIfInBounds_toArray, List.set_cons_zero, List.set_cons_succ, i64_w, i32_w]
    rfl
  refine pure_ (i := 2) (N := some 7) (v := ?_) (a' := ?_) #[true, true, true, false, false, false, false, false, false, false, false, false, false, false, false, false, false, false, false, false, false, false, false, false, false] rfl rfl (by kernel_rfl) (fun _ _ _ h => h) (Or.inl ⟨by rfl, ?_⟩) ?_ ?_
  rotate_left
  · intro w'
    go_simp
    with_reducible rfl
  rotate_left
  · simp only [Act.put, List.setIfInBounds_toArray, List.set_cons_zero, List.set_cons_succ, i64_w, i32_w]
    rfl
  refine pure_ (i := 3) (N := some 8) (v := ?_) (a' := ?_) #[true, true, true, true, false, false, false, false, false, false, false, false, false, false, false, false, false, false, false, false, false, false, false, false, false] rfl rfl (by kernel_rfl) (fun _ _ _ h => h) (Or.inl ⟨by rfl, ?_⟩) ?_ ?_
  rotate_left
  · intro w'
    go_simp
    with_reducible rfl
  rotate_left
  · simp only [Act.put, List.setIfInBounds_toArray, List.set_cons_zero, List.set_cons_succ, i64_w, i32_w]
    rfl
  refine pure_ (i := 4) (N := some 9) (v := ?_) (a' := ?_) #[true, true, true, true, true, false, false, false, false, false, false, false, false, false, false, false, false, false, false, false, false, false, false, false, false] rfl rfl (by kernel_rfl) (fun _ _ _ h => h) (Or.inl ⟨by rfl, ?_⟩) ?_ ?_
  rotate_left
  · intro w'
    go_simp
    with_reducible rfl
  rotate_left
  · simp only [Act.put, List.setIfInBounds_toArray, List.set_cons_zero, List.set_cons_succ, i64_w, i32_w]
    rfl
  refine take_ (i := 5) (N := some 10) (v := ?_) (a' := ?_) #[true, true, true, true, true, true, false, false, false, false, false, false, false, false, false, false, false, false, false, false, false, false, false, false, false] rfl rfl (by kernel_rfl) (fun _ _ _ h => h) (Or.inl ⟨by rfl, ?_⟩) hHeld ?_ ?_
  rotate_left
  · rintro w' ⟨s0, s1⟩
    go_simp
    with_reducible rfl
  rotate_left
  · simp only [Act.put, List.setIfInBounds_toArray, List.set_cons_zero, List.set_cons_succ, i64_w, i32_w]
    rfl
  refine pure_ (i := 6) (N := some 11) (v := ?_) (a' := ?_) #[true, true, true, true, true, true, true, false, false, false, false, false, false, false, false, false, false, false, false, false, false, false, false, false, false] rfl rfl (by kernel_rfl) (fun _ _ _ h => h) (Or.inl ⟨by rfl, ?_⟩) ?_ ?_
  rotate_left
  · intro w'
    go_simp
    with_reducible rfl
  rotate_left
  · simp only [Act.put, List.setIfInBounds_toArray, List.set_cons_zero, List.set_cons_succ, i64_w, i32_w]
    rfl
  refine pure_ (i := 7) (N := some 12) (v := ?_) (a' := ?_) #[true, true, true, true, true, true, true, true, false, false, false, false, false, false, false, false, false, false, false, false, false, false, false, false, false] rfl rfl (by kernel_rfl) (fun _ _ _ h => h) (Or.inl ⟨by rfl, ?_⟩) ?_ ?_
  rotate_left
  · intro w'
    go_simp
    with_reducible rfl
  rotate_left
  · simp only [Act.put, List.setIfInBounds_toArray, List.set_cons_zero, List.set_cons_succ, i64_w, i32_w]
    rfl
  refine pure_ (i := 8) (N := some 13) (v := ?_) (a' := ?_) #[true, true, true, true, true, true, true, true, true, false, false, false, false, false, false, false, false, false, false, false, false, false, false, false, false] rfl rfl (by kernel_rfl) (fun _ _ _ h => h) (Or.inl ⟨by rfl, ?_⟩) ?_ ?_
  rotate_left
  · intro w'
    go_simp
    with_reducible rfl
  rotate_left
  · simp only [Act.put, List.setIfInBounds_toArray, List.set_cons_zero, List.set_cons_succ, i64_w, i32_w]
    rfl
  refine take_ (i := 9) (N := some 14) (v := ?_) (a' := ?_) #[true, true, true, true, true, true, true, true, true, true, false, false, false, false, false, false, false, false, false, false, false, false, false, false, false] rfl rfl (by kernel_rfl) (fun _ _ _ h => h) (Or.inl ⟨by rfl, ?_⟩) hHeld ?_ ?_
  rotate_left
  · rintro w' ⟨s0, s1⟩
    go_simp
    with_reducible rfl
  rotate_left
  · simp only [Act.put, List.setIfInBounds_toArray, List.set_cons_zero, List.set_cons_succ, i64_w, i32_w]
    rfl
  refine pure_ (i := 10) (N := some 15) (v := ?_) (a' := ?_) #[true, true, true, true, true, true, true, true, true, true, true, false, false, false, false, false, false, false, false, false, false, false, false, false, false] rfl rfl (by kernel_rfl) (fun _ _ _ h => h) (Or.inl ⟨by rfl, ?_⟩) ?_ ?_
  rotate_left
  · intro w'
    go_simp
    with_reducible rfl
  rotate_left
  · simp only [Act.put, List.setIfInBounds_toArray, List.set_cons_zero, List.set_cons_succ, i64_w, i32_w]
    rfl
  refine pure_ (i := 11) (N := some 16) (v := ?_) (a' := ?_) #[true, true, true, true, true, true, true, true, true, true, true, true, false, false, false, false, false, false, false, false, false, false, false, false, false] rfl rfl (by kernel_rfl) (fun _ _ _ h => h) (Or.inl ⟨by rfl, ?_⟩) ?_ ?_
  rotate_left
  · intro w'
    go_simp
    with_reducible rfl
  rotate_left
  · simp only [Act.put, List.setIfInBounds_toArray, List.set_cons_zero, List.set_cons_succ, i64_w, i32_w]
    rfl
  refine pure_ (i := 12) (N := some 17) (v := ?_) (a' := ?_) #[true, true, true, true, true, true, true, true, true, true, true, true, true, false, false, false, false, false, false, false, false, false, false, false, false] rfl rfl (by kernel_rfl) (fun _ _ _ h => h) (Or.inl ⟨by rfl, ?_⟩) ?_ ?_
  rotate_left
  · intro w'
    go_simp
    with_reducible rfl
  rotate_left
  · simp only [Act.put, List.setIfInBounds_toArray, List.set_cons_zero, List.set_cons_succ, i64_w, i32_w]
    rfl
  refine pure_ (i := 13) (N := some 18) (v := ?_) (a' := ?_) #[true, true, true, true, true, true, true, true, true, true, true, true, true, true, false, false, false, false, false, false, false, false, false, false, false] rfl rfl (by kernel_rfl) (fun _ _ _ h => h) (Or.inl ⟨by rfl, ?_⟩) ?_ ?_
  rotate_left
  · intro w'
    go_simp
    with_reducible rfl
  rotate_left
  · simp only [Act.put, List.setIfInBounds_toArray, List.set_cons_zero, List.set_cons_succ, i64_w, i32_w]
    rfl
  refine pure_ (i := 14) (N := some 19) (v := ?_) (a' := ?_) #[true, true, true, true, true, true, true, true, true, true, true, true, true, true, true, false, false, false, false, false, false, false, false, false, false] rfl rfl (by kernel_rfl) (fun _ _ _ h => h) (Or.inl ⟨by rfl, ?_⟩) ?_ ?_
  rotate_left
  · intro w'
    go_simp
    with_reducible rfl
  rotate_left
  · simp only [Act.put, List.setIfInBounds_toArray, List.set_cons_zero, List.set_cons_succ, i64_w, i32_w]
    rfl
  refine pure_ (i := 15) (N := some 20) (v := ?_) (a' := ?_) #[true, true, true, true, true, true, true, true, true, true, true, true, true, true, true, true, false, false, false, false, false, false, false, false, false] rfl rfl (by kernel_rfl) (fun _ _ _ h => h) (Or.inl ⟨by rfl, ?_⟩) ?_ ?_
  rotate_left
  · intro w'
    go_simp
    with_reducible rfl
  rotate_left
  · simp only [Act.put, List.setIfInBounds_toArray, List.set_cons_zero, List.set_cons_succ, i64_w, i32_w]
    rfl
  refine take_ (i := 16) (N := some 21) (v := ?_) (a' := ?_) #[true, true, true, true, true, true, true, true, true, true, true, true, true, true, true, true, true, false, false, false, false, false, false, false, false] rfl rfl (by kernel_rfl) (fun _ _ _ h => h) (Or.inl ⟨by rfl, ?_⟩) hHeld ?_ ?_
  rotate_left
  · rintro w' ⟨s0, s1⟩
    go_simp
    with_reducible rfl
  rotate_left
  · simp only [Act.put, List.setIfInBounds_toArray, List.set_cons_zero, List.set_cons_succ, i64_w, i32_w]
    rfl
  refine pure_ (i := 17) (N := some 22) (v := ?_) (a' := ?_) #[true, true, true, true, true, true, true, true, true, true, true, true, true, true, true, true, true, true, false, false, false, false, false, false, false] rfl rfl (by kernel_rfl) (fun _ _ _ h => h) (Or.inl ⟨by rfl, ?_⟩) ?_ ?_
  rotate_left
  · intro w'
    go_simp
    with_reducible rfl
  rotate_left
  · simp only [Act.put, List.setIfInBounds_toArray, List.set_cons_zero, List.set_cons_succ, i64_w, i32_w]
    rfl
  refine pure_ (i := 18) (N := some 23) (v := ?_) (a' := ?_) #[true, true, true, true, true, true, true, true, true, true, true, true, true, true, true, true, true, true, true, false, false, false, false, false, false] rfl rfl (by kernel_rfl) (fun _ _ _ h => h) (Or.inl ⟨by rfl, ?_⟩) ?_ ?_
  rotate_left
  · intro w'
    go_simp
    with_reducible rfl
  rotate_left
  · simp only [Act.put, List.setIfInBounds_toArray, List.set_cons_zero, List.set_cons_succ, i64_w, i32_w]
    rfl
  refine pure_ (i := 19) (N := some 24) (v := ?_) (a' := ?_) #[true, true, true, true, true, true, true, true, true, true, true, true, true, true, true, true, true, true, true, true, false, false, false, false, false] rfl rfl (by kernel_rfl) (fun _ _ _ h => h) (Or.inl ⟨by rfl, ?_⟩) ?_ ?_
  rotate_left
  · intro w'
    go_simp
    with_reducible rfl
  rotate_left
  · simp only [Act.put, List.setIfInBounds_toArray, List.set_cons_zero, List.set_cons_succ, i64_w, i32_w]
    rfl
  refine pure_ (i := 20) (N := some 25) (v := ?_) (a' := ?_) #[true, true, true, true, true, true, true, true, true, true, true, true, true, true, true, true, true, true, true, true, true, false, false, false, false] rfl rfl (by kernel_rfl) (fun _ _ _ h => h) (Or.inl ⟨by rfl, ?_⟩) ?_ ?_
  rotate_left
  · intro w'
    go_simp
    with_reducible rfl
  rotate_left
  · simp only [Act.put, List.setIfInBounds_toArray, List.set_cons_zero, List.set_cons_succ, i64_w, i32_w]
    rfl
  refine last_ (i := 21) (N := none) #[true, true, true, true, true, true, true, true, true, true, true, true, true, true, true, true, true, true, true, true, true, true, false, false, false] rfl rfl (by kernel_rfl) (by decide) (fun K hK => ?_)
  have hc1 := cell_of HG.out (j := 1) (v := .slice A9 l.length c9) rfl
  have hf1 := frozen_of HG.out 1
  refine skip_ (w1 := ?_) (by rfl) rfl ?_ ?_
  rotate_left
  · go_simp
    rfl
  refine hK.out _ _ ?_
  clear hK K
  refine norm_ (a' := ?_) ?_ ?_
  rotate_left
  · rfl
  refine pure_ (i := 22) (N := some 26) (v := ?_) (a' := ?_) #[true, true, true, true, true, true, true, true, true, true, true, true, true, true, true, true, true, true, true, true, true, true, true, false, false] rfl rfl (by kernel_rfl) (fun _ _ _ h => h) (Or.inl ⟨by rfl, ?_⟩) ?_ ?_
  rotate_left
  · intro w'
    go_simp
    with_reducible rfl
  rotate_left
  · simp only [Act.put, List.setIfInBounds_toArray, List.set_cons_zero, List.set_cons_succ, i64_w, i32_w]
    rfl
  refine pure_ (i := 23) (N := some 27) (v := ?_) (a' := ?_) #[true, true, true, true, true, true, true, true, true, true, true, true, true, true, true, true, true, true, true, true, true, true, true, true, false] rfl rfl (by kernel_rfl) (fun _ _ _ h => h) (Or.inl ⟨by rfl, ?_⟩) ?_ ?_
  rotate_left
  · intro w'
    go_simp
    with_reducible rfl
  rotate_left
  · simp only [Act.put, List.setIfInBounds_toArray, List.set_cons_zero, List.set_cons_succ, i64_w, i32_w]
    rfl
  refine last_ (i := 24) (N := none) #[true, true, true, true, true, true, true, true, true, true, true, true, true, true, true, true, true, true, true, true, true, true, true, true, true] rfl rfl (by kernel_rfl) (by decide) (fun K hK => ?_)
  have hc0 := cell_of HG.out (j := 0) (v := .bool neg) rfl
  have hf0 := frozen_of HG.out 0
  refine skip_ (w1 := ?_) (by rfl) rfl ?_ ?_
  rotate_left
  · go_simp
    rfl
  refine hK.out _ _ ?_
  clear hK K
  refine norm_ (a' := ?_) ?_ ?_
  rotate_left
  · rfl
  refine done_ (by kernel_rfl) ?_
  clear hHeld HS
  go_wp2
  go_ret
  have ho : Only g w ((w.drew.setCell ⟨g, 1, none⟩ (.slice A9 l.length c9)).setCell ⟨g, 0, none⟩ (.bool (!neg))) := (((Only.refl g w).drew).set 1 _).set 0 _
  exact ⟨rfl, ⟨.slice A9 l.length c9, heap_set_same (heap_set_same HG1.out _) _, Kd.V_only HVV.out ho (fun k hk => hk)⟩, ho⟩

set_option maxRecDepth 100000 in
set_option maxHeartbeats 2000000 in
theorem neg_nil (g : Nat) (neg : Bool) (l : List Int) (hl0 : l.length = 0) (w : World) (hI : Is w g (· ≠ g) neg l) :
    Calls Try.prog 51 #[.pointer (some ⟨g, 0, none⟩), .pointer (some ⟨g, 0, none⟩)] w fun e w' => e = .returned (.pointer (some ⟨g, 0, none⟩)) ∧ Is w' g (· ≠ g) false l ∧ Only g w w' := by
  obtain ⟨v, hg, hv⟩ := hI
  have HVV := Aside0.mk hv
  obtain ⟨A9, c9, rfl, hl, hF⟩ := hv
  have g0 : decide (0 < l.length) = false := decide_eq_false (by omega)
  have g1 : decide ((0 : Int) < (l.length : Int)) = false := decide_eq_false (by omega)
  clear hl0
  have HG := Aside0.mk hg
  have HG1 := Aside0.mk (show w.drew.heap[g]? = _ from hg)
  have HS := Aside0.mk (And.intro (cell_of (w := w.drew) hg (j := 0) (v := .bool neg) rfl) (cell_of (w := w.drew) hg (j := 1) (v := .slice A9 l.length c9) rfl))
  clear hg hF hl
  go_enter Try.func51, Try.ntmps51
  go_wp2
  refine start_ (n := 25) (S := fun w' => w'.cell? ⟨g, 0, none⟩ = some (.bool neg) ∧ w'.cell? ⟨g, 1, none⟩ = some (.slice A9 l.length c9)) (ds := [21, 24]) #[false, false, false, false, false, false, false, false, false, false, false, false, false, false, false, false, false, false, false, false, false, false, false, false, false] (by kernel_rfl) rfl rfl HS.out (fun hHeld => ?_)
  refine pure_ (i := 0) (N := some 5) (v := ?_) (a' := ?_) #[true, false, false, false, false, false, false, false, false, false, false, false, false, false, false, false, false, false, false, false, false, false, false, false, false] rfl rfl (by kernel_rfl) (fun _ _ _ h => h) (Or.inl ⟨by rfl, ?_⟩) ?_ ?_
  rotate_left
  · intro w'
    go_simp
    with_reducible rfl
  rotate_left
  · simp only [Act.put, List.setIfInBounds_toArray, List.set_cons_zero, List.set_cons_succ, i64_w, i32_w]
    rfl
  refine pure_ (i := 1) (N := some 6) (v := ?_) (a' := ?_) #[true, true, false, false, false, false, false, false, false, false, false, false, false, false, false, false, false, false, false, false, false, false, false, false, false] rfl rfl (by kernel_rfl) (fun _ _ _ h => h) (Or.inl ⟨by rfl, ?_⟩) ?_ ?_
  rotate_left
  · intro w'
    go_simp
    with_reducible rfl
  rotate_left
  · simp only [Act.put, List.setIfInBounds_toArray, List.set_cons_zero, List.set_cons_succ, i64_w, i32_w]
    rfl
  refine pure_ (i := 2) (N := some 7) (v := ?_) (a' := ?_) #[true, true, true, false, false, false, false, false, false, false, false, false, false, false, false, false, false, false, false, false, false, false, false, false, false] rfl rfl (by kernel_rfl) (fun _ _ _ h => h) (Or.inl ⟨by rfl, ?_⟩) ?_ ?_
  rotate_left
  · intro w'
    go_simp
    with_reducible rfl
  rotate_left
  · simp only [Act.put, List.setIfInBounds_toArray, List.set_cons_zero, List.set_cons_succ, i64_w, i32_w]
    rfl
  refine pure_ (i := 3) (N := some 8) (v := ?_) (a' := ?_) #[true, true, true, true, false, false, false, false, false, false, false, false, false, false, false, false, false, false, false, false, false, false, false, false, false] rfl rfl (by kernel_rfl) (fun _ _ _ h => h) (Or.inl ⟨by rfl, ?_⟩) ?_ ?_
  rotate_left
  · intro w'
    go_simp
    with_reducible rfl
  rotate_left
  · simp only [Act.put, List.setIfInBounds_toArray, List.set_cons_zero, List.set_cons_succ, i64_w, i32_w]
    rfl
  refine pure_ (i := 4) (N := some 9) (v := ?_) (a' := ?_) #[true, true, true, true, true, false, false, false, false, false, false, false, false, false, false, false, false, false, false, false, false, false, false, false, false] rfl rfl (by kernel_rfl) (fun _ _ _ h => h) (Or.inl ⟨by rfl, ?_⟩) ?_ ?_
  rotate_left
  · intro w'
    go_simp
    with_reducible rfl
  rotate_left
  · simp only [Act.put, List.setIfInBounds_toArray, List.set_cons_zero, List.set_cons_succ, i64_w, i32_w]
    rfl
  refine take_ (i := 5) (N := some 10) (v := ?_) (a' := ?_) #[true, true, true, true, true, true, false, false, false, false, false, false, false, false, false, false, false, false, false, false, false, false, false, false, false] rfl rfl (by kernel_rfl) (fun _ _ _ h => h) (Or.inl ⟨by rfl, ?_⟩) hHeld ?_ ?_
  rotate_left
  · rintro w' ⟨s0, s1⟩
    go_simp
    with_reducible rfl
  rotate_left
  · simp only [Act.put, List.setIfInBounds_toArray, List.set_cons_zero, List.set_cons_succ, i64_w, i32_w]
    rfl
  refine pure_ (i := 6) (N := some 11) (v := ?_) (a' := ?_) #[true, true, true, true, true, true, true, false, false, false, false, false, false, false, false, false, false, false, false, false, false, false, false, false, false] rfl rfl (by kernel_rfl) (fun _ _ _ h => h) (Or.inl ⟨by rfl, ?_⟩) ?_ ?_
  rotate_left
  · intro w'
    go_simp
    with_reducible rfl
  rotate_left
  · simp only [Act.put, List.setIfInBounds_toArray, List.set_cons_zero, List.set_cons_succ, i64_w, i32_w]
    rfl
  refine pure_ (i := 7) (N := some 12) (v := ?_) (a' := ?_) #[true, true, true, true, true, true, true, true, false, false, false, false, false, false, false, false, false, false, false, false, false, false, false, false, false] rfl rfl (by kernel_rfl) (fun _ _ _ h => h) (Or.inl ⟨by rfl, ?_⟩) ?_ ?_
  rotate_left
  · intro w'
    go_simp
    with_reducible rfl
  rotate_left
  · simp only [Act.put, List.setIfInBounds_toArray, List.set_cons_zero, List.set_cons_succ, i64_w, i32_w]
    rfl
  refine pure_ (i := 8) (N := some 13) (v := ?_) (a' := ?_) #[true, true, true, true, true, true, true, true, true, false, false, false, false, false, false, false, false, false, false, false, false, false, false, false, false] rfl rfl (by kernel_rfl) (fun _ _ _ h => h) (Or.inl ⟨by rfl, ?_⟩) ?_ ?_
  rotate_left
  · intro w'
    go_simp
    with_reducible rfl
  rotate_left
  · simp only [Act.put, List.setIfInBounds_toArray, List.set_cons_zero, List.set_cons_succ, i64_w, i32_w]
    rfl
  refine take_ (i := 9) (N := some 14) (v := ?_) (a' := ?_) #[true, true, true, true, true, true, true, true, true, true, false, false, false, false, false, false, false, false, false, false, false, false, false, false, false] rfl rfl (by kernel_rfl) (fun _ _ _ h => h) (Or.inl ⟨by rfl, ?_⟩) hHeld ?_ ?_
  rotate_left
  · rintro w' ⟨s0, s1⟩
    go_simp
    with_reducible rfl
  rotate_left
  · simp only [Act.put, List.setIfInBounds_toArray, List.set_cons_zero, List.set_cons_succ, i64_w, i32_w]
    rfl
  refine pure_ (i := 10) (N := some 15) (v := ?_) (a' := ?_) #[true, true, true, true, true, true, true, true, true, true, true, false, false, false, false, false, false, false, false, false, false, false, false, false, false] rfl rfl (by kernel_rfl) (fun _ _ _ h => h) (Or.inl ⟨by rfl, ?_⟩) ?_ ?_
  rotate_left
  · intro w'
    go_simp
    with_reducible rfl
  rotate_left
  · simp only [Act.put, List.setIfInBounds_toArray, List.set_cons_zero, List.set_cons_succ, i64_w, i32_w]
    rfl
  refine pure_ (i := 11) (N := some 16) (v := ?_) (a' := ?_) #[true, true, true, true, true, true, true, true, true, true, true, true, false, false, false, false, false, false, false, false, false, false, false, false, false] rfl rfl (by kernel_rfl) (fun _ _ _ h => h) (Or.inl ⟨by rfl, ?_⟩) ?_ ?_
  rotate_left
  · intro w'
    go_simp
    with_reducible rfl
  rotate_left
  · simp only [Act.put, List.setIfInBounds_toArray, List.set_cons_zero, List.set_cons_succ, i64_w, i32_w]
    rfl
  refine pure_ (i := 12) (N := some 17) (v := ?_) (a' := ?_) #[true, true, true, true, true, true, true, true, true, true, true, true, true, false, false, false, false, false, false, false, false, false, false, false, false] rfl rfl (by kernel_rfl) (fun _ _ _ h => h) (Or.inl ⟨by rfl, ?_⟩) ?_ ?_
  rotate_left
  · intro w'
    go_simp
    with_reducible rfl
  rotate_left
  · simp only [Act.put, List.setIfInBounds_toArray, List.set_cons_zero, List.set_cons_succ, i64_w, i32_w]
    rfl
  refine pure_ (i := 13) (N := some 18) (v := undef) (a' := ?_) #[true, true, true, true, true, true, true, true, true, true, true, true, true, true, false, false, false, false, false, false, false, false, false, false, false] rfl rfl (by kernel_rfl) (fun _ _ _ h => h) (Or.inr ⟨by rfl, rfl⟩) ?_ ?_
  rotate_left
  · simp only [Act.put, List.setIfInBounds_toArray, List.set_cons_zero, List.set_cons_succ, i64_w, i32_w]
    rfl
  refine pure_ (i := 14) (N := some 19) (v := undef) (a' := ?_) #[true, true, true, true, true, true, true, true, true, true, true, true, true, true, true, false, false, false, false, false, false, false, false, false, false] rfl rfl (by kernel_rfl) (fun _ _ _ h => h) (Or.inr ⟨by rfl, rfl⟩) ?_ ?_
  rotate_left
  · simp only [Act.put, List.setIfInBounds_toArray, List.set_cons_zero, List.set_cons_succ, i64_w, i32_w]
    rfl
  refine pure_ (i := 15) (N := some 20) (v := undef) (a' := ?_) #[true, true, true, true, true, true, true, true, true, true, true, true, true, true, true, true, false, false, false, false, false, false, false, false, false] rfl rfl (by kernel_rfl) (fun _ _ _ h => h) (Or.inr ⟨by rfl, rfl⟩) ?_ ?_
  rotate_left
  · simp only [Act.put, List.setIfInBounds_toArray, List.set_cons_zero, List.set_cons_succ, i64_w, i32_w]
    rfl
  refine pure_ (i := 16) (N := some 21) (v := undef) (a' := ?_) #[true, true, true, true, true, true, true, true, true, true, true, true, true, true, true, true, true, false, false, false, false, false, false, false, false] rfl rfl (by kernel_rfl) (fun _ _ _ h => h) (Or.inr ⟨by rfl, rfl⟩) ?_ ?_
  rotate_left
  · simp only [Act.put, List.setIfInBounds_toArray, List.set_cons_zero, List.set_cons_succ, i64_w, i32_w]
    rfl
  refine pure_ (i := 17) (N := some 22) (v := undef) (a' := ?_) #[true, true, true, true, true, true, true, true, true, true, true, true, true, true, true, true, true, true, false, false, false, false, false, false, false] rfl rfl (by kernel_rfl) (fun _ _ _ h => h) (Or.inr ⟨by rfl, rfl⟩) ?_ ?_
  rotate_left
  · simp only [Act.put, List.setIfInBounds_toArray, List.set_cons_zero, List.set_cons_succ, i64_w, i32_w]
    rfl
  refine pure_ (i := 18) (N := some 23) (v := ?_) (a' := ?_) #[true, true, true, true, true, true, true, true, true, true, true, true, true, true, true, true, true, true, true, false, false, false, false, false, false] rfl rfl (by kernel_rfl) (fun _ _ _ h => h) (Or.inl ⟨by rfl, ?_⟩) ?_ ?_
  rotate_left
  · intro w'
    go_simp
    with_reducible rfl
  rotate_left
  · simp only [Act.put, List.setIfInBounds_toArray, List.set_cons_zero, List.set_cons_succ, i64_w, i32_w]
    rfl
  refine pure_ (i := 19) (N := some 24) (v := ?_) (a' := ?_) #[true, true, true, true, true, true, true, true, true, true, true, true, true, true, true, true, true, true, true, true, false, false, false, false, false] rfl rfl (by kernel_rfl) (fun _ _ _ h => h) (Or.inl ⟨by rfl, ?_⟩) ?_ ?_
  rotate_left
  · intro w'
    go_simp
    with_reducible rfl
  rotate_left
  · simp only [Act.put, List.setIfInBounds_toArray, List.set_cons_zero, List.set_cons_succ, i64_w, i32_w]
    rfl
  refine pure_ (i := 20) (N := some 25) (v := ?_) (a' := ?_) #[true, true, true, true, true, true, true, true, true, true, true, true, true, true, true, true, true, true, true, true, true, false, false, false, false] rfl rfl (by kernel_rfl) (fun _ _ _ h => h) (Or.inl ⟨by rfl, ?_⟩) ?_ ?_
  rotate_left
  · intro w'
    go_simp
    with_reducible rfl
  rotate_left
  · simp only [Act.put, List.setIfInBounds_toArray, List.set_cons_zero, List.set_cons_succ, i64_w, i32_w]
    rfl
  refine last_ (i := 21) (N := none) #[true, true, true, true, true, true, true, true, true, true, true, true, true, true, true, true, true, true, true, true, true, true, false, false, false] rfl rfl (by kernel_rfl) (by decide) (fun K hK => ?_)
  have hc1 := cell_of HG.out (j := 1) (v := .slice A9 l.length c9) rfl
  have hf1 := frozen_of HG.out 1
  refine skip_ (w1 := ?_) (by rfl) rfl ?_ ?_
  rotate_left
  · go_simp
    rfl
  refine hK.out _ _ ?_
  clear hK K
  refine norm_ (a' := ?_) ?_ ?_
  rotate_left
  · rfl
  refine pure_ (i := 22) (N := some 26) (v := ?_) (a' := ?_) #[true, true, true, true, true, true, true, true, true, true, true, true, true, true, true, true, true, true, true, true, true, true, true, false, false] rfl rfl (by kernel_rfl) (fun _ _ _ h => h) (Or.inl ⟨by rfl, ?_⟩) ?_ ?_
  rotate_left
  · intro w'
    go_simp
    with_reducible rfl
  rotate_left
  · simp only [Act.put, List.setIfInBounds_toArray, List.set_cons_zero, List.set_cons_succ, i64_w, i32_w]
    rfl
  refine pure_ (i := 23) (N := some 27) (v := ?_) (a' := ?_) #[true, true, true, true, true, true, true, true, true, true, true, true, true, true, true, true, true, true, true, true, true, true, true, true, false] rfl rfl (by kernel_rfl) (fun _ _ _ h => h) (Or.inl ⟨by rfl, ?_⟩) ?_ ?_
  rotate_left
  · intro w'
    go_simp
    with_reducible rfl
  rotate_left
  · simp only [Act.put, List.setIfInBounds_toArray, List.set_cons_zero, List.set_cons_succ, i64_w, i32_w]
    rfl
  refine last_ (i := 24) (N := none) #[true, true, true, true, true, true, true, true, true, true, true, true, true, true, true, true, true, true, true, true, true, true, true, true, true] rfl rfl (by kernel_rfl) (by decide) (fun K hK => ?_)
  have hc0 := cell_of HG.out (j := 0) (v := .bool neg) rfl
  have hf0 := frozen_of HG.out 0
  refine skip_ (w1 := ?_) (by rfl) rfl ?_ ?_
  rotate_left
  · go_simp
    rfl
  refine hK.out _ _ ?_
  clear hK K
  refine norm_ (a' := ?_) ?_ ?_
  rotate_left
  · rfl
  refine done_ (by kernel_rfl) ?_
  clear hHeld HS
  go_wp2
  go_ret
  have ho : Only g w ((w.drew.setCell ⟨g, 1, none⟩ (.slice A9 l.length c9)).setCell ⟨g, 0, none⟩ (.bool false)) := (((Only.refl g w).drew).set 1 _).set 0 _
  exact ⟨rfl, ⟨.slice A9 l.length c9, heap_set_same (heap_set_same HG1.out _) _, Kd.V_only HVV.out ho (fun k hk => hk)⟩, ho⟩

set_option maxHeartbeats 1000000 in
theorem sign (g : Nat) (ok : Nat → Prop) (neg : Bool) (l : List Int) (w : World) (hI : Is w g ok neg l) :
    Calls Try.prog 27 #[.pointer (some ⟨g, 0, none⟩)] w fun e w' => e = .returned (.int .i64 (if l.length = 0 then 0 else if neg = true then -1 else 1)) ∧ w' = w := by
  obtain ⟨v, hg, hv⟩ := hI
  obtain ⟨A9, c9, rfl, hl, hF⟩ := hv
  have hc0 := cell_of hg (j := 0) (v := .bool neg) rfl
  have hc1 := cell_of hg (j := 1) (v := .slice A9 l.length c9) rfl
  clear hg hF hl
  by_cases h : l.length = 0
  · have e : (if l.length = 0 then (0 : Int) else if neg = true then -1 else 1) = 0 := if_pos h
    rw [e]
    have g0 : ((l.length : Int) == 0) = true := by simp; exact List.eq_nil_of_length_eq_zero h
    have g1 : (l.length == 0) = true := by simp; exact List.eq_nil_of_length_eq_zero h
    go_enter Try.func27, Try.ntmps27
    go_wp2
    go_ret
    exact ⟨rfl, rfl⟩
  · have hne : l ≠ [] := fun e => h (by rw [e]; rfl)
    have g0 : ((l.length : Int) == 0) = false := by simp; exact hne
    have g1 : (l.length == 0) = false := by simp; exact hne
    cases neg with
    | true =>
      have e : (if l.length = 0 then (0 : Int) else if true = true then -1 else 1) = -1 := by rw [if_neg h, if_pos rfl]
      rw [e]
      go_enter Try.func27, Try.ntmps27
      go_wp2
      go_ret
      exact ⟨rfl, rfl⟩
    | false =>
      have e : (if l.length = 0 then (0 : Int) else if false = true then -1 else 1) = 1 := by rw [if_neg h, if_neg (by decide)]
      rw [e]
      go_enter Try.func27, Try.ntmps27
      go_wp2
      go_ret
      exact ⟨rfl, rfl⟩
end Go.Proofs.Ytigpdgfhngknhaa.Big
/- Contracts of FillBytes and Bytes of the package's whole numbers. -/
namespace Go.Proofs.Ytigpdgfhngknhaa.Big
open Go.RowKit Go.Proofs.YtigpdgfhngknhaaW.PrintWords Go.Proofs.YtigpdgfhngknhaaW.PrintLast Go.Proofs.YtigpdgfhngknhaaW.PrintMore Go.Proofs.Ytigpdgfhngknhaa.QFnProofFault
set_option linter.unusedVariables false
set_option linter.unusedSimpArgs false

/-- The k-th byte of a number, the least first. -/
def byteAt (l : List Int) (k : Nat) : Int := l.getD (k / 4) 0 / 2 ^ (8 * (k % 4)) % 256
/-- Its last n bytes, the highest first. -/
def bytesOf (l : List Int) (n : Nat) : List Int := (List.range n).map fun i => byteAt l (n - 1 - i)
theorem bytesOf_length (l : List Int) (n : Nat) : (bytesOf l n).length = n := by simp [bytesOf]
def part (l xs : List Int) (n i : Nat) : List Int := (bytesOf l n).take i ++ xs.drop i
theorem part_length (l xs : List Int) (n i : Nat) (hx : xs.length = n) (hi : i ≤ n) : (part l xs n i).length = n := by
  simp [part, bytesOf_length, hx]; omega
theorem part_set (l xs : List Int) (n i : Nat) (hx : xs.length = n) (hi : i < n) : (part l xs n i).set i (byteAt l (n - 1 - i)) = part l xs n (i + 1) := by
  have hl := bytesOf_length l n
  apply List.ext_getElem?
  intro j
  unfold part
  have h1 : ((bytesOf l n).take i).length = i := by rw [List.length_take]; omega
  have h2 : ((bytesOf l n).take (i + 1)).length = i + 1 := by rw [List.length_take]; omega
  rw [List.getElem?_set]
  by_cases hj : i = j
  · subst hj
    rw [if_pos rfl, if_pos (by rw [List.length_append, h1, List.length_drop]; omega), List.getElem?_append_left (by omega), List.getElem?_take_of_lt (by omega)]
    simp [bytesOf, hi]
  · rw [if_neg hj]
    rcases Nat.lt_or_ge j i with h | h
    · rw [List.getElem?_append_left (by omega), List.getElem?_append_left (by omega), List.getElem?_take_of_lt h, List.getElem?_take_of_lt (by omega)]
    · rw [List.getElem?_append_right (by omega), List.getElem?_append_right (by omega), h1, h2, List.getElem?_drop, List.getElem?_drop]
      congr 1; omega
theorem part_set2 (l xs : List Int) (n i : Nat) (hx : xs.length = n) (hi : i < n) : ((part l xs n i).set i 0).set i (byteAt l (n - 1 - i)) = part l xs n (i + 1) := by
  rw [List.set_set]; exact part_set l xs n i hx hi
theorem byteAt_none (l : List Int) (k : Nat) (h : l.length ≤ k / 4) : byteAt l k = 0 := by
  unfold byteAt; rw [List.getD_eq_getElem?_getD, List.getElem?_eq_none h]; simp

end Go.Proofs.Ytigpdgfhngknhaa.Big
/- Numbers by bytes, the highest first, and by digits of 32 bits, the least first: plain lists and integers. -/
namespace Go.Proofs.Ytigpdgfhngknhaa.Big
open Go.RowKit Go.Proofs.YtigpdgfhngknhaaW.PrintWords Go.Proofs.YtigpdgfhngknhaaW.PrintLast Go.Proofs.YtigpdgfhngknhaaW.PrintMore Go.Proofs.Ytigpdgfhngknhaa.QFnProofFault
set_option linter.unusedVariables false

theorem w64 {x : Int} (h0 : -9223372036854775808 ≤ x) (h1 : x ≤ 9223372036854775807) : wrap64 x = x := by unfold wrap64; omega
theorem u64w {x : Int} (h0 : 0 ≤ x) (h1 : x < 18446744073709551616) : IntKind.u64.wrap x = x := by simp [IntKind.wrap, IntKind.signed, IntKind.bits]; omega
theorem pow_pos2 (n : Nat) : (0 : Int) < 2 ^ n := Int.pow_pos (by decide)
theorem pow_pos256 (n : Nat) : (0 : Int) < 256 ^ n := Int.pow_pos (by decide)
theorem pow256 (n : Nat) : (256 : Int) ^ n = 2 ^ (8 * n) := by rw [Int.pow_mul]; rfl
theorem pow_le2 {a b : Nat} (h : a ≤ b) : (2 : Int) ^ a ≤ 2 ^ b := by
  obtain ⟨c, rfl⟩ := Nat.exists_eq_add_of_le h
  have h1 := pow_pos2 a
  have h2 := pow_pos2 c
  rw [Int.pow_add]
  have := Int.mul_le_mul_of_nonneg_left (show (1 : Int) ≤ 2 ^ c by omega) (Int.le_of_lt h1)
  omega
theorem pow_le256 {a b : Nat} (h : a ≤ b) : (256 : Int) ^ a ≤ 256 ^ b := by rw [pow256, pow256]; exact pow_le2 (by omega)

/-! bytes, the highest first -/
def vB : List Int → Int
  | [] => 0
  | x :: xs => x * 256 ^ xs.length + vB xs
def Bytes (b : List Int) : Prop := ∀ d ∈ b, 0 ≤ d ∧ d < 256
theorem vB_range {b : List Int} (h : Bytes b) : 0 ≤ vB b ∧ vB b < 256 ^ b.length := by
  induction b with
  | nil => simp [vB]
  | cons x xs ih =>
    have h1 := ih (fun d hd => h d (List.mem_cons_of_mem _ hd))
    have h0 := h x List.mem_cons_self
    have hp := pow_pos256 xs.length
    have h2 : x * 256 ^ xs.length ≤ 255 * 256 ^ xs.length := Int.mul_le_mul_of_nonneg_right (by omega) (Int.le_of_lt hp)
    have h3 : 0 ≤ x * 256 ^ xs.length := Int.mul_nonneg h0.1 (Int.le_of_lt hp)
    rw [vB, List.length_cons, Int.pow_succ]
    omega
theorem vB_append (a b : List Int) : vB (a ++ b) = vB a * 256 ^ b.length + vB b := by
  induction a with
  | nil => simp [vB]
  | cons x xs ih =>
    rw [List.cons_append, vB, ih, vB, List.length_append, Int.pow_add, Int.add_mul, Int.mul_assoc]; omega
theorem uniq {a : List Int} : ∀ {b : List Int}, Bytes a → Bytes b → a.length = b.length → vB a = vB b → a = b := by
  induction a with
  | nil => intro b _ _ hl _; exact (List.eq_nil_of_length_eq_zero hl.symm).symm
  | cons x xs ih =>
    intro b ha hb hl hv
    cases b with
    | nil => simp at hl
    | cons y ys =>
      have hl' : xs.length = ys.length := by simpa using hl
      have h1 := vB_range (b := xs) (fun d hd => ha d (List.mem_cons_of_mem _ hd))
      have h2 := vB_range (b := ys) (fun d hd => hb d (List.mem_cons_of_mem _ hd))
      rw [vB, vB, hl'] at hv
      rw [hl'] at h1
      have hp := pow_pos256 ys.length
      have e1 : (x * 256 ^ ys.length + vB xs) / 256 ^ ys.length = x := by rw [Int.add_comm, Int.add_mul_ediv_right _ _ (by omega), Int.ediv_eq_zero_of_lt h1.1 h1.2]; omega
      have e2 : (y * 256 ^ ys.length + vB ys) / 256 ^ ys.length = y := by rw [Int.add_comm, Int.add_mul_ediv_right _ _ (by omega), Int.ediv_eq_zero_of_lt h2.1 h2.2]; omega
      have e : x = y := by rw [← e1, hv, e2]
      subst e
      have hv2 : vB xs = vB ys := by omega
      rw [ih (fun d hd => ha d (List.mem_cons_of_mem _ hd)) (fun d hd => hb d (List.mem_cons_of_mem _ hd)) hl' hv2]
/-- no zero ahead. -/
def Lead (b : List Int) : Prop := ∀ x xs, b = x :: xs → x ≠ 0
theorem lead_ge {b : List Int} (h : Bytes b) (hl : Lead b) (n : Nat) (hn : n < b.length) : 256 ^ n ≤ vB b := by
  cases b with
  | nil => simp at hn
  | cons x xs =>
    have h0 := h x List.mem_cons_self
    have h1 := hl x xs rfl
    have h2 := vB_range (b := xs) (fun d hd => h d (List.mem_cons_of_mem _ hd))
    have h3 : (256 : Int) ^ n ≤ 256 ^ xs.length := pow_le256 (by simp at hn; omega)
    have h4 : 1 * 256 ^ xs.length ≤ x * 256 ^ xs.length := Int.mul_le_mul_of_nonneg_right (by omega) (Int.le_of_lt (pow_pos256 _))
    rw [vB]; omega
theorem uniq2 {a b : List Int} (ha : Bytes a) (hb : Bytes b) (la : Lead a) (lb : Lead b) (hv : vB a = vB b) : a = b := by
  have h1 := vB_range ha
  have h2 := vB_range hb
  rcases Nat.lt_trichotomy a.length b.length with h | h | h
  · have := lead_ge hb lb a.length h; omega
  · exact uniq ha hb h hv
  · have := lead_ge ha la b.length h; omega
def trimL (b : List Int) : List Int := b.dropWhile (· == 0)
theorem trimL_bytes {b : List Int} (h : Bytes b) : Bytes (trimL b) := fun d hd => h d ((List.dropWhile_sublist _).mem hd)
theorem trimL_len (b : List Int) : (trimL b).length ≤ b.length := (List.dropWhile_sublist _).length_le
theorem trimL_lead (b : List Int) : Lead (trimL b) := by
  induction b with
  | nil => intro x xs h; simp [trimL] at h
  | cons y ys ih =>
    intro x xs h
    unfold trimL at h
    rw [List.dropWhile_cons] at h
    by_cases hy : (y == 0) = true
    · rw [if_pos hy] at h; exact ih x xs h
    · rw [if_neg hy] at h
      injection h with h1 h2
      subst h1
      simpa using hy
theorem trimL_vB (b : List Int) : vB (trimL b) = vB b := by
  induction b with
  | nil => rfl
  | cons y ys ih =>
    unfold trimL at *
    rw [List.dropWhile_cons]
    by_cases hy : (y == 0) = true
    · rw [if_pos hy, ih]; simp at hy; subst hy; simp [vB]
    · rw [if_neg hy]
theorem vB_zero {b : List Int} (h : Bytes b) (hl : Lead b) : vB b = 0 ↔ b = [] := by
  constructor
  · intro hv
    cases b with
    | nil => rfl
    | cons x xs => have := lead_ge h hl 0 (by simp); omega
  · intro e; subst e; rfl
theorem ev_trim (b : List Int) (hb : b.length < 1000000) : Ev (fun k => spec_trim.f k b) (trimL b) := by
  have key : ∀ d i, i + d = b.length → Ev (fun k => spec_trim.l0 k b i) (trimL (b.drop i)) := by
    intro d
    induction d with
    | zero =>
      intro i hi
      refine Ev.step (fun k => ?_) (Ev.now _)
      rw [spec_trim.l0, if_neg (by omega)]
      have : b.drop i = [] := List.drop_of_length_le (by omega)
      simp [this, trimL]; omega
    | succ d ih =>
      intro i hi
      have hx : i < b.length := by omega
      have e : b.drop i = b[i] :: b.drop (i + 1) := List.drop_eq_getElem_cons hx
      have e2 : rd b i = b[i] := by simp [rd, hx]
      by_cases c : b[i] = 0
      · refine Ev.step (fun k => ?_) (show Ev (fun k => spec_trim.l0 k b ((i + 1 : Nat) : Int)) (trimL (b.drop i)) by
          have h := ih (i + 1) (by omega)
          rw [e]; unfold trimL; rw [List.dropWhile_cons, if_pos (by simp [c])]; exact h)
        rw [spec_trim.l0, if_pos (by omega), if_pos (by omega), e2, if_pos c, w64 (by omega) (by omega)]; rfl
      · refine Ev.step (fun k => ?_) (Ev.now _)
        have e3 : trimL (b.drop i) = b.drop i := by rw [e]; unfold trimL; rw [List.dropWhile_cons, if_neg (by simp [c])]
        rw [spec_trim.l0, if_pos (by omega), if_pos (by omega), e2, if_neg c, e3]
        simp; omega
  exact key b.length 0 (by omega)

/-! digits of 32 bits, the least first -/
def nv : List Int → Int
  | [] => 0
  | x :: xs => x + 4294967296 * nv xs
def Dig (l : List Int) : Prop := ∀ x ∈ l, 0 ≤ x ∧ x < 4294967296
/-- the highest digit is not zero. -/
def Top (l : List Int) : Prop := ∀ a x, l = a ++ [x] → x ≠ 0
theorem nv_append (a b : List Int) : nv (a ++ b) = nv a + 2 ^ (32 * a.length) * nv b := by
  induction a with
  | nil => simp [nv]
  | cons x xs ih =>
    rw [List.cons_append, nv, ih, nv, List.length_cons, Nat.mul_succ, Int.pow_add, Int.mul_add]
    rw [show (2 : Int) ^ 32 = 4294967296 from rfl, Int.mul_comm (2 ^ (32 * xs.length)) 4294967296, Int.mul_assoc]; omega
theorem nv_range {l : List Int} (h : Dig l) : 0 ≤ nv l ∧ nv l < 2 ^ (32 * l.length) := by
  induction l with
  | nil => simp [nv]
  | cons x xs ih =>
    have h1 := ih (fun d hd => h d (List.mem_cons_of_mem _ hd))
    have h0 := h x List.mem_cons_self
    rw [nv, List.length_cons, Nat.mul_succ, Int.pow_add, show (2 : Int) ^ 32 = 4294967296 from rfl]
    omega
theorem byteAt_nv (l : List Int) (h : Dig l) : ∀ k, byteAt l k = nv l / 256 ^ k % 256 := by
  induction l with
  | nil => intro k; simp [byteAt, nv]
  | cons x xs ih =>
    intro k
    have h0 := h x List.mem_cons_self
    rcases Nat.lt_or_ge k 4 with hk | hk
    · have e1 : byteAt (x :: xs) k = x / 256 ^ k % 256 := by
        unfold byteAt
        rw [show k / 4 = 0 by omega, show k % 4 = k by omega, pow256]; rfl
      rw [e1, nv]
      obtain ⟨j, hj⟩ : ∃ j, 4 = k + (j + 1) := ⟨3 - k, by omega⟩
      have e2 : (4294967296 : Int) = 256 ^ k * (256 ^ j * 256) := by rw [← Int.pow_succ, ← Int.pow_add, ← hj]; rfl
      rw [e2, Int.mul_assoc, Int.mul_comm (256 ^ k), Int.add_mul_ediv_right _ _ (Int.ne_of_gt (pow_pos256 k))]
      rw [show 256 ^ j * 256 * nv xs = (256 ^ j * nv xs) * 256 by rw [Int.mul_assoc, Int.mul_comm 256, ← Int.mul_assoc], Int.add_mul_emod_self_right]
    · have e1 : byteAt (x :: xs) k = byteAt xs (k - 4) := by
        unfold byteAt
        rw [show k / 4 = (k - 4) / 4 + 1 by omega, show (k - 4) % 4 = k % 4 by omega]; rfl
      rw [e1, ih (fun d hd => h d (List.mem_cons_of_mem _ hd)), nv]
      obtain ⟨j, rfl⟩ : ∃ j, k = 4 + j := ⟨k - 4, by omega⟩
      rw [show 4 + j - 4 = j by omega, Int.pow_add, ← Int.ediv_ediv_of_nonneg (Int.le_of_lt (pow_pos256 4))]
      rw [show (256 : Int) ^ 4 = 4294967296 from rfl, Int.mul_comm 4294967296, Int.add_mul_ediv_right _ _ (by decide), Int.ediv_eq_zero_of_lt h0.1 h0.2, Int.zero_add]
theorem bytesOf_succ (l : List Int) (n : Nat) : bytesOf l (n + 1) = byteAt l n :: bytesOf l n := by
  unfold bytesOf
  rw [List.range_succ_eq_map, List.map_cons, List.map_map]
  congr 1
  apply List.map_congr_left
  intro i hi
  rw [List.mem_range] at hi
  show byteAt l (n + 1 - 1 - (i + 1)) = byteAt l (n - 1 - i)
  congr 1; omega
theorem bytesOf_bytes (l : List Int) (n : Nat) : Bytes (bytesOf l n) := fun d hd => by
  unfold bytesOf at hd
  obtain ⟨i, _, rfl⟩ := List.mem_map.1 hd
  unfold byteAt
  omega
theorem bytesOf_vB (l : List Int) (h : Dig l) (n : Nat) : vB (bytesOf l n) = nv l % 256 ^ n := by
  induction n with
  | zero => simp [bytesOf, vB, Int.emod_one]
  | succ n ih =>
    rw [bytesOf_succ, vB, bytesOf_length, ih, byteAt_nv l h]
    have hp := pow_pos256 n
    have h1 := Int.mul_ediv_add_emod (nv l) (256 ^ n)
    have h2 := Int.mul_ediv_add_emod (nv l / 256 ^ n) 256
    have h6 := Int.mul_ediv_add_emod (nv l) (256 ^ (n + 1))
    have h5 : nv l / 256 ^ (n + 1) = nv l / 256 ^ n / 256 := by rw [Int.pow_succ, ← Int.ediv_ediv_of_nonneg (Int.le_of_lt hp)]
    rw [h5] at h6
    generalize nv l / 256 ^ n = y at *
    generalize y / 256 = z at *
    generalize y % 256 = b at *
    rw [Int.pow_succ] at h6 ⊢
    generalize nv l % 256 ^ n = m at *
    generalize (256 : Int) ^ n = p at *
    subst h2
    rw [show p * 256 * z = 256 * (p * z) by rw [Int.mul_comm p 256, Int.mul_assoc]] at h6
    rw [Int.mul_add, show p * (256 * z) = 256 * (p * z) by rw [← Int.mul_assoc, Int.mul_comm p 256, Int.mul_assoc], Int.mul_comm p b] at h1
    omega
theorem ev_norm (n : Nat) : ∀ l : List Int, l.length = n → l.length < 1000000 → Dig l → ∃ r, Ev (fun k => smallbig_nat_norm.f k l) r ∧ nv r = nv l ∧ Dig r ∧ Top r ∧ r.length ≤ l.length := by
  induction n with
  | zero =>
    intro l hl _ hd
    have : l = [] := List.eq_nil_of_length_eq_zero hl
    subst this
    refine ⟨[], Ev.step (fun k => ?_) (Ev.now _), rfl, hd, fun a x h => by simp at h, Nat.le_refl _⟩
    rw [smallbig_nat_norm.f, smallbig_nat_norm.l0, if_neg (by simp)]
  | succ n ih =>
    intro l hl hb hd
    obtain ⟨a, x, rfl⟩ : ∃ a x, l = a ++ [x] := ⟨l.dropLast, l.getLast (by intro h; subst h; simp at hl), (List.dropLast_concat_getLast _).symm⟩
    have hla : a.length = n := by simp at hl; exact hl
    have e1 : wrap64 (((a ++ [x]).length : Int) - 1) = (a.length : Int) := by
      have : ((a ++ [x]).length : Int) = a.length + 1 := by simp
      rw [w64 (by omega) (by omega)]; omega
    have e2 : rd (a ++ [x]) (a.length : Int) = x := by simp [rd]
    have hlen : ((a ++ [x]).length : Int) = a.length + 1 := by simp
    by_cases c : x = 0
    · obtain ⟨r, h1, h2, h3, h4, h5⟩ := ih a hla (by simp at hb; omega) (fun d hd' => hd d (List.mem_append_left _ hd'))
      refine ⟨r, Ev.step (fun k => ?_) h1, ?_, h3, h4, by simp; omega⟩
      · rw [smallbig_nat_norm.f, smallbig_nat_norm.l0, if_pos (by omega), e1, if_pos (by omega), if_pos (by omega), e2, if_pos c, if_pos (by omega)]
        rw [Int.toNat_natCast, List.take_left]; rfl
      · rw [h2, nv_append, c]; simp [nv]
    · refine ⟨a ++ [x], Ev.step (fun k => ?_) (Ev.now _), rfl, hd, ?_, Nat.le_refl _⟩
      · rw [smallbig_nat_norm.f, smallbig_nat_norm.l0, if_pos (by omega), e1, if_pos (by omega), if_pos (by omega), e2, if_neg c]
      · intro b y h
        have := List.append_inj' h rfl
        have h2 := this.2
        injection h2 with h2
        rw [← h2]; exact c
theorem ev_natOf (x : Int) (h0 : 0 ≤ x) (h1 : x < 18446744073709551616) : ∃ r, Ev (fun k => smallbig_natOf.f k x) r ∧ nv r = x ∧ Dig r ∧ Top r ∧ r.length ≤ 2 := by
  obtain ⟨r, e1, e2, e3, e4, e5⟩ := ev_norm 2 [x % 4294967296, (x / 4294967296) % 4294967296] rfl (by simp) (by
    intro d hd
    simp at hd
    rcases hd with rfl | rfl <;> omega)
  refine ⟨r, Ev.congr (fun k => ?_) (Ev.bind (f := fun _ t151 => some t151) e1 (Ev.now _)), ?_, e3, e4, e5⟩
  · unfold smallbig_natOf.f; rfl
  · rw [e2]; simp only [nv]; omega
/-- so Bytes tells the number, with no zero ahead. -/
theorem bytes_of (l : List Int) (hd : Dig l) (b : Nat) (h1 : nv l < 2 ^ b) (h2 : 0 < nv l → 2 ^ b ≤ 2 * nv l) (h3 : nv l = 0 → b = 0) :
    vB (bytesOf l (((b : Int) + 7) / 8).toNat) = nv l ∧ Lead (bytesOf l (((b : Int) + 7) / 8).toNat) := by
  obtain ⟨n, hn⟩ : ∃ n, (((b : Int) + 7) / 8).toNat = n := ⟨_, rfl⟩
  rw [hn]
  have hr := nv_range hd
  have hv := bytesOf_vB l hd n
  have hle : (2 : Int) ^ b ≤ 256 ^ n := by rw [pow256]; exact pow_le2 (by omega)
  rw [Int.emod_eq_of_lt hr.1 (by omega)] at hv
  refine ⟨hv, ?_⟩
  intro x xs he hx
  cases n with
  | zero => simp [bytesOf] at he
  | succ n =>
    rw [bytesOf_succ] at he
    injection he with he1 he2
    have h0 : vB (bytesOf l (n + 1)) = vB (bytesOf l n) := by rw [bytesOf_succ, vB, he1, hx]; omega
    have h4 := vB_range (bytesOf_bytes l n)
    rw [bytesOf_length] at h4
    rw [hv] at h0
    rcases (show nv l = 0 ∨ 0 < nv l by omega) with h | h
    · have := h3 h; omega
    · have h5 := h2 h
      have h6 : (256 : Int) ^ n * 2 ≤ 2 ^ b := by
        rw [pow256, ← Int.pow_succ]
        exact pow_le2 (by omega)
      omega
end Go.Proofs.Ytigpdgfhngknhaa.Big
/- SetBytes of the package's whole numbers. -/
namespace Go.Proofs.Ytigpdgfhngknhaa.Big
open Go.RowKit Go.Proofs.YtigpdgfhngknhaaW.PrintWords Go.Proofs.YtigpdgfhngknhaaW.PrintLast Go.Proofs.YtigpdgfhngknhaaW.PrintMore Go.Proofs.Ytigpdgfhngknhaa.QFnProofFault
set_option linter.unusedVariables false
set_option linter.unusedSimpArgs false

/-- m digits of a number. -/
def dg (V : Int) (m : Nat) : List Int := (List.range m).map fun j => V / 2 ^ (32 * j) % 4294967296
theorem dg_length (V : Int) (m : Nat) : (dg V m).length = m := by simp [dg]
theorem dg_Dig (V : Int) (m : Nat) : Dig (dg V m) := fun d hd => by
  unfold dg at hd
  obtain ⟨j, _, rfl⟩ := List.mem_map.1 hd
  omega
theorem dg_zero (m : Nat) : dg 0 m = List.replicate m 0 := by
  apply List.ext_getElem
  · simp [dg]
  · intro i h1 h2
    simp [dg]
theorem dg_get (V : Int) (m j : Nat) (h : j < m) : (dg V m).getD j 0 = V / 2 ^ (32 * j) % 4294967296 := by
  rw [List.getD_eq_getElem?_getD]; simp [dg, h]
theorem dg_nv (m : Nat) : ∀ V : Int, nv (dg V m) = V % 2 ^ (32 * m) := by
  induction m with
  | zero => intro V; simp [dg, nv, Int.emod_one]
  | succ m ih =>
    intro V
    have e : dg V (m + 1) = (V % 4294967296) :: dg (V / 4294967296) m := by
      unfold dg
      rw [List.range_succ_eq_map, List.map_cons, List.map_map]
      congr 1
      · simp
      · apply List.map_congr_left
        intro j _
        show V / 2 ^ (32 * (j + 1)) % 4294967296 = _
        rw [Nat.mul_succ, Nat.add_comm, Int.pow_add, ← Int.ediv_ediv_of_nonneg (Int.le_of_lt (pow_pos2 32))]; rfl
    rw [e, nv, ih, Nat.mul_succ, Nat.add_comm, Int.pow_add, show (2 : Int) ^ 32 = 4294967296 from rfl]
    have hp := pow_pos2 (32 * m)
    have h1 := Int.mul_ediv_add_emod V 4294967296
    have h2 := Int.mul_ediv_add_emod (V / 4294967296) (2 ^ (32 * m))
    have h3 := Int.emod_nonneg (V / 4294967296) (Int.ne_of_gt hp)
    have h4 := Int.emod_lt_of_pos (V / 4294967296) hp
    have h5 := Int.emod_nonneg V (show (4294967296 : Int) ≠ 0 by decide)
    have h6 := Int.emod_lt_of_pos V (show (0 : Int) < 4294967296 by decide)
    generalize V / 4294967296 = y at *
    generalize V % 4294967296 = x at *
    have e3 : V = (x + 4294967296 * (y % 2 ^ (32 * m))) + (y / 2 ^ (32 * m)) * (4294967296 * 2 ^ (32 * m)) := by
      rw [← h1]
      conv => lhs; rw [← h2]
      rw [Int.mul_add, ← Int.mul_assoc, Int.mul_comm (y / 2 ^ (32 * m)) (4294967296 * 2 ^ (32 * m))]; omega
    generalize hq : y / 2 ^ (32 * m) = q at *
    generalize y % 2 ^ (32 * m) = z at *
    generalize (2 : Int) ^ (32 * m) = p at *
    conv => rhs; rw [e3, Int.add_mul_emod_self_right]
    rw [Int.emod_eq_of_lt (by omega) (by omega)]

theorem or_low (a c : Int) (r : Nat) (ha : a % 2 ^ (r + 8) = 0) (ha0 : 0 ≤ a) (ha1 : a < 4294967296) (hc0 : 0 ≤ c) (hc : c < 256) (hr : r ≤ 24) : Go.bits .or .u32 a (c * 2 ^ r) = a + c * 2 ^ r := by
  have hp := pow_pos2 r
  have hb : c * 2 ^ r < 2 ^ (r + 8) := by
    rw [Int.pow_add, show (2 : Int) ^ 8 = 256 from rfl, Int.mul_comm]
    exact Int.mul_lt_mul_of_pos_left hc hp
  have hq : (2 : Int) ^ (r + 8) ≤ 4294967296 := pow_le2 (a := r + 8) (b := 32) (by omega)
  exact bits_join .u32 32 (by decide) (fun n h0 h1 => by simp [IntKind.wrap, IntKind.signed, IntKind.bits]; omega) (r + 8) a (c * 2 ^ r) ha0 ha (by omega) (Int.mul_nonneg hc0 (by omega)) hb (by omega)

theorem q_div (K : Nat) (h : K ≤ 1000000) : wrap64 ((K : Int) / 4) = ((K / 4 : Nat) : Int) := by rw [w64 (by omega) (by omega)]; omega
theorem q_mod (K : Nat) (h : K ≤ 1000000) : Int.tmod (K : Int) 4 = ((K % 4 : Nat) : Int) := by rw [Int.tmod_eq_emod_of_nonneg (by omega)]; omega
theorem q_shl (c : Int) (r : Nat) (h0 : 0 ≤ c) (h1 : c < 256) (hr : r ≤ 24) : IntKind.u32.wrap (c * 2 ^ r) = c * 2 ^ r := by
  have hp := pow_pos2 r
  have hq : (2 : Int) ^ (r + 8) ≤ 4294967296 := pow_le2 (a := r + 8) (b := 32) (by omega)
  have hb : c * 2 ^ r < 2 ^ (r + 8) := by
    rw [Int.pow_add, show (2 : Int) ^ 8 = 256 from rfl, Int.mul_comm]
    exact Int.mul_lt_mul_of_pos_left h1 hp
  have := Int.mul_nonneg h0 (Int.le_of_lt hp)
  generalize c * 2 ^ r = y at *
  simp [IntKind.wrap, IntKind.signed, IntKind.bits]; omega
theorem q_mul (K : Nat) : wrap64 (8 * ((K % 4 : Nat) : Int)) = ((8 * (K % 4) : Nat) : Int) := by rw [w64 (by omega) (by omega)]; omega
theorem q_wrap (c : Int) (K : Nat) (h0 : 0 ≤ c) (h1 : c < 256) : IntKind.u32.wrap c = c := by simp [IntKind.wrap, IntKind.signed, IntKind.bits]; omega
theorem dg_zero_at (X : Int) (a j : Nat) (h : 32 * j + 32 ≤ a) : X * 2 ^ a / 2 ^ (32 * j) % 4294967296 = 0 := by
  rw [show a = (a - (32 * j + 32)) + 32 + 32 * j by omega, Int.pow_add, Int.pow_add, ← Int.mul_assoc, ← Int.mul_assoc, Int.mul_ediv_cancel _ (Int.ne_of_gt (pow_pos2 _))]
  exact Int.mul_emod_left _ _
theorem dg_high_at (X : Int) (a j : Nat) (h : a ≤ 32 * j) : X * 2 ^ a / 2 ^ (32 * j) = X / 2 ^ (32 * j - a) := by
  conv => lhs; rw [show 32 * j = a + (32 * j - a) by omega]
  rw [Int.pow_add, ← Int.ediv_ediv_of_nonneg (Int.le_of_lt (pow_pos2 a)), Int.mul_ediv_cancel _ (Int.ne_of_gt (pow_pos2 _))]
theorem dg_mid_at (X : Int) (r j : Nat) : X * 2 ^ (32 * j + r) / 2 ^ (32 * j) = X * 2 ^ r := by
  rw [Nat.add_comm, Int.pow_add, ← Int.mul_assoc, Int.mul_ediv_cancel _ (Int.ne_of_gt (pow_pos2 _))]
theorem dg_set (T c : Int) (k m : Nat) (hk : k / 4 < m) (hc0 : 0 ≤ c) (hc : c < 256) :
    dg ((T * 256 + c) * 2 ^ (8 * k)) m = (dg (T * 2 ^ (8 * k + 8)) m).set (k / 4) ((dg (T * 2 ^ (8 * k + 8)) m).getD (k / 4) 0 + c * 2 ^ (8 * (k % 4))) := by
  apply List.ext_getElem
  · simp [dg]
  · intro j h1 h2
    rw [dg_length] at h1
    rw [List.getElem_set]
    by_cases hj : k / 4 = j
    · subst hj
      rw [if_pos rfl, dg_get _ _ _ hk]
      simp only [dg, List.getElem_map, List.getElem_range]
      have e := Nat.div_add_mod k 4
      have hr : k % 4 < 4 := Nat.mod_lt _ (by decide)
      generalize k % 4 = r at *
      generalize k / 4 = j at *
      rw [show 8 * k = 32 * j + 8 * r by omega, Nat.add_assoc, dg_mid_at, dg_mid_at]
      rcases (by omega : r = 0 ∨ r = 1 ∨ r = 2 ∨ r = 3) with rfl | rfl | rfl | rfl
      · show (T * 256 + c) * 1 % _ = T * 256 % _ + c * 1
        omega
      · show (T * 256 + c) * 256 % _ = T * 65536 % _ + c * 256
        omega
      · show (T * 256 + c) * 65536 % _ = T * 16777216 % _ + c * 65536
        omega
      · show (T * 256 + c) * 16777216 % _ = T * 4294967296 % _ + c * 16777216
        omega
    · rw [if_neg hj]
      simp only [dg, List.getElem_map, List.getElem_range]
      rcases Nat.lt_or_gt_of_ne hj with h | h
      · congr 1
        rw [dg_high_at _ _ _ (by omega), dg_high_at _ _ _ (by omega), show 32 * j - 8 * k = 8 + (32 * j - (8 * k + 8)) by omega, Int.pow_add, ← Int.ediv_ediv_of_nonneg (by decide), show (2 : Int) ^ 8 = 256 from rfl]
        congr 1; omega
      · rw [dg_zero_at _ _ _ (by omega), dg_zero_at _ _ _ (by omega)]
theorem dg_low (T : Int) (k m : Nat) (hk : k / 4 < m) : (dg (T * 2 ^ (8 * k + 8)) m).getD (k / 4) 0 % 2 ^ (8 * (k % 4) + 8) = 0 := by
  rw [dg_get _ _ _ hk]
  have e := Nat.div_add_mod k 4
  have hr : k % 4 < 4 := Nat.mod_lt _ (by decide)
  generalize k % 4 = r at *
  generalize k / 4 = j at *
  rw [show 8 * k = 32 * j + 8 * r by omega, Nat.add_assoc, dg_mid_at]
  rcases (by omega : r = 0 ∨ r = 1 ∨ r = 2 ∨ r = 3) with rfl | rfl | rfl | rfl
  · show T * 256 % _ % 256 = 0
    omega
  · show T * 65536 % _ % 65536 = 0
    omega
  · show T * 16777216 % _ % 16777216 = 0
    omega
  · show T * 4294967296 % _ % 4294967296 = 0
    omega
theorem vB_take (xs : List Int) (i : Nat) (h : i < xs.length) : vB (xs.take (i + 1)) = vB (xs.take i) * 256 + xs.getD i 0 := by
  rw [List.take_add_one, List.getElem?_eq_getElem h, Option.toList_some, vB_append, List.getD_eq_getElem?_getD, List.getElem?_eq_getElem h]
  simp [vB]

set_option maxRecDepth 100000 in
set_option maxHeartbeats 4000000 in
theorem setBytes (g : Nat) (okx : Nat → Prop) (neg0 : Bool) (l0 : List Int) (k : Nat) (oks : Nat → Prop) (v : Value) (xs r : List Int) (w : World) (base : Nat)
    (hI : Is w g okx neg0 l0) (hok : ∀ k, oks k → k < w.heap.size) (hv : Kd.V (Kd.int .u8) 5 w base oks v xs) (hx : Bytes xs) (hn : xs.length ≤ 1000000)
    (hr : smallbig_nat_norm.f k (dg (vB xs) ((xs.length + 3) / 4)) = some r) :
    Calls Try.prog 22 #[.pointer (some ⟨g, 0, none⟩), v] w fun e w' =>
      e = .returned (.pointer (some ⟨g, 0, none⟩)) ∧ Is w' g (· ≠ g) false r ∧ Only g w w' := by
  obtain ⟨A9, c9, rfl, hl, hF⟩ := hv
  have HG := Aside0.mk (blk_lt' hI.choose_spec.1)
  have HI := Aside0.mk hI
  have HL := Aside0.mk hl
  have HF := Aside0.mk hF
  have HX := Aside0.mk hx
  have HK := Aside0.mk hok
  have HR := Aside0.mk hr
  have e1 : wrap64 ((xs.length : Int) + 3) = xs.length + 3 := w64 (by omega) (by omega)
  have e2 : wrap64 (Int.tdiv (wrap64 ((xs.length : Int) + 3)) 4) = ((xs.length : Int) + 3) / 4 := by rw [e1, Int.tdiv_eq_ediv_of_nonneg (by omega), w64 (by omega) (by omega)]
  obtain ⟨m, hm⟩ : ∃ m, (xs.length + 3) / 4 = m := ⟨_, rfl⟩
  have hm2 : (((xs.length : Int) + 3) / 4).toNat = m := by omega
  rw [hm] at HR
  clear hl hF hx hok hr hI
  go_enter Try.func22, Try.ntmps22
  go_wp2_with ((with_reducible refine at_dst (N := 13) rfl ?_); refine Kd.R_make (Kd.int .u32) (w0 := w) w.heap.size 23 rfl (N := 13) rfl 71 _ _ rfl (((xs.length : Int) + 3) / 4) (by rw [← e2]; rfl) (by rw [← e2]; rfl) Try.underlying71 (.int .u32 0) 4 (by kernel_rfl) rfl (by decide) (by omega) 0 (ok := fun k => w.heap.size ≤ k) (okp := fun k => w.heap.size ≤ k) rfl (fun _ hk => hk) (Nat.le_refl _) (by omega) (by omega) ⟨rfl, rfl, rfl, Nat.le_refl _, fun _ _ => rfl⟩ (Nat.le_refl _) ?_; intro v2 w2 ho hb hg hnew; obtain ⟨b, hob, hbge⟩ := hnew; obtain ⟨cap, rfl, hcap, hbase, hblt, hcells⟩ := Kd.R_first_ ho hob; have HO := Aside0.mk ho; have HB2 := Aside0.mk hb; have HOB := Aside0.mk hbge; clear ho hb hg hob hcells hbase hblt; rw [List.length_replicate, hm2] at HO hcap ⊢)
  have hbs := HOB.out
  go_loopw [16] (fun v16 wr => ∃ i : Nat, i ≤ xs.length ∧ v16 = .int .i64 i ∧ Aside0 (Kd.R (Kd.int .u32) 23 wr w.heap.size (fun k => w.heap.size ≤ k) (.slice (some ⟨b, 0, none⟩) m cap) (dg (vB (xs.take i) * 2 ^ (8 * (xs.length - i))) m)) ∧ Aside0 (Below w.heap.size w wr)) (fun v16 _ => xs.length - (intOf v16).toNat)
  case atStart => exact ⟨0, Nat.zero_le _, rfl, ⟨by rw [show vB (xs.take 0) * 2 ^ (8 * (xs.length - 0)) = 0 by simp [vB], dg_zero]; exact HO.out⟩, HB2⟩
  case round =>
    clear HB2 HO
    obtain ⟨i, hi, rfl, HRi, HBi⟩ := hrel
    have HF1 := Aside0.mk (Kd.F_below HF.out HBi.out)
    by_cases hlt : i < xs.length
    · have b0 : decide ((i : Int) < xs.length) = true := decide_eq_true (by omega)
      have b1 : decide (i < xs.length) = true := decide_eq_true hlt
      obtain ⟨ad, hA, hy⟩ := Kd.at_int (Kd.F_now HF1.out) (i : Int) (by omega) (by omega)
      rw [Int.toNat_natCast, show rd xs (i : Int) = xs.getD i 0 by unfold rd; rw [Int.toNat_natCast]] at hy
      have hc := HX.out (xs.getD i 0) (by rw [List.getD_eq_getElem?_getD, List.getElem?_eq_getElem hlt]; exact List.getElem_mem _)
      obtain ⟨c, hc9⟩ : ∃ c, xs.getD i 0 = c := ⟨_, rfl⟩
      rw [hc9] at hc hy
      have HC9 := Aside0.mk hc9
      clear hc9
      obtain ⟨c0, c1⟩ := hc
      subst hA
      obtain ⟨K, hK⟩ : ∃ K, xs.length - 1 - i = K := ⟨_, rfl⟩
      have hKi : (xs.length : Int) - 1 - i = (K : Int) := by omega
      rw [show xs.length - i = K + 1 by omega] at HRi
      have pl := dg_length (vB (xs.take i) * 2 ^ (8 * (K + 1))) m
      obtain ⟨hy1, hz1⟩ := Kd.R_celln 0 HRi.out ((K / 4 : Nat) : Int) (by omega) (by omega)
      have HP := Aside0.mk (Kd.R_putg HRi.out ((K / 4 : Nat) : Int) ((dg (vB (xs.take i) * 2 ^ (8 * (K + 1))) m).getD (K / 4) 0 + c * 2 ^ (8 * (K % 4))))
      simp only [Int.toNat_natCast] at hy1 hz1
      rw [show rdOf 0 (dg (vB (xs.take i) * 2 ^ (8 * (K + 1))) m) ((K / 4 : Nat) : Int) = (dg (vB (xs.take i) * 2 ^ (8 * (K + 1))) m).getD (K / 4) 0 by unfold rdOf; rw [Int.toNat_natCast]] at hy1
      have hd := dg_Dig (vB (xs.take i) * 2 ^ (8 * (K + 1))) m ((dg (vB (xs.take i) * 2 ^ (8 * (K + 1))) m).getD (K / 4) 0) (by rw [List.getD_eq_getElem?_getD, List.getElem?_eq_getElem (by omega)]; exact List.getElem_mem _)
      have hlow := dg_low (vB (xs.take i)) K m (by omega)
      rw [show 8 * K + 8 = 8 * (K + 1) by omega] at hlow
      obtain ⟨d, hd9⟩ : ∃ d, (dg (vB (xs.take i) * 2 ^ (8 * (K + 1))) m).getD (K / 4) 0 = d := ⟨_, rfl⟩
      rw [hd9] at hd hlow hy1
      have HOR := Aside0.mk (or_low d c (8 * (K % 4)) hlow hd.1 hd.2 c0 c1 (by omega))
      have HD9 := Aside0.mk hd9
      have HY := Aside0.mk (show wr.drew.cell? _ = _ from hy1)
      have HFZ := Aside0.mk (show wr.drew.frozen? _ = _ from hz1)
      obtain ⟨d0, d1⟩ := hd
      have p1 : ((K / 4 : Nat) : Int) < (m : Int) := by omega
      have p4 : (0 : Int) ≤ ((K / 4 : Nat) : Int) := by omega
      have HKi := Aside0.mk hKi
      have HKb := Aside0.mk (show K ≤ 1000000 by omega)
      have HK0 := Aside0.mk hK
      clear hd9 hlow hy1 hz1 pl hKi hK hm hm2 e1 e2
      obtain ⟨q, hq⟩ : ∃ q, K / 4 = q := ⟨_, rfl⟩
      obtain ⟨r8, hr8⟩ : ∃ r8, K % 4 = r8 := ⟨_, rfl⟩
      obtain ⟨s8, hs8⟩ : ∃ s8, 8 * r8 = s8 := ⟨_, rfl⟩
      have h24 : s8 ≤ 24 := by omega
      have H24 := Aside0.mk h24
      rw [hq] at p1 p4 HP HY HFZ HD9
      rw [hr8] at HP HOR
      rw [hs8] at HP HOR
      have HQ := Aside0.mk hq
      have HR8 := Aside0.mk hr8
      have HS8 := Aside0.mk hs8
      clear hq hr8 hs8 h24
      go_wp2
      rw [HKi.out]
      have q1 := q_div K HKb.out
      have q2 := q_mod K HKb.out
      have q3 := q_mul K
      rw [HQ.out] at q1
      rw [HR8.out] at q2 q3
      rw [HS8.out] at q3
      have q4 := q_wrap c K c0 c1
      have q5 := q_shl c s8 c0 c1 H24.out
      have s0 : (0 : Int) ≤ (s8 : Int) := Int.natCast_nonneg _
      have s1 : (s8 : Int) < 32 := Int.lt_of_le_of_lt (Int.ofNat_le.mpr H24.out) (by decide)
      refine start_ (n := 14) (S := fun w' => w'.cell? ⟨b, q, none⟩ = some (.int .u32 d)) (ds := [13]) #[false, false, false, false, false, false, false, false, false, false, false, false, false, false] (by kernel_rfl) rfl rfl HY.out (fun hHeld => ?_)
      refine pure_ (i := 0) (N := some 26) (v := ?_) (a' := ?_) #[true, false, false, false, false, false, false, false, false, false, false, false, false, false] rfl rfl (by kernel_rfl) (fun _ _ _ h => h) (Or.inl ⟨by rfl, ?_⟩) ?_ ?_
      rotate_left
      · intro w'
        go_simp
        with_reducible rfl
      rotate_left
      · simp only [Act.put, List.setIfInBounds_toArray, List.set_cons_zero, List.set_cons_succ, i64_w, i32_w]
        rfl
      refine pure_ (i := 1) (N := some 27) (v := ?_) (a' := ?_) #[true, true, false, false, false, false, false, false, false, false, false, false, false, false] rfl rfl (by kernel_rfl) (fun _ _ _ h => h) (Or.inl ⟨by rfl, ?_⟩) ?_ ?_
      rotate_left
      · intro w'
        go_simp
        with_reducible rfl
      rotate_left
      · simp only [Act.put, List.setIfInBounds_toArray, List.set_cons_zero, List.set_cons_succ, i64_w, i32_w]
        rfl
      refine pure_ (i := 2) (N := some 28) (v := ?_) (a' := ?_) #[true, true, true, false, false, false, false, false, false, false, false, false, false, false] rfl rfl (by kernel_rfl) (fun _ _ _ h => h) (Or.inl ⟨by rfl, ?_⟩) ?_ ?_
      rotate_left
      · intro w'
        go_simp
        with_reducible rfl
      rotate_left
      · simp only [Act.put, List.setIfInBounds_toArray, List.set_cons_zero, List.set_cons_succ, i64_w, i32_w]
        rfl
      refine pure_ (i := 3) (N := some 29) (v := ?_) (a' := ?_) #[true, true, true, true, false, false, false, false, false, false, false, false, false, false] rfl rfl (by kernel_rfl) (fun _ _ _ h => h) (Or.inl ⟨by rfl, ?_⟩) ?_ ?_
      rotate_left
      · intro w'
        go_simp
        with_reducible rfl
      rotate_left
      · simp only [Act.put, List.setIfInBounds_toArray, List.set_cons_zero, List.set_cons_succ, i64_w, i32_w]
        rfl
      refine take_ (i := 4) (N := some 30) (v := ?_) (a' := ?_) #[true, true, true, true, true, false, false, false, false, false, false, false, false, false] rfl rfl (by kernel_rfl) (fun _ _ _ h => h) (Or.inl ⟨by rfl, ?_⟩) hHeld ?_ ?_
      rotate_left
      · rintro w' s0
        go_simp
        with_reducible rfl
      rotate_left
      · simp only [Act.put, List.setIfInBounds_toArray, List.set_cons_zero, List.set_cons_succ, i64_w, i32_w]
        rfl
      refine pure_ (i := 5) (N := some 31) (v := ?_) (a' := ?_) #[true, true, true, true, true, true, false, false, false, false, false, false, false, false] rfl rfl (by kernel_rfl) (fun _ _ _ h => h) (Or.inl ⟨by rfl, ?_⟩) ?_ ?_
      rotate_left
      · intro w'
        go_simp
        with_reducible rfl
      rotate_left
      · simp only [Act.put, List.setIfInBounds_toArray, List.set_cons_zero, List.set_cons_succ, i64_w, i32_w]
        rfl
      refine pure_ (i := 6) (N := some 32) (v := ?_) (a' := ?_) #[true, true, true, true, true, true, true, false, false, false, false, false, false, false] rfl rfl (by kernel_rfl) (fun _ _ _ h => h) (Or.inl ⟨by rfl, ?_⟩) ?_ ?_
      rotate_left
      · intro w'
        go_simp
        with_reducible rfl
      rotate_left
      · simp only [Act.put, List.setIfInBounds_toArray, List.set_cons_zero, List.set_cons_succ, i64_w, i32_w]
        rfl
      refine pure_ (i := 7) (N := some 33) (v := ?_) (a' := ?_) #[true, true, true, true, true, true, true, true, false, false, false, false, false, false] rfl rfl (by kernel_rfl) (fun _ _ _ h => h) (Or.inl ⟨by rfl, ?_⟩) ?_ ?_
      rotate_left
      · intro w'
        go_simp
        with_reducible rfl
      rotate_left
      · simp only [Act.put, List.setIfInBounds_toArray, List.set_cons_zero, List.set_cons_succ, i64_w, i32_w]
        rfl
      refine pure_ (i := 8) (N := some 34) (v := ?_) (a' := ?_) #[true, true, true, true, true, true, true, true, true, false, false, false, false, false] rfl rfl (by kernel_rfl) (fun _ _ _ h => h) (Or.inl ⟨by rfl, ?_⟩) ?_ ?_
      rotate_left
      · intro w'
        go_simp
        with_reducible rfl
      rotate_left
      · simp only [Act.put, List.setIfInBounds_toArray, List.set_cons_zero, List.set_cons_succ, i64_w, i32_w]
        rfl
      refine pure_ (i := 9) (N := some 35) (v := ?_) (a' := ?_) #[true, true, true, true, true, true, true, true, true, true, false, false, false, false] rfl rfl (by kernel_rfl) (fun _ _ _ h => h) (Or.inl ⟨by rfl, ?_⟩) ?_ ?_
      rotate_left
      · intro w'
        go_simp
        with_reducible rfl
      rotate_left
      · simp only [Act.put, List.setIfInBounds_toArray, List.set_cons_zero, List.set_cons_succ, i64_w, i32_w]
        rfl
      refine pure_ (i := 10) (N := some 36) (v := ?_) (a' := ?_) #[true, true, true, true, true, true, true, true, true, true, true, false, false, false] rfl rfl (by kernel_rfl) (fun _ _ _ h => h) (Or.inl ⟨by rfl, ?_⟩) ?_ ?_
      rotate_left
      · intro w'
        go_simp
        with_reducible rfl
      rotate_left
      · simp only [Act.put, List.setIfInBounds_toArray, List.set_cons_zero, List.set_cons_succ, i64_w, i32_w]
        rfl
      refine pure_ (i := 11) (N := some 37) (v := ?_) (a' := ?_) #[true, true, true, true, true, true, true, true, true, true, true, true, false, false] rfl rfl (by kernel_rfl) (fun _ _ _ h => h) (Or.inl ⟨by rfl, ?_⟩) ?_ ?_
      rotate_left
      · intro w'
        go_simp
        with_reducible rfl
      rotate_left
      · simp only [Act.put, List.setIfInBounds_toArray, List.set_cons_zero, List.set_cons_succ, i64_w, i32_w]
        rfl
      refine pure_ (i := 12) (N := some 38) (v := ?_) (a' := ?_) #[true, true, true, true, true, true, true, true, true, true, true, true, true, false] rfl rfl (by kernel_rfl) (fun _ _ _ h => h) (Or.inl ⟨by rfl, ?_⟩) ?_ ?_
      rotate_left
      · intro w'
        go_simp
        with_reducible rfl
      rotate_left
      · simp only [Act.put, List.setIfInBounds_toArray, List.set_cons_zero, List.set_cons_succ, i64_w, i32_w]
        rfl
      refine last_ (i := 13) (N := none) #[true, true, true, true, true, true, true, true, true, true, true, true, true, true] rfl rfl (by kernel_rfl) (by decide) (fun K hK => ?_)
      have hf2 := HFZ.out
      have hy2 := HY.out
      refine skip_ (w1 := ?_) (by rfl) rfl ?_ ?_
      rotate_left
      · go_simp
        rfl
      refine hK.out _ _ ?_
      clear hK K
      refine norm_ (a' := ?_) ?_ ?_
      rotate_left
      · rfl
      refine done_ (by kernel_rfl) ?_
      clear hHeld q1 q2 q3 q4 q5 s0 s1 HY HFZ
      have HHI := Aside0.mk hi
      go_wp2
      go_roundw
      case rel =>
        refine ⟨i + 1, by have := HK0.out; omega, by go_num, ⟨?_⟩, ⟨?_⟩⟩
        · have h2 := HP.out.1
          have e3 := dg_set (vB (xs.take i)) c K m (by have := HQ.out; omega) c0 c1
          rw [show 8 * K + 8 = 8 * (K + 1) by omega, HQ.out, HR8.out, HS8.out] at e3
          simp only [Int.toNat_natCast] at h2
          rw [← e3, HD9.out] at h2
          rw [HOR.out, vB_take xs i hlt, HC9.out, show xs.length - (i + 1) = K by have := HK0.out; omega]
          exact Kd.R_drew h2
        · exact below_drew (HBi.out.setCell (p := ⟨b, q, none⟩) hbs _)
      case measure => simp [intOf]; have := HK0.out; omega
    · have b0 : decide ((i : Int) < xs.length) = false := decide_eq_false (by omega)
      have b1 : decide (i < xs.length) = false := decide_eq_false hlt
      obtain rfl : i = xs.length := by omega
      rw [List.take_of_length_le (Nat.le_refl _), Nat.sub_self, show vB xs * 2 ^ (8 * 0) = vB xs by simp] at HRi
      have hV : Kd.V (Kd.int .u32) 23 wr wr.heap.size (fun k_ => w.heap.size ≤ k_) (.slice (some ⟨b, 0, none⟩) (dg (vB xs) m).length cap) (dg (vB xs) m) := by rw [dg_length]; exact Kd.V_any (Kd.R_V (base' := 0) HRi.out)
      have HN := Aside0.mk (smallbig_nat_norm.calls k _ _ _ _ r wr hV HR.out)
      rw [dg_length] at HN
      clear hV
      go_wp2_with fail
      refine HN.out.mono ?_
      rintro e w3 ⟨v3, rfl, hv3, hb3⟩
      have HV3 := Aside0.mk hv3
      have HB3 := Aside0.mk (HBi.out.trans (hb3.mono HBi.out.size))
      clear hv3 hb3
      obtain ⟨v0, hg0, _⟩ := HI.out
      have hg1 := (HB3.out.block g (blk_lt' hg0)).trans hg0
      have hc0 := cell_of hg1 (j := 0) (v := .bool neg0) rfl
      have hc1 := cell_of hg1 (j := 1) (v := v0) rfl
      have hf0 := frozen_of hg1 0
      have hf1 := frozen_of hg1 1
      have HG1 := Aside0.mk hg1
      clear hg1 hg0
      obtain ⟨A9, c9, e9⟩ := Kd.V_slice HV3.out
      subst e9
      go_wp2
      go_ret
      have ho : Only g w3 ((w3.setCell ⟨g, 1, none⟩ (.slice A9 r.length c9)).setCell ⟨g, 0, none⟩ (.bool false)) := ((Only.refl g w3).set 1 _).set 0 _
      have hgl := HG.out
      have hws := HBi.out.size
      refine ⟨rfl, ⟨.slice A9 r.length c9, heap_set_same (heap_set_same HG1.out _) _, ?_⟩, (Only.of_below HB3.out).trans ho⟩
      exact Kd.V_mono (Kd.V_only (Kd.V_any HV3.out) ho (fun k hk => by omega)) (fun k hk => by omega)
end Go.Proofs.Ytigpdgfhngknhaa.Big
/- The contract of CompactToBig. -/
namespace Go.Proofs.Ytigpdgfhngknhaa.Big
open Go.RowKit Go.Proofs.YtigpdgfhngknhaaW.PrintWords Go.Proofs.YtigpdgfhngknhaaW.PrintLast Go.Proofs.YtigpdgfhngknhaaW.PrintMore Go.Proofs.Ytigpdgfhngknhaa.QFnProofFault
set_option linter.unusedVariables false
set_option linter.unusedSimpArgs false

set_option maxRecDepth 100000 in
set_option maxHeartbeats 2000000 in
theorem compact_small_pos (c : Int) (h0 : 0 ≤ c) (h1 : c < 4294967296) (he : c / 16777216 ≤ 3) (hs : (Go.bits .and .u32 c 8388608 != 0) = false) (m s : Int) (hm : wrap64 (Go.bits .and .u32 c 8388607 / 2 ^ (8 * (3 - c / 16777216)).toNat) = m) (hm0 : 0 ≤ m) (hm1 : m ≤ 9223372036854775807) (k : Nat) (l0 l : List Int)
    (h : smallbig_natOf.f k m = some l) (w : World) :
    Calls Try.prog 37 #[.int .u32 c] w fun e w' => e = .returned (.pointer (some ⟨w.heap.size, 0, none⟩)) ∧ Is w' w.heap.size (· ≠ w.heap.size) false l ∧ Below w.heap.size w w' := by
  have b0 : decide (c / 16777216 ≤ 3) = true := decide_eq_true he
  have H := Aside0.mk h
  clear h
  skip
  go_enter Try.func37, Try.ntmps37
  go_wp2_with (first | (go_at_call 49; refine (newInt k m hm0 hm1 l _ H.out).mono ?_; rintro e w1 ⟨rfl, hi, hb⟩; have HI := Aside0.mk hi; have HB := Aside0.mk hb; have HZ := Aside0.mk (blk_lt' hi.choose_spec.1); clear hi hb))
  go_ret
  exact ⟨rfl, HI.out, HB.out⟩

set_option maxRecDepth 100000 in
set_option maxHeartbeats 2000000 in
theorem compact_small_neg (c : Int) (h0 : 0 ≤ c) (h1 : c < 4294967296) (he : c / 16777216 ≤ 3) (hs : (Go.bits .and .u32 c 8388608 != 0) = true) (m s : Int) (hm : wrap64 (Go.bits .and .u32 c 8388607 / 2 ^ (8 * (3 - c / 16777216)).toNat) = m) (hm0 : 0 ≤ m) (hm1 : m ≤ 9223372036854775807) (k : Nat) (l0 l : List Int) (hne : 0 < l.length)
    (h : smallbig_natOf.f k m = some l) (w : World) :
    Calls Try.prog 37 #[.int .u32 c] w fun e w' => e = .returned (.pointer (some ⟨w.heap.size, 0, none⟩)) ∧ Is w' w.heap.size (· ≠ w.heap.size) true l ∧ Below w.heap.size w w' := by
  have b0 : decide (c / 16777216 ≤ 3) = true := decide_eq_true he
  have H := Aside0.mk h
  clear h
  have HE := Aside0.mk hne
  clear hne
  go_enter Try.func37, Try.ntmps37
  go_wp2_with (first | (go_at_call 49; refine (newInt k m hm0 hm1 l _ H.out).mono ?_; rintro e w1 ⟨rfl, hi, hb⟩; have HI := Aside0.mk hi; have HB := Aside0.mk hb; have HZ := Aside0.mk (blk_lt' hi.choose_spec.1); clear hi hb) | (go_at_call 51; refine (neg_pos w.heap.size false l HE.out _ HI.out).mono ?_; rintro e w3 ⟨rfl, hi, ho⟩; have n0_ := Aside0.mk hi; have n1_ := Aside0.mk (ho.below HB.out (Nat.le_refl _) HB.out.size); clear hi ho HI HB; have HI := n0_; have HB := n1_; clear n0_ n1_))
  go_ret
  exact ⟨rfl, HI.out, HB.out⟩

set_option maxRecDepth 100000 in
set_option maxHeartbeats 2000000 in
theorem compact_small_nil (c : Int) (h0 : 0 ≤ c) (h1 : c < 4294967296) (he : c / 16777216 ≤ 3) (hs : (Go.bits .and .u32 c 8388608 != 0) = true) (m s : Int) (hm : wrap64 (Go.bits .and .u32 c 8388607 / 2 ^ (8 * (3 - c / 16777216)).toNat) = m) (hm0 : 0 ≤ m) (hm1 : m ≤ 9223372036854775807) (k : Nat) (l0 l : List Int) (hnl : l.length = 0)
    (h : smallbig_natOf.f k m = some l) (w : World) :
    Calls Try.prog 37 #[.int .u32 c] w fun e w' => e = .returned (.pointer (some ⟨w.heap.size, 0, none⟩)) ∧ Is w' w.heap.size (· ≠ w.heap.size) false l ∧ Below w.heap.size w w' := by
  have b0 : decide (c / 16777216 ≤ 3) = true := decide_eq_true he
  have H := Aside0.mk h
  clear h
  have HE := Aside0.mk hnl
  clear hnl
  go_enter Try.func37, Try.ntmps37
  go_wp2_with (first | (go_at_call 49; refine (newInt k m hm0 hm1 l _ H.out).mono ?_; rintro e w1 ⟨rfl, hi, hb⟩; have HI := Aside0.mk hi; have HB := Aside0.mk hb; have HZ := Aside0.mk (blk_lt' hi.choose_spec.1); clear hi hb) | (go_at_call 51; refine (neg_nil w.heap.size false l HE.out _ HI.out).mono ?_; rintro e w3 ⟨rfl, hi, ho⟩; have n0_ := Aside0.mk hi; have n1_ := Aside0.mk (ho.below HB.out (Nat.le_refl _) HB.out.size); clear hi ho HI HB; have HI := n0_; have HB := n1_; clear n0_ n1_))
  go_ret
  exact ⟨rfl, HI.out, HB.out⟩

set_option maxRecDepth 100000 in
set_option maxHeartbeats 2000000 in
theorem compact_big_pos (c : Int) (h0 : 0 ≤ c) (h1 : c < 4294967296) (he : 3 < c / 16777216) (hs : (Go.bits .and .u32 c 8388608 != 0) = false) (m s : Int) (hm : wrap64 (Go.bits .and .u32 c 8388607) = m) (hm0 : 0 ≤ m) (hm1 : m ≤ 9223372036854775807) (k : Nat) (l0 l : List Int)
    (h : smallbig_natOf.f k m = some l0) (hsh : IntKind.u64.wrap (8 * (c / 16777216 - 3)) = s) (h2 : smallbig_nat_lsh.f k l0 s = some l) (w : World) :
    Calls Try.prog 37 #[.int .u32 c] w fun e w' => e = .returned (.pointer (some ⟨w.heap.size, 0, none⟩)) ∧ Is w' w.heap.size (· ≠ w.heap.size) false l ∧ Below w.heap.size w w' := by
  have b0 : decide (c / 16777216 ≤ 3) = false := decide_eq_false (by omega)
  have H := Aside0.mk h
  clear h
  have H2 := Aside0.mk h2
  clear h2
  go_enter Try.func37, Try.ntmps37
  go_wp2_with (first | (go_at_call 49; refine (newInt k m hm0 hm1 l0 _ H.out).mono ?_; rintro e w1 ⟨rfl, hi, hb⟩; have HI := Aside0.mk hi; have HB := Aside0.mk hb; have HZ := Aside0.mk (blk_lt' hi.choose_spec.1); clear hi hb) | (go_at_call 50; refine (lsh k w.heap.size false l0 s l _ HI.out H2.out).mono ?_; rintro e w2 ⟨rfl, hi, ho⟩; have n0_ := Aside0.mk hi; have n1_ := Aside0.mk (ho.below HB.out (Nat.le_refl _) HB.out.size); clear hi ho HI HB HZ; have HI := n0_; have HB := n1_; clear n0_ n1_))
  go_ret
  exact ⟨rfl, HI.out, HB.out⟩

set_option maxRecDepth 100000 in
set_option maxHeartbeats 2000000 in
theorem compact_big_neg (c : Int) (h0 : 0 ≤ c) (h1 : c < 4294967296) (he : 3 < c / 16777216) (hs : (Go.bits .and .u32 c 8388608 != 0) = true) (m s : Int) (hm : wrap64 (Go.bits .and .u32 c 8388607) = m) (hm0 : 0 ≤ m) (hm1 : m ≤ 9223372036854775807) (k : Nat) (l0 l : List Int) (hne : 0 < l.length)
    (h : smallbig_natOf.f k m = some l0) (hsh : IntKind.u64.wrap (8 * (c / 16777216 - 3)) = s) (h2 : smallbig_nat_lsh.f k l0 s = some l) (w : World) :
    Calls Try.prog 37 #[.int .u32 c] w fun e w' => e = .returned (.pointer (some ⟨w.heap.size, 0, none⟩)) ∧ Is w' w.heap.size (· ≠ w.heap.size) true l ∧ Below w.heap.size w w' := by
  have b0 : decide (c / 16777216 ≤ 3) = false := decide_eq_false (by omega)
  have H := Aside0.mk h
  clear h
  have H2 := Aside0.mk h2
  clear h2
  have HE := Aside0.mk hne
  clear hne
  go_enter Try.func37, Try.ntmps37
  go_wp2_with (first | (go_at_call 49; refine (newInt k m hm0 hm1 l0 _ H.out).mono ?_; rintro e w1 ⟨rfl, hi, hb⟩; have HI := Aside0.mk hi; have HB := Aside0.mk hb; have HZ := Aside0.mk (blk_lt' hi.choose_spec.1); clear hi hb) | (go_at_call 50; refine (lsh k w.heap.size false l0 s l _ HI.out H2.out).mono ?_; rintro e w2 ⟨rfl, hi, ho⟩; have n0_ := Aside0.mk hi; have n1_ := Aside0.mk (ho.below HB.out (Nat.le_refl _) HB.out.size); clear hi ho HI HB HZ; have HI := n0_; have HB := n1_; clear n0_ n1_) | (go_at_call 51; refine (neg_pos w.heap.size false l HE.out _ HI.out).mono ?_; rintro e w3 ⟨rfl, hi, ho⟩; have n0_ := Aside0.mk hi; have n1_ := Aside0.mk (ho.below HB.out (Nat.le_refl _) HB.out.size); clear hi ho HI HB; have HI := n0_; have HB := n1_; clear n0_ n1_))
  go_ret
  exact ⟨rfl, HI.out, HB.out⟩

set_option maxRecDepth 100000 in
set_option maxHeartbeats 2000000 in
theorem compact_big_nil (c : Int) (h0 : 0 ≤ c) (h1 : c < 4294967296) (he : 3 < c / 16777216) (hs : (Go.bits .and .u32 c 8388608 != 0) = true) (m s : Int) (hm : wrap64 (Go.bits .and .u32 c 8388607) = m) (hm0 : 0 ≤ m) (hm1 : m ≤ 9223372036854775807) (k : Nat) (l0 l : List Int) (hnl : l.length = 0)
    (h : smallbig_natOf.f k m = some l0) (hsh : IntKind.u64.wrap (8 * (c / 16777216 - 3)) = s) (h2 : smallbig_nat_lsh.f k l0 s = some l) (w : World) :
    Calls Try.prog 37 #[.int .u32 c] w fun e w' => e = .returned (.pointer (some ⟨w.heap.size, 0, none⟩)) ∧ Is w' w.heap.size (· ≠ w.heap.size) false l ∧ Below w.heap.size w w' := by
  have b0 : decide (c / 16777216 ≤ 3) = false := decide_eq_false (by omega)
  have H := Aside0.mk h
  clear h
  have H2 := Aside0.mk h2
  clear h2
  have HE := Aside0.mk hnl
  clear hnl
  go_enter Try.func37, Try.ntmps37
  go_wp2_with (first | (go_at_call 49; refine (newInt k m hm0 hm1 l0 _ H.out).mono ?_; rintro e w1 ⟨rfl, hi, hb⟩; have HI := Aside0.mk hi; have HB := Aside0.mk hb; have HZ := Aside0.mk (blk_lt' hi.choose_spec.1); clear hi hb) | (go_at_call 50; refine (lsh k w.heap.size false l0 s l _ HI.out H2.out).mono ?_; rintro e w2 ⟨rfl, hi, ho⟩; have n0_ := Aside0.mk hi; have n1_ := Aside0.mk (ho.below HB.out (Nat.le_refl _) HB.out.size); clear hi ho HI HB HZ; have HI := n0_; have HB := n1_; clear n0_ n1_) | (go_at_call 51; refine (neg_nil w.heap.size false l HE.out _ HI.out).mono ?_; rintro e w3 ⟨rfl, hi, ho⟩; have n0_ := Aside0.mk hi; have n1_ := Aside0.mk (ho.below HB.out (Nat.le_refl _) HB.out.size); clear hi ho HI HB; have HI := n0_; have HB := n1_; clear n0_ n1_))
  go_ret
  exact ⟨rfl, HI.out, HB.out⟩
end Go.Proofs.Ytigpdgfhngknhaa.Big
/- impl.Target: the bytes of the number that a compact one stands for, and whether it is below 0. -/
namespace Go.Proofs.Ytigpdgfhngknhaa.Big
open Go.RowKit Go.Proofs.YtigpdgfhngknhaaW.PrintWords Go.Proofs.YtigpdgfhngknhaaW.PrintLast Go.Proofs.YtigpdgfhngknhaaW.PrintMore Go.Proofs.Ytigpdgfhngknhaa.QFnProofFault
set_option linter.unusedVariables false
set_option linter.unusedSimpArgs false
/-- What CompactToBig answers at c. -/
def Compacts (c : Int) (neg : Bool) (l : List Int) : Prop := ∀ w, Calls Try.prog 37 #[.int .u32 c] w fun e w' => e = .returned (.pointer (some ⟨w.heap.size, 0, none⟩)) ∧ Is w' w.heap.size (· ≠ w.heap.size) neg l ∧ Below w.heap.size w w'

set_option maxHeartbeats 1000000 in
theorem compactToBig (c : Int) (neg : Bool) (l : List Int) (h : Compacts c neg l) (w : World) :
    Calls Try.prog 26 #[.int .u32 c] w fun e w' => e = .returned (.pointer (some ⟨w.heap.size, 0, none⟩)) ∧ Is w' w.heap.size (· ≠ w.heap.size) neg l ∧ Below w.heap.size w w' := by
  have H := Aside0.mk h
  clear h
  go_enter Try.func26, Try.ntmps26
  go_wp2_with (go_at_call 37; refine (H.out _).mono ?_; rintro e w1 ⟨rfl, hi, hb⟩; have HI := Aside0.mk hi; have HB := Aside0.mk hb; clear hi hb)
  go_ret
  exact ⟨rfl, HI.out, HB.out⟩

end Go.Proofs.Ytigpdgfhngknhaa.Big
/- The law FnTarget over numbers and lists, and its walk joined. -/
namespace Go.Proofs.Ytigpdgfhngknhaa.Big
open Go.RowKit Go.Proofs.YtigpdgfhngknhaaW.PrintWords Go.Proofs.YtigpdgfhngknhaaW.PrintLast Go.Proofs.YtigpdgfhngknhaaW.PrintMore Go.Proofs.Ytigpdgfhngknhaa.QFnProofFault
set_option linter.unusedVariables false

theorem set_rep (w : Nat) (a b : Int) : ∀ (_ : True), ((List.replicate (w + 2) (0 : Int)).set w a).set (w + 1) b = List.replicate w 0 ++ [a, b] := by
  intro _
  rw [← List.replicate_append_replicate, List.set_append_right _ _ (by simp), List.set_append_right _ _ (by simp)]
  simp [List.replicate]
theorem nv_rep (w : Nat) (l : List Int) : nv (List.replicate w 0 ++ l) = 2 ^ (32 * w) * nv l := by
  rw [nv_append, List.length_replicate]
  have : nv (List.replicate w (0 : Int)) = 0 := by
    induction w with
    | zero => rfl
    | succ w ih => rw [List.replicate_succ, nv, ih]; rfl
  omega
/-- one digit, shifted. -/
theorem ev_lsh1 (m : Int) (h0 : 0 ≤ m) (h1 : m < 8388608) (n : Nat) (hn : n < 4096) : ∃ r, Ev (fun k => smallbig_nat_lsh.f k [m] n) r ∧ nv r = m * 2 ^ n ∧ Dig r ∧ Top r ∧ r.length ≤ 1000 := by
  obtain ⟨w, hw⟩ : ∃ w, n / 32 = w := ⟨_, rfl⟩
  obtain ⟨s, hs⟩ : ∃ s, n % 32 = s := ⟨_, rfl⟩
  have hw2 : w < 128 := by omega
  have hs2 : s < 32 := by omega
  have e1 : wrap64 (IntKind.u64.wrap (Int.tdiv (n : Int) 32)) = (w : Int) := by
    rw [Int.tdiv_eq_ediv_of_nonneg (by omega), u64w (by omega) (by omega), w64 (by omega) (by omega)]; omega
  have e2 : Int.tmod (n : Int) 32 = (s : Int) := by rw [Int.tmod_eq_emod_of_nonneg (by omega)]; omega
  have e4 : wrap64 (wrap64 ((([m] : List Int).length : Int) + (w : Int)) + 1) = ((w + 2 : Nat) : Int) := by
    rw [List.length_singleton, w64 (x := ((1 : Nat) : Int) + w) (by omega) (by omega), w64 (by omega) (by omega)]; omega
  have e5 : wrap64 ((0 : Int) + (w : Int)) = (w : Int) := by rw [w64 (by omega) (by omega)]; omega
  have e6 : wrap64 ((w : Int) + 1) = ((w + 1 : Nat) : Int) := by rw [w64 (by omega) (by omega)]; omega
  have hps := pow_pos2 s
  have hps2 : (2 : Int) ^ s ≤ 2 ^ 32 := pow_le2 (by omega)
  have hms : m * 2 ^ s ≤ m * 2 ^ 32 := Int.mul_le_mul_of_nonneg_left hps2 h0
  have hms0 : 0 ≤ m * 2 ^ s := Int.mul_nonneg h0 (Int.le_of_lt hps)
  have e3 : shl .u64 (IntKind.u64.wrap m) (s : Int) = m * 2 ^ s := by
    unfold shl
    rw [u64w (x := m) (by omega) (by omega), show min (s : Int).toNat IntKind.u64.bits = s by simp [IntKind.bits]; omega, u64w hms0 (by omega)]
  obtain ⟨y, hy⟩ : ∃ y, m * 2 ^ s = y := ⟨_, rfl⟩
  have HY := Aside0.mk hy
  rw [hy] at hms hms0 e3
  have hy1 : y < 18446744073709551616 := by omega
  clear hy hms hps hps2
  obtain ⟨a, ha⟩ : ∃ a, y % 4294967296 = a := ⟨_, rfl⟩
  obtain ⟨b, hb⟩ : ∃ b, y / 4294967296 % 4294967296 = b := ⟨_, rfl⟩
  have hab : a + 4294967296 * b = y := by omega
  obtain ⟨r, r1, r2, r3, r4, r5⟩ := ev_norm (w + 2) (List.replicate w 0 ++ [a, b]) (by simp) (by simp; omega) (by
    intro d hd
    rcases List.mem_append.1 hd with h | h
    · rw [List.mem_replicate] at h; omega
    · simp at h; rcases h with rfl | rfl <;> omega)
  refine ⟨r, ?_, ?_, r3, r4, by have := r5; simp at this; omega⟩
  · have h2 : Ev (fun k => smallbig_nat_lsh.l0 k w s (List.replicate w 0 ++ [a, b]) [m] 1 1) r := by
      refine Ev.step (fun k => ?_) (Ev.bind (f := fun _ t162 => some t162) r1 (Ev.now _))
      rw [smallbig_nat_lsh.l0, if_neg (by omega)]
    refine Ev.congr (f := fun k => smallbig_nat_lsh.l0 k w s (List.replicate (w + 2) 0) [m] 1 0) (fun k => ?_) (Ev.step (fun k => ?_) h2)
    · unfold smallbig_nat_lsh.f
      rw [if_neg (by simp), e1, e2, e4, if_pos (by omega), if_pos (by omega), Int.toNat_natCast]
      rfl
    · rw [smallbig_nat_lsh.l0, if_pos (by omega), if_pos (by omega), if_pos (by simp), if_pos (by omega)]
      have e7 : rd [m] 0 = m := rfl
      have e8 : rd (List.replicate (w + 2) 0) (w : Int) = 0 := by simp [rd]
      rw [e5, e6, e7, e8, e3, if_pos (by omega), if_pos (by simp; omega), if_pos (by omega), if_pos (by simp), ha, hb, Int.toNat_natCast, Int.toNat_natCast]
      have e9 : Go.bits .or .u32 0 a = a := by
        have := bits_join .u32 32 (by decide) (fun n h0 h1 => by simp [IntKind.wrap, IntKind.signed, IntKind.bits]; omega) 32 0 a (by decide) (by decide) (by decide) (by omega) (by omega) (by omega)
        rw [this]; omega
      rw [e9, set_rep w a b trivial, w64 (by omega) (by omega)]
      rfl
  · rw [r2, nv_rep]
    simp only [nv]
    rw [show a + 4294967296 * (b + 4294967296 * 0) = m * 2 ^ s by rw [HY.out]; omega, ← Int.mul_assoc, Int.mul_comm (2 ^ (32 * w)) m, Int.mul_assoc, ← Int.pow_add]
    congr 2; omega
theorem ev_lsh0 (n : Nat) : Ev (fun k => smallbig_nat_lsh.f k [] n) [] := Ev.congr (f := fun _ => some []) (fun k => by unfold smallbig_nat_lsh.f; rw [if_pos (by simp)]) (Ev.now _)

/-! the reference -/
def zeros (n : Nat) : List Int := List.replicate n 0
theorem zeros_vB (n : Nat) : vB (zeros n) = 0 := by
  induction n with
  | zero => rfl
  | succ n ih => rw [zeros, List.replicate_succ, vB, Int.zero_mul]; rw [zeros] at ih; omega
def three (m : Int) : List Int := [m / 65536 % 256, m / 256 % 256, m % 256]
/-- what the reference takes for the number's bytes. -/
def specBytes (m : Int) (e : Nat) : List Int := if e ≤ 3 then (three m).take e else three m ++ zeros (e - 3)
theorem specBytes_bytes (m : Int) (e : Nat) : Bytes (specBytes m e) := by
  have h3 : Bytes (three m) := by
    intro d hd
    simp [three] at hd
    rcases hd with rfl | rfl | rfl <;> omega
  unfold specBytes
  by_cases c : e ≤ 3
  · rw [if_pos c]; exact fun d hd => h3 d (List.mem_of_mem_take hd)
  · rw [if_neg c]
    intro d hd
    rcases List.mem_append.1 hd with h | h
    · exact h3 d h
    · rw [zeros, List.mem_replicate] at h; omega
theorem specBytes_vB (m : Int) (h0 : 0 ≤ m) (h1 : m < 8388608) (e : Nat) : vB (specBytes m e) = if e ≤ 3 then m / 256 ^ (3 - e) else m * 256 ^ (e - 3) := by
  unfold specBytes
  by_cases c : e ≤ 3
  · rw [if_pos c, if_pos c]
    rcases (show e = 0 ∨ e = 1 ∨ e = 2 ∨ e = 3 by omega) with rfl | rfl | rfl | rfl <;> simp [three, vB] <;> omega
  · rw [if_neg c, if_neg c, vB_append, zeros_vB, zeros, List.length_replicate]
    have : vB (three m) = m := by simp [three, vB]; omega
    rw [this]; omega
theorem ev_specTarget (c : Int) (h0 : 0 ≤ c) (h1 : c < 4294967296) : Ev (fun k => spec_Target.f k c) (trimL (specBytes (c % 8388608) (c / 16777216).toNat), (Go.bits .and .u32 c 8388608 != 0) && decide (0 < (trimL (specBytes (c % 8388608) (c / 16777216).toNat)).length)) := by
  obtain ⟨m, hm⟩ : ∃ m, c % 8388608 = m := ⟨_, rfl⟩
  obtain ⟨e, he⟩ : ∃ e : Nat, c / 16777216 = e := ⟨(c / 16777216).toNat, by omega⟩
  obtain ⟨sg, hsg⟩ : ∃ sg, (Go.bits .and .u32 c 8388608 != 0) = sg := ⟨_, rfl⟩
  have e1 : IntKind.u64.wrap (Int.tmod c 8388608) = m := by rw [Int.tmod_eq_emod_of_nonneg h0, u64w (by omega) (by omega), hm]
  have e2 : wrap64 (c / 16777216) = (e : Int) := by rw [he, w64 (by omega) (by omega)]
  rw [hsg, hm, he, Int.toNat_natCast]
  have hm0 : 0 ≤ m := by omega
  have hm1 : m < 8388608 := by omega
  have he2 : e < 256 := by omega
  -- the last loop
  have hl1 : ∀ d i b, i + d = e → b.length + d < 1000 → Ev (fun k => spec_Target.l1 k sg e b i) (trimL (b ++ zeros d), sg && decide (0 < (trimL (b ++ zeros d)).length)) := by
    intro d
    induction d with
    | zero =>
      intro i b hi hb
      rw [show b ++ zeros 0 = b by simp [zeros]]
      refine Ev.step (fun k => ?_) (Ev.bind (f := fun _ t127 => if sg = true then (some (t127, decide ((t127.length : Int) > 0))) else (some (t127, false))) (ev_trim b (by omega)) ?_)
      · rw [spec_Target.l1, if_neg (by omega)]
      · cases sg
        · simp; exact Ev.now _
        · have : decide ((0 : Int) < ((trimL b).length : Int)) = decide (0 < (trimL b).length) := by rw [decide_eq_decide]; omega
          simp only [if_true, Bool.true_and, gt_iff_lt, this]; exact Ev.now _
    | succ d ih =>
      intro i b hi hb
      have h := ih (i + 1) (b ++ [0]) (by omega) (by simp; omega)
      rw [show b ++ [0] ++ zeros d = b ++ zeros (d + 1) by rw [List.append_assoc]; rfl] at h
      refine Ev.step (fun k => ?_) h
      rw [spec_Target.l1, if_pos (by omega), if_pos (by omega), w64 (by omega) (by omega)]; rfl
  have hj1 : ∀ b, b.length ≤ 3 → Ev (fun k => spec_Target.j1 k sg e b) (trimL (b ++ zeros (e - 3)), sg && decide (0 < (trimL (b ++ zeros (e - 3))).length)) := by
    intro b hb
    rcases Nat.lt_or_ge e 3 with h | h
    · refine Ev.step (f := fun k => spec_Target.l1 k sg e b 3) (fun k => by rw [spec_Target.j1]) ?_
      have h0 := hl1 0 e b (by omega) (by omega)
      rw [show e - 3 = 0 by omega]
      rw [show b ++ zeros 0 = b by simp [zeros]] at h0 ⊢
      refine Ev.step (fun k => ?_) (Ev.bind (f := fun _ t127 => if sg = true then (some (t127, decide ((t127.length : Int) > 0))) else (some (t127, false))) (ev_trim b (by omega)) ?_)
      · rw [spec_Target.l1, if_neg (by omega)]
      · cases sg
        · simp; exact Ev.now _
        · have : decide ((0 : Int) < ((trimL b).length : Int)) = decide (0 < (trimL b).length) := by rw [decide_eq_decide]; omega
          simp only [if_true, Bool.true_and, gt_iff_lt, this]; exact Ev.now _
    · refine Ev.step (f := fun k => spec_Target.l1 k sg e b 3) (fun k => by rw [spec_Target.j1]) ?_
      exact hl1 (e - 3) 3 b (by omega) (by omega)
  have hsh : ∀ j : Nat, j ≤ 2 → shr .u64 m (wrap64 (8 * (j : Int))) % 256 = m / 256 ^ j % 256 := by
    intro j hj
    unfold shr
    rw [w64 (by omega) (by omega), show min (8 * (j : Int)).toNat IntKind.u64.bits = 8 * j by simp [IntKind.bits]; omega, pow256]
  have hend : Ev (fun k => spec_Target.l0 k sg m e (three m) (-1)) (trimL (specBytes m e), sg && decide (0 < (trimL (specBytes m e)).length)) := by
    unfold specBytes
    by_cases c3 : e ≤ 3
    · rw [if_pos c3]
      have h := hj1 ((three m).take e) (by simp [three]; omega)
      rw [show e - 3 = 0 by omega, show (three m).take e ++ zeros 0 = (three m).take e by simp [zeros]] at h
      refine Ev.step (fun k => ?_) h
      rw [spec_Target.l0, if_neg (by omega), if_pos (by omega), if_pos (by omega), if_pos (by simp [three]; omega), Int.toNat_natCast]
    · rw [if_neg c3]
      refine Ev.step (fun k => ?_) (hj1 (three m) (by simp [three]))
      rw [spec_Target.l0, if_neg (by omega), if_neg (by omega)]
  have s2 : shr .u64 m (wrap64 (8 * 2)) % 256 = m / 65536 % 256 := by have := hsh 2 (by omega); simpa using this
  have s1 : shr .u64 m (wrap64 (8 * 1)) % 256 = m / 256 % 256 := by have := hsh 1 (by omega); simpa using this
  have s0 : shr .u64 m (wrap64 (8 * 0)) % 256 = m % 256 := by have := hsh 0 (by omega); simpa using this
  have p2 : (0 : Int) ≤ wrap64 (8 * 2) := by unfold wrap64; omega
  have p1 : (0 : Int) ≤ wrap64 (8 * 1) := by unfold wrap64; omega
  have p0 : (0 : Int) ≤ wrap64 (8 * 0) := by unfold wrap64; omega
  have t2 : wrap64 (2 - 1) = 1 := by unfold wrap64; omega
  have t1 : wrap64 (1 - 1) = 0 := by unfold wrap64; omega
  have t0 : wrap64 (0 - 1) = -1 := by unfold wrap64; omega
  refine Ev.congr (f := fun k => spec_Target.l0 k sg m e [] 2) (fun k => by unfold spec_Target.f; rw [hsg, e1, e2]) (Ev.step (f := fun k => spec_Target.l0 k sg m e [m / 65536 % 256] 1) (fun k => ?_) (Ev.step (f := fun k => spec_Target.l0 k sg m e [m / 65536 % 256, m / 256 % 256] 0) (fun k => ?_) (Ev.step (fun k => ?_) hend)))
  · rw [spec_Target.l0, if_pos (by omega), if_pos p2, if_pos (by simp), s2, t2]; rfl
  · rw [spec_Target.l0, if_pos (by omega), if_pos p1, if_pos (by simp), s1, t1]; rfl
  · rw [spec_Target.l0, if_pos (by omega), if_pos p0, if_pos (by simp), s0, t0]; rfl

theorem copied_any (l : List Int) (hl : l.length < 1000000) : impl_copied.f l = some l := by
  unfold impl_copied.f
  simp; omega

/-- CompactToBig's number. -/
def valueOf (c : Int) : Int := if (c / 16777216).toNat ≤ 3 then c % 8388608 / 256 ^ (3 - (c / 16777216).toNat) else c % 8388608 * 256 ^ ((c / 16777216).toNat - 3)
theorem compacts (c : Int) (h0 : 0 ≤ c) (h1 : c < 4294967296) : ∃ l, Compacts c ((Go.bits .and .u32 c 8388608 != 0) && decide (l ≠ [])) l ∧ nv l = valueOf c ∧ Dig l ∧ Top l ∧ l.length ≤ 1000 := by
  obtain ⟨m, hm⟩ : ∃ m, c % 8388608 = m := ⟨_, rfl⟩
  obtain ⟨e, he⟩ : ∃ e : Nat, c / 16777216 = e := ⟨(c / 16777216).toNat, by omega⟩
  have hm0 : 0 ≤ m := by omega
  have hm1 : m < 8388608 := by omega
  have hmask : Go.bits .and .u32 c 8388607 = m := by
    have := bits_mask .u32 32 (by decide) (fun n h0 h1 => by simp [IntKind.wrap, IntKind.signed, IntKind.bits]; omega) 23 (by decide) c h0 (by simpa using h1)
    rw [← hm]; exact this
  unfold valueOf
  rw [hm, he, Int.toNat_natCast]
  by_cases c3 : e ≤ 3
  · rw [if_pos c3]
    have hx : m / 256 ^ (3 - e) ≤ m := Int.ediv_le_self _ hm0
    have hx0 : 0 ≤ m / 256 ^ (3 - e) := Int.ediv_nonneg hm0 (Int.le_of_lt (pow_pos256 _))
    have hM : wrap64 (Go.bits .and .u32 c 8388607 / 2 ^ (8 * (3 - c / 16777216)).toNat) = m / 256 ^ (3 - e) := by
      rw [hmask, he, show (8 * (3 - (e : Int))).toNat = 8 * (3 - e) by omega, ← pow256, w64 (by omega) (by omega)]
    generalize hX : m / 256 ^ (3 - e) = X at *
    obtain ⟨l, ⟨K, hK⟩, hn, hd, ht, hl⟩ := ev_natOf X (by omega) (by omega)
    refine ⟨l, ?_, hn, hd, ht, by omega⟩
    intro w
    by_cases hs : (Go.bits .and .u32 c 8388608 != 0) = false
    · rw [hs, Bool.false_and]
      exact compact_small_pos c h0 h1 (by omega) hs X 0 hM hx0 (by omega) K [] l (hK K (Nat.le_refl _)) w
    · have hs2 : (Go.bits .and .u32 c 8388608 != 0) = true := by simpa using hs
      rw [hs2, Bool.true_and]
      by_cases hl0 : l = []
      · rw [decide_eq_false (by simp [hl0])]
        exact compact_small_nil c h0 h1 (by omega) hs2 X 0 hM hx0 (by omega) K [] l (by simp [hl0]) (hK K (Nat.le_refl _)) w
      · rw [decide_eq_true hl0]
        exact compact_small_neg c h0 h1 (by omega) hs2 X 0 hM hx0 (by omega) K [] l (List.length_pos_iff.2 hl0) (hK K (Nat.le_refl _)) w
  · rw [if_neg c3]
    have hM : wrap64 (Go.bits .and .u32 c 8388607) = m := by rw [hmask, w64 (by omega) (by omega)]
    have hS : IntKind.u64.wrap (8 * (c / 16777216 - 3)) = ((8 * (e - 3) : Nat) : Int) := by rw [he, u64w (by omega) (by omega)]; omega
    obtain ⟨l0, ⟨K0, hK0⟩, hn0, hd0, ht0, hl0⟩ := ev_natOf m (by omega) (by omega)
    have hl1 : ∃ l, Ev (fun k => smallbig_nat_lsh.f k l0 ((8 * (e - 3) : Nat) : Int)) l ∧ nv l = m * 256 ^ (e - 3) ∧ Dig l ∧ Top l ∧ l.length ≤ 1000 := by
      by_cases hz : m = 0
      · have e0 : l0 = [] := by
          cases hc : l0 with
          | nil => rfl
          | cons x xs =>
            exfalso
            have hnn := hn0
            obtain ⟨a, y, hy⟩ : ∃ a y, l0 = a ++ [y] := ⟨l0.dropLast, l0.getLast (by rw [hc]; simp), (List.dropLast_concat_getLast _).symm⟩
            have hy0 := ht0 a y hy
            have hy1 := hd0 y (by rw [hy]; simp)
            have hna := nv_range (l := a) (fun d hd' => hd0 d (by rw [hy]; exact List.mem_append_left _ hd'))
            rw [hy, nv_append, hz] at hnn
            simp only [nv] at hnn
            have hp := pow_pos2 (32 * a.length)
            have h4 : 2 ^ (32 * a.length) * 1 ≤ 2 ^ (32 * a.length) * (y + 4294967296 * 0) := Int.mul_le_mul_of_nonneg_left (by omega) (Int.le_of_lt hp)
            omega
        subst e0
        refine ⟨[], ev_lsh0 _, by rw [hz]; simp [nv], fun _ h => by simp at h, fun a x h => by simp at h, by simp⟩
      · have e0 : l0 = [m] := by
          have hd0' := hd0
          cases l0 with
          | nil => simp [nv] at hn0; omega
          | cons x xs =>
            cases xs with
            | nil => simp [nv] at hn0; rw [hn0]
            | cons y ys =>
              exfalso
              have hys : ys = [] := by
                cases ys with
                | nil => rfl
                | cons _ _ => simp at hl0
              subst hys
              have h1 := ht0 [x] y rfl
              have h2 := hd0' x (by simp)
              have h3 := hd0' y (by simp)
              simp only [nv] at hn0
              omega
        subst e0
        obtain ⟨r, r1, r2, r3, r4, r5⟩ := ev_lsh1 m hm0 hm1 (8 * (e - 3)) (by omega)
        exact ⟨r, r1, by rw [r2, pow256], r3, r4, r5⟩
    obtain ⟨l, ⟨K1, hK1⟩, hn, hd, ht, hl⟩ := hl1
    refine ⟨l, ?_, hn, hd, ht, hl⟩
    intro w
    have k0 := hK0 (K0 + K1) (by omega)
    have k1 := hK1 (K0 + K1) (by omega)
    by_cases hs : (Go.bits .and .u32 c 8388608 != 0) = false
    · rw [hs, Bool.false_and]
      exact compact_big_pos c h0 h1 (by omega) hs m _ hM hm0 (by omega) (K0 + K1) l0 l k0 hS k1 w
    · have hs2 : (Go.bits .and .u32 c 8388608 != 0) = true := by simpa using hs
      rw [hs2, Bool.true_and]
      by_cases hz : l = []
      · rw [decide_eq_false (by simp [hz])]
        exact compact_big_nil c h0 h1 (by omega) hs2 m _ hM hm0 (by omega) (K0 + K1) l0 l (by simp [hz]) k0 hS k1 w
      · rw [decide_eq_true hz]
        exact compact_big_neg c h0 h1 (by omega) hs2 m _ hM hm0 (by omega) (K0 + K1) l0 l (List.length_pos_iff.2 hz) k0 hS k1 w

end Go.Proofs.Ytigpdgfhngknhaa.Big
/- spec.HashNumber and impl.HashNumber: a hash as a number. -/
namespace Go.Proofs.Ytigpdgfhngknhaa.Big
open Go.RowKit Go.Proofs.YtigpdgfhngknhaaW.PrintWords Go.Proofs.YtigpdgfhngknhaaW.PrintLast Go.Proofs.YtigpdgfhngknhaaW.PrintMore Go.Proofs.Ytigpdgfhngknhaa.QFnProofFault
set_option linter.unusedVariables false
set_option linter.unusedSimpArgs false
/-- A hash as a value. -/
def hv (xs : List Int) : Value := .agg (xs.map (Value.int .u8)).toArray

set_option maxRecDepth 100000 in
set_option maxHeartbeats 4000000 in
theorem specHash (xs : List Int) (hl : xs.length = 32) (k : Nat) (r : List Int) (hr : spec_trim.f k xs.reverse = some r) (w : World) :
    Calls Try.prog 15 #[hv xs] w fun e w' => ∃ v, e = .returned v ∧ Kd.R (Kd.int .u8) 5 w' w.heap.size (fun k => w.heap.size ≤ k) v r ∧ Below w.heap.size w w' := by
  obtain ⟨ys, hys⟩ : ∃ ys, xs.reverse = ys := ⟨_, rfl⟩
  have HYL := Aside0.mk (show ys.length = 32 by rw [← hys, List.length_reverse, hl])
  rw [hys] at hr
  have HYS := Aside0.mk hys
  have HR := Aside0.mk hr
  have HL := Aside0.mk hl
  clear hr hl hys
  go_enter Try.func15, Try.ntmps15
  unfold hv
  go_wp2
  obtain ⟨W0, hW0⟩ : ∃ W0, w.alloc (.cells (List.map (Value.int .u8) xs).toArray 22) = W0 := ⟨_, rfl⟩
  have HG := Aside0.mk (show W0.heap[w.heap.size]? = some (.cells (List.map (Value.int .u8) xs).toArray 22 (0, 0)) by rw [← hW0]; exact heap_alloc_new w _)
  have HB0 := Aside0.mk (show Below w.heap.size w W0 by rw [← hW0]; exact below_alloc (Below.refl _ _) _)
  have hsz : W0.heap.size = w.heap.size + 1 := by rw [← hW0]; simp
  rw [hW0]
  clear hW0
  go_loopw [3, 4] (fun v3 v4 wr => ∃ j : Nat, j ≤ 32 ∧ v4 = .int .i64 (31 - (j : Int)) ∧ Aside0 (Kd.R (Kd.int .u8) 5 wr W0.heap.size (fun _ => True) v3 (ys.take j)) ∧ Aside0 (Below W0.heap.size W0 wr)) (fun _ v4 _ => (intOf v4 + 1).toNat)
  case atStart => exact ⟨0, Nat.zero_le _, rfl, ⟨Kd.R_nil _ _ _ _ _⟩, ⟨Below.refl _ _⟩⟩
  case round =>
    obtain ⟨j, hj, rfl, HRj, HBj⟩ := hrel
    have hlj : (ys.take j).length = j := by rw [List.length_take, HYL.out]; omega
    by_cases hlt : j < 32
    · have b0 : decide ((0 : Int) ≤ 31 - (j : Int)) = true := decide_eq_true (by omega)
      have b1 : (0 : Int) ≤ 31 - (j : Int) := by omega
      have b2 : 31 - (j : Int) < 32 := by omega
      obtain ⟨i, hi⟩ : ∃ i : Nat, 31 - (j : Int) = i := ⟨31 - j, by omega⟩
      have hg := (HBj.out.block _ (by omega)).trans HG.out
      obtain ⟨c, hc⟩ : ∃ c, xs[i]? = some c := ⟨xs[i]'(by have := HL.out; omega), by rw [List.getElem?_eq_getElem]⟩
      have hy := cell_of hg (j := i) (v := .int .u8 c) (by simp [hc])
      have HI := Aside0.mk hi
      have HJ := Aside0.mk hlj
      have HC := Aside0.mk hc
      rw [hi] at b0 b1 b2
      rw [hi]
      clear hg hi hlj hc
      go_wp2_with ((with_reducible refine gate_builtin (b := .append) (xs := #[.tmp 9, .tmp 13]) rfl ?_); at_builtin; refine Kd.R_append (Kd.int .u8) (w0 := W0) W0.heap.size rfl (.tmp 9) (.tmp 13) 26 5 (.int .u8 0) 1 rfl Try.underlying26 info5 rfl (by decide) (by omega) u3 (ys.take j) c [.int .u8 c] (fun _ => True) (fun _ => False) rfl rfl ?aP (fun _ hk => hk.elim) ?aF ?aO ?aB ?aS ?aL ?_; (case aP => exact rfl); (case aB => exact HBj.out); (case aF => exact (fun _ _ => trivial)); (case aO => exact HRj.out); (case aS => exact HBj.out.size); (case aL => have := HJ.out; omega); intro v1 w1 ho hb hg hat; have HO := Aside0.mk ho; have HB1 := Aside0.mk hb; clear ho hb hg hat)
      refine ⟨⟨j + 1, by omega, by have := HI.out; congr 1; omega, ⟨?_⟩, HB1⟩, by simp only [intOf]; omega⟩
      have e : ys.take (j + 1) = ys.take j ++ [c] := by
        have h2 := HI.out
        have h3 := HL.out
        rw [List.take_add_one, ← HYS.out, List.getElem?_reverse (by omega), show xs.length - 1 - j = i by omega, HC.out]; rfl
      rw [e]; exact HO.out
    · obtain rfl : j = 32 := by omega
      rw [show (31 : Int) - ((32 : Nat) : Int) = -1 from rfl]
      clear hj hlj hlt
      rw [List.take_of_length_le (by have := HYL.out; omega)] at HRj
      obtain ⟨A9, c9, e9, hl9, hC9⟩ := Kd.R_reads HRj.out
      subst e9
      have HC9 := Aside0.mk hC9
      have HL9 := Aside0.mk hl9
      clear hl9 hC9
      go_wp2_with (go_at_call 23; refine (spec_trim.calls k A9 c9 _ r _ HC9.out HL9.out HR.out).mono ?_; rintro e w3 ⟨v3, rfl, hr, hb⟩; have HR3 := Aside0.mk hr; have HB3 := Aside0.mk hb; clear hr hb)
      go_ret
      have hs := HBj.out.size
      refine ⟨_, rfl, Kd.R_mono (Kd.R_lower (Kd.R_bound HR3.out) (by omega)) (fun k hk => by have := hk.2.1; omega), HB0.out.trans ((HBj.out.mono (by omega)).trans (HB3.out.mono (by omega)))⟩
end Go.Proofs.Ytigpdgfhngknhaa.Big
/- HashToBig: a hash's bytes turned about, as a whole number. -/
namespace Go.Proofs.Ytigpdgfhngknhaa.Big
open Go.RowKit Go.Proofs.YtigpdgfhngknhaaW.PrintWords Go.Proofs.YtigpdgfhngknhaaW.PrintLast Go.Proofs.YtigpdgfhngknhaaW.PrintMore Go.Proofs.Ytigpdgfhngknhaa.QFnProofFault
set_option linter.unusedVariables false
set_option linter.unusedSimpArgs false
/-- 32 bytes of which the first i and the last i have changed places. -/
def sw (xs : List Int) (i : Nat) : List Int := (List.range 32).map fun j => if j < i ∨ 32 - i ≤ j then xs.getD (31 - j) 0 else xs.getD j 0
theorem sw_length (xs : List Int) (i : Nat) : (sw xs i).length = 32 := by simp [sw]
theorem sw_zero (xs : List Int) (hl : xs.length = 32) : sw xs 0 = xs := by
  apply List.ext_getElem
  · simp [sw, hl]
  · intro j h1 h2
    rw [sw_length] at h1
    simp only [sw, List.getElem_map, List.getElem_range]
    rw [if_neg (by omega), List.getD_eq_getElem?_getD, List.getElem?_eq_getElem h2]; rfl
theorem sw_all (xs : List Int) (hl : xs.length = 32) : sw xs 16 = xs.reverse := by
  apply List.ext_getElem
  · simp [sw, hl]
  · intro j h1 h2
    rw [sw_length] at h1
    simp only [sw, List.getElem_map, List.getElem_range]
    rw [if_pos (by omega), List.getElem_reverse, List.getD_eq_getElem?_getD, List.getElem?_eq_getElem (by omega)]
    simp only [Option.getD_some]
    congr 1; omega
theorem sw_get (xs : List Int) (i j : Nat) (hj : j < 32) (h : ¬ (j < i ∨ 32 - i ≤ j)) : (sw xs i)[j]? = some (xs.getD j 0) := by
  simp only [sw, List.getElem?_map, List.getElem?_range hj, Option.map_some, if_neg h]
theorem sw_step (xs : List Int) (i : Nat) (hi : i < 16) : ((sw xs i).set i (xs.getD (31 - i) 0)).set (31 - i) (xs.getD i 0) = sw xs (i + 1) := by
  apply List.ext_getElem
  · simp [sw]
  · intro j h1 h2
    rw [sw_length] at h2
    rw [List.getElem_set, List.getElem_set]
    simp only [sw, List.getElem_map, List.getElem_range]
    by_cases e1 : 31 - i = j
    · rw [if_pos e1, if_pos (by omega)]; congr 1; omega
    · rw [if_neg e1]
      by_cases e2 : i = j
      · subst e2; rw [if_pos rfl, if_pos (by omega)]
      · rw [if_neg e2]
        by_cases h : j < i ∨ 32 - i ≤ j
        · rw [if_pos h, if_pos (by omega)]
        · rw [if_neg h, if_neg (by omega)]

/-- A block of bytes as a row that is read. -/
theorem V_block {w : World} {b e base : Nat} {T : TypeId} {fr : Nat × Nat} {xs : List Int} (hb : w.heap[b]? = some (.cells (xs.map (Value.int .u8)).toArray T fr)) (hl : xs.length ≤ 1000000) :
    Kd.V (Kd.int .u8) e w base (fun k => k = b) (.slice (some ⟨b, 0, none⟩) xs.length xs.length) xs := by
  refine Kd.V_mk (Nat.le_refl _) (fun W' hW => ?_)
  refine Kd.C_of_reads (enc := Value.int .u8) (d := 0) ⟨rfl, by omega, fun hn => ⟨_, rfl, fun j hj => ?_⟩⟩
  have h := (hW b rfl (blk_lt' hb)).trans hb
  have := cell_of h (j := j) (v := .int .u8 (xs.getD j 0)) (by simp [hj])
  have e : (⟨b, 0, none⟩ : Addr).add j = ⟨b, j, none⟩ := by
    unfold Addr.add
    split <;> simp_all
  rw [e]; exact this
section
variable {P : Program}
/-- A whole row stored into the block that was just laid. -/
theorem wpList_store_new {ops : Array Oper} {rest : List Oper} {o : Oper} {a : Act} {w : World} {Q : Exit → Act → World → Prop} (hgd : o.guard = none) (ty : TypeId) (x y : Operand) (ho : o.op = .store ty x y)
    (cells : Array Value) (hx : a.eval x = .pointer (some ⟨w.heap.size, 0, none⟩)) (hy : a.eval y = .agg cells) (hd : o.dst = none)
    (t : TypeId) (old : Array Value) (hi : (P.info? ty).map (·.size) = some cells.size)
    (hold : old.size = cells.size) (h1 : cells.all (·.oneCell') = true)
    (h : ∀ W1, W1.heap[w.heap.size]? = some (.cells cells t (0, 0)) → Below w.heap.size w W1 → W1.heap.size = w.heap.size + 1 → wpList P ops Q rest a W1) : wpList P ops Q (o :: rest) a (w.alloc (.cells old t)) := by
  refine wpList_store_row hgd ty x y ho w.heap.size cells hx hy t old (heap_alloc_new w _) hi hold h1 ?_
  rw [hd]
  exact h _ (setRow_heap _ _ _ _ _ _ (heap_alloc_new w _)) (below_setRow ((Below.refl _ _).alloc (Nat.le_refl _) _) (Nat.le_refl _) _) (by simp)
end

set_option maxRecDepth 100000 in
set_option maxHeartbeats 4000000 in
theorem hashToBig (g : Nat) (xs : List Int) (hl : xs.length = 32) (hx : Bytes xs) (k : Nat) (r : List Int) (hr : smallbig_nat_norm.f k (dg (vB xs.reverse) 8) = some r) (w : World) (T : TypeId)
    (hg : w.heap[g]? = some (.cells (xs.map (Value.int .u8)).toArray T (0, 0))) :
    Calls Try.prog 42 #[.pointer (some ⟨g, 0, none⟩)] w fun e w' => e = .returned (.pointer (some ⟨w.heap.size + 1, 0, none⟩)) ∧ Is w' (w.heap.size + 1) (· ≠ w.heap.size + 1) false r ∧ Below w.heap.size w w' := by
  have HR := Aside0.mk hr
  have HL := Aside0.mk hl
  have HX := Aside0.mk hx
  have HG0 := Aside0.mk hg
  obtain ⟨arr, ha⟩ : ∃ arr, (xs.map (Value.int .u8)).toArray = arr := ⟨_, rfl⟩
  have HA := Aside0.mk ha
  have HAS := Aside0.mk (show arr.size = 32 by rw [← ha]; simp [hl])
  have HA1 := Aside0.mk (show arr.all (·.oneCell') = true by rw [← ha]; simp [Value.oneCell'])
  rw [ha] at HG0
  clear hr hl hx hg ha
  go_enter Try.func42, Try.ntmps42
  go_wp2_with (first
    | ((with_reducible refine at_dst (N := 8) rfl ?_); refine wpList_load_row rfl 50 (.tmp 7) rfl g rfl T arr (0, 0) _ HG0.out Try.underlying50 rfl (by rw [HAS.out]; kernel_rfl) ?_)
    | (refine wpList_store_new rfl 50 (.tmp 3) (.tmp 8) rfl arr rfl rfl rfl 50 _ (by rw [HAS.out]; kernel_rfl) (by rw [HAS.out]; rfl) HA1.out ?_; intro W1 hg1 hb1 hz1; have HG1 := Aside0.mk hg1; have HB1 := Aside0.mk hb1; have HZ1 := Aside0.mk hz1; clear hg1 hb1 hz1))
  go_loopw [5] (fun v5 wr => ∃ i : Nat, i ≤ 16 ∧ v5 = .int .i64 i ∧ Aside0 (wr.heap[w.heap.size]? = some (.cells ((sw xs i).map (Value.int .u8)).toArray 50 (0, 0))) ∧ Aside0 (Below w.heap.size w wr) ∧ Aside0 (wr.heap.size = w.heap.size + 1)) (fun v5 _ => 16 - (intOf v5).toNat)
  case atStart => exact ⟨0, Nat.zero_le _, rfl, ⟨by rw [sw_zero xs HL.out, HA.out]; exact HG1.out⟩, HB1, HZ1⟩
  case round =>
    clear HG1 HB1 HZ1
    obtain ⟨i, hi, rfl, HGi, HBi, HZi⟩ := hrel
    by_cases hlt : i < 16
    · have b0 : decide ((i : Int) < 16) = true := decide_eq_true (by omega)
      have b1 : decide (i < 16) = true := decide_eq_true hlt
      obtain ⟨m, hK⟩ : ∃ m, 31 - i = m := ⟨_, rfl⟩
      have hKi : (31 : Int) - i = (m : Int) := by omega
      have b2 : (0 : Int) ≤ (i : Int) := by omega
      have b3 : (i : Int) < 32 := by omega
      have b4 : (0 : Int) ≤ (m : Int) := by omega
      have b5 : (m : Int) < 32 := by omega
      obtain ⟨x, hx⟩ : ∃ x, xs.getD i 0 = x := ⟨_, rfl⟩
      obtain ⟨y, hy⟩ : ∃ y, xs.getD m 0 = y := ⟨_, rfl⟩
      have hne : i ≠ m := by omega
      have HX1 := Aside0.mk (show (sw xs i)[i]? = some x by rw [sw_get xs i i (by omega) (by omega), hx])
      have HY1 := Aside0.mk (show (sw xs i)[m]? = some y by rw [sw_get xs i m (by omega) (by omega), hy])
      have HSW := Aside0.mk (sw_step xs i hlt)
      rw [hK, hx, hy] at HSW
      have HG1 := Aside0.mk (show wr.drew.heap[w.heap.size]? = _ from HGi.out)
      have HS := Aside0.mk (And.intro (cell_of (w := wr.drew) HGi.out (j := i) (v := .int .u8 x) (by simp [HX1.out])) (cell_of (w := wr.drew) HGi.out (j := m) (v := .int .u8 y) (by simp [HY1.out])))
      have HQ1 := Aside0.mk (show wrap64 (31 - (i : Int)) = (m : Int) by rw [hKi]; exact w64 (by omega) (by omega))
      have HKK := Aside0.mk hKi
      have HI := Aside0.mk hi
      have HNE := Aside0.mk hne
      clear hK hx hy hi hne hKi
      go_wp2
      have q0 : wrap64 31 = 31 := w64 (by omega) (by omega)
      have q1 := HQ1.out
      refine start_ (n := 18) (S := fun w' => w'.cell? ⟨w.heap.size, i, none⟩ = some (.int .u8 x) ∧ w'.cell? ⟨w.heap.size, m, none⟩ = some (.int .u8 y)) (ds := [15, 17]) #[false, false, false, false, false, false, false, false, false, false, false, false, false, false, false, false, false, false] (by kernel_rfl) rfl rfl HS.out (fun hHeld => ?_)
      refine pure_ (i := 0) (N := some 15) (v := ?_) (a' := ?_) #[true, false, false, false, false, false, false, false, false, false, false, false, false, false, false, false, false, false] rfl rfl (by kernel_rfl) (fun _ _ _ h => h) (Or.inl ⟨by rfl, ?_⟩) ?_ ?_
      rotate_left
      · intro w'
        go_simp
        with_reducible rfl
      rotate_left
      · simp only [Act.put, List.setIfInBounds_toArray, List.set_cons_zero, List.set_cons_succ, i64_w, i32_w]
        rfl
      refine pure_ (i := 1) (N := some 16) (v := ?_) (a' := ?_) #[true, true, false, false, false, false, false, false, false, false, false, false, false, false, false, false, false, false] rfl rfl (by kernel_rfl) (fun _ _ _ h => h) (Or.inl ⟨by rfl, ?_⟩) ?_ ?_
      rotate_left
      · intro w'
        go_simp
        with_reducible rfl
      rotate_left
      · simp only [Act.put, List.setIfInBounds_toArray, List.set_cons_zero, List.set_cons_succ, i64_w, i32_w]
        rfl
      refine pure_ (i := 2) (N := some 17) (v := ?_) (a' := ?_) #[true, true, true, false, false, false, false, false, false, false, false, false, false, false, false, false, false, false] rfl rfl (by kernel_rfl) (fun _ _ _ h => h) (Or.inl ⟨by rfl, ?_⟩) ?_ ?_
      rotate_left
      · intro w'
        go_simp
        with_reducible rfl
      rotate_left
      · simp only [Act.put, List.setIfInBounds_toArray, List.set_cons_zero, List.set_cons_succ, i64_w, i32_w]
        rfl
      refine pure_ (i := 3) (N := some 18) (v := ?_) (a' := ?_) #[true, true, true, true, false, false, false, false, false, false, false, false, false, false, false, false, false, false] rfl rfl (by kernel_rfl) (fun _ _ _ h => h) (Or.inl ⟨by rfl, ?_⟩) ?_ ?_
      rotate_left
      · intro w'
        go_simp
        with_reducible rfl
      rotate_left
      · simp only [Act.put, List.setIfInBounds_toArray, List.set_cons_zero, List.set_cons_succ, i64_w, i32_w]
        rfl
      refine pure_ (i := 4) (N := some 19) (v := ?_) (a' := ?_) #[true, true, true, true, true, false, false, false, false, false, false, false, false, false, false, false, false, false] rfl rfl (by kernel_rfl) (fun _ _ _ h => h) (Or.inl ⟨by rfl, ?_⟩) ?_ ?_
      rotate_left
      · intro w'
        go_simp
        with_reducible rfl
      rotate_left
      · simp only [Act.put, List.setIfInBounds_toArray, List.set_cons_zero, List.set_cons_succ, i64_w, i32_w]
        rfl
      refine pure_ (i := 5) (N := some 20) (v := ?_) (a' := ?_) #[true, true, true, true, true, true, false, false, false, false, false, false, false, false, false, false, false, false] rfl rfl (by kernel_rfl) (fun _ _ _ h => h) (Or.inl ⟨by rfl, ?_⟩) ?_ ?_
      rotate_left
      · intro w'
        go_simp
        with_reducible rfl
      rotate_left
      · simp only [Act.put, List.setIfInBounds_toArray, List.set_cons_zero, List.set_cons_succ, i64_w, i32_w]
        rfl
      refine pure_ (i := 6) (N := some 21) (v := ?_) (a' := ?_) #[true, true, true, true, true, true, true, false, false, false, false, false, false, false, false, false, false, false] rfl rfl (by kernel_rfl) (fun _ _ _ h => h) (Or.inl ⟨by rfl, ?_⟩) ?_ ?_
      rotate_left
      · intro w'
        go_simp
        with_reducible rfl
      rotate_left
      · simp only [Act.put, List.setIfInBounds_toArray, List.set_cons_zero, List.set_cons_succ, i64_w, i32_w]
        rfl
      refine pure_ (i := 7) (N := some 22) (v := ?_) (a' := ?_) #[true, true, true, true, true, true, true, true, false, false, false, false, false, false, false, false, false, false] rfl rfl (by kernel_rfl) (fun _ _ _ h => h) (Or.inl ⟨by rfl, ?_⟩) ?_ ?_
      rotate_left
      · intro w'
        go_simp
        with_reducible rfl
      rotate_left
      · simp only [Act.put, List.setIfInBounds_toArray, List.set_cons_zero, List.set_cons_succ, i64_w, i32_w]
        rfl
      refine pure_ (i := 8) (N := some 23) (v := ?_) (a' := ?_) #[true, true, true, true, true, true, true, true, true, false, false, false, false, false, false, false, false, false] rfl rfl (by kernel_rfl) (fun _ _ _ h => h) (Or.inl ⟨by rfl, ?_⟩) ?_ ?_
      rotate_left
      · intro w'
        go_simp
        with_reducible rfl
      rotate_left
      · simp only [Act.put, List.setIfInBounds_toArray, List.set_cons_zero, List.set_cons_succ, i64_w, i32_w]
        rfl
      refine pure_ (i := 9) (N := some 24) (v := ?_) (a' := ?_) #[true, true, true, true, true, true, true, true, true, true, false, false, false, false, false, false, false, false] rfl rfl (by kernel_rfl) (fun _ _ _ h => h) (Or.inl ⟨by rfl, ?_⟩) ?_ ?_
      rotate_left
      · intro w'
        go_simp
        with_reducible rfl
      rotate_left
      · simp only [Act.put, List.setIfInBounds_toArray, List.set_cons_zero, List.set_cons_succ, i64_w, i32_w]
        rfl
      refine take_ (i := 10) (N := some 25) (v := ?_) (a' := ?_) #[true, true, true, true, true, true, true, true, true, true, true, false, false, false, false, false, false, false] rfl rfl (by kernel_rfl) (fun _ _ _ h => h) (Or.inl ⟨by rfl, ?_⟩) hHeld ?_ ?_
      rotate_left
      · rintro w' ⟨s0, s1⟩
        go_simp
        with_reducible rfl
      rotate_left
      · simp only [Act.put, List.setIfInBounds_toArray, List.set_cons_zero, List.set_cons_succ, i64_w, i32_w]
        rfl
      refine pure_ (i := 11) (N := some 26) (v := ?_) (a' := ?_) #[true, true, true, true, true, true, true, true, true, true, true, true, false, false, false, false, false, false] rfl rfl (by kernel_rfl) (fun _ _ _ h => h) (Or.inl ⟨by rfl, ?_⟩) ?_ ?_
      rotate_left
      · intro w'
        go_simp
        with_reducible rfl
      rotate_left
      · simp only [Act.put, List.setIfInBounds_toArray, List.set_cons_zero, List.set_cons_succ, i64_w, i32_w]
        rfl
      refine pure_ (i := 12) (N := some 27) (v := ?_) (a' := ?_) #[true, true, true, true, true, true, true, true, true, true, true, true, true, false, false, false, false, false] rfl rfl (by kernel_rfl) (fun _ _ _ h => h) (Or.inl ⟨by rfl, ?_⟩) ?_ ?_
      rotate_left
      · intro w'
        go_simp
        with_reducible rfl
      rotate_left
      · simp only [Act.put, List.setIfInBounds_toArray, List.set_cons_zero, List.set_cons_succ, i64_w, i32_w]
        rfl
      refine take_ (i := 13) (N := some 28) (v := ?_) (a' := ?_) #[true, true, true, true, true, true, true, true, true, true, true, true, true, true, false, false, false, false] rfl rfl (by kernel_rfl) (fun _ _ _ h => h) (Or.inl ⟨by rfl, ?_⟩) hHeld ?_ ?_
      rotate_left
      · rintro w' ⟨s0, s1⟩
        go_simp
        with_reducible rfl
      rotate_left
      · simp only [Act.put, List.setIfInBounds_toArray, List.set_cons_zero, List.set_cons_succ, i64_w, i32_w]
        rfl
      refine pure_ (i := 14) (N := some 29) (v := ?_) (a' := ?_) #[true, true, true, true, true, true, true, true, true, true, true, true, true, true, true, false, false, false] rfl rfl (by kernel_rfl) (fun _ _ _ h => h) (Or.inl ⟨by rfl, ?_⟩) ?_ ?_
      rotate_left
      · intro w'
        go_simp
        with_reducible rfl
      rotate_left
      · simp only [Act.put, List.setIfInBounds_toArray, List.set_cons_zero, List.set_cons_succ, i64_w, i32_w]
        rfl
      refine last_ (i := 15) (N := none) #[true, true, true, true, true, true, true, true, true, true, true, true, true, true, true, true, false, false] rfl rfl (by kernel_rfl) (by decide) (fun K hK => ?_)
      have hy2 := cell_of HGi.out (j := i) (v := .int .u8 x) (by simp [HX1.out])
      have hf2 := frozen_of HGi.out i
      refine skip_ (w1 := ?_) (by rfl) rfl ?_ ?_
      rotate_left
      · go_simp
        rfl
      refine hK.out _ _ ?_
      clear hK K
      refine norm_ (a' := ?_) ?_ ?_
      rotate_left
      · rfl
      refine pure_ (i := 16) (N := some 30) (v := ?_) (a' := ?_) #[true, true, true, true, true, true, true, true, true, true, true, true, true, true, true, true, true, false] rfl rfl (by kernel_rfl) (fun _ _ _ h => h) (Or.inl ⟨by rfl, ?_⟩) ?_ ?_
      rotate_left
      · intro w'
        go_simp
        with_reducible rfl
      rotate_left
      · simp only [Act.put, List.setIfInBounds_toArray, List.set_cons_zero, List.set_cons_succ, i64_w, i32_w]
        rfl
      refine last_ (i := 17) (N := none) #[true, true, true, true, true, true, true, true, true, true, true, true, true, true, true, true, true, true] rfl rfl (by kernel_rfl) (by decide) (fun K hK => ?_)
      have hy2 := cell_of (heap_set_same HGi.out (j := i) (.int .u8 y)) (j := m) (v := .int .u8 y) (by have := HNE.out; rw [Array.getElem?_setIfInBounds_ne (by omega)]; simp [HY1.out])
      have hf2 := frozen_of HGi.out m
      refine skip_ (w1 := ?_) (by rfl) rfl ?_ ?_
      rotate_left
      · go_simp
        rfl
      refine hK.out _ _ ?_
      clear hK K
      refine norm_ (a' := ?_) ?_ ?_
      rotate_left
      · rfl
      refine done_ (by kernel_rfl) ?_
      clear hHeld q0 q1 HS
      go_wp2
      go_roundw
      case rel =>
        refine ⟨i + 1, by omega, by go_num, ⟨?_⟩, ?_, ?_⟩
        · have e := heap_set_same (heap_set_same HGi.out (j := i) (.int .u8 y)) (j := m) (.int .u8 x)
          rw [List.setIfInBounds_toArray, List.setIfInBounds_toArray, ← List.map_set, ← List.map_set, HSW.out] at e
          exact e
        · exact ⟨below_drew ((HBi.out.setCell (p := ⟨w.heap.size, i, none⟩) (Nat.le_refl _) _).setCell (p := ⟨w.heap.size, m, none⟩) (Nat.le_refl _) _)⟩
        · exact ⟨by have := HZi.out; simpa [World.setCell] using this⟩
      case measure => simp [intOf]; omega
    · have b0 : decide ((i : Int) < 16) = false := decide_eq_false (by omega)
      have b1 : decide (i < 16) = false := decide_eq_false hlt
      obtain rfl : i = 16 := by omega
      rw [sw_all xs HL.out] at HGi
      have hz := HZi.out
      have hrl : xs.reverse.length = 32 := by rw [List.length_reverse, HL.out]
      have HSZ := Aside0.mk (show w.heap.size ≤ (wr.alloc (.cells #[.bool false, .slice none 0 0] 73)).heap.size by simp; omega)
      have HW := Aside0.mk (show Below w.heap.size w (wr.alloc (.cells #[.bool false, .slice none 0 0] 73)) from HBi.out.alloc (by omega) _)
      have hI2 : Is (wr.alloc (.cells #[.bool false, .slice none 0 0] 73)) (w.heap.size + 1) (fun _ => True) false [] := ⟨_, by rw [← hz]; exact heap_alloc_new wr _, Kd.V_nil _ _ _ _ _⟩
      have hV2 : Kd.V (Kd.int .u8) 5 (wr.alloc (.cells #[.bool false, .slice none 0 0] 73)) 0 (fun k => k = w.heap.size) (.slice (some ⟨w.heap.size, 0, none⟩) 32 32) xs.reverse := by
        have := V_block (e := 5) (base := 0) (heap_alloc_lt HGi.out (.cells #[.bool false, .slice none 0 0] 73)) (by rw [hrl]; decide)
        rw [hrl] at this
        exact this
      have HSB := Aside0.mk (setBytes (w.heap.size + 1) (fun _ => True) false [] k (fun k => k = w.heap.size) _ xs.reverse r _ 0 hI2 (fun k hk => by simp; omega) hV2 (fun d hd => HX.out d (List.mem_reverse.1 hd)) (by rw [hrl]; decide) (by rw [hrl]; exact HR.out))
      clear hI2 hV2 hrl
      go_wp2_with (go_at_call 22; refine HSB.out.mono ?_; rintro e w3 ⟨rfl, h2, h3⟩; have H2 := Aside0.mk h2; have H3 := Aside0.mk h3; clear h2 h3)
      go_ret
      exact ⟨rfl, H2.out, H3.out.below HW.out (Nat.le_succ _) HSZ.out⟩
end Go.Proofs.Ytigpdgfhngknhaa.Big
/- impl.HashNumber and the law's walk. -/
namespace Go.Proofs.Ytigpdgfhngknhaa.Big
open Go.RowKit Go.Proofs.YtigpdgfhngknhaaW.PrintWords Go.Proofs.YtigpdgfhngknhaaW.PrintLast Go.Proofs.YtigpdgfhngknhaaW.PrintMore Go.Proofs.Ytigpdgfhngknhaa.QFnProofFault
set_option linter.unusedVariables false
set_option linter.unusedSimpArgs false
theorem at_none {P : Program} {ops : Array Oper} {rest : List Oper} {o : Oper} {a : Act} {w : World} {Q : Exit → Act → World → Prop} (_h : o.dst = none) (h : wpList P ops Q (o :: rest) a w) : wpList P ops Q (o :: rest) a w := h
theorem size_alloc_ (w : World) (o : Obj) : (w.alloc o).heap.size = w.heap.size + 1 := by simp
theorem run_load_row {P : Program} {o : Oper} {ρ : Operand → Value} {w : World} {g : Nat} {t : TypeId} {cs : Array Value} {fr : Nat × Nat} {d : TypeDesc} (ty : TypeId) (x : Operand) (ho : o.op = .load ty x)
    (hx : ρ x = .pointer (some ⟨g, 0, none⟩)) (hg : w.heap[g]? = some (.cells cs t fr))
    (hu : P.underlying ty = some d) (hd : (match d with | .struct _ | .array _ _ => true | _ => false) = true) (hi : (P.info? ty).map (·.size) = some cs.size) : (execOp ρ o).run P w = .ok (.value (.agg cs)) w := by
  unfold execOp
  simp only [ho, hx, Instr.loadAt, Instr.sureAddr, Sem.run_bind, Sem.run_pure, Result.andThen_ok, run_loadVar_row w g t ty cs fr d hg hu hd hi]

set_option maxHeartbeats 1000000 in
theorem hashToBig2 (g : Nat) (xs : List Int) (hl : xs.length = 32) (hx : Bytes xs) (k : Nat) (r : List Int) (hr : smallbig_nat_norm.f k (dg (vB xs.reverse) 8) = some r) (w : World) (T : TypeId)
    (hg : w.heap[g]? = some (.cells (xs.map (Value.int .u8)).toArray T (0, 0))) :
    Calls Try.prog 31 #[.pointer (some ⟨g, 0, none⟩)] w fun e w' => e = .returned (.pointer (some ⟨w.heap.size + 1, 0, none⟩)) ∧ Is w' (w.heap.size + 1) (· ≠ w.heap.size + 1) false r ∧ Below w.heap.size w w' := by
  have H := Aside0.mk (hashToBig g xs hl hx k r hr w T hg)
  clear hr hg
  go_enter Try.func31, Try.ntmps31
  go_wp2_with (go_at_call 42; refine H.out.mono ?_; rintro e w1 ⟨rfl, hi, hb⟩; have HI := Aside0.mk hi; have HB := Aside0.mk hb; clear hi hb)
  go_ret
  exact ⟨rfl, HI.out, HB.out⟩

theorem specHash2 (xs : List Int) (hl : xs.length = 32) (k : Nat) (r : List Int) (hr : spec_trim.f k xs.reverse = some r) (w : World) (arr : Array Value) (ha : (xs.map (Value.int .u8)).toArray = arr) :
    Calls Try.prog 15 #[.agg arr] w fun e w' => ∃ v, e = .returned v ∧ Kd.R (Kd.int .u8) 5 w' w.heap.size (fun k => w.heap.size ≤ k) v r ∧ Below w.heap.size w w' := by
  subst ha; exact specHash xs hl k r hr w

end Go.Proofs.Ytigpdgfhngknhaa.Big
/- The code of an error of the package blockchain. -/
namespace Go.Proofs.Ytigpdgfhngknhaa.QFnProofFault
open Go.RowKit Go.Proofs.YtigpdgfhngknhaaW.PrintWords Go.Proofs.YtigpdgfhngknhaaW.PrintLast Go.Proofs.YtigpdgfhngknhaaW.PrintMore
set_option linter.unusedVariables false
set_option linter.unusedSimpArgs false
/-- An error of a code (0: none). -/
def ErrV (c : Int) (v : Value) : Prop := (c = 0 ∧ v = .nilIface) ∨ ∃ d : ByteArray, v = .iface 54 (.agg #[.int .i64 c, .string d])
set_option maxRecDepth 100000 in
set_option maxHeartbeats 4000000 in
theorem faultC (c : Int) (v : Value) (h : ErrV c v) (w : World) : Calls Try.prog 9 #[v] w fun e w' => e = .returned (.int .i64 c) ∧ Below w.heap.size w w' := by
  rcases h with ⟨rfl, rfl⟩ | ⟨d, rfl⟩
  · go_enter Try.func9, Try.ntmps9
    go_wp2_with fail
    go_ret
    exact ⟨rfl, Below.refl _ _⟩
  · have h9 : ∀ w : World, (Instr.typeAssert (.iface 54 (.agg #[.int .i64 c, .string d])) 35 54 true).run Try.prog w = .ok (.tuple #[.agg #[.int .i64 c, .string d], .bool true]) w := fun w => by kernel_rfl
    go_enter Try.func9, Try.ntmps9
    go_wp2_with fail
    go_ret
    exact ⟨rfl, below_alloc (Below.refl _ _) _⟩
end Go.Proofs.Ytigpdgfhngknhaa.QFnProofFault
