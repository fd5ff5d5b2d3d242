/- Where the scripts of a message's outputs stand: the walk. -/
import Derived.Test.YtdheoajaaofmbaaTx5
namespace Go.Proofs.Ytdheoajaaofmbaa.QFnScriptPlaces
open Go.RowKit Go.Proofs.YtdheoajaaofmbaaW.PrintWords Go.Proofs.YtdheoajaaofmbaaW.PrintLast Go.Proofs.YtdheoajaaofmbaaW.PrintMore
set_option linter.unusedVariables false
set_option linter.unusedSimpArgs false
theorem vsf (n : Int) : btcdwire_VarIntSerializeSize.f n = some (varL n) := by
  unfold btcdwire_VarIntSerializeSize.f varL
  by_cases a : n < 253
  · rw [if_pos a, if_pos a]
  by_cases b : n ≤ 65535
  · rw [if_neg a, if_pos b, if_neg a, if_pos (by omega)]
  by_cases c : n ≤ 4294967295
  · rw [if_neg a, if_neg b, if_pos c, if_neg a, if_neg (by omega), if_pos (by omega)]
  · rw [if_neg a, if_neg b, if_neg c, if_neg a, if_neg (by omega), if_neg (by omega)]
/-- The pointer to an input, and what it leads to. -/
theorem in_ptr {w : World} {A : Option Addr} {n : Nat} {xs : List S35} (h : Kd.C pIn w A n xs) (i : Nat) (hn : n = xs.length) (hi : i < xs.length) :
    ∃ ad g A1 c1 A2 c2, A = some ad ∧ w.cell? (ad.add i) = some (.pointer (some ⟨g, 0, none⟩)) ∧ w.cell? ⟨g, 33, none⟩ = some (.slice A1 (xs[i]).f1.length c1) ∧ w.cell? ⟨g, 34, none⟩ = some (.slice A2 (xs[i]).f2.length c2) ∧ ((xs[i]).f2 = [] → A2 = none ∧ c2 = 0) ∧ ((xs[i]).f2 ≠ [] → ∃ a2, A2 = some a2) := by
  obtain ⟨ad, g, c, e, h2, hg, hk⟩ := Kd.ptr_at h z35 (i : Int) (by omega) (by omega)
  rw [Int.toNat_natCast] at h2 hk
  rw [List.getD_eq_getElem?_getD, List.getElem?_eq_getElem hi] at hk
  obtain ⟨A1, c1, A2, c2, hI0⟩ := InCells.of hk.1
  have hI : InCells w xs[i] c.toList A1 c1 A2 c2 := hI0
  refine ⟨ad, g, A1, c1, A2, c2, e, h2, cell_of hg (j := 33) ?_, cell_of hg (j := 34) ?_, fun h0 => ?_, fun h0 => ?_⟩
  · rw [← Array.getElem?_toList]; exact hI.scr
  · rw [← Array.getElem?_toList]; exact hI.wit
  · have h1 := hk.2 h0
    have h3 := hI.wit
    rw [h1] at h3
    simp only [Option.some.injEq, Value.slice.injEq] at h3
    exact ⟨h3.1.symm, h3.2.2.symm⟩
  · obtain ⟨a, _, ha, _⟩ := Kd.C_get hI.g2 [] 0 (by decide) (by have := List.length_pos_iff.2 h0; show (0 : Int) < _; omega)
    exact ⟨a, ha⟩
theorem out_ptr {w : World} {A : Option Addr} {n : Nat} {xs : List S41} (h : Kd.C pOut w A n xs) (i : Nat) (hn : n = xs.length) (hi : i < xs.length) :
    ∃ ad g A1 c1, A = some ad ∧ w.cell? (ad.add i) = some (.pointer (some ⟨g, 0, none⟩)) ∧ w.cell? ⟨g, 0, none⟩ = some (.int .i64 (xs[i]).f0) ∧ w.cell? ⟨g, 1, none⟩ = some (.slice A1 (xs[i]).f1.length c1) ∧ (xs[i]).f1.length ≤ c1 ∧ Kd.C (Kd.int .u8) w A1 (xs[i]).f1.length (xs[i]).f1 := by
  obtain ⟨ad, g, c, e, h2, hg, hk⟩ := Kd.ptr_at h z41 (i : Int) (by omega) (by omega)
  rw [Int.toNat_natCast] at h2 hk
  rw [List.getD_eq_getElem?_getD, List.getElem?_eq_getElem hi] at hk
  obtain ⟨A1, c1, hl, l1, g1⟩ := k41_open hk
  refine ⟨ad, g, A1, c1, e, h2, cell_of hg (j := 0) ?_, cell_of hg (j := 1) ?_, l1, g1⟩
  · rw [← Array.getElem?_toList, hl]; rfl
  · rw [← Array.getElem?_toList, hl]; rfl
set_option maxRecDepth 100000 in
set_option maxHeartbeats 8000000 in
theorem inSizeC (g n : Nat) (A1 : Option Addr) (c1 : Nat) (w : World) (hc : w.cell? ⟨g, 33, none⟩ = some (.slice A1 n c1)) (hn : n ≤ 1000000) :
    Calls Try.prog 50 #[.pointer (some ⟨g, 0, none⟩)] w fun e w' => e = .returned (.int .i64 (40 + varL (n : Int) + n)) ∧ Below w.heap.size w w' := by
  have hv := varL_range (n : Int)
  have hu : IntKind.u64.wrap (n : Int) = (n : Int) := by show (n : Int) % 18446744073709551616 = _; omega
  have hq1 : wrap64 (40 + varL (n : Int)) = 40 + varL (n : Int) := by unfold wrap64; omega
  have hq2 : wrap64 (40 + varL (n : Int) + (n : Int)) = 40 + varL (n : Int) + n := by unfold wrap64; omega
  have HS : Aside0 (w.drew.cell? ⟨g, 33, none⟩ = some (.slice A1 n c1)) := ⟨hc⟩
  have HQ := Aside0.mk (And.intro hq1 hq2)
  clear hv hq1 hq2
  go_enter Try.func50, Try.ntmps50
  go_upto_region 1 with fail
  refine start_ (n := 15) (S := fun w' => w'.cell? ⟨g, 33, none⟩ = some (.slice A1 n c1)) (ds := []) #[false, false, false, false, false, false, false, false, false, false, false, false, false, false, false] (by kernel_rfl) rfl rfl HS.out (fun hHeld => ?_)
  refine pure_ (i := 0) (N := some 3) (v := ?_) (a' := ?_) #[true, false, false, false, false, false, false, false, false, false, false, false, false, false, false] rfl rfl (by kernel_rfl) (fun _ _ _ h => h) (Or.inl ⟨by rfl, ?_⟩) ?_ ?_
  rotate_left
  · intro w'
    go_simp
    with_reducible rfl
  rotate_left
  · simp only [Act.put, List.setIfInBounds_toArray, List.set_cons_zero, List.set_cons_succ, i64_w, i32_w]
    rfl
  refine pure_ (i := 1) (N := some 4) (v := ?_) (a' := ?_) #[true, true, false, false, false, false, false, false, false, false, false, false, false, false, false] rfl rfl (by kernel_rfl) (fun _ _ _ h => h) (Or.inl ⟨by rfl, ?_⟩) ?_ ?_
  rotate_left
  · intro w'
    go_simp
    with_reducible rfl
  rotate_left
  · simp only [Act.put, List.setIfInBounds_toArray, List.set_cons_zero, List.set_cons_succ, i64_w, i32_w]
    rfl
  refine pure_ (i := 2) (N := some 5) (v := ?_) (a' := ?_) #[true, true, true, false, false, false, false, false, false, false, false, false, false, false, false] rfl rfl (by kernel_rfl) (fun _ _ _ h => h) (Or.inl ⟨by rfl, ?_⟩) ?_ ?_
  rotate_left
  · intro w'
    go_simp
    with_reducible rfl
  rotate_left
  · simp only [Act.put, List.setIfInBounds_toArray, List.set_cons_zero, List.set_cons_succ, i64_w, i32_w]
    rfl
  refine take_ (i := 3) (N := some 6) (v := ?_) (a' := ?_) #[true, true, true, true, false, false, false, false, false, false, false, false, false, false, false] rfl rfl (by kernel_rfl) (fun _ _ _ h => h) (Or.inl ⟨by rfl, ?_⟩) hHeld ?_ ?_
  rotate_left
  · rintro w' s0
    go_simp
    with_reducible rfl
  rotate_left
  · simp only [Act.put, List.setIfInBounds_toArray, List.set_cons_zero, List.set_cons_succ, i64_w, i32_w]
    rfl
  refine pure_ (i := 4) (N := some 7) (v := ?_) (a' := ?_) #[true, true, true, true, true, false, false, false, false, false, false, false, false, false, false] rfl rfl (by kernel_rfl) (fun _ _ _ h => h) (Or.inl ⟨by rfl, ?_⟩) ?_ ?_
  rotate_left
  · intro w'
    go_simp
    with_reducible rfl
  rotate_left
  · simp only [Act.put, List.setIfInBounds_toArray, List.set_cons_zero, List.set_cons_succ, i64_w, i32_w]
    rfl
  refine pure_ (i := 5) (N := some 8) (v := ?_) (a' := ?_) #[true, true, true, true, true, true, false, false, false, false, false, false, false, false, false] rfl rfl (by kernel_rfl) (fun _ _ _ h => h) (Or.inl ⟨by rfl, ?_⟩) ?_ ?_
  rotate_left
  · intro w'
    go_simp
    try rw [hu]
    with_reducible rfl
  rotate_left
  · simp only [Act.put, List.setIfInBounds_toArray, List.set_cons_zero, List.set_cons_succ, i64_w, i32_w]
    rfl
  refine pure_ (i := 8) (N := some 11) (v := ?_) (a' := ?_) #[true, true, true, true, true, true, false, false, true, false, false, false, false, false, false] rfl rfl (by kernel_rfl) (fun _ _ _ h => h) (Or.inl ⟨by rfl, ?_⟩) ?_ ?_
  rotate_left
  · intro w'
    go_simp
    with_reducible rfl
  rotate_left
  · simp only [Act.put, List.setIfInBounds_toArray, List.set_cons_zero, List.set_cons_succ, i64_w, i32_w]
    rfl
  refine pure_ (i := 9) (N := some 12) (v := ?_) (a' := ?_) #[true, true, true, true, true, true, false, false, true, true, false, false, false, false, false] rfl rfl (by kernel_rfl) (fun _ _ _ h => h) (Or.inl ⟨by rfl, ?_⟩) ?_ ?_
  rotate_left
  · intro w'
    go_simp
    with_reducible rfl
  rotate_left
  · simp only [Act.put, List.setIfInBounds_toArray, List.set_cons_zero, List.set_cons_succ, i64_w, i32_w]
    rfl
  refine pure_ (i := 10) (N := some 13) (v := ?_) (a' := ?_) #[true, true, true, true, true, true, false, false, true, true, true, false, false, false, false] rfl rfl (by kernel_rfl) (fun _ _ _ h => h) (Or.inl ⟨by rfl, ?_⟩) ?_ ?_
  rotate_left
  · intro w'
    go_simp
    with_reducible rfl
  rotate_left
  · simp only [Act.put, List.setIfInBounds_toArray, List.set_cons_zero, List.set_cons_succ, i64_w, i32_w]
    rfl
  refine take_ (i := 11) (N := some 14) (v := ?_) (a' := ?_) #[true, true, true, true, true, true, false, false, true, true, true, true, false, false, false] rfl rfl (by kernel_rfl) (fun _ _ _ h => h) (Or.inl ⟨by rfl, ?_⟩) hHeld ?_ ?_
  rotate_left
  · rintro w' s0
    go_simp
    with_reducible rfl
  rotate_left
  · simp only [Act.put, List.setIfInBounds_toArray, List.set_cons_zero, List.set_cons_succ, i64_w, i32_w]
    rfl
  refine pure_ (i := 12) (N := some 15) (v := ?_) (a' := ?_) #[true, true, true, true, true, true, false, false, true, true, true, true, true, false, false] rfl rfl (by kernel_rfl) (fun _ _ _ h => h) (Or.inl ⟨by rfl, ?_⟩) ?_ ?_
  rotate_left
  · intro w'
    go_simp
    with_reducible rfl
  rotate_left
  · simp only [Act.put, List.setIfInBounds_toArray, List.set_cons_zero, List.set_cons_succ, i64_w, i32_w]
    rfl
  refine one_ (i := 6) (N := some 9) #[true, true, true, true, true, true, true, false, true, true, true, true, true, false, false] rfl rfl (by kernel_rfl) (by decide) (fun K hK => ?_)
  refine goes_ Try.func49 (by kernel_rfl) rfl #[.int .u64 (n : Int)] (by rfl) rfl rfl (by (try simp only [List.map_toArray, List.map_cons, List.map_nil]); first | done | rfl | (simp only [List.length_drop, List.length_take]; rfl)) ?_
  with_reducible refine (btcdwire_VarIntSerializeSize.calls (n : Int) (varL (n : Int)) _ (vsf _)).mono ?_
  rintro e w2 ⟨rfl, hd⟩
  refine ⟨_, rfl, ?_⟩
  have HB := Aside0.mk ((below_drew (Below.refl w.heap.size w)).trans hd.below)
  refine hK.out _ _ (pw_cell_below hd.below hHeld) (fun hHeld => ?_)
  clear hK K
  refine norm_ (a' := ?_) ?_ ?_
  rotate_left
  · show Act.put _ (some 9) _ = _
    simp only [Act.put, List.setIfInBounds_toArray, List.set_cons_zero, List.set_cons_succ, i64_w, i32_w]
    rfl
  refine pure_ (i := 7) (N := some 10) (v := ?_) (a' := ?_) #[true, true, true, true, true, true, true, true, true, true, true, true, true, false, false] rfl rfl (by kernel_rfl) (fun _ _ _ h => h) (Or.inl ⟨by rfl, ?_⟩) ?_ ?_
  rotate_left
  · intro w'
    go_simp
    with_reducible rfl
  rotate_left
  · simp only [Act.put, List.setIfInBounds_toArray, List.set_cons_zero, List.set_cons_succ, i64_w, i32_w]
    rfl
  refine pure_ (i := 13) (N := some 16) (v := ?_) (a' := ?_) #[true, true, true, true, true, true, true, true, true, true, true, true, true, true, false] rfl rfl (by kernel_rfl) (fun _ _ _ h => h) (Or.inl ⟨by rfl, ?_⟩) ?_ ?_
  rotate_left
  · intro w'
    go_simp
    with_reducible rfl
  rotate_left
  · simp only [Act.put, List.setIfInBounds_toArray, List.set_cons_zero, List.set_cons_succ, i64_w, i32_w]
    rfl
  refine pure_ (i := 14) (N := some 2) (v := ?_) (a' := ?_) #[true, true, true, true, true, true, true, true, true, true, true, true, true, true, true] rfl rfl (by kernel_rfl) (fun _ _ _ h => h) (Or.inl ⟨by rfl, ?_⟩) ?_ ?_
  rotate_left
  · intro w'
    go_simp
    with_reducible rfl
  rotate_left
  · simp only [Act.put, List.setIfInBounds_toArray, List.set_cons_zero, List.set_cons_succ, i64_w, i32_w]
    rfl
  refine done_ (by kernel_rfl) ?_
  go_wp2_with fail
  go_ret
  exact ⟨by rw [HQ.out.1, HQ.out.2]; rfl, HB.out⟩
theorem set_next (l : List Int) (n i : Nat) (v : Int) (hl : l.length = i) (hi : i < n) : (l ++ List.replicate (n - i) (0 : Int)).set i v = (l ++ [v]) ++ List.replicate (n - (i + 1)) (0 : Int) := by
  rw [show n - i = (n - (i + 1)) + 1 by omega, List.replicate_succ, List.set_append_right _ _ (by omega), hl, Nat.sub_self, List.set_cons_zero, List.append_assoc]
  rfl
theorem meas1 {n i gk : Nat} (h : i ≤ n ∧ n + 1 ≤ i + gk) (h2 : i < n) : gk - 1 < gk := by omega
theorem meas2 {n i gk : Nat} (h : i ≤ n ∧ n + 1 ≤ i + gk) (h2 : i < n) : i + 1 ≤ n ∧ n + 1 ≤ i + 1 + (gk - 1) := by omega
def inS (x : S35) : Int := 40 + varL (x.f1.length : Int) + x.f1.length
def sumI : List S35 → Int
  | [] => 0
  | x :: xs => inS x + sumI xs
theorem sumI_snoc (l : List S35) (x : S35) : sumI (l ++ [x]) = sumI l + inS x := by
  induction l with
  | nil => simp [sumI]
  | cons y ys ih => simp only [List.cons_append, sumI, ih]; omega
theorem sumI_range (l : List S35) (h : ∀ x ∈ l, x.f1.length ≤ 1000000) : 0 ≤ sumI l ∧ sumI l ≤ l.length * 2000000 := by
  induction l with
  | nil => simp [sumI]
  | cons y ys ih =>
    have h1 := ih (fun x hx => h x (List.mem_cons_of_mem _ hx))
    have h2 := h y List.mem_cons_self
    have h3 := varL_range (y.f1.length : Int)
    simp only [sumI, inS, List.length_cons]
    omega
def placesFrom : Int → List S41 → List Int
  | _, [] => []
  | n, y :: ys => (n + (8 + varL (y.f1.length : Int))) :: placesFrom (n + (8 + varL (y.f1.length : Int)) + y.f1.length) ys
def endAt : Int → List S41 → Int
  | n, [] => n
  | n, y :: ys => endAt (n + (8 + varL (y.f1.length : Int)) + y.f1.length) ys
theorem endAt_snoc (n : Int) (l : List S41) (y : S41) : endAt n (l ++ [y]) = endAt n l + (8 + varL (y.f1.length : Int)) + y.f1.length := by
  induction l generalizing n with
  | nil => rfl
  | cons x xs ih => exact ih _
theorem placesFrom_snoc (n : Int) (l : List S41) (y : S41) : placesFrom n (l ++ [y]) = placesFrom n l ++ [endAt n l + (8 + varL (y.f1.length : Int))] := by
  induction l generalizing n with
  | nil => rfl
  | cons x xs ih => simp only [List.cons_append, placesFrom, endAt, ih]
theorem placesFrom_len (n : Int) (l : List S41) : (placesFrom n l).length = l.length := by
  induction l generalizing n with
  | nil => rfl
  | cons x xs ih => simp only [placesFrom, List.length_cons, ih]
theorem endAt_range (n : Int) (l : List S41) (h : ∀ y ∈ l, y.f1.length ≤ 1000000) : n ≤ endAt n l ∧ endAt n l ≤ n + l.length * 2000000 := by
  induction l generalizing n with
  | nil => simp [endAt]
  | cons y ys ih =>
    have h1 := ih (n + (8 + varL (y.f1.length : Int)) + y.f1.length) (fun x hx => h x (List.mem_cons_of_mem _ hx))
    have h2 := h y List.mem_cons_self
    have h3 := varL_range (y.f1.length : Int)
    simp only [endAt, List.length_cons]
    omega
def wit0 : List S35 → Bool
  | [] => false
  | x :: _ => decide (x.f2 ≠ [])
def headI (ins : List S35) (outs : List S41) : Int := 4 + varL (ins.length : Int) + varL (outs.length : Int) + (if wit0 ins = true then 2 else 0)
def placesI (ins : List S35) (outs : List S41) : List Int := placesFrom (headI ins outs + sumI ins) outs
set_option maxRecDepth 100000 in
set_option maxHeartbeats 16000000 in
theorem placesC (g : Nat) (v lock : Int) (ins : List S35) (outs : List S41) (A1 : Option Addr) (c1 : Nat) (A2 : Option Addr) (c2 : Nat) (w : World) (hm : Msg w g v lock ins outs A1 c1 A2 c2) (hf : TxFit ins outs) :
    Calls Try.prog 25 #[.pointer (some ⟨g, 0, none⟩)] w fun e w' => ∃ v0_, e = .returned v0_ ∧ Kd.R (Kd.int .i64) 3 w' w.heap.size (fun _ => True) v0_ (placesI ins outs) ∧ Below w.heap.size w w' := by
  have kb1 := cell_of hm.blk (j := 1) (v := .slice A1 ins.length c1) rfl
  have kb2 := cell_of hm.blk (j := 2) (v := .slice A2 outs.length c2) rfl
  have hu1 : IntKind.u64.wrap (ins.length : Int) = (ins.length : Int) := by have := hf.n1; show (ins.length : Int) % 18446744073709551616 = _; omega
  have hu2 : IntKind.u64.wrap (outs.length : Int) = (outs.length : Int) := by have := hf.n2; show (outs.length : Int) % 18446744073709551616 = _; omega
  by_cases h0 : outs = []
  · subst h0
    go_enter Try.func25, Try.ntmps25
    go_wp2_with fail
    go_ret
    exact ⟨_, rfl, Kd.R_nil _ _ _ _ _, Below.refl _ _⟩
  have HM := Aside0.mk hm
  have HF := Aside0.mk hf
  have hpos : ¬ ((outs.length : Int) = 0) := by have := List.length_pos_iff.2 h0; omega
  clear hm hf
  go_enter Try.func25, Try.ntmps25
  have hv1 := varL_range (ins.length : Int)
  have hv2 := varL_range (outs.length : Int)
  have hq1 : wrap64 (4 + varL (ins.length : Int)) = 4 + varL (ins.length : Int) := by unfold wrap64; omega
  have hq2 : wrap64 (4 + varL (ins.length : Int) + varL (outs.length : Int)) = 4 + varL (ins.length : Int) + varL (outs.length : Int) := by unfold wrap64; omega
  go_upto_region 5 with (first | (go_at_call 49; first | ((with_reducible refine (btcdwire_VarIntSerializeSize.calls (ins.length : Int) _ _ (vsf _)).mono ?_); rintro e w' ⟨rfl, ⟨nd, rfl⟩⟩) | ((with_reducible refine (btcdwire_VarIntSerializeSize.calls (outs.length : Int) _ _ (vsf _)).mono ?_); rintro e w' ⟨rfl, ⟨nd2, rfl⟩⟩)))
  obtain ⟨w1, hw1⟩ : ∃ w1, w.drewN (nd + nd2) = w1 := ⟨_, rfl⟩
  have HW1 : Aside0 (Below w.heap.size w w1) := ⟨Drawn0.below ⟨⟨nd + nd2, hw1.symm⟩⟩⟩
  first | rw [hw1] | rw [World.drewN_drewN, hw1]
  have HM1 := Aside0.mk (HM.out.below HW1.out)
  have kb1 := cell_of HM1.out.blk (j := 1) (v := .slice A1 ins.length c1) rfl
  have kb2 := cell_of HM1.out.blk (j := 2) (v := .slice A2 outs.length c2) rfl
  clear hw1
  go_cut [46] from 10 (fun v46 wc => v46 = .bool (wit0 ins) ∧ Aside0 (Below w.heap.size w wc))
  case first =>
    by_cases hi0 : ins = []
    · subst hi0
      go_wp2_with fail
      go_meet
      case rel => exact ⟨rfl, HW1⟩
    · have hl0 : 0 < ins.length := List.length_pos_iff.2 hi0
      have hi1 : (0 : Int) < (ins.length : Int) := by omega
      obtain ⟨ad, g0, B1, d1, B2, d2, e1, hx, hx1, hx2, hn1, hn2⟩ := in_ptr HM1.out.g1 0 rfl hl0
      subst e1
      have hx0 : w1.cell? ad = some (.pointer (some ⟨g0, 0, none⟩)) := by have h := hx; simpa [Addr.add] using h
      clear hx
      have HB0 : Aside0 (wit0 ins = decide ((ins[0]).f2 ≠ [])) := ⟨by cases ins with | nil => exact absurd rfl hi0 | cons a b => rfl⟩
      by_cases hw0 : (ins[0]).f2 = []
      · obtain ⟨rfl, rfl⟩ := hn1 hw0
        rw [hw0] at hx2
        go_wp2_with fail
        go_meet
        case rel => exact ⟨by rw [HB0.out, hw0]; rfl, HW1⟩
      · obtain ⟨a2, rfl⟩ := hn2 hw0
        go_wp2_with fail
        go_meet
        case rel => exact ⟨by rw [HB0.out, decide_eq_true hw0], HW1⟩
  case rest =>
    obtain ⟨rfl, HWc⟩ := hcut
    clear HM1 kb1 kb2 HW1
    obtain ⟨b0, hb0⟩ : ∃ b, wit0 ins = b := ⟨_, rfl⟩
    have HB0 := Aside0.mk hb0
    rw [hb0]
    clear hb0
    have hq3 : wrap64 (4 + varL (ins.length : Int) + varL (outs.length : Int) + 2) = 4 + varL (ins.length : Int) + varL (outs.length : Int) + 2 := by unfold wrap64; omega
    go_upto_if 46 with fail
    go_cut [4] from 10 (fun v4 wc2 => v4 = .int .i64 (headI ins outs) ∧ Aside0 (Below w.heap.size w wc2))
    case first =>
      cases b0
      · go_wp2_with fail
        go_meet
        case rel => exact ⟨by unfold headI; rw [HB0.out, if_neg (by decide), Int.add_zero], HWc⟩
      · go_wp2_with fail
        go_meet
        case rel => exact ⟨by unfold headI; rw [HB0.out, if_pos rfl], HWc⟩
    case rest =>
      obtain ⟨rfl, HWd⟩ := hcut
      have HHD : Aside0 (0 ≤ headI ins outs ∧ headI ins outs ≤ 24) := ⟨by unfold headI; split <;> omega⟩
      clear hq1 hq2 hq3 hv1 hv2 HWc HB0
      obtain ⟨hd, hhd⟩ : ∃ z, headI ins outs = z := ⟨_, rfl⟩
      have HHE := Aside0.mk hhd
      rw [hhd] at HHD ⊢
      clear hhd
      have kb1 := pw_cell_below HWd.out (cell_of HM.out.blk (j := 1) (v := .slice A1 ins.length c1) rfl)
      go_wp2_with fail
      go_loopg [4, 54] (ins.length + 1) (fun kq p4 p54 w' => ∃ i : Nat, p54 = .int .i64 (i : Int) ∧ p4 = .int .i64 (hd + sumI (ins.take i)) ∧ Aside0 (i ≤ ins.length ∧ ins.length + 1 ≤ i + kq) ∧ Aside0 (Below w.heap.size w w'))
      case atStart => exact ⟨0, by rfl, by rw [List.take_zero]; show _ = Value.int .i64 (hd + 0); rw [Int.add_zero], ⟨by omega⟩, HWd⟩
      case round =>
        clear kb1 HWd
        obtain ⟨i, rfl, rfl, HK, HWe⟩ := hrel
        by_cases hlt : i < ins.length
        · have hi1 : (i : Int) < (ins.length : Int) := by omega
          obtain ⟨ad, g0, B1, d1, B2, d2, e1, hx, hx1, hx2, hn1, hn2⟩ := in_ptr (HM.out.below HWe.out).g1 i rfl hlt
          subst e1
          clear hx2 hn1 hn2
          have hfx := (HF.out.i1 _ (List.getElem_mem hlt)).1
          have hsr := sumI_range (ins.take i) (fun x hx => (HF.out.i1 x (List.mem_of_mem_take hx)).1)
          have hln : (ins.take i).length ≤ 1000000 := by rw [List.length_take]; have := HF.out.n1; omega
          obtain ⟨n, hn⟩ : ∃ n, (ins[i]).f1.length = n := ⟨_, rfl⟩
          have HTK : Aside0 (sumI (ins.take (i + 1)) = sumI (ins.take i) + (40 + varL (n : Int) + n)) := ⟨by rw [List.take_succ_eq_append_getElem hlt, sumI_snoc]; unfold inS; rw [hn]⟩
          rw [hn] at hx1 hfx
          have hvn := varL_range (n : Int)
          obtain ⟨sm, hsm⟩ : ∃ z, sumI (ins.take i) = z := ⟨_, rfl⟩
          rw [hsm] at hsr HTK ⊢
          have hw1 : wrap64 ((i : Int) + 1) = ((i + 1 : Nat) : Int) := by have := HF.out.n1; unfold wrap64; omega
          have hhd := HHD.out
          have hq4 : wrap64 (hd + sm + (40 + varL (n : Int) + (n : Int))) = hd + sm + (40 + varL (n : Int) + (n : Int)) := by unfold wrap64; omega
          have HHI := Aside0.mk hlt
          clear hsr hln hn hsm hhd hvn hlt
          go_wp2_with (go_at_call 50; (with_reducible refine (inSizeC g0 n B1 d1 wr hx1 hfx).mono ?_); rintro e w2 ⟨rfl, hb2⟩; have HB2 := Aside0.mk hb2; clear hb2)
          go_roundg (gk - 1)
          case measure => have := HK.out; have := HHI.out; omega
          case rel => exact ⟨i + 1, by first | rfl | (rw [hw1]; done), by rw [HTK.out, ← Int.add_assoc hd sm, hq4], ⟨by have := HK.out; have := HHI.out; omega⟩, ⟨HWe.out.trans (HB2.out.mono HWe.out.size)⟩⟩
        · have hi1 : ¬ (i : Int) < (ins.length : Int) := by omega
          have hii : i = ins.length := by have := HK.out; omega
          subst hii
          rw [List.take_length]
          have hsr := sumI_range ins (fun x hx => (HF.out.i1 x hx).1)
          have HN0 : Aside0 (0 ≤ hd + sumI ins ∧ hd + sumI ins ≤ 3000000000000) := ⟨by have := HHD.out; have := HF.out.n1; omega⟩
          have HPE : Aside0 (placesI ins outs = placesFrom (hd + sumI ins) outs) := ⟨by unfold placesI; rw [HHE.out]⟩
          obtain ⟨n0, hn0⟩ : ∃ z, hd + sumI ins = z := ⟨_, rfl⟩
          rw [hn0] at HN0 HPE ⊢
          have kb2 := pw_cell_below HWe.out (cell_of HM.out.blk (j := 2) (v := .slice A2 outs.length c2) rfl)
          have hn2 := HF.out.n2
          clear hsr hn0 HHE HHD HK hi1
          go_wp2_with ((with_reducible refine at_dst (N := 64) rfl ?_); refine Kd.R_make (Kd.int .i64) (w0 := w) w.heap.size 3 rfl (N := 64) rfl 36 _ _ rfl (outs.length : Int) rfl rfl Try.underlying36 (.int .i64 0) 8 (by kernel_rfl) rfl (by decide) (by decide) 0 (ok := fun _ => True) (okp := fun _ => True) rfl (fun _ hk => hk) trivial (by omega) (by omega) HWe.out HWe.out.size ?_; intro v2 w2 ho hb hg hnew; obtain ⟨b, hob, hbge⟩ := hnew; obtain ⟨cap, rfl, hcap, hbase, hblt, hcells⟩ := Kd.R_first_ ho hob; have HO := Aside0.mk ho; have HB2 := Aside0.mk hb; have HOB := Aside0.mk (Nat.le_trans HWe.out.size hbge); have kb3 := pw_cell_below hb (cell_of HM.out.blk (j := 2) (v := .slice A2 outs.length c2) rfl); clear ho hb hob hcells hbase hblt; rw [List.length_replicate, Int.toNat_natCast] at HO hcap ⊢)
          have HPL : ∀ i, i ≤ outs.length → (placesFrom n0 (outs.take i) ++ List.replicate (outs.length - i) (0 : Int)).length = outs.length := fun i hi => by rw [List.length_append, placesFrom_len, List.length_take, List.length_replicate]; omega
          have HPLA := Aside0.mk HPL
          clear HPL kb3 kb2
          go_loopg [4, 70] (outs.length + 1) (fun kq p4 p70 w' => ∃ i : Nat, p70 = .int .i64 (i : Int) ∧ p4 = .int .i64 (endAt n0 (outs.take i)) ∧ Aside0 (i ≤ outs.length ∧ outs.length + 1 ≤ i + kq) ∧ Aside0 (Below w.heap.size w w') ∧ Aside0 (Kd.R (Kd.int .i64) 3 w' w.heap.size (fun _ => True) (.slice (some ⟨b, 0, none⟩) outs.length cap) (placesFrom n0 (outs.take i) ++ List.replicate (outs.length - i) (0 : Int))))
          case atStart => exact ⟨0, by rfl, by rfl, ⟨by omega⟩, HB2, ⟨by rw [List.take_zero]; exact HO.out⟩⟩
          case round =>
            clear HO HB2
            obtain ⟨i, rfl, rfl, HK, HWf, HR⟩ := hrel
            by_cases hlt : i < outs.length
            · have hi1 : (i : Int) < (outs.length : Int) := by omega
              obtain ⟨ad, g0, B1, d1, e1, hx, hx0, hx1, _, _⟩ := out_ptr HM.out.g2 i rfl hlt
              subst e1
              have hgb := World.block_lt_of_cell? w _ hx0
              have hgl : g0 < w.heap.size := hgb
              have hne : g0 ≠ b := by have := HOB.out; omega
              have hne2 : b ≠ g0 := fun e => hne e.symm
              have hx := pw_cell_below HWf.out hx
              have hx1 := pw_cell_below HWf.out hx1
              clear hx0 hgb hgl
              have hfx := HF.out.o1 _ (List.getElem_mem hlt)
              have her := endAt_range n0 (outs.take i) (fun x hx => HF.out.o1 x (List.mem_of_mem_take hx))
              have hln : (outs.take i).length ≤ 1000000 := by rw [List.length_take]; have := HF.out.n2; omega
              obtain ⟨n, hn⟩ : ∃ n, (outs[i]).f1.length = n := ⟨_, rfl⟩
              have HE1 : Aside0 (endAt n0 (outs.take (i + 1)) = endAt n0 (outs.take i) + (8 + varL (n : Int)) + n) := ⟨by rw [List.take_succ_eq_append_getElem hlt, endAt_snoc, hn]⟩
              have HP1 : Aside0 (placesFrom n0 (outs.take (i + 1)) = placesFrom n0 (outs.take i) ++ [endAt n0 (outs.take i) + (8 + varL (n : Int))]) := ⟨by rw [List.take_succ_eq_append_getElem hlt, placesFrom_snoc, hn]⟩
              have HPT : Aside0 ((placesFrom n0 (outs.take i)).length = i) := ⟨by rw [placesFrom_len, List.length_take]; omega⟩
              rw [hn] at hx1 hfx
              have hvn := varL_range (n : Int)
              obtain ⟨en, hen⟩ : ∃ z, endAt n0 (outs.take i) = z := ⟨_, rfl⟩
              rw [hen] at her HE1 HP1 ⊢
              have hw1 : wrap64 ((i : Int) + 1) = ((i + 1 : Nat) : Int) := by have := HF.out.n2; unfold wrap64; omega
              have hu3 : IntKind.u64.wrap (n : Int) = (n : Int) := by show (n : Int) % 18446744073709551616 = _; omega
              have hq5 : wrap64 (8 + varL (n : Int)) = 8 + varL (n : Int) := by unfold wrap64; omega
              have h9 := HN0.out
              have hq6 : wrap64 (en + (8 + varL (n : Int))) = en + (8 + varL (n : Int)) := by unfold wrap64; omega
              have hq7 : wrap64 (en + (8 + varL (n : Int)) + (n : Int)) = en + (8 + varL (n : Int)) + (n : Int) := by unfold wrap64; omega
              have HHI := Aside0.mk hlt
              obtain ⟨hy, hz⟩ := Kd.R_celln 0 HR.out (i : Int) (Int.natCast_nonneg _) hi1
              have HP := Aside0.mk (Kd.R_putg HR.out (i : Int) (en + (8 + varL (n : Int)))).1
              simp only [Int.toNat_natCast] at hy hz HP
              clear her hln hn hen hvn h9 hfx
              go_wp2_with (go_at_call 49; (with_reducible refine (btcdwire_VarIntSerializeSize.calls (n : Int) _ _ (vsf _)).mono ?_); rintro e w3 ⟨rfl, ⟨nd3, rfl⟩⟩)
              go_roundg (gk - 1)
              case measure => exact meas1 HK.out HHI.out
              case rel =>
                have hp := (Kd.R_putg (Kd.R_drewN HR.out nd3) (i : Int) (en + (8 + varL (n : Int)))).1
                rw [Int.toNat_natCast, set_next _ _ _ _ HPT.out HHI.out, ← HP1.out] at hp
                exact ⟨i + 1, by first | rfl | (rw [hw1]; done), by first | (rw [HE1.out]; done) | (rw [HE1.out, hq7]; done), ⟨meas2 HK.out HHI.out⟩, ⟨below_setOld (HWf.out.trans ((Drawn0.below ⟨⟨nd3, rfl⟩⟩).mono HWf.out.size)) HOB.out _ _⟩, ⟨hp⟩⟩
            · have hi1 : ¬ (i : Int) < (outs.length : Int) := by omega
              have hii : i = outs.length := by have := HK.out; omega
              subst hii
              have HR2 := HR.out
              rw [List.take_length, Nat.sub_self, List.replicate_zero, List.append_nil, ← HPE.out] at HR2
              have HR3 := Aside0.mk HR2
              clear HR2
              go_wp2_with fail
              go_ret
              exact ⟨_, rfl, HR3.out, HWf.out⟩
end Go.Proofs.Ytdheoajaaofmbaa.QFnScriptPlaces
