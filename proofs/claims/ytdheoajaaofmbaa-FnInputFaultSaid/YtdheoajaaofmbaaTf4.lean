/- spec.sameInputs: the walk. -/
import Derived.Test.YtdheoajaaofmbaaTf3
import Derived.Test.YtdheoajaaofmbaaTx6
namespace Go.Proofs.Ytdheoajaaofmbaa.QFnScriptPlaces
open Go.RowKit Go.Proofs.YtdheoajaaofmbaaW.PrintWords Go.Proofs.YtdheoajaaofmbaaW.PrintLast Go.Proofs.YtdheoajaaofmbaaW.PrintMore
set_option linter.unusedVariables false
set_option linter.unusedSimpArgs false
def opOf (x : S35) : List Int × Int := (x.f0.f0, x.f0.f1)
def sameP (ins : List S35) : Bool := !decide ((ins.map opOf).Nodup)
theorem sameP_true {ins : List S35} {i k : Nat} (hi : i < ins.length) (hk : k < i) (e : opOf ins[i] = opOf (ins[k]'(by omega))) : sameP ins = true := by
  unfold sameP
  rw [decide_eq_false, Bool.not_false]
  intro h
  have h1 := List.pairwise_iff_getElem.1 h k i (by rw [List.length_map]; omega) (by rw [List.length_map]; omega) hk
  rw [List.getElem_map, List.getElem_map] at h1
  exact h1 e.symm
theorem sameP_false {ins : List S35} (h : ∀ (a b : Nat) x y, ins[a]? = some x → ins[b]? = some y → b < a → opOf x ≠ opOf y) : sameP ins = false := by
  unfold sameP
  rw [decide_eq_true, Bool.not_true]
  refine List.pairwise_iff_getElem.2 fun i j hi hj hij => ?_
  rw [List.length_map] at hi hj
  rw [List.getElem_map, List.getElem_map]
  exact fun e => h j i _ _ (List.getElem?_eq_getElem hj) (List.getElem?_eq_getElem hi) hij e.symm
theorem meas3 {i k gk : Nat} (h : k ≤ i ∧ i + 1 ≤ k + gk) (h2 : k < i) : gk - 1 < gk ∧ k + 1 ≤ i ∧ i + 1 ≤ k + 1 + (gk - 1) := by omega
set_option maxRecDepth 100000 in
set_option maxHeartbeats 8000000 in
theorem sameInC (Ai : Option Addr) (ci : Nat) (ins : List S35) (w : World) (hi : Kd.C k35 w Ai ins.length ins) (hn : ins.length ≤ 1000000) (hok : ∀ x ∈ ins, OpOk x.f0.f0 x.f0.f1) :
    Calls Try.prog 37 #[.slice Ai ins.length ci] w fun e w' => e = .returned (.bool (sameP ins)) ∧ Below w.heap.size w w' := by
  have HI := Aside0.mk hi
  have HN := Aside0.mk hn
  have HOK := Aside0.mk hok
  clear hi hn hok
  go_enter Try.func37, Try.ntmps37
  go_wp2_with fail
  go_loopg [3] (ins.length + 1) (fun kq p3 w' => ∃ i : Nat, p3 = .int .i64 (i : Int) ∧ Aside0 (i ≤ ins.length ∧ ins.length + 1 ≤ i + kq) ∧ Aside0 (Below w.heap.size w w') ∧ Aside0 (∀ (a b : Nat) x y, ins[a]? = some x → ins[b]? = some y → b < a → a < i → opOf x ≠ opOf y))
  case atStart => exact ⟨0, by rfl, ⟨by omega⟩, ⟨Below.refl _ _⟩, ⟨fun a b x y _ _ _ h => by omega⟩⟩
  case round =>
    obtain ⟨i, rfl, HK, HB, HD⟩ := hrel
    obtain ⟨g1, hg1⟩ : ∃ g1, g1 = gk := ⟨_, rfl⟩
    subst hg1
    by_cases hlt : i < ins.length
    · have hi1 : (i : Int) < (ins.length : Int) := by omega
      have hw1 : wrap64 ((i : Int) + 1) = ((i + 1 : Nat) : Int) := by rw [ln64 _ (by omega) (by have := HN.out; omega)]; rfl
      have HHI := Aside0.mk hlt
      obtain ⟨x, hx9⟩ : ∃ x, ins[i] = x := ⟨_, rfl⟩
      have HX : Aside0 (ins[i]? = some x) := ⟨by rw [List.getElem?_eq_getElem hlt, hx9]⟩
      clear hlt hx9
      go_wp2_with fail
      go_loopg [4] (i + 1) (fun kq p4 w' => ∃ k : Nat, p4 = .int .i64 (k : Int) ∧ Aside0 (k ≤ i ∧ i + 1 ≤ k + kq) ∧ Aside0 (Below w.heap.size w w') ∧ Aside0 (∀ (b : Nat) y, ins[b]? = some y → b < k → opOf x ≠ opOf y))
      case atStart => exact ⟨0, by rfl, ⟨by omega⟩, HB, ⟨fun b y _ h => by omega⟩⟩
      case round =>
        obtain ⟨k, rfl, HK2, HB2, HD2⟩ := hrel
        by_cases hlk : k < i
        · have hk1 : (k : Int) < (i : Int) := by omega
          have hw2 : wrap64 ((k : Int) + 1) = ((k + 1 : Nat) : Int) := by rw [ln64 _ (by omega) (by have := HN.out; have := HHI.out; omega)]; rfl
          have hkl : k < ins.length := by have := HHI.out; omega
          obtain ⟨ad, cs, A1, c1, A2, c2, e2, hIx, hcx⟩ := cells_at (Kd.C_below HI.out HB2.out) (i : Int) (by omega) hi1
          subst e2
          obtain ⟨ad2, ds, B1, d1, B2, d2, e3, hIy, hcy⟩ := cells_at (Kd.C_below HI.out HB2.out) (k : Int) (by omega) (by omega)
          obtain rfl := Option.some.inj e3
          have hix : i < ins.length := HHI.out
          have ex : ins[i] = x := Option.some.inj ((List.getElem?_eq_getElem hix).symm.trans HX.out)
          obtain ⟨y, ey⟩ : ∃ y, ins[k] = y := ⟨_, rfl⟩
          have HY : Aside0 (ins[k]? = some y) := ⟨by rw [List.getElem?_eq_getElem hkl, ey]⟩
          rw [rd_in35 ins i hix, ex] at hIx
          rw [rd_in35 ins k hkl, ey] at hIy
          have okx : OpOk x.f0.f0 x.f0.f1 := HOK.out x (by rw [← ex]; exact List.getElem_mem hix)
          have oky : OpOk y.f0.f0 y.f0.f1 := HOK.out y (by rw [← ey]; exact List.getElem_mem hkl)
          obtain ⟨hx, hhx⟩ : ∃ l, cs.take 33 = l := ⟨_, rfl⟩
          obtain ⟨hy, hhy⟩ : ∃ l, ds.take 33 = l := ⟨_, rfl⟩
          have hxe : hx = opC x.f0.f0 x.f0.f1 := by rw [← hhx]; exact take33 hIx
          have hye : hy = opC y.f0.f0 y.f0.f1 := by rw [← hhy]; exact take33 hIy
          have HXL : Aside0 (hx.length = 33) := ⟨by rw [hxe]; exact opC_len okx.l _⟩
          have HYL : Aside0 (hy.length = 33) := ⟨by rw [hye]; exact opC_len oky.l _⟩
          have HRUN : Aside0 (∀ W : World, (binOp .eql 31 (.agg hx.toArray) (.agg hy.toArray)).run Try.prog W = .ok (.bool (decide (opOf x = opOf y))) W) := ⟨fun W => by
            rw [hxe, hye]
            exact (run_eq_of W (m := 3) (by decide) (by kernel_rfl) Try.underlying31 (Or.inr ⟨_, rfl⟩) (keyOf_op1 okx) (keyOf_op1 oky) (by rw [decide_eq_true_eq, opL_iff okx oky]; unfold opOf; rw [Prod.mk.injEq])).1⟩
          have HS : Aside0 ((∀ j u, hx[j]? = some u → wr.drew.cell? ((ad.add (i * 36)).add j) = some u) ∧ (∀ j u, hy[j]? = some u → wr.drew.cell? ((ad.add (k * 36)).add j) = some u)) := ⟨⟨(fun j u hj => by
              rw [← hhx, List.getElem?_take] at hj
              split at hj
              · exact hcx j u hj
              · cases hj), fun j u hj => by
              rw [← hhy, List.getElem?_take] at hj
              split at hj
              · exact hcy j u hj
              · cases hj⟩⟩
          have HDW : Aside0 (Below w.heap.size w wr.drew) := ⟨HB2.out.trans ((below_drew (Below.refl _ _)).mono HB2.out.size)⟩
          have HTR : Aside0 (opOf x = opOf y → sameP ins = true) := ⟨fun e => sameP_true hix hlk (by rw [ex, ey]; exact e)⟩
          have HKI := Aside0.mk hlk
          obtain ⟨b, hb⟩ : ∃ b, decide (opOf x = opOf y) = b := ⟨_, rfl⟩
          rw [hb] at HRUN
          have HBV := Aside0.mk hb
          clear hIx hIy hcx hcy hhx hhy hxe hye okx oky ex ey hix hb hlk e3
          go_upto_region 7 with fail
          refine start_ (n := 11) (S := fun w' => (∀ j u, hx[j]? = some u → w'.cell? ((ad.add (i * 36)).add j) = some u) ∧ (∀ j u, hy[j]? = some u → w'.cell? ((ad.add (k * 36)).add j) = some u)) (ds := []) #[false, false, false, false, false, false, false, false, false, false, false] (by kernel_rfl) rfl rfl HS.out (fun hHeld => ?_)
          refine pure_ (i := 0) (N := some 16) (v := ?_) (a' := ?_) #[true, false, false, false, false, false, false, false, false, false, false] rfl rfl (by kernel_rfl) (fun _ _ _ h => h) (Or.inl ⟨by rfl, ?_⟩) ?_ ?_
          rotate_left
          · intro w'
            go_simp
            with_reducible rfl
          rotate_left
          · simp only [Act.put, List.setIfInBounds_toArray, List.set_cons_zero, List.set_cons_succ, i64_w, i32_w]
            rfl
          refine pure_ (i := 1) (N := some 17) (v := ?_) (a' := ?_) #[true, true, false, false, false, false, false, false, false, false, false] rfl rfl (by kernel_rfl) (fun _ _ _ h => h) (Or.inl ⟨by rfl, ?_⟩) ?_ ?_
          rotate_left
          · intro w'
            go_simp
            with_reducible rfl
          rotate_left
          · simp only [Act.put, List.setIfInBounds_toArray, List.set_cons_zero, List.set_cons_succ, i64_w, i32_w]
            rfl
          refine pure_ (i := 2) (N := some 18) (v := ?_) (a' := ?_) #[true, true, true, false, false, false, false, false, false, false, false] rfl rfl (by kernel_rfl) (fun _ _ _ h => h) (Or.inl ⟨by rfl, ?_⟩) ?_ ?_
          rotate_left
          · intro w'
            go_simp
            with_reducible rfl
          rotate_left
          · simp only [Act.put, List.setIfInBounds_toArray, List.set_cons_zero, List.set_cons_succ, i64_w, i32_w]
            rfl
          refine pure_ (i := 3) (N := some 19) (v := ?_) (a' := ?_) #[true, true, true, true, false, false, false, false, false, false, false] rfl rfl (by kernel_rfl) (fun _ _ _ h => h) (Or.inl ⟨by rfl, ?_⟩) ?_ ?_
          rotate_left
          · intro w'
            go_simp
            with_reducible rfl
          rotate_left
          · simp only [Act.put, List.setIfInBounds_toArray, List.set_cons_zero, List.set_cons_succ, i64_w, i32_w]
            rfl
          refine take_ (i := 4) (N := some 20) (v := ?_) (a' := ?_) #[true, true, true, true, true, false, false, false, false, false, false] rfl rfl (by kernel_rfl) (fun _ _ _ h => h) (Or.inl ⟨by rfl, ?_⟩) hHeld ?_ ?_
          rotate_left
          · rintro w' ⟨s0, s1⟩
            refine run_load_at 31 (.tmp 19) ?_ _ ?_ hx _ s0 Try.underlying31 rfl (by rw [HXL.out]; exact sizeIp)
            · rfl
            · rfl
          rotate_left
          · simp only [Act.put, List.setIfInBounds_toArray, List.set_cons_zero, List.set_cons_succ, i64_w, i32_w]
            rfl
          refine pure_ (i := 5) (N := some 21) (v := ?_) (a' := ?_) #[true, true, true, true, true, true, false, false, false, false, false] rfl rfl (by kernel_rfl) (fun _ _ _ h => h) (Or.inl ⟨by rfl, ?_⟩) ?_ ?_
          rotate_left
          · intro w'
            go_simp
            with_reducible rfl
          rotate_left
          · simp only [Act.put, List.setIfInBounds_toArray, List.set_cons_zero, List.set_cons_succ, i64_w, i32_w]
            rfl
          refine pure_ (i := 6) (N := some 22) (v := ?_) (a' := ?_) #[true, true, true, true, true, true, true, false, false, false, false] rfl rfl (by kernel_rfl) (fun _ _ _ h => h) (Or.inl ⟨by rfl, ?_⟩) ?_ ?_
          rotate_left
          · intro w'
            go_simp
            with_reducible rfl
          rotate_left
          · simp only [Act.put, List.setIfInBounds_toArray, List.set_cons_zero, List.set_cons_succ, i64_w, i32_w]
            rfl
          refine pure_ (i := 7) (N := some 23) (v := ?_) (a' := ?_) #[true, true, true, true, true, true, true, true, false, false, false] rfl rfl (by kernel_rfl) (fun _ _ _ h => h) (Or.inl ⟨by rfl, ?_⟩) ?_ ?_
          rotate_left
          · intro w'
            go_simp
            with_reducible rfl
          rotate_left
          · simp only [Act.put, List.setIfInBounds_toArray, List.set_cons_zero, List.set_cons_succ, i64_w, i32_w]
            rfl
          refine pure_ (i := 8) (N := some 24) (v := ?_) (a' := ?_) #[true, true, true, true, true, true, true, true, true, false, false] rfl rfl (by kernel_rfl) (fun _ _ _ h => h) (Or.inl ⟨by rfl, ?_⟩) ?_ ?_
          rotate_left
          · intro w'
            go_simp
            with_reducible rfl
          rotate_left
          · simp only [Act.put, List.setIfInBounds_toArray, List.set_cons_zero, List.set_cons_succ, i64_w, i32_w]
            rfl
          refine take_ (i := 9) (N := some 25) (v := ?_) (a' := ?_) #[true, true, true, true, true, true, true, true, true, true, false] rfl rfl (by kernel_rfl) (fun _ _ _ h => h) (Or.inl ⟨by rfl, ?_⟩) hHeld ?_ ?_
          rotate_left
          · rintro w' ⟨s0, s1⟩
            refine run_load_at 31 (.tmp 24) ?_ _ ?_ hy _ s1 Try.underlying31 rfl (by rw [HYL.out]; exact sizeIp)
            · rfl
            · rfl
          rotate_left
          · simp only [Act.put, List.setIfInBounds_toArray, List.set_cons_zero, List.set_cons_succ, i64_w, i32_w]
            rfl
          refine pure_ (i := 10) (N := some 26) (v := ?_) (a' := ?_) #[true, true, true, true, true, true, true, true, true, true, true] rfl rfl (by kernel_rfl) (fun _ _ _ h => h) (Or.inl ⟨by rfl, ?_⟩) ?_ ?_
          rotate_left
          · intro w'
            refine run_bin (b := .eql) (t := 31) (u := 31) (x := .tmp 20) (y := .tmp 25) (r := .bool b) (xs := hx.toArray) (ys := hy.toArray) ?_ ?_ ?_ (by kernel_rfl) (HRUN.out _)
            · rfl
            · rfl
            · rfl
          rotate_left
          · simp only [Act.put, List.setIfInBounds_toArray, List.set_cons_zero, List.set_cons_succ, i64_w, i32_w]
            rfl
          refine done_ (by kernel_rfl) ?_
          cases b
          · have HNE : Aside0 (opOf x ≠ opOf y) := ⟨of_decide_eq_false HBV.out⟩
            go_wp2_with fail
            go_roundg (gk - 1)
            case measure => exact (meas3 HK2.out HKI.out).1
            case rel => exact ⟨k + 1, by first | rfl | (rw [hw2]; done), ⟨(meas3 HK2.out HKI.out).2⟩, HDW, ⟨fun b' y' h1 h2 => by
              rcases Nat.lt_or_ge b' k with h5 | h5
              · exact HD2.out b' y' h1 h5
              · obtain rfl : b' = k := by omega
                have e := HY.out
                rw [h1] at e
                injection e with e
                subst e
                exact HNE.out⟩⟩
          · have HSE : Aside0 (sameP ins = true) := ⟨HTR.out (of_decide_eq_true HBV.out)⟩
            go_wp2_with fail
            go_ret
            exact ⟨by rw [HSE.out]; rfl, HDW.out⟩
        · have hk1 : ¬ (k : Int) < (i : Int) := by omega
          have HKI : Aside0 (k = i) := ⟨by have := HK2.out; omega⟩
          go_wp2_with fail
          go_roundg (g1 - 1)
          case measure => exact meas1 HK.out HHI.out
          case rel => exact ⟨i + 1, by first | rfl | (rw [hw1]; done), ⟨meas2 HK.out HHI.out⟩, HB2, ⟨fun a b x' y h1 h2 h3 h4 => by
            rcases Nat.lt_or_ge a i with h5 | h5
            · exact HD.out a b x' y h1 h2 h3 h5
            · obtain rfl : a = i := by omega
              have e := HX.out
              rw [h1] at e
              injection e with e
              subst e
              exact HD2.out b y h2 (by rw [HKI.out]; exact h3)⟩⟩
    · have hi1 : ¬ (i : Int) < (ins.length : Int) := by omega
      have HII : Aside0 (ins.length ≤ i) := ⟨by omega⟩
      have HS : Aside0 (sameP ins = false) := ⟨sameP_false fun a b x y h1 h2 h3 => HD.out a b x y h1 h2 h3 (by have := (List.getElem?_eq_some_iff.1 h1).1; have := HII.out; omega)⟩
      go_wp2_with fail
      go_ret
      exact ⟨by rw [HS.out]; rfl, HB.out⟩
end Go.Proofs.Ytdheoajaaofmbaa.QFnScriptPlaces
