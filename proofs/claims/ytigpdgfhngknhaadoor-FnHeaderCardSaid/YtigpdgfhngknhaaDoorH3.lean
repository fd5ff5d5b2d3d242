/- The hash: a block that was begun is filled. -/
import Derived.Deep.DeepCutAuto
import Derived.Laws.Externs
import Derived.ArgAppend
import Derived.Laws.OwnMore
import Derived.Laws.CopyOwn
import Derived.Test.YtigpdgfhngknhaaDoorH0
import Derived.Test.YtigpdgfhngknhaaDoorH1
import Derived.Test.YtigpdgfhngknhaaDoorH2
namespace Go.Proofs.YtigpdgfhngknhaaDoor.Sha
open Go.RowKit Go.Proofs.YtigpdgfhngknhaaDoorW.PrintWords Go.Proofs.YtigpdgfhngknhaaDoorW.PrintLast Go.Proofs.YtigpdgfhngknhaaDoorW.PrintMore Go.Proofs.YtigpdgfhngknhaaDoor.QFnTapRoot
set_option linter.unusedVariables false
set_option linter.unusedSimpArgs false
theorem digS_full {w : World} {g : Nat} {kl bs p xs : List Int} {r : Nat} {len : Int} {xs1 : List Int} (hr : bs.length % 64 = r) (hx : xs.take r = bs.drop (64 * (bs.length / 64))) (h64 : xs.length = 64) (hr0 : 0 < r) (hp : 64 - r ≤ p.length)
    (h : Dig w g (blks kl (xs.take r ++ (p.take (64 - r) ++ xs.drop (r + (p.take (64 - r)).length))) 1 (blks kl bs (bs.length / 64) iv)).l xs1 0 len) : DigS w g kl (bs ++ p.take (64 - r)) len ∧ (bs ++ p.take (64 - r)).length % 64 = 0 := by
  have hr64 : r < 64 := by omega
  have hl : (p.take (64 - r)).length = 64 - r := by rw [List.length_take]; omega
  have h1 : (bs ++ p.take (64 - r)).length % 64 = 0 := by rw [List.length_append, hl]; omega
  have h2 : (bs ++ p.take (64 - r)).length / 64 = bs.length / 64 + 1 := by rw [List.length_append, hl]; omega
  refine ⟨⟨xs1, ?_, ?_⟩, h1⟩
  · rw [h1, h2, blks, blks_congr kl iv (bs.length / 64) (p := bs ++ p.take (64 - r)) (p' := bs) (by rw [List.take_append_of_le_length (by omega)]), List.drop_append_of_le_length (by omega), ← hx]
    have e : xs.drop (r + (p.take (64 - r)).length) = [] := List.drop_eq_nil_of_le (by omega)
    rw [e, List.append_nil] at h
    exact h
  · rw [h1, h2, List.take_zero, List.drop_eq_nil_of_le (by rw [List.length_append, hl]; omega)]
theorem digS_part {w : World} {g : Nat} {kl bs p xs : List Int} {r : Nat} {len : Int} (hr : bs.length % 64 = r) (hx : xs.take r = bs.drop (64 * (bs.length / 64))) (h64 : xs.length = 64) (hp : p.length < 64 - r)
    (h : Dig w g (blks kl bs (bs.length / 64) iv).l (xs.take r ++ (p.take (64 - r) ++ xs.drop (r + (p.take (64 - r)).length))) ((r + p.length : Nat) : Int) len) : DigS w g kl (bs ++ p) len := by
  have ht : p.take (64 - r) = p := List.take_of_length_le (by omega)
  have h1 : (bs ++ p).length % 64 = r + p.length := by rw [List.length_append]; omega
  have h2 : (bs ++ p).length / 64 = bs.length / 64 := by rw [List.length_append]; omega
  rw [ht] at h
  refine ⟨⟨xs.take r ++ (p ++ xs.drop (r + p.length)), ?_, ?_⟩⟩
  · rw [h1, h2, blks_congr kl iv (bs.length / 64) (p := bs ++ p) (p' := bs) (by rw [List.take_append_of_le_length (by omega)])]
    exact h
  · rw [h1, h2, List.drop_append_of_le_length (by omega), ← hx, ← List.append_assoc, List.take_append_of_le_length (by rw [List.length_append, List.length_take]; omega), List.take_of_length_le (by rw [List.length_append, List.length_take]; omega)]
set_option maxRecDepth 100000 in
set_option maxHeartbeats 16000000 in
theorem fillL (g r : Nat) (kl xs bs p : List Int) (len : Int) (A : Option Addr) (c : Nat) (wr : World) (Q : Exit → Act → World → Prop) (hP : ∀ c a n v w, Q (.panic c) (Act.put a n v) w → Q (.panic c) a w) (cd : Code) (hcd : Tryd.f105.body.bind (findC 23) = some cd) (y2 y3 y4 y5 y6 y7 y8 y9 y10 y11 y12 y13 y14 y15 y16 y17 y18 y19 y20 y21 y22 y24 y25 y26 y27 y28 y29 y30 y31 y32 y33 y34 y35 y36 y37 y38 y39 y40 y41 y42 y43 y44 y45 y46 y47 y48 y49 y50 y51 y52 y53 y54 y55 y56 y57 y58 y59 y60 y61 y62 y63 y64 y65 y66 y67 y68 y69 y70 y71 y72 y73 y74 y75 y76 y77 y78 y79 y80 y81 y82 y83 y84 y85 y86 y87 y88 y89 y90 y91 y92 y93 y94 : Value)
    (HD : Aside0 (Dig wr g (blks kl bs (bs.length / 64) iv).l xs (r : Int) len)) (HR : Aside0 (bs.length % 64 = r)) (HX : Aside0 (xs.take r = bs.drop (64 * (bs.length / 64)))) (hr0 : 0 < r) (hr : r < 64) (HP : Aside0 (RdS wr g A p.length p)) (HC : Aside0 (p.length ≤ c)) (HK : Aside0 (KRow wr kl)) (HG : Aside0 (g ≠ 6))
    (hQ : ∀ (x6 x23 x24 x25 x26 x27 x28 x29 x30 x31 x32 x33 x34 x35 x36 x37 x38 x39 x40 x41 x42 x43 x44 x45 x46 x47 x48 x49 x50 x51 x52 x53 x54 x55 x56 x57 x58 : Value) (A1 : Option Addr) (c1 : Nat) (p1 bs1 : List Int) (wx : World), Aside0 (bs1 ++ p1 = bs ++ p ∧ (p1 = [] ∨ bs1.length % 64 = 0) ∧ p1.length ≤ c1) → Aside0 (DigS wx g kl bs1 len) → Aside0 (RdS wx g A1 p1.length p1) → Aside0 (Only g wr wx) → Q .normal { tmps := #[.pointer (some ⟨g, 0, none⟩), .slice A1 p1.length c1, y2, y3, y4, y5, x6, y7, y8, y9, y10, y11, y12, y13, y14, y15, y16, y17, y18, y19, y20, y21, y22, x23, x24, x25, x26, x27, x28, x29, x30, x31, x32, x33, x34, x35, x36, x37, x38, x39, x40, x41, x42, x43, x44, x45, x46, x47, x48, x49, x50, x51, x52, x53, x54, x55, x56, x57, x58, y59, y60, y61, y62, y63, y64, y65, y66, y67, y68, y69, y70, y71, y72, y73, y74, y75, y76, y77, y78, y79, y80, y81, y82, y83, y84, y85, y86, y87, y88, y89, y90, y91, y92, y93, y94], defers := [] } wx) :
    Code.wp Tryd.prog cd Q { tmps := #[.pointer (some ⟨g, 0, none⟩), .slice A p.length c, y2, y3, y4, y5, y6, y7, y8, y9, y10, y11, y12, y13, y14, y15, y16, y17, y18, y19, y20, y21, y22, .bool true, y24, y25, y26, y27, y28, y29, y30, y31, y32, y33, y34, y35, y36, y37, y38, y39, y40, y41, y42, y43, y44, y45, y46, y47, y48, y49, y50, y51, y52, y53, y54, y55, y56, y57, y58, y59, y60, y61, y62, y63, y64, y65, y66, y67, y68, y69, y70, y71, y72, y73, y74, y75, y76, y77, y78, y79, y80, y81, y82, y83, y84, y85, y86, y87, y88, y89, y90, y91, y92, y93, y94], defers := [] } wr := by
  dsimp only [Tryd.f105, Option.bind, findC, Option.orElse, reduceIte, reduceCtorEq] at hcd
  obtain rfl := Option.some.inj hcd
  have hr1 : 0 < (r : Int) := by omega
  have hr2 : (r : Int) < 64 := by omega
  have HR64 := Aside0.mk hr
  obtain ⟨s, hs⟩ : ∃ s, blks kl bs (bs.length / 64) iv = s := ⟨_, rfl⟩
  have HSE := Aside0.mk hs
  rw [hs] at HD
  clear hs
  have hsl := slice_room g r hr
  go_upto_region 4 with fail
  refine start_ (n := 11) (S := fun w' => w'.cell? ⟨g, 72, none⟩ = some (.int .i64 (r : Int))) (ds := [9]) #[false, false, false, false, false, false, false, false, false, false, false] (by kernel_rfl) rfl rfl HD.out.nxc (fun hHeld => ?_)
  refine pure_ (i := 0) (N := some 24) (v := ?_) (a' := ?_) #[true, false, false, false, false, false, false, false, false, false, false] rfl rfl (by kernel_rfl) (fun _ _ _ h => hP _ _ _ _ _ h) (Or.inl ⟨by rfl, ?_⟩) ?_ ?_
  rotate_left
  · intro w'
    go_simp
    with_reducible rfl
  rotate_left
  · simp only [Act.put, List.setIfInBounds_toArray, List.set_cons_zero, List.set_cons_succ, i64_w, i32_w]
    rfl
  refine pure_ (i := 1) (N := some 25) (v := ?_) (a' := ?_) #[true, true, false, false, false, false, false, false, false, false, false] rfl rfl (by kernel_rfl) (fun _ _ _ h => hP _ _ _ _ _ h) (Or.inl ⟨by rfl, ?_⟩) ?_ ?_
  rotate_left
  · intro w'
    go_simp
    with_reducible rfl
  rotate_left
  · simp only [Act.put, List.setIfInBounds_toArray, List.set_cons_zero, List.set_cons_succ, i64_w, i32_w]
    rfl
  refine pure_ (i := 2) (N := some 26) (v := ?_) (a' := ?_) #[true, true, true, false, false, false, false, false, false, false, false] rfl rfl (by kernel_rfl) (fun _ _ _ h => hP _ _ _ _ _ h) (Or.inl ⟨by rfl, ?_⟩) ?_ ?_
  rotate_left
  · intro w'
    go_simp
    with_reducible rfl
  rotate_left
  · simp only [Act.put, List.setIfInBounds_toArray, List.set_cons_zero, List.set_cons_succ, i64_w, i32_w]
    rfl
  refine pure_ (i := 3) (N := some 27) (v := ?_) (a' := ?_) #[true, true, true, true, false, false, false, false, false, false, false] rfl rfl (by kernel_rfl) (fun _ _ _ h => hP _ _ _ _ _ h) (Or.inl ⟨by rfl, ?_⟩) ?_ ?_
  rotate_left
  · intro w'
    go_simp
    with_reducible rfl
  rotate_left
  · simp only [Act.put, List.setIfInBounds_toArray, List.set_cons_zero, List.set_cons_succ, i64_w, i32_w]
    rfl
  refine pure_ (i := 4) (N := some 28) (v := ?_) (a' := ?_) #[true, true, true, true, true, false, false, false, false, false, false] rfl rfl (by kernel_rfl) (fun _ _ _ h => hP _ _ _ _ _ h) (Or.inl ⟨by rfl, ?_⟩) ?_ ?_
  rotate_left
  · intro w'
    go_simp
    with_reducible rfl
  rotate_left
  · simp only [Act.put, List.setIfInBounds_toArray, List.set_cons_zero, List.set_cons_succ, i64_w, i32_w]
    rfl
  refine pure_ (i := 5) (N := some 29) (v := ?_) (a' := ?_) #[true, true, true, true, true, true, false, false, false, false, false] rfl rfl (by kernel_rfl) (fun _ _ _ h => hP _ _ _ _ _ h) (Or.inl ⟨by rfl, ?_⟩) ?_ ?_
  rotate_left
  · intro w'
    go_simp
    with_reducible rfl
  rotate_left
  · simp only [Act.put, List.setIfInBounds_toArray, List.set_cons_zero, List.set_cons_succ, i64_w, i32_w]
    rfl
  refine take_ (i := 6) (N := some 30) (v := ?_) (a' := ?_) #[true, true, true, true, true, true, true, false, false, false, false] rfl rfl (by kernel_rfl) (fun _ _ _ h => hP _ _ _ _ _ h) (Or.inl ⟨by rfl, ?_⟩) hHeld ?_ ?_
  rotate_left
  · rintro w' s0
    go_simp
    with_reducible rfl
  rotate_left
  · simp only [Act.put, List.setIfInBounds_toArray, List.set_cons_zero, List.set_cons_succ, i64_w, i32_w]
    rfl
  refine pure_ (i := 7) (N := some 31) (v := ?_) (a' := ?_) #[true, true, true, true, true, true, true, true, false, false, false] rfl rfl (by kernel_rfl) (fun _ _ _ h => hP _ _ _ _ _ h) (Or.inl ⟨by rfl, ?_⟩) ?_ ?_
  rotate_left
  · intro w'
    go_simp
    with_reducible rfl
  rotate_left
  · simp only [Act.put, List.setIfInBounds_toArray, List.set_cons_zero, List.set_cons_succ, i64_w, i32_w]
    rfl
  refine pure_ (i := 8) (N := some 32) (v := ?_) (a' := ?_) #[true, true, true, true, true, true, true, true, true, false, false] rfl rfl (by kernel_rfl) (fun _ _ _ h => hP _ _ _ _ _ h) (Or.inl ⟨by rfl, ?_⟩) ?_ ?_
  rotate_left
  · intro w'
    go_simp
    with_reducible rfl
  rotate_left
  · simp only [Act.put, List.setIfInBounds_toArray, List.set_cons_zero, List.set_cons_succ, i64_w, i32_w]
    rfl
  refine last_ (i := 9) (N := some 33) #[true, true, true, true, true, true, true, true, true, true, false] rfl rfl (by kernel_rfl) (by decide) (fun K hK => ?_)
  refine val_ _ (by rfl) rfl (copy_run (W := wr.drew) (.tmp 31) (.tmp 32) rfl (xs := xs) (hs := s.l) (len := len) ⟨HD.out.blk, HD.out.h8, HD.out.x64⟩ r (64 - r) (by omega) (by rfl) (by rfl) (HP.out _ ((Only.refl g wr).drew))) ?_
  refine hK.out _ _ ?_
  clear hK K
  refine norm_ (a' := ?_) ?_ ?_
  rotate_left
  · show Act.put _ (some 33) _ = _
    simp only [Act.put, List.setIfInBounds_toArray, List.set_cons_zero, List.set_cons_succ, i64_w, i32_w]
    rfl
  refine pure_ (i := 10) (N := some 6) (v := ?_) (a' := ?_) #[true, true, true, true, true, true, true, true, true, true, true] rfl rfl (by kernel_rfl) (fun _ _ _ h => hP _ _ _ _ _ h) (Or.inl ⟨by rfl, ?_⟩) ?_ ?_
  rotate_left
  · intro w'
    go_simp
    with_reducible rfl
  rotate_left
  · simp only [Act.put, List.setIfInBounds_toArray, List.set_cons_zero, List.set_cons_succ, i64_w, i32_w]
    rfl
  refine done_ (by kernel_rfl) ?_
  have hk : (p.take (64 - r)).length ≤ 64 - r := by rw [List.length_take]; omega
  have HD2 := Aside0.mk (copyW_dig (W := wr.drew) ⟨HD.out.blk, HD.out.h8, HD.out.x64⟩ r (p.take (64 - r)) (by omega))
  have HO2 := Aside0.mk (((Only.refl g wr).drew).trans (copyW_only wr.drew g r s.l xs (r : Int) len (p.take (64 - r))))
  rw [← List.length_take]
  generalize copyW wr.drew g r s.l xs (r : Int) len (p.take (64 - r)) = w2 at *
  obtain ⟨k, hkk⟩ : ∃ k, (p.take (64 - r)).length = k := ⟨_, rfl⟩
  have HKK := Aside0.mk hkk
  have hkp : k ≤ p.length := by rw [← hkk, List.length_take]; omega
  obtain ⟨A1, hcut, HA1, hc1⟩ := RdS.drop HP.out HC.out k hkp
  have HA1 := Aside0.mk HA1
  have HC1 := Aside0.mk hc1
  rw [hkk] at hk ⊢
  obtain ⟨xs2, hx2⟩ : ∃ l, xs.take r ++ (p.take (64 - r) ++ xs.drop (r + (p.take (64 - r)).length)) = l := ⟨_, rfl⟩
  have HX2 := Aside0.mk hx2
  rw [hx2] at HD2
  obtain ⟨m, hm⟩ : ∃ m, r + k = m := ⟨_, rfl⟩
  have HM := Aside0.mk hm
  have hmI : (r : Int) + (k : Int) = (m : Int) := by omega
  have hm64 : m ≤ 64 := by omega
  have HKP := Aside0.mk hkp
  clear hkk hx2 hm hc1 hk hkp hsl
  have z1 := HD2.out.nxc
  have f1 := HD2.out.free 72
  go_upto_region 6 with fail
  generalize hv1 : World.setCell _ _ _ = v1
  have HD3 : Aside0 (Dig v1 g s.l xs2 (m : Int) len) := ⟨by rw [← hv1]; exact HD2.out.setNx _⟩
  have HO3 : Aside0 (Only g wr v1) := ⟨by rw [← hv1]; exact HO2.out.set _ _⟩
  clear hv1 z1 f1 hmI
  have z2 := HD3.out.nxc
  have HRF : Aside0 (Dig wr g s.l xs (r : Int) len) := HD
  have hx64 := HD3.out.x64
  by_cases h64 : m = 64
  · subst h64
    have HBW : Aside0 (Calls Tryd.prog 108 #[.pointer (some ⟨g, 0, none⟩), .slice (some ⟨g, 8, none⟩) 64 64] v1 fun e w' => e = .returned (.tuple #[]) ∧ Dig w' g (blks kl xs2 1 s).l xs2 ((64 : Nat) : Int) len ∧ Only g v1 w') := ⟨by
      have h := blockW g kl xs2 xs2 s ((64 : Nat) : Int) len (some ⟨g, 8, none⟩) 64 v1 HD3.out (HK.out.only HO3.out HG.out) (by rw [hx64]; exact HD3.out.reads) (by omega) (by omega)
      rw [hx64] at h
      exact h⟩
    have hsl0 := slice_room0 g
    clear hx64
    go_upto_region 8 with (go_at_call 108; (with_reducible refine HBW.out.mono ?_); rintro e w4 ⟨rfl, h1, h2⟩; have HD4 := Aside0.mk h1; have HO4 := Aside0.mk (HO3.out.trans h2); clear h1 h2)
    clear z2 hsl0
    have z4 := HD4.out.nxc
    have f4 := HD4.out.free 72
    go_upto_region 9 with fail
    generalize hv5 : World.setCell _ _ _ = v5
    have HD5 : Aside0 (Dig v5 g (blks kl xs2 1 s).l xs2 0 len) := ⟨by rw [← hv5]; exact HD4.out.setNx _⟩
    have HO5 : Aside0 (Only g wr v5) := ⟨by rw [← hv5]; exact HO4.out.set _ _⟩
    clear hv5 z4 f4
    go_wp2_with fail
    have hkl : 64 - r ≤ p.length := by have := HKK.out; have := HM.out; rw [List.length_take] at *; omega
    have hk9 : k = 64 - r := by have := HM.out; omega
    have hfin := digS_full (w := v5) (g := g) (kl := kl) (p := p) (xs := xs) (len := len) (xs1 := xs2) HR.out HX.out HRF.out.x64 hr0 hkl (by rw [HX2.out, HSE.out]; exact HD5.out)
    rw [show p.length - k = (p.drop k).length from List.length_drop.symm]
    refine hQ _ _ _ _ _ _ _ _ _ _ _ _ _ _ _ _ _ _ _ _ _ _ _ _ _ _ _ _ _ _ _ _ _ _ _ _ _ A1 _ (p.drop k) (bs ++ p.take (64 - r)) v5 ⟨by rw [List.append_assoc, hk9, List.take_append_drop], Or.inr hfin.2, HC1.out⟩ ⟨hfin.1⟩ ⟨HA1.out.step HO5.out⟩ HO5
  · have h641 : ¬ ((m : Int) = 64) := by omega
    have h642 : ((m : Int) == 64) = false := beq_false_of_ne h641
    clear hx64
    go_wp2_with fail
    have hkl : p.length < 64 - r := by have := HKK.out; have := HM.out; rw [List.length_take] at *; omega
    have hk9 : k = p.length := by have := HKK.out; rw [List.length_take] at this; omega
    have hfin := digS_part (w := v1) (g := g) (kl := kl) (p := p) (xs := xs) (len := len) HR.out HX.out HRF.out.x64 hkl (by rw [HX2.out, HSE.out, ← hk9, HM.out]; exact HD3.out)
    rw [show p.length - k = (p.drop k).length from List.length_drop.symm]
    refine hQ _ _ _ _ _ _ _ _ _ _ _ _ _ _ _ _ _ _ _ _ _ _ _ _ _ _ _ _ _ _ _ _ _ _ _ _ _ A1 _ (p.drop k) (bs ++ p) v1 ⟨by rw [hk9, List.drop_length, List.append_nil], Or.inl (by rw [hk9, List.drop_length]), HC1.out⟩ ⟨hfin⟩ ⟨HA1.out.step HO3.out⟩ HO3
end Go.Proofs.YtigpdgfhngknhaaDoor.Sha
/- The hash: whole blocks are written. -/
namespace Go.Proofs.YtigpdgfhngknhaaDoor.Sha
open Go.RowKit Go.Proofs.YtigpdgfhngknhaaDoorW.PrintWords Go.Proofs.YtigpdgfhngknhaaDoorW.PrintLast Go.Proofs.YtigpdgfhngknhaaDoorW.PrintMore Go.Proofs.YtigpdgfhngknhaaDoor.QFnTapRoot
set_option linter.unusedVariables false
set_option linter.unusedSimpArgs false
theorem mask63 (n : Nat) (h : n < 9223372036854775808) : bits BinOp.andNot .i64 (n : Int) 63 = ((64 * (n / 64) : Nat) : Int) := by
  have e : (BitVec.ofInt 64 (n : Int) &&& ~~~ BitVec.ofInt 64 63).toNat = 64 * (n / 64) := by
    have h1 : BitVec.ofInt 64 (n : Int) = BitVec.ofNat 64 n := by simp
    have h2 : BitVec.ofInt 64 63 = BitVec.ofNat 64 (2 ^ 6 - 1) := by decide
    rw [h1, h2]
    apply Nat.eq_of_testBit_eq
    intro i
    rw [BitVec.testBit_toNat, BitVec.getLsbD_and, BitVec.getLsbD_not, BitVec.getLsbD_ofNat, BitVec.getLsbD_ofNat, Nat.testBit_two_pow_sub_one, show 64 = 2 ^ 6 from rfl, Nat.testBit_two_pow_mul, Nat.testBit_div_two_pow]
    by_cases h6 : i < 6
    · simp [h6, Nat.not_le.2 h6]
    · have h7 : 6 ≤ i := by omega
      by_cases h64 : i < 64
      · simp [h6, h7, h64]
      · have h8 : (9223372036854775808 : Nat) = 2 ^ 63 := by decide
        have h9 : 2 ^ 63 ≤ 2 ^ i := Nat.pow_le_pow_right (by decide) (by omega)
        have : n.testBit i = false := Nat.testBit_lt_two_pow (by omega)
        simp [h6, h7, h64, this]
  unfold bits
  show IntKind.wrap .i64 ((BitVec.ofInt 64 (n : Int) &&& ~~~ BitVec.ofInt 64 63).toNat : Int) = _
  rw [e, i64_w]
  unfold wrap64
  omega
theorem RdS.take {w : World} {g : Nat} {A : Option Addr} {c : Nat} {q : List Int} (h : RdS w g A q.length q) (hc : q.length ≤ c) (k : Nat) (hk : k ≤ q.length) : (∀ W : World, (Instr.slice 26 (.slice A q.length c) none (some (.int .i64 (k : Int))) none).run Tryd.prog W = .ok (.slice A (q.take k).length c) W) ∧ RdS w g A (q.take k).length (q.take k) ∧ (q.take k).length ≤ c := by
  obtain ⟨i05, hi05, _, hsz5, _⟩ := info_parts info5
  obtain ⟨h1, h2, h3⟩ := print_take_of (P := Tryd.prog) (Value.int .u8) 0 26 5 .i64 Tryd.underlying26 hi05 hsz5 A c q (k : Int) (Int.natCast_nonneg _) (by omega) hc
  rw [Int.toNat_natCast] at h1 h2 h3
  exact ⟨h1, fun W hW => readsInt_of.2 (h2 W (readsInt_of.1 (h W hW))), h3⟩
/-- Whole blocks, written behind whole blocks. -/
theorem blockS {g : Nat} {kl bs q : List Int} {len : Int} {A : Option Addr} {c : Nat} {w : World} (h : DigS w g kl bs len) (h0 : bs.length % 64 = 0) (hq : q.length % 64 = 0) (hk : KRow w kl) (hp : RdS w g A q.length q) (hc : q.length ≤ c) (hn : q.length ≤ 1000000000000) :
    Calls Tryd.prog 108 #[.pointer (some ⟨g, 0, none⟩), .slice A q.length c] w fun e w' => e = .returned (.tuple #[]) ∧ DigS w' g kl (bs ++ q) len ∧ Only g w w' := by
  obtain ⟨xs, hd, hx⟩ := h.st
  refine (blockW g kl xs q _ _ len A c w hd hk (hp w (Only.refl g w)) hc hn).mono ?_
  rintro e w' ⟨he, h1, h2⟩
  refine ⟨he, ⟨xs, ?_, ?_⟩, h2⟩
  · have hm := blks_more kl bs q iv h0 (q.length / 64) (by omega)
    have ht : q.take (64 * (q.length / 64)) = q := List.take_of_length_le (by omega)
    rw [ht] at hm
    rw [hm] at h1
    have e1 : (bs ++ q).length % 64 = bs.length % 64 := by rw [List.length_append]; omega
    rw [e1]
    exact h1
  · have e1 : (bs ++ q).length % 64 = 0 := by rw [List.length_append]; omega
    rw [e1, List.take_zero, List.drop_eq_nil_of_le (by omega)]
set_option maxRecDepth 100000 in
set_option maxHeartbeats 16000000 in
theorem wholeL (g : Nat) (kl bs p : List Int) (len : Int) (A : Option Addr) (c : Nat) (wr : World) (Q : Exit → Act → World → Prop) (hP : ∀ c a n v w, Q (.panic c) (Act.put a n v) w → Q (.panic c) a w) (cd : Code) (hcd : Tryd.f105.body.bind (findC 61) = some cd) (y2 y3 y4 y5 y6 y7 y8 y9 y10 y11 y12 y13 y14 y15 y16 y17 y18 y19 y20 y21 y22 y23 y24 y25 y26 y27 y28 y29 y30 y31 y32 y33 y34 y35 y36 y37 y38 y39 y40 y41 y42 y43 y44 y45 y46 y47 y48 y49 y50 y51 y52 y53 y54 y55 y56 y57 y58 y59 y60 y62 y63 y64 y65 y66 y67 y68 y69 y70 y71 y72 y73 y74 y75 y76 y77 y78 y79 y80 y81 y82 y83 y84 y85 y86 y87 y88 y89 y90 y91 y92 y93 y94 : Value)
    (HD : Aside0 (DigS wr g kl bs len)) (H0 : Aside0 (bs.length % 64 = 0)) (hp64 : 64 ≤ p.length) (HN : Aside0 (p.length ≤ 1000000000000)) (HP : Aside0 (RdS wr g A p.length p)) (HC : Aside0 (p.length ≤ c)) (HK : Aside0 (KRow wr kl)) (HG : Aside0 (g ≠ 6))
    (hQ : ∀ (x7 x61 x62 x63 x64 x65 x66 x67 x68 x69 x70 x71 x72 x73 x74 x75 x76 x77 x78 x79 x80 x81 x82 : Value) (A1 : Option Addr) (c1 : Nat) (wx : World), Aside0 ((p.drop (64 * (p.length / 64))).length ≤ c1) → Aside0 (DigS wx g kl (bs ++ p.take (64 * (p.length / 64))) len) → Aside0 (RdS wx g A1 (p.drop (64 * (p.length / 64))).length (p.drop (64 * (p.length / 64)))) → Aside0 (Only g wr wx) → Q .normal { tmps := #[.pointer (some ⟨g, 0, none⟩), .slice A1 (p.drop (64 * (p.length / 64))).length c1, y2, y3, y4, y5, y6, x7, y8, y9, y10, y11, y12, y13, y14, y15, y16, y17, y18, y19, y20, y21, y22, y23, y24, y25, y26, y27, y28, y29, y30, y31, y32, y33, y34, y35, y36, y37, y38, y39, y40, y41, y42, y43, y44, y45, y46, y47, y48, y49, y50, y51, y52, y53, y54, y55, y56, y57, y58, y59, y60, x61, x62, x63, x64, x65, x66, x67, x68, x69, x70, x71, x72, x73, x74, x75, x76, x77, x78, x79, x80, x81, x82, y83, y84, y85, y86, y87, y88, y89, y90, y91, y92, y93, y94], defers := [] } wx) :
    Code.wp Tryd.prog cd Q { tmps := #[.pointer (some ⟨g, 0, none⟩), .slice A p.length c, y2, y3, y4, y5, y6, y7, y8, y9, y10, y11, y12, y13, y14, y15, y16, y17, y18, y19, y20, y21, y22, y23, y24, y25, y26, y27, y28, y29, y30, y31, y32, y33, y34, y35, y36, y37, y38, y39, y40, y41, y42, y43, y44, y45, y46, y47, y48, y49, y50, y51, y52, y53, y54, y55, y56, y57, y58, y59, y60, .bool true, y62, y63, y64, y65, y66, y67, y68, y69, y70, y71, y72, y73, y74, y75, y76, y77, y78, y79, y80, y81, y82, y83, y84, y85, y86, y87, y88, y89, y90, y91, y92, y93, y94], defers := [] } wr := by
  dsimp only [Tryd.f105, Option.bind, findC, Option.orElse, reduceIte, reduceCtorEq] at hcd
  obtain rfl := Option.some.inj hcd
  have hb := mask63 p.length (by have := HN.out; omega)
  obtain ⟨N, hNN⟩ : ∃ n, 64 * (p.length / 64) = n := ⟨_, rfl⟩
  rw [hNN] at hb hQ
  have HNN := Aside0.mk hNN
  clear hNN
  go_upto_block 0 with fail
  clear hb
  obtain ⟨w0, rfl⟩ : ∃ w0, w0 = wr := ⟨_, rfl⟩
  go_wp2_with fail
  go_loopg [1, 7] (N / 65536 + 1) (fun kq p1 p7 w' => ∃ (j : Nat) (A1 : Option Addr) (c1 : Nat), p1 = .slice A1 (p.drop (65536 * j)).length c1 ∧ p7 = .int .i64 ((N - 65536 * j : Nat) : Int) ∧ Aside0 (65536 * j ≤ N ∧ N / 65536 + 1 ≤ j + kq) ∧ Aside0 ((p.drop (65536 * j)).length ≤ c1) ∧ Aside0 (DigS w' g kl (bs ++ p.take (65536 * j)) len) ∧ Aside0 (RdS w' g A1 (p.drop (65536 * j)).length (p.drop (65536 * j))) ∧ Aside0 (Only g w0 w'))
  case atStart => exact ⟨0, A, c, by rfl, by rfl, ⟨by omega⟩, ⟨HC.out⟩, ⟨by simpa using HD.out⟩, ⟨HP.out⟩, ⟨Only.refl g w0⟩⟩
  case round =>
    obtain ⟨j, A1, c1, rfl, rfl, HJ, HC1, HD1, HP1, HO1⟩ := hrel
    have hNp : N ≤ p.length ∧ N % 64 = 0 := by have := HNN.out; omega
    have HNP := Aside0.mk hNp
    obtain ⟨q, hq⟩ : ∃ q, p.drop (65536 * j) = q := ⟨_, rfl⟩
    have HQE := Aside0.mk hq
    have hql : q.length = p.length - 65536 * j := by rw [← hq, List.length_drop]
    have HQL := Aside0.mk hql
    rw [hq] at HC1 HP1 ⊢
    obtain ⟨n, hn⟩ : ∃ n, N - 65536 * j = n := ⟨_, rfl⟩
    have HNE := Aside0.mk hn
    rw [hn]
    have hnq : n ≤ q.length := by have := HJ.out; omega
    have HNQ := Aside0.mk hnq
    have HNM : Aside0 (n % 64 = 0) := ⟨by have := HJ.out; omega⟩
    have HBM : Aside0 ((bs ++ p.take (65536 * j)).length % 64 = 0) := ⟨by rw [List.length_append, List.length_take]; have := H0.out; have := HJ.out; omega⟩
    have HK1 := Aside0.mk (HK.out.only HO1.out HG.out)
    clear hq hql hn hnq hNp
    by_cases hbig : 65536 < n
    · have hb1 : 65536 < (n : Int) := by omega
      have h65 : 65536 ≤ q.length := by have := HNQ.out; omega
      obtain ⟨h1, h2, h3⟩ := RdS.take HP1.out HC1.out 65536 h65
      obtain ⟨A2, h4, h5, h6⟩ := RdS.drop HP1.out HC1.out 65536 h65
      have hl1 : (q.take 65536).length = 65536 := by rw [List.length_take]; omega
      have HBS := Aside0.mk (blockS (q := q.take 65536) HD1.out HBM.out (by rw [hl1]) HK1.out h2 h3 (by rw [hl1]; decide))
      have HQ2 : Aside0 (p.drop (65536 * (j + 1)) = q.drop 65536) := ⟨by rw [← HQE.out, List.drop_drop]; congr 1⟩
      have HT2 : Aside0 ((bs ++ p.take (65536 * j)) ++ q.take 65536 = bs ++ p.take (65536 * (j + 1))) := ⟨by rw [List.append_assoc, ← HQE.out, show 65536 * (j + 1) = 65536 * j + 65536 by omega, List.take_add]⟩
      have HLT : Aside0 (j < N / 65536) := ⟨by have := HNE.out; omega⟩
      have hc1 : ∀ W : World, (Instr.slice 26 (.slice A1 q.length c1) none (some (.int .i64 65536)) none).run Tryd.prog W = .ok (.slice A1 (q.take 65536).length c1) W := h1
      have hc2 : ∀ W : World, (Instr.slice 26 (.slice A1 q.length c1) (some (.int .i64 65536)) none none).run Tryd.prog W = .ok (.slice A2 (q.drop 65536).length (c1 - 65536)) W := h4
      have hs7 : (n : Int) - 65536 = ((N - 65536 * (j + 1) : Nat) : Int) := by have := HNE.out; omega
      have HW7 : Aside0 (wrap64 ((N - 65536 * (j + 1) : Nat) : Int) = ((N - 65536 * (j + 1) : Nat) : Int)) := ⟨ln64 _ (Int.natCast_nonneg _) (by have := HNP.out.1; have := HN.out; omega)⟩
      have H5 := Aside0.mk h5
      have H6 := Aside0.mk h6
      obtain ⟨q1, hq1⟩ : ∃ l, q.take 65536 = l := ⟨_, rfl⟩
      obtain ⟨q2, hq2⟩ : ∃ l, q.drop 65536 = l := ⟨_, rfl⟩
      rw [hq1] at hc1 HBS HT2
      rw [hq2] at hc2 H5 H6 HQ2
      rw [HT2.out] at HBS
      clear h1 h2 h3 h4 h5 h6 hl1 hq1 hq2 h65
      go_wp2_with (go_at_call 108; (with_reducible refine HBS.out.mono ?_); rintro e w4 ⟨rfl, k1, k2⟩; have HD4 := Aside0.mk k1; have HO4 := Aside0.mk k2; clear k1 k2)
      go_roundg (gk - 1)
      case measure => exact meas1 ⟨by have := HJ.out; have := HLT.out; omega, HJ.out.2⟩ HLT.out
      case rel => exact ⟨j + 1, A2, c1 - 65536, by rw [HQ2.out], by first | rfl | (rw [HW7.out]; done) | (rw [hs7]; done), ⟨by have := HJ.out; have := HLT.out; omega⟩, ⟨by rw [HQ2.out]; exact H6.out⟩, HD4, ⟨by rw [HQ2.out]; exact H5.out.step HO4.out⟩, ⟨HO1.out.trans HO4.out⟩⟩
    · have hb1 : ¬ (65536 < (n : Int)) := by omega
      obtain ⟨h1, h2, h3⟩ := RdS.take HP1.out HC1.out n HNQ.out
      obtain ⟨A2, h4, h5, h6⟩ := RdS.drop HP1.out HC1.out n HNQ.out
      have hl1 : (q.take n).length = n := by rw [List.length_take]; have := HNQ.out; omega
      have HBS := Aside0.mk (blockS (q := q.take n) HD1.out HBM.out (by rw [hl1]; exact HNM.out) HK1.out h2 h3 (by rw [hl1]; have := HNQ.out; have := HQL.out; have := HN.out; omega))
      have HQ2 : Aside0 (p.drop N = q.drop n) := ⟨by rw [← HQE.out, List.drop_drop, ← HNE.out]; congr 1; have := HJ.out; omega⟩
      have HT2 : Aside0 ((bs ++ p.take (65536 * j)) ++ q.take n = bs ++ p.take N) := ⟨by rw [List.append_assoc, ← HQE.out, ← List.take_add, show 65536 * j + n = N by have := HNE.out; have := HJ.out; omega]⟩
      have H5 := Aside0.mk h5
      have H6 := Aside0.mk h6
      obtain ⟨q1, hq1⟩ : ∃ l, q.take n = l := ⟨_, rfl⟩
      obtain ⟨q2, hq2⟩ : ∃ l, q.drop n = l := ⟨_, rfl⟩
      rw [hq1] at h1 HBS HT2
      rw [hq2] at h4 H5 H6 HQ2
      rw [HT2.out] at HBS
      rw [HQ2.out] at hQ
      clear h2 h3 h5 h6 hl1 hq1 hq2
      go_wp2_with (go_at_call 108; (with_reducible refine HBS.out.mono ?_); rintro e w4 ⟨rfl, k1, k2⟩; have HD4 := Aside0.mk k1; have HO4 := Aside0.mk k2; clear k1 k2)
      exact hQ _ _ _ _ _ _ _ _ _ _ _ _ _ _ _ _ _ _ _ _ _ _ _ A2 (c1 - n) w4 ⟨H6.out⟩ HD4 ⟨H5.out.step HO4.out⟩ ⟨HO1.out.trans HO4.out⟩
end Go.Proofs.YtigpdgfhngknhaaDoor.Sha
/- The hash: what is left is kept; Write. -/
namespace Go.Proofs.YtigpdgfhngknhaaDoor.Sha
open Go.RowKit Go.Proofs.YtigpdgfhngknhaaDoorW.PrintWords Go.Proofs.YtigpdgfhngknhaaDoorW.PrintLast Go.Proofs.YtigpdgfhngknhaaDoorW.PrintMore Go.Proofs.YtigpdgfhngknhaaDoor.QFnTapRoot
set_option linter.unusedVariables false
set_option linter.unusedSimpArgs false
set_option maxRecDepth 100000 in
set_option maxHeartbeats 16000000 in
theorem restL (g : Nat) (kl bs p : List Int) (len : Int) (A : Option Addr) (c : Nat) (wr : World) (Q : Exit → Act → World → Prop) (cd : Code) (hcd : Tryd.f105.body.bind (findC 85) = some cd) (y2 y3 y4 y5 y6 y7 y8 y9 y10 y11 y12 y13 y14 y15 y16 y17 y18 y19 y20 y21 y22 y23 y24 y25 y26 y27 y28 y29 y30 y31 y32 y33 y34 y35 y36 y37 y38 y39 y40 y41 y42 y43 y44 y45 y46 y47 y48 y49 y50 y51 y52 y53 y54 y55 y56 y57 y58 y59 y60 y61 y62 y63 y64 y65 y66 y67 y68 y69 y70 y71 y72 y73 y74 y75 y76 y77 y78 y79 y80 y81 y82 y83 y84 y86 y87 y88 y89 y90 y91 y92 y93 y94 : Value)
    (HD : Aside0 (DigS wr g kl bs len)) (H0 : Aside0 (bs.length % 64 = 0)) (HL : Aside0 (p.length < 64)) (HP : Aside0 (RdS wr g A p.length p))
    (hQ : ∀ (x85 x86 x87 x88 x89 x90 x91 x92 x93 x94 : Value) (wx : World), Aside0 (DigS wx g kl (bs ++ p) len) → Aside0 (Only g wr wx) → Q .normal { tmps := #[.pointer (some ⟨g, 0, none⟩), .slice A p.length c, y2, y3, y4, y5, y6, y7, y8, y9, y10, y11, y12, y13, y14, y15, y16, y17, y18, y19, y20, y21, y22, y23, y24, y25, y26, y27, y28, y29, y30, y31, y32, y33, y34, y35, y36, y37, y38, y39, y40, y41, y42, y43, y44, y45, y46, y47, y48, y49, y50, y51, y52, y53, y54, y55, y56, y57, y58, y59, y60, y61, y62, y63, y64, y65, y66, y67, y68, y69, y70, y71, y72, y73, y74, y75, y76, y77, y78, y79, y80, y81, y82, y83, y84, x85, x86, x87, x88, x89, x90, x91, x92, x93, x94], defers := [] } wx) :
    Code.wp Tryd.prog cd Q { tmps := #[.pointer (some ⟨g, 0, none⟩), .slice A p.length c, y2, y3, y4, y5, y6, y7, y8, y9, y10, y11, y12, y13, y14, y15, y16, y17, y18, y19, y20, y21, y22, y23, y24, y25, y26, y27, y28, y29, y30, y31, y32, y33, y34, y35, y36, y37, y38, y39, y40, y41, y42, y43, y44, y45, y46, y47, y48, y49, y50, y51, y52, y53, y54, y55, y56, y57, y58, y59, y60, y61, y62, y63, y64, y65, y66, y67, y68, y69, y70, y71, y72, y73, y74, y75, y76, y77, y78, y79, y80, y81, y82, y83, y84, .bool true, y86, y87, y88, y89, y90, y91, y92, y93, y94], defers := [] } wr := by
  dsimp only [Tryd.f105, Option.bind, findC, Option.orElse, reduceIte, reduceCtorEq] at hcd
  obtain rfl := Option.some.inj hcd
  obtain ⟨xs, hd, hx⟩ := HD.out.st
  have HD1 := Aside0.mk hd
  have hx0 : xs.take 0 = bs.drop (64 * (bs.length / 64)) := by have h := hx; rw [H0.out] at h; exact h
  have HX0 := Aside0.mk hx0
  have ht : (p.take (64 - 0)).length = p.length := by rw [List.length_take]; have := HL.out; omega
  have HT := Aside0.mk ht
  have hsl0 := slice_room0 g
  have hdz := copyW_dig hd 0 (p.take (64 - 0)) (by rw [ht]; have := HL.out; omega)
  have hoz := copyW_only wr g 0 (blks kl bs (bs.length / 64) iv).l xs ((bs.length % 64 : Nat) : Int) len (p.take (64 - 0))
  obtain ⟨w2, hw2⟩ : ∃ w2, copyW wr g 0 (blks kl bs (bs.length / 64) iv).l xs ((bs.length % 64 : Nat) : Int) len (p.take (64 - 0)) = w2 := ⟨_, rfl⟩
  rw [hw2] at hdz hoz
  have HRUN : Aside0 (∀ (ρ : Operand → Value) (o : Oper), o.op = .call { callee := .builtin .copy, args := #[.tmp 90, .tmp 91], argTypes := #[26, 26] } → ρ (.tmp 90) = .slice (some ⟨g, 8, none⟩) 64 64 → ρ (.tmp 91) = .slice A p.length c → (execOp ρ o).run Tryd.prog wr = .ok (.value (.int .i64 (p.length : Int))) w2) := ⟨fun ρ o h1 h2 h3 => by
    have h := copy_run (W := wr) (ρ := ρ) (o := o) (.tmp 90) (.tmp 91) h1 hd 0 64 (by decide) h2 h3 (HP.out wr (Only.refl g wr))
    rw [hw2, ht] at h
    exact h⟩
  have HDZ := Aside0.mk hdz
  have HOZ := Aside0.mk hoz
  have z1 := hdz.nxc
  have f1 := hdz.free 72
  clear hd hx hx0 ht hdz hoz hw2
  go_wp2_with ((with_reducible refine at_dst (N := 92) rfl ?_); refine wpList_run rfl _ (HRUN.out _ _ rfl rfl rfl) ?_)
  refine hQ _ _ _ _ _ _ _ _ _ _ _ ⟨?_⟩ ⟨HOZ.out.set _ _⟩
  refine digS_part (xs := xs) H0.out HX0.out HD1.out.x64 (by have := HL.out; omega) ?_
  have h := HDZ.out.setNx (p.length : Int)
  rw [Nat.zero_add p.length]
  exact h
set_option maxRecDepth 100000 in
set_option maxHeartbeats 16000000 in
theorem writeC (g : Nat) (kl bs p : List Int) (A : Option Addr) (c : Nat) (w : World) (hd : DigS w g kl bs (bs.length : Int)) (hp : RdS w g A p.length p) (hc : p.length ≤ c) (hn : bs.length + p.length ≤ 1000000000000) (hk : KRow w kl) (hg : g ≠ 6) :
    Calls Tryd.prog 105 #[.pointer (some ⟨g, 0, none⟩), .slice A p.length c] w fun e w' => e = .returned (.tuple #[.int .i64 (p.length : Int), .nilIface]) ∧ DigS w' g kl (bs ++ p) ((bs ++ p).length : Int) ∧ Only g w w' := by
  obtain ⟨xs, hd1, hx⟩ := hd.st
  have HX := Aside0.mk hx
  have HD := Aside0.mk hd1
  have HP := Aside0.mk hp
  have HC := Aside0.mk hc
  have HN := Aside0.mk hn
  have HK := Aside0.mk hk
  have HG := Aside0.mk hg
  have HBP : Aside0 ((((bs ++ p).length : Nat) : Int) = (bs.length : Int) + (p.length : Int)) := ⟨by rw [List.length_append]; omega⟩
  have hu : IntKind.u64.wrap (p.length : Int) = (p.length : Int) := by show (p.length : Int) % 18446744073709551616 = _; omega
  have z0 := hd1.lenc
  have f0 := hd1.free 73
  have HUW : Aside0 (IntKind.u64.wrap ((bs.length : Int) + (p.length : Int)) = (((bs ++ p).length : Nat) : Int)) := ⟨by rw [HBP.out]; show ((bs.length : Int) + (p.length : Int)) % 18446744073709551616 = _; omega⟩
  clear hd hd1 hx hp hc hn hk hg
  go_enter Tryd.func105, Tryd.ntmps105
  go_upto_region 3 with fail
  rw [HUW.out]
  generalize hv1 : World.setCell _ _ _ = v1
  have HD1 : Aside0 (Dig v1 g (blks kl bs (bs.length / 64) iv).l xs ((bs.length % 64 : Nat) : Int) (((bs ++ p).length : Nat) : Int)) := ⟨by rw [← hv1]; exact HD.out.setLen _⟩
  have HO1 : Aside0 (Only g w v1) := ⟨by rw [← hv1]; exact (Only.refl g w).set _ _⟩
  clear hv1 z0 f0 hu
  obtain ⟨L, hL⟩ : ∃ L : Int, (((bs ++ p).length : Nat) : Int) = L := ⟨_, rfl⟩
  have HL := Aside0.mk hL
  rw [hL] at HD1 ⊢
  clear hL
  obtain ⟨r, hr⟩ : ∃ r, bs.length % 64 = r := ⟨_, rfl⟩
  have HR := Aside0.mk hr
  have HR64 : Aside0 (r < 64) := ⟨by omega⟩
  rw [hr] at HD1 HX
  have HK1 := Aside0.mk (HK.out.only HO1.out HG.out)
  have HP1 := Aside0.mk (HP.out.step HO1.out)
  have HDS : Aside0 (DigS v1 g kl bs L) := ⟨⟨xs, by rw [HR.out]; exact HD1.out, by rw [HR.out]; exact HX.out⟩⟩
  have z1 := HD1.out.nxc
  clear hr
  go_upto_if 23 with fail
  go_cut [1] (fun q1 wx => ∃ (A1 : Option Addr) (c1 : Nat) (p1 bs1 : List Int), q1 = .slice A1 p1.length c1 ∧ Aside0 (bs1 ++ p1 = bs ++ p ∧ (p1 = [] ∨ bs1.length % 64 = 0) ∧ p1.length ≤ c1) ∧ Aside0 (DigS wx g kl bs1 L) ∧ Aside0 (RdS wx g A1 p1.length p1) ∧ Aside0 (Only g w wx))
  case first =>
    by_cases hr0 : 0 < r
    · have hr1 : 0 < (r : Int) := by omega
      first | rw [decide_eq_true hr1] | rw [decide_eq_true hr0]
      refine fillL g r kl xs bs p L A c v1 _ (by intro _ _ n _ _ h; cases n <;> exact h) _ (by rfl) _ _ _ _ _ _ _ _ _ _ _ _ _ _ _ _ _ _ _ _ _ _ _ _ _ _ _ _ _ _ _ _ _ _ _ _ _ _ _ _ _ _ _ _ _ _ _ _ _ _ _ _ _ _ _ _ _ _ _ _ _ _ _ _ _ _ _ _ _ _ _ _ _ _ _ _ _ _ _ _ _ _ _ _ _ _ _ _ _ _ _ _ HD1 HR HX hr0 HR64.out HP1 HC HK1 HG ?_
      intro z6 z23 z24 z25 z26 z27 z28 z29 z30 z31 z32 z33 z34 z35 z36 z37 z38 z39 z40 z41 z42 z43 z44 z45 z46 z47 z48 z49 z50 z51 z52 z53 z54 z55 z56 z57 z58 A1 c1 p1 bs1 wx k1 k2 k3 k4
      go_wp2_with fail
      go_meet
      case rel => exact ⟨A1, c1, p1, bs1, rfl, k1, k2, k3, ⟨HO1.out.trans k4.out⟩⟩
    · have hr1 : ¬ (0 < (r : Int)) := by omega
      go_wp2_with fail
      go_meet
      case rel => exact ⟨A, c, p, bs, rfl, ⟨⟨rfl, Or.inr (by rw [HR.out]; omega), HC.out⟩⟩, HDS, HP1, HO1⟩
  case rest =>
    obtain ⟨A1, c1, p1, bs1, rfl, KA, KD, KP, KO⟩ := hcut
    have hl1 : bs1.length + p1.length = bs.length + p.length := by have := congrArg List.length KA.out.1; rw [List.length_append, List.length_append] at this; exact this
    have HL1 := Aside0.mk hl1
    have HKO := Aside0.mk (HK.out.only KO.out HG.out)
    clear hl1 z1
    by_cases h64 : 64 ≤ p1.length
    · have h641 : 64 ≤ (p1.length : Int) := by omega
      have HB0 : Aside0 (bs1.length % 64 = 0) := ⟨by
        rcases KA.out.2.1 with h | h
        · rw [h] at h64; simp at h64
        · exact h⟩
      go_upto_if 61 with fail
      refine wholeL g kl bs1 p1 L A1 c1 wc _ (by intro _ _ n _ _ h; cases n <;> exact h) _ (by rfl) _ _ _ _ _ _ _ _ _ _ _ _ _ _ _ _ _ _ _ _ _ _ _ _ _ _ _ _ _ _ _ _ _ _ _ _ _ _ _ _ _ _ _ _ _ _ _ _ _ _ _ _ _ _ _ _ _ _ _ _ _ _ _ _ _ _ _ _ _ _ _ _ _ _ _ _ _ _ _ _ _ _ _ _ _ _ _ _ _ _ _ _ KD HB0 h64 ⟨by have := HL1.out; have := HN.out; omega⟩ KP ⟨KA.out.2.2⟩ HKO HG ?_
      intro z7 z61 z62 z63 z64 z65 z66 z67 z68 z69 z70 z71 z72 z73 z74 z75 z76 z77 z78 z79 z80 z81 z82 A2 c2 wx k1 k2 k3 k4
      obtain ⟨p2, hp2⟩ : ∃ l, p1.drop (64 * (p1.length / 64)) = l := ⟨_, rfl⟩
      have HP2 := Aside0.mk hp2
      have HP2L : Aside0 (p2.length < 64) := ⟨by rw [← hp2, List.length_drop]; omega⟩
      rw [hp2] at k1 k3 ⊢
      have HB2 : Aside0 ((bs1 ++ p1.take (64 * (p1.length / 64))).length % 64 = 0) := ⟨by rw [List.length_append, List.length_take]; have := HB0.out; omega⟩
      have HE : Aside0 ((bs1 ++ p1.take (64 * (p1.length / 64))) ++ p2 = bs ++ p) := ⟨by rw [← hp2, List.append_assoc, List.take_append_drop, KA.out.1]⟩
      have HOX := Aside0.mk (KO.out.trans k4.out)
      clear hp2
      by_cases h0 : 0 < p2.length
      · have h01 : 0 < (p2.length : Int) := by omega
        go_upto_if 85 with fail
        refine restL g kl _ p2 L A2 c2 wx _ _ (by rfl) _ _ _ _ _ _ _ _ _ _ _ _ _ _ _ _ _ _ _ _ _ _ _ _ _ _ _ _ _ _ _ _ _ _ _ _ _ _ _ _ _ _ _ _ _ _ _ _ _ _ _ _ _ _ _ _ _ _ _ _ _ _ _ _ _ _ _ _ _ _ _ _ _ _ _ _ _ _ _ _ _ _ _ _ _ _ _ _ _ _ _ _ k2 HB2 HP2L k3 ?_
        intro z85 z86 z87 z88 z89 z90 z91 z92 z93 z94 wy j1 j2
        go_wp2_with fail
        go_ret2
        exact ⟨rfl, by (try rw [← HBP.out]); rw [HL.out, ← HE.out]; exact j1.out, HOX.out.trans j2.out⟩
      · have h01 : ¬ (0 < (p2.length : Int)) := by omega
        have HZ : Aside0 (p2 = []) := ⟨List.eq_nil_of_length_eq_zero (by omega)⟩
        go_wp2_with fail
        go_ret2
        exact ⟨rfl, by (try rw [← HBP.out]); rw [HL.out, ← HE.out, HZ.out, List.append_nil]; exact k2.out, HOX.out⟩
    · have h641 : ¬ (64 ≤ (p1.length : Int)) := by omega
      by_cases h0 : 0 < p1.length
      · have h01 : 0 < (p1.length : Int) := by omega
        have HB0 : Aside0 (bs1.length % 64 = 0) := ⟨by
          rcases KA.out.2.1 with h | h
          · rw [h] at h0; simp at h0
          · exact h⟩
        have HP2L : Aside0 (p1.length < 64) := ⟨by omega⟩
        go_upto_if 85 with fail
        refine restL g kl bs1 p1 L A1 c1 wc _ _ (by rfl) _ _ _ _ _ _ _ _ _ _ _ _ _ _ _ _ _ _ _ _ _ _ _ _ _ _ _ _ _ _ _ _ _ _ _ _ _ _ _ _ _ _ _ _ _ _ _ _ _ _ _ _ _ _ _ _ _ _ _ _ _ _ _ _ _ _ _ _ _ _ _ _ _ _ _ _ _ _ _ _ _ _ _ _ _ _ _ _ _ _ _ _ KD HB0 HP2L KP ?_
        intro z85 z86 z87 z88 z89 z90 z91 z92 z93 z94 wy j1 j2
        go_wp2_with fail
        go_ret2
        exact ⟨rfl, by (try rw [← HBP.out]); rw [HL.out, ← KA.out.1]; exact j1.out, KO.out.trans j2.out⟩
      · have h01 : ¬ (0 < (p1.length : Int)) := by omega
        have HZ : Aside0 (p1 = []) := ⟨List.eq_nil_of_length_eq_zero (by omega)⟩
        go_wp2_with fail
        go_ret2
        exact ⟨rfl, by (try rw [← HBP.out]); rw [HL.out, ← KA.out.1, HZ.out, List.append_nil]; exact KD.out, KO.out⟩
end Go.Proofs.YtigpdgfhngknhaaDoor.Sha
/- The hash: its end. -/
namespace Go.Proofs.YtigpdgfhngknhaaDoor.Sha
open Go.RowKit Go.Proofs.YtigpdgfhngknhaaDoorW.PrintWords Go.Proofs.YtigpdgfhngknhaaDoorW.PrintLast Go.Proofs.YtigpdgfhngknhaaDoorW.PrintMore Go.Proofs.YtigpdgfhngknhaaDoor.QFnTapRoot
set_option linter.unusedVariables false
set_option linter.unusedSimpArgs false
/-- What is put behind the bytes. -/
def padT (n : Nat) : Nat := if n % 64 < 56 then 56 - n % 64 else 120 - n % 64
def padL (n : Nat) : List Int := (put8 ((List.replicate 72 0).set 0 128) (padT n) ((n : Int) * 8)).take (padT n + 8)
def sumD (s : H8) : List Int := put4 (put4 (put4 (put4 (put4 (put4 (put4 (put4 (List.replicate 32 0) 0 s.a) 4 s.b) 8 s.c) 12 s.d) 16 s.e) 20 s.f) 24 s.g) 28 s.h
/-- The hash of bytes, over a table of constants. -/
def shaL (kl bs : List Int) : List Int := sumD (blks kl (bs ++ padL bs.length) ((bs ++ padL bs.length).length / 64) iv)
theorem put8_len (l : List Int) (o : Nat) (v : Int) : (put8 l o v).length = l.length := by unfold put8; simp only [List.length_set]
theorem put4_len (l : List Int) (o : Nat) (v : Int) : (put4 l o v).length = l.length := by unfold put4; simp only [List.length_set]
theorem padT_range (n : Nat) : 1 ≤ padT n ∧ padT n ≤ 64 ∧ (n + (padT n + 8)) % 64 = 0 := by unfold padT; split <;> omega
theorem padL_len (n : Nat) : (padL n).length = padT n + 8 := by
  have := padT_range n
  unfold padL
  rw [List.length_take, put8_len, List.length_set, List.length_replicate]; omega
theorem only_alloc {g : Nat} {w w1 : World} (h : Only g w w1) (o : Obj) : Only g w (w1.alloc o) := h.alloc o
theorem slice72 (g t : Nat) (ht : t ≤ 64) (w : World) : (Instr.sliceAt 157 (.pointer (some ⟨g, 0, none⟩)) none (some (.int .u64 ((t : Int) + 8))) none).run Tryd.prog w = .ok (.slice (some ⟨g, 0, none⟩) (t + 8) 72) w := by
  have ha : Tryd.prog.arrayLen 157 = 72 := by kernel_rfl
  have he : Tryd.prog.elem 157 = 5 := by kernel_rfl
  have hs : (sizeOf 5).run Tryd.prog w = .ok 1 w := by kernel_rfl
  have h := run_sliceAt_array_h (P := Tryd.prog) w 157 ⟨g, 0, none⟩ (by rw [ha, he]; exact Tryd.underlying157) .u64 ((t : Int) + 8) (by omega) (by rw [ha]; omega)
  rw [ha, he, hs] at h
  rw [h]
  show Result.ok (slicedAt _ _ _ _ _) w = _
  unfold slicedAt
  rw [if_neg (by decide), Nat.zero_mul, add_any, show ((t : Int) + 8).toNat = t + 8 by omega]; rfl
theorem slice32 (g o : Nat) (ho : o < 32) (w : World) : (Instr.sliceAt 22 (.pointer (some ⟨g, 0, none⟩)) (some (.int .i64 (o : Int))) none none).run Tryd.prog w = .ok (.slice (some ⟨g, o, none⟩) (32 - o) (32 - o)) w := by
  have ha : Tryd.prog.arrayLen 22 = 32 := by kernel_rfl
  have he : Tryd.prog.elem 22 = 5 := by kernel_rfl
  have hs : (sizeOf 5).run Tryd.prog w = .ok 1 w := by kernel_rfl
  have h := run_sliceAt_array_l (P := Tryd.prog) w 22 ⟨g, 0, none⟩ (by rw [ha, he]; exact Tryd.underlying22) .i64 (o : Int) (Int.natCast_nonneg _) (by rw [ha]; omega)
  rw [ha, he, hs] at h
  rw [h]
  show Result.ok (slicedAt _ _ _ _ _) w = _
  unfold slicedAt
  rw [Int.toNat_natCast, if_neg (by omega), add_any, Nat.mul_one, Nat.zero_add]
theorem DigS.same {w w1 : World} {g : Nat} {kl bs : List Int} {len : Int} (h : DigS w g kl bs len) (e : w1.heap[g]? = w.heap[g]?) : DigS w1 g kl bs len := by
  obtain ⟨xs, h1, h2⟩ := h.st
  exact ⟨xs, ⟨e.trans h1.blk, h1.h8, h1.x64⟩, h2⟩
theorem KRow.lt {w : World} {kl : List Int} (h : KRow w kl) : 6 < w.heap.size := World.block_lt_of_cell? w _ (h 0 (by decide))
/-- The head of a row of bytes, read while block g turns. -/
theorem rds_row {w : World} {b g : Nat} {l : List Int} {t : TypeId} (h : w.heap[b]? = some (.cells (byteC l).toArray t (0, 0))) (hne : b ≠ g) (n : Nat) (hn : n ≤ l.length) (hl : l.length ≤ 1000000) : RdS w g (some ⟨b, 0, none⟩) n (l.take n) := fun W hW =>
  ⟨by rw [List.length_take]; omega, by omega, fun _ => ⟨_, rfl, fun j hj => by
    rw [add_plain, row_cell ((hW.block b (blk_lt' h) hne).trans h) j (by omega), List.getD_eq_getElem?_getD, List.getD_eq_getElem?_getD, List.getElem?_take_of_lt hj]⟩⟩
theorem setRow_ne (w : World) (g : Nat) (cs : Array Value) (k : Nat) (h : g ≠ k) : (w.setRow g cs).heap[k]? = w.heap[k]? := by
  unfold World.setRow
  show (w.heap.modify g _)[k]? = w.heap[k]?
  rw [Array.getElem?_modify, if_neg h]
theorem only_other {g g2 : Nat} {w w1 w2 : World} (h : Only g w w1) (k : Only g2 w1 w2) (hn : w.heap.size ≤ g2) : Only g w w2 :=
  ⟨k.os.trans h.os, k.tape.trans h.tape, k.output.trans h.output, Nat.le_trans h.size k.size, fun i hi hg => (k.block i (Nat.lt_of_lt_of_le hi h.size) (by omega)).trans (h.block i hi hg)⟩
theorem undrew {g : Nat} {w w1 : World} (k : Only g (World.drew w) w1) : Only g w w1 := ⟨k.os, k.tape, k.output, k.size, k.block⟩
set_option maxRecDepth 100000 in
set_option maxHeartbeats 16000000 in
theorem checkC (g : Nat) (kl bs : List Int) (w : World) (hd : DigS w g kl bs (bs.length : Int)) (hn : bs.length ≤ 100000000000) (hk : KRow w kl) (hg : g ≠ 6) (hgl : g < w.heap.size) :
    Calls Tryd.prog 107 #[.pointer (some ⟨g, 0, none⟩)] w fun e w' => e = .returned (.agg (byteC (shaL kl bs)).toArray) ∧ Only g w w' ∧ w'.cell? ⟨g, 74, none⟩ = some (.bool false) := by
  obtain ⟨xs, hd1, hx⟩ := hd.st
  have HD := Aside0.mk hd
  have HN := Aside0.mk hn
  have HK := Aside0.mk hk
  have HG := Aside0.mk hg
  have HGL := Aside0.mk hgl
  have z0 := hd1.lenc
  clear hd hd1 hx hn hk hg
  obtain ⟨n, hnn⟩ : ∃ n, bs.length = n := ⟨_, rfl⟩
  have HNN := Aside0.mk hnn
  rw [hnn] at z0 HN
  have HSS : Aside0 ((n : Int) * 8 < 18446744073709551616 ∧ 0 ≤ (n : Int) * 8) := ⟨by have := HN.out; omega⟩
  clear hnn
  go_enter Tryd.func107, Tryd.ntmps107
  have HBX : Aside0 (∀ (x y : Obj), Below w.heap.size w ((w.alloc x).alloc y)) := ⟨fun x y => below_alloc (below_alloc (Below.refl _ _) _) _⟩
  go_upto_if 15 with fail
  generalize hw1 : World.alloc (World.alloc _ _) _ = w1
  have HB1 : Aside0 (Below w.heap.size w w1) := ⟨by rw [← hw1]; exact HBX.out _ _⟩
  have HT1 : Aside0 (w1.heap[w.heap.size + 1]? = some (.cells (byteC ((List.replicate 72 0).set 0 128)).toArray 157 (0, 0))) := ⟨by
    rw [← hw1]
    have h := heap_alloc_new (w.alloc (.cells (byteC (List.replicate 32 0)).toArray 22)) (.cells (byteC ((List.replicate 72 0).set 0 128)).toArray 157)
    rw [show (w.alloc (.cells (byteC (List.replicate 32 0)).toArray 22)).heap.size = w.heap.size + 1 by simp] at h
    exact h⟩
  have HRZ : Aside0 (w1.heap[w.heap.size]? = some (.cells (byteC (List.replicate 32 0)).toArray 22 (0, 0))) := ⟨by
    rw [← hw1]
    exact heap_alloc_lt (heap_alloc_new w (.cells (byteC (List.replicate 32 0)).toArray 22)) _⟩
  clear hw1 HBX
  have htr := padT_range n
  go_cut [5] (fun p5 wx => p5 = .int .u64 ((padT n : Nat) : Int) ∧ wx = w1)
  case first =>
    by_cases h56 : n % 64 < 56
    · have h561 : (n : Int) % 64 < 56 := by omega
      have HE : Aside0 ((56 : Int) - (n : Int) % 64 = ((padT n : Nat) : Int)) := ⟨by unfold padT; rw [if_pos h56]; omega⟩
      clear htr
      go_wp2_with fail
      go_meet
      case rel => exact ⟨by rw [← HE.out], rfl⟩
    · have h561 : ¬ ((n : Int) % 64 < 56) := by omega
      have HE : Aside0 ((120 : Int) - (n : Int) % 64 = ((padT n : Nat) : Int)) := ⟨by unfold padT; rw [if_neg h56]; omega⟩
      clear htr
      go_wp2_with fail
      go_meet
      case rel => exact ⟨by rw [← HE.out], rfl⟩
  case rest =>
    obtain ⟨rfl, rfl⟩ := hcut
    obtain ⟨t, ht⟩ : ∃ t, padT n = t := ⟨_, rfl⟩
    have HT := Aside0.mk ht
    rw [ht] at htr ⊢
    have ht1 : t ≤ 64 := htr.2.1
    have ht0 : 0 ≤ (t : Int) := by omega
    have ht2 : (t : Int) ≤ 64 := by omega
    have HTR := Aside0.mk htr
    have hsl := slice72 (w.heap.size + 1) t ht1
    clear ht htr
    obtain ⟨hs, hn0⟩ := HSS.out
    go_upto_region 10 with fail
    clear hs hn0 hsl
    go_upto_region 11 with (go_at_call 111; (with_reducible refine (put8C (w.heap.size + 1) t _ _ _ _ _ _ HT1.out (by rw [List.length_set, List.length_replicate]; omega) (by omega)).mono ?_); rintro e w2 ⟨rfl, k1, k2⟩; have HT2 := Aside0.mk k1; have HO2 := Aside0.mk k2; clear k1 k2)
    have HKL := Aside0.mk HK.out.lt
    have HK2 : Aside0 (KRow w2 kl) := ⟨(HK.out.below HB1.out).only HO2.out (by have := HKL.out; omega)⟩
    have HD2 : Aside0 (DigS w2 g kl bs (bs.length : Int)) := ⟨(HD.out.below HB1.out).same (HO2.out.block g (Nat.lt_of_lt_of_le HGL.out HB1.out.size) (by have := HGL.out; omega))⟩
    have hpl : (put8 ((List.replicate 72 0).set 0 128) t ((n : Int) * 8)).length = 72 := by rw [put8_len, List.length_set, List.length_replicate]
    have HP2 := Aside0.mk (rds_row (g := g) HT2.out (by have := HGL.out; omega) (t + 8) (by rw [hpl]; omega) (by rw [hpl]; decide))
    have HPE : Aside0 ((put8 ((List.replicate 72 0).set 0 128) t ((n : Int) * 8)).take (t + 8) = padL n) := ⟨by unfold padL; rw [HT.out]⟩
    rw [HPE.out] at HP2
    have HPN : Aside0 ((padL n).length = t + 8) := ⟨by rw [padL_len, HT.out]⟩
    have HWR : Aside0 (Calls Tryd.prog 105 #[.pointer (some ⟨g, 0, none⟩), .slice (some ⟨w.heap.size + 1, 0, none⟩) (t + 8) 72] w2 fun e w' => (∃ v, e = .returned v) ∧ DigS w' g kl (bs ++ padL n) ((bs ++ padL n).length : Int) ∧ Only g w2 w') := ⟨by
      have h := writeC g kl bs (padL n) (some ⟨w.heap.size + 1, 0, none⟩) 72 w2 HD2.out (by rw [HPN.out]; exact HP2.out) (by rw [HPN.out]; omega) (by have := HN.out; have := HNN.out; rw [HPN.out]; omega) HK2.out HG.out
      rw [HPN.out] at h
      exact h.mono fun e w' ⟨he, h1, h2⟩ => ⟨⟨_, he⟩, h1, h2⟩⟩
    clear hpl
    go_upto_region 12 with (go_at_call 105; (with_reducible refine HWR.out.mono ?_); rintro e w3 ⟨⟨v9, rfl⟩, k1, k2⟩; have HD3 := Aside0.mk k1; have HO3 := Aside0.mk k2; clear k1 k2)
    obtain ⟨xs3, hd3, _⟩ := HD3.out.st
    have h064 : (bs ++ padL n).length % 64 = 0 := by rw [List.length_append, HPN.out, HNN.out]; have := HTR.out; omega
    rw [h064] at hd3
    obtain ⟨s, hs⟩ : ∃ s, blks kl (bs ++ padL n) ((bs ++ padL n).length / 64) iv = s := ⟨_, rfl⟩
    have HSE : Aside0 (shaL kl bs = sumD s) := ⟨by unfold shaL; rw [HNN.out, hs]⟩
    rw [hs] at hd3
    have HD4 := Aside0.mk hd3
    have z4 : w3.cell? ⟨g, 72, none⟩ = some (.int .i64 0) := hd3.nxc
    clear hd3 h064 hs z0
    go_upto_region 15 with fail
    clear z4
    obtain ⟨gd, hgd⟩ : ∃ x, w3.heap.size = x := ⟨_, rfl⟩
    have HGD := Aside0.mk hgd
    rw [hgd]
    generalize hw4 : World.alloc _ _ = w4
    have HB4 : Aside0 (Below w3.heap.size w3 w4) := ⟨by rw [← hw4]; exact below_alloc (Below.refl _ _) _⟩
    have HR0 : Aside0 (w4.heap[gd]? = some (.cells (byteC (List.replicate 32 0)).toArray 22 (0, 0))) := ⟨by rw [← hw4, ← hgd]; exact heap_alloc_new w3 (.cells (byteC (List.replicate 32 0)).toArray 22)⟩
    have HD5 := Aside0.mk (HD4.out.below HB4.out)
    have HGE : Aside0 (g ≠ gd) := ⟨by have h1 := blk_lt' HD4.out.blk; omega⟩
    clear hw4 hgd
    obtain ⟨s0, s1, s2, s3, s4, s5, s6, s7⟩ := s
    have D0 := HD5
    have sl0 : ∀ W : World, (Instr.sliceAt 22 (.pointer (some ⟨gd, 0, none⟩)) (some (.int .i64 0)) none none).run Tryd.prog W = .ok (.slice (some ⟨gd, 0, none⟩) 32 32) W := fun W => slice32 gd 0 (by decide) W
    have HRd0 := Aside0.mk (show (World.drew w4).heap[gd]? = _ from HR0.out)
    have S0 : Aside0 (w4.drew.cell? ⟨g, 0, none⟩ = some (.int .u32 s0)) := ⟨D0.out.hcell 0 (by decide)⟩
    refine start_ (n := 7) (S := fun w' => w'.cell? ⟨g, 0, none⟩ = some (.int .u32 s0)) (ds := []) #[false, false, false, false, false, false, false] (by kernel_rfl) rfl rfl S0.out (fun hHeld => ?_)
    refine pure_ (i := 0) (N := some 42) (v := ?_) (a' := ?_) #[true, false, false, false, false, false, false] rfl rfl (by kernel_rfl) (fun _ _ _ h => h) (Or.inl ⟨by rfl, ?_⟩) ?_ ?_
    rotate_left
    · intro w'
      go_simp
      with_reducible rfl
    rotate_left
    · simp only [Act.put, List.setIfInBounds_toArray, List.set_cons_zero, List.set_cons_succ, i64_w, i32_w]
      rfl
    refine pure_ (i := 1) (N := some 43) (v := ?_) (a' := ?_) #[true, true, false, false, false, false, false] rfl rfl (by kernel_rfl) (fun _ _ _ h => h) (Or.inl ⟨by rfl, ?_⟩) ?_ ?_
    rotate_left
    · intro w'
      go_simp
      with_reducible rfl
    rotate_left
    · simp only [Act.put, List.setIfInBounds_toArray, List.set_cons_zero, List.set_cons_succ, i64_w, i32_w]
      rfl
    refine pure_ (i := 2) (N := some 44) (v := ?_) (a' := ?_) #[true, true, true, false, false, false, false] rfl rfl (by kernel_rfl) (fun _ _ _ h => h) (Or.inl ⟨by rfl, ?_⟩) ?_ ?_
    rotate_left
    · intro w'
      go_simp
      with_reducible rfl
    rotate_left
    · simp only [Act.put, List.setIfInBounds_toArray, List.set_cons_zero, List.set_cons_succ, i64_w, i32_w]
      rfl
    refine pure_ (i := 3) (N := some 45) (v := ?_) (a' := ?_) #[true, true, true, true, false, false, false] rfl rfl (by kernel_rfl) (fun _ _ _ h => h) (Or.inl ⟨by rfl, ?_⟩) ?_ ?_
    rotate_left
    · intro w'
      go_simp
      with_reducible rfl
    rotate_left
    · simp only [Act.put, List.setIfInBounds_toArray, List.set_cons_zero, List.set_cons_succ, i64_w, i32_w]
      rfl
    refine pure_ (i := 4) (N := some 46) (v := ?_) (a' := ?_) #[true, true, true, true, true, false, false] rfl rfl (by kernel_rfl) (fun _ _ _ h => h) (Or.inl ⟨by rfl, ?_⟩) ?_ ?_
    rotate_left
    · intro w'
      go_simp
      with_reducible rfl
    rotate_left
    · simp only [Act.put, List.setIfInBounds_toArray, List.set_cons_zero, List.set_cons_succ, i64_w, i32_w]
      rfl
    refine take_ (i := 5) (N := some 47) (v := ?_) (a' := ?_) #[true, true, true, true, true, true, false] rfl rfl (by kernel_rfl) (fun _ _ _ h => h) (Or.inl ⟨by rfl, ?_⟩) hHeld ?_ ?_
    rotate_left
    · rintro w' s0
      go_simp
      with_reducible rfl
    rotate_left
    · simp only [Act.put, List.setIfInBounds_toArray, List.set_cons_zero, List.set_cons_succ, i64_w, i32_w]
      rfl
    refine one_ (i := 6) (N := some 48) #[true, true, true, true, true, true, true] rfl rfl (by kernel_rfl) (by decide) (fun K hK => ?_)
    refine goes_ Tryd.func112 (by kernel_rfl) rfl #[.slice (some ⟨gd, 0, none⟩) 32 32, .int .u32 s0] (by rfl) rfl rfl (by (try simp only [List.map_toArray, List.map_cons, List.map_nil]); first | done | rfl | (simp only [List.length_drop, List.length_take]; rfl)) ?_
    with_reducible refine (put4C gd 0 32 32 _ _ _ _ (HRd0.out) (by simp only [put4_len, List.length_replicate]; decide) (by decide)).mono ?_
    rintro e v1 ⟨rfl, k1, k2⟩
    refine ⟨_, rfl, ?_⟩
    have HR1 := Aside0.mk k1
    have P1 : Aside0 (Only gd (World.drew w4) v1) := ⟨k2⟩
    refine hK.out _ _ (k2.cell (p := ⟨g, 0, none⟩) HGE.out hHeld) (fun hHeld => ?_)
    clear hK K
    refine norm_ (a' := ?_) ?_ ?_
    rotate_left
    · show Act.put _ (some 48) _ = _
      simp only [Act.put, List.setIfInBounds_toArray, List.set_cons_zero, List.set_cons_succ, i64_w, i32_w]
      rfl
    refine done_ (by kernel_rfl) ?_
    have D1 : Aside0 (Dig v1 g (H8.l ⟨s0, s1, s2, s3, s4, s5, s6, s7⟩) xs3 ((0 : Nat) : Int) ((bs ++ padL n).length : Int)) := ⟨⟨(P1.out.block g (blk_lt' D0.out.blk) HGE.out).trans D0.out.blk, D0.out.h8, D0.out.x64⟩⟩
    clear hHeld k1 k2 sl0
    go_upto_region 16 with fail
    have sl1 : ∀ W : World, (Instr.sliceAt 22 (.pointer (some ⟨gd, 0, none⟩)) (some (.int .i64 4)) none none).run Tryd.prog W = .ok (.slice (some ⟨gd, 4, none⟩) 28 28) W := fun W => slice32 gd 4 (by decide) W
    have HRd1 := Aside0.mk (show (World.drew v1).heap[gd]? = _ from HR1.out)
    have S1 : Aside0 (v1.drew.cell? ⟨g, 1, none⟩ = some (.int .u32 s1)) := ⟨D1.out.hcell 1 (by decide)⟩
    refine start_ (n := 7) (S := fun w' => w'.cell? ⟨g, 1, none⟩ = some (.int .u32 s1)) (ds := []) #[false, false, false, false, false, false, false] (by kernel_rfl) rfl rfl S1.out (fun hHeld => ?_)
    refine pure_ (i := 0) (N := some 49) (v := ?_) (a' := ?_) #[true, false, false, false, false, false, false] rfl rfl (by kernel_rfl) (fun _ _ _ h => h) (Or.inl ⟨by rfl, ?_⟩) ?_ ?_
    rotate_left
    · intro w'
      go_simp
      with_reducible rfl
    rotate_left
    · simp only [Act.put, List.setIfInBounds_toArray, List.set_cons_zero, List.set_cons_succ, i64_w, i32_w]
      rfl
    refine pure_ (i := 1) (N := some 50) (v := ?_) (a' := ?_) #[true, true, false, false, false, false, false] rfl rfl (by kernel_rfl) (fun _ _ _ h => h) (Or.inl ⟨by rfl, ?_⟩) ?_ ?_
    rotate_left
    · intro w'
      go_simp
      with_reducible rfl
    rotate_left
    · simp only [Act.put, List.setIfInBounds_toArray, List.set_cons_zero, List.set_cons_succ, i64_w, i32_w]
      rfl
    refine pure_ (i := 2) (N := some 51) (v := ?_) (a' := ?_) #[true, true, true, false, false, false, false] rfl rfl (by kernel_rfl) (fun _ _ _ h => h) (Or.inl ⟨by rfl, ?_⟩) ?_ ?_
    rotate_left
    · intro w'
      go_simp
      with_reducible rfl
    rotate_left
    · simp only [Act.put, List.setIfInBounds_toArray, List.set_cons_zero, List.set_cons_succ, i64_w, i32_w]
      rfl
    refine pure_ (i := 3) (N := some 52) (v := ?_) (a' := ?_) #[true, true, true, true, false, false, false] rfl rfl (by kernel_rfl) (fun _ _ _ h => h) (Or.inl ⟨by rfl, ?_⟩) ?_ ?_
    rotate_left
    · intro w'
      go_simp
      with_reducible rfl
    rotate_left
    · simp only [Act.put, List.setIfInBounds_toArray, List.set_cons_zero, List.set_cons_succ, i64_w, i32_w]
      rfl
    refine pure_ (i := 4) (N := some 53) (v := ?_) (a' := ?_) #[true, true, true, true, true, false, false] rfl rfl (by kernel_rfl) (fun _ _ _ h => h) (Or.inl ⟨by rfl, ?_⟩) ?_ ?_
    rotate_left
    · intro w'
      go_simp
      with_reducible rfl
    rotate_left
    · simp only [Act.put, List.setIfInBounds_toArray, List.set_cons_zero, List.set_cons_succ, i64_w, i32_w]
      rfl
    refine take_ (i := 5) (N := some 54) (v := ?_) (a' := ?_) #[true, true, true, true, true, true, false] rfl rfl (by kernel_rfl) (fun _ _ _ h => h) (Or.inl ⟨by rfl, ?_⟩) hHeld ?_ ?_
    rotate_left
    · rintro w' s0
      go_simp
      with_reducible rfl
    rotate_left
    · simp only [Act.put, List.setIfInBounds_toArray, List.set_cons_zero, List.set_cons_succ, i64_w, i32_w]
      rfl
    refine one_ (i := 6) (N := some 55) #[true, true, true, true, true, true, true] rfl rfl (by kernel_rfl) (by decide) (fun K hK => ?_)
    refine goes_ Tryd.func112 (by kernel_rfl) rfl #[.slice (some ⟨gd, 4, none⟩) 28 28, .int .u32 s1] (by rfl) rfl rfl (by (try simp only [List.map_toArray, List.map_cons, List.map_nil]); first | done | rfl | (simp only [List.length_drop, List.length_take]; rfl)) ?_
    with_reducible refine (put4C gd 4 28 28 _ _ _ _ (HRd1.out) (by simp only [put4_len, List.length_replicate]; decide) (by decide)).mono ?_
    rintro e v2 ⟨rfl, k1, k2⟩
    refine ⟨_, rfl, ?_⟩
    have HR2 := Aside0.mk k1
    have P2 : Aside0 (Only gd (World.drew v1) v2) := ⟨k2⟩
    refine hK.out _ _ (k2.cell (p := ⟨g, 1, none⟩) HGE.out hHeld) (fun hHeld => ?_)
    clear hK K
    refine norm_ (a' := ?_) ?_ ?_
    rotate_left
    · show Act.put _ (some 55) _ = _
      simp only [Act.put, List.setIfInBounds_toArray, List.set_cons_zero, List.set_cons_succ, i64_w, i32_w]
      rfl
    refine done_ (by kernel_rfl) ?_
    have D2 : Aside0 (Dig v2 g (H8.l ⟨s0, s1, s2, s3, s4, s5, s6, s7⟩) xs3 ((0 : Nat) : Int) ((bs ++ padL n).length : Int)) := ⟨⟨(P2.out.block g (blk_lt' D1.out.blk) HGE.out).trans D1.out.blk, D1.out.h8, D1.out.x64⟩⟩
    clear hHeld k1 k2 sl1
    go_upto_region 17 with fail
    have sl2 : ∀ W : World, (Instr.sliceAt 22 (.pointer (some ⟨gd, 0, none⟩)) (some (.int .i64 8)) none none).run Tryd.prog W = .ok (.slice (some ⟨gd, 8, none⟩) 24 24) W := fun W => slice32 gd 8 (by decide) W
    have HRd2 := Aside0.mk (show (World.drew v2).heap[gd]? = _ from HR2.out)
    have S2 : Aside0 (v2.drew.cell? ⟨g, 2, none⟩ = some (.int .u32 s2)) := ⟨D2.out.hcell 2 (by decide)⟩
    refine start_ (n := 7) (S := fun w' => w'.cell? ⟨g, 2, none⟩ = some (.int .u32 s2)) (ds := []) #[false, false, false, false, false, false, false] (by kernel_rfl) rfl rfl S2.out (fun hHeld => ?_)
    refine pure_ (i := 0) (N := some 56) (v := ?_) (a' := ?_) #[true, false, false, false, false, false, false] rfl rfl (by kernel_rfl) (fun _ _ _ h => h) (Or.inl ⟨by rfl, ?_⟩) ?_ ?_
    rotate_left
    · intro w'
      go_simp
      with_reducible rfl
    rotate_left
    · simp only [Act.put, List.setIfInBounds_toArray, List.set_cons_zero, List.set_cons_succ, i64_w, i32_w]
      rfl
    refine pure_ (i := 1) (N := some 57) (v := ?_) (a' := ?_) #[true, true, false, false, false, false, false] rfl rfl (by kernel_rfl) (fun _ _ _ h => h) (Or.inl ⟨by rfl, ?_⟩) ?_ ?_
    rotate_left
    · intro w'
      go_simp
      with_reducible rfl
    rotate_left
    · simp only [Act.put, List.setIfInBounds_toArray, List.set_cons_zero, List.set_cons_succ, i64_w, i32_w]
      rfl
    refine pure_ (i := 2) (N := some 58) (v := ?_) (a' := ?_) #[true, true, true, false, false, false, false] rfl rfl (by kernel_rfl) (fun _ _ _ h => h) (Or.inl ⟨by rfl, ?_⟩) ?_ ?_
    rotate_left
    · intro w'
      go_simp
      with_reducible rfl
    rotate_left
    · simp only [Act.put, List.setIfInBounds_toArray, List.set_cons_zero, List.set_cons_succ, i64_w, i32_w]
      rfl
    refine pure_ (i := 3) (N := some 59) (v := ?_) (a' := ?_) #[true, true, true, true, false, false, false] rfl rfl (by kernel_rfl) (fun _ _ _ h => h) (Or.inl ⟨by rfl, ?_⟩) ?_ ?_
    rotate_left
    · intro w'
      go_simp
      with_reducible rfl
    rotate_left
    · simp only [Act.put, List.setIfInBounds_toArray, List.set_cons_zero, List.set_cons_succ, i64_w, i32_w]
      rfl
    refine pure_ (i := 4) (N := some 60) (v := ?_) (a' := ?_) #[true, true, true, true, true, false, false] rfl rfl (by kernel_rfl) (fun _ _ _ h => h) (Or.inl ⟨by rfl, ?_⟩) ?_ ?_
    rotate_left
    · intro w'
      go_simp
      with_reducible rfl
    rotate_left
    · simp only [Act.put, List.setIfInBounds_toArray, List.set_cons_zero, List.set_cons_succ, i64_w, i32_w]
      rfl
    refine take_ (i := 5) (N := some 61) (v := ?_) (a' := ?_) #[true, true, true, true, true, true, false] rfl rfl (by kernel_rfl) (fun _ _ _ h => h) (Or.inl ⟨by rfl, ?_⟩) hHeld ?_ ?_
    rotate_left
    · rintro w' s0
      go_simp
      with_reducible rfl
    rotate_left
    · simp only [Act.put, List.setIfInBounds_toArray, List.set_cons_zero, List.set_cons_succ, i64_w, i32_w]
      rfl
    refine one_ (i := 6) (N := some 62) #[true, true, true, true, true, true, true] rfl rfl (by kernel_rfl) (by decide) (fun K hK => ?_)
    refine goes_ Tryd.func112 (by kernel_rfl) rfl #[.slice (some ⟨gd, 8, none⟩) 24 24, .int .u32 s2] (by rfl) rfl rfl (by (try simp only [List.map_toArray, List.map_cons, List.map_nil]); first | done | rfl | (simp only [List.length_drop, List.length_take]; rfl)) ?_
    with_reducible refine (put4C gd 8 24 24 _ _ _ _ (HRd2.out) (by simp only [put4_len, List.length_replicate]; decide) (by decide)).mono ?_
    rintro e v3 ⟨rfl, k1, k2⟩
    refine ⟨_, rfl, ?_⟩
    have HR3 := Aside0.mk k1
    have P3 : Aside0 (Only gd (World.drew v2) v3) := ⟨k2⟩
    refine hK.out _ _ (k2.cell (p := ⟨g, 2, none⟩) HGE.out hHeld) (fun hHeld => ?_)
    clear hK K
    refine norm_ (a' := ?_) ?_ ?_
    rotate_left
    · show Act.put _ (some 62) _ = _
      simp only [Act.put, List.setIfInBounds_toArray, List.set_cons_zero, List.set_cons_succ, i64_w, i32_w]
      rfl
    refine done_ (by kernel_rfl) ?_
    have D3 : Aside0 (Dig v3 g (H8.l ⟨s0, s1, s2, s3, s4, s5, s6, s7⟩) xs3 ((0 : Nat) : Int) ((bs ++ padL n).length : Int)) := ⟨⟨(P3.out.block g (blk_lt' D2.out.blk) HGE.out).trans D2.out.blk, D2.out.h8, D2.out.x64⟩⟩
    clear hHeld k1 k2 sl2
    go_upto_region 18 with fail
    have sl3 : ∀ W : World, (Instr.sliceAt 22 (.pointer (some ⟨gd, 0, none⟩)) (some (.int .i64 12)) none none).run Tryd.prog W = .ok (.slice (some ⟨gd, 12, none⟩) 20 20) W := fun W => slice32 gd 12 (by decide) W
    have HRd3 := Aside0.mk (show (World.drew v3).heap[gd]? = _ from HR3.out)
    have S3 : Aside0 (v3.drew.cell? ⟨g, 3, none⟩ = some (.int .u32 s3)) := ⟨D3.out.hcell 3 (by decide)⟩
    refine start_ (n := 7) (S := fun w' => w'.cell? ⟨g, 3, none⟩ = some (.int .u32 s3)) (ds := []) #[false, false, false, false, false, false, false] (by kernel_rfl) rfl rfl S3.out (fun hHeld => ?_)
    refine pure_ (i := 0) (N := some 63) (v := ?_) (a' := ?_) #[true, false, false, false, false, false, false] rfl rfl (by kernel_rfl) (fun _ _ _ h => h) (Or.inl ⟨by rfl, ?_⟩) ?_ ?_
    rotate_left
    · intro w'
      go_simp
      with_reducible rfl
    rotate_left
    · simp only [Act.put, List.setIfInBounds_toArray, List.set_cons_zero, List.set_cons_succ, i64_w, i32_w]
      rfl
    refine pure_ (i := 1) (N := some 64) (v := ?_) (a' := ?_) #[true, true, false, false, false, false, false] rfl rfl (by kernel_rfl) (fun _ _ _ h => h) (Or.inl ⟨by rfl, ?_⟩) ?_ ?_
    rotate_left
    · intro w'
      go_simp
      with_reducible rfl
    rotate_left
    · simp only [Act.put, List.setIfInBounds_toArray, List.set_cons_zero, List.set_cons_succ, i64_w, i32_w]
      rfl
    refine pure_ (i := 2) (N := some 65) (v := ?_) (a' := ?_) #[true, true, true, false, false, false, false] rfl rfl (by kernel_rfl) (fun _ _ _ h => h) (Or.inl ⟨by rfl, ?_⟩) ?_ ?_
    rotate_left
    · intro w'
      go_simp
      with_reducible rfl
    rotate_left
    · simp only [Act.put, List.setIfInBounds_toArray, List.set_cons_zero, List.set_cons_succ, i64_w, i32_w]
      rfl
    refine pure_ (i := 3) (N := some 66) (v := ?_) (a' := ?_) #[true, true, true, true, false, false, false] rfl rfl (by kernel_rfl) (fun _ _ _ h => h) (Or.inl ⟨by rfl, ?_⟩) ?_ ?_
    rotate_left
    · intro w'
      go_simp
      with_reducible rfl
    rotate_left
    · simp only [Act.put, List.setIfInBounds_toArray, List.set_cons_zero, List.set_cons_succ, i64_w, i32_w]
      rfl
    refine pure_ (i := 4) (N := some 67) (v := ?_) (a' := ?_) #[true, true, true, true, true, false, false] rfl rfl (by kernel_rfl) (fun _ _ _ h => h) (Or.inl ⟨by rfl, ?_⟩) ?_ ?_
    rotate_left
    · intro w'
      go_simp
      with_reducible rfl
    rotate_left
    · simp only [Act.put, List.setIfInBounds_toArray, List.set_cons_zero, List.set_cons_succ, i64_w, i32_w]
      rfl
    refine take_ (i := 5) (N := some 68) (v := ?_) (a' := ?_) #[true, true, true, true, true, true, false] rfl rfl (by kernel_rfl) (fun _ _ _ h => h) (Or.inl ⟨by rfl, ?_⟩) hHeld ?_ ?_
    rotate_left
    · rintro w' s0
      go_simp
      with_reducible rfl
    rotate_left
    · simp only [Act.put, List.setIfInBounds_toArray, List.set_cons_zero, List.set_cons_succ, i64_w, i32_w]
      rfl
    refine one_ (i := 6) (N := some 69) #[true, true, true, true, true, true, true] rfl rfl (by kernel_rfl) (by decide) (fun K hK => ?_)
    refine goes_ Tryd.func112 (by kernel_rfl) rfl #[.slice (some ⟨gd, 12, none⟩) 20 20, .int .u32 s3] (by rfl) rfl rfl (by (try simp only [List.map_toArray, List.map_cons, List.map_nil]); first | done | rfl | (simp only [List.length_drop, List.length_take]; rfl)) ?_
    with_reducible refine (put4C gd 12 20 20 _ _ _ _ (HRd3.out) (by simp only [put4_len, List.length_replicate]; decide) (by decide)).mono ?_
    rintro e v4 ⟨rfl, k1, k2⟩
    refine ⟨_, rfl, ?_⟩
    have HR4 := Aside0.mk k1
    have P4 : Aside0 (Only gd (World.drew v3) v4) := ⟨k2⟩
    refine hK.out _ _ (k2.cell (p := ⟨g, 3, none⟩) HGE.out hHeld) (fun hHeld => ?_)
    clear hK K
    refine norm_ (a' := ?_) ?_ ?_
    rotate_left
    · show Act.put _ (some 69) _ = _
      simp only [Act.put, List.setIfInBounds_toArray, List.set_cons_zero, List.set_cons_succ, i64_w, i32_w]
      rfl
    refine done_ (by kernel_rfl) ?_
    have D4 : Aside0 (Dig v4 g (H8.l ⟨s0, s1, s2, s3, s4, s5, s6, s7⟩) xs3 ((0 : Nat) : Int) ((bs ++ padL n).length : Int)) := ⟨⟨(P4.out.block g (blk_lt' D3.out.blk) HGE.out).trans D3.out.blk, D3.out.h8, D3.out.x64⟩⟩
    clear hHeld k1 k2 sl3
    go_upto_region 19 with fail
    have sl4 : ∀ W : World, (Instr.sliceAt 22 (.pointer (some ⟨gd, 0, none⟩)) (some (.int .i64 16)) none none).run Tryd.prog W = .ok (.slice (some ⟨gd, 16, none⟩) 16 16) W := fun W => slice32 gd 16 (by decide) W
    have HRd4 := Aside0.mk (show (World.drew v4).heap[gd]? = _ from HR4.out)
    have S4 : Aside0 (v4.drew.cell? ⟨g, 4, none⟩ = some (.int .u32 s4)) := ⟨D4.out.hcell 4 (by decide)⟩
    refine start_ (n := 7) (S := fun w' => w'.cell? ⟨g, 4, none⟩ = some (.int .u32 s4)) (ds := []) #[false, false, false, false, false, false, false] (by kernel_rfl) rfl rfl S4.out (fun hHeld => ?_)
    refine pure_ (i := 0) (N := some 70) (v := ?_) (a' := ?_) #[true, false, false, false, false, false, false] rfl rfl (by kernel_rfl) (fun _ _ _ h => h) (Or.inl ⟨by rfl, ?_⟩) ?_ ?_
    rotate_left
    · intro w'
      go_simp
      with_reducible rfl
    rotate_left
    · simp only [Act.put, List.setIfInBounds_toArray, List.set_cons_zero, List.set_cons_succ, i64_w, i32_w]
      rfl
    refine pure_ (i := 1) (N := some 71) (v := ?_) (a' := ?_) #[true, true, false, false, false, false, false] rfl rfl (by kernel_rfl) (fun _ _ _ h => h) (Or.inl ⟨by rfl, ?_⟩) ?_ ?_
    rotate_left
    · intro w'
      go_simp
      with_reducible rfl
    rotate_left
    · simp only [Act.put, List.setIfInBounds_toArray, List.set_cons_zero, List.set_cons_succ, i64_w, i32_w]
      rfl
    refine pure_ (i := 2) (N := some 72) (v := ?_) (a' := ?_) #[true, true, true, false, false, false, false] rfl rfl (by kernel_rfl) (fun _ _ _ h => h) (Or.inl ⟨by rfl, ?_⟩) ?_ ?_
    rotate_left
    · intro w'
      go_simp
      with_reducible rfl
    rotate_left
    · simp only [Act.put, List.setIfInBounds_toArray, List.set_cons_zero, List.set_cons_succ, i64_w, i32_w]
      rfl
    refine pure_ (i := 3) (N := some 73) (v := ?_) (a' := ?_) #[true, true, true, true, false, false, false] rfl rfl (by kernel_rfl) (fun _ _ _ h => h) (Or.inl ⟨by rfl, ?_⟩) ?_ ?_
    rotate_left
    · intro w'
      go_simp
      with_reducible rfl
    rotate_left
    · simp only [Act.put, List.setIfInBounds_toArray, List.set_cons_zero, List.set_cons_succ, i64_w, i32_w]
      rfl
    refine pure_ (i := 4) (N := some 74) (v := ?_) (a' := ?_) #[true, true, true, true, true, false, false] rfl rfl (by kernel_rfl) (fun _ _ _ h => h) (Or.inl ⟨by rfl, ?_⟩) ?_ ?_
    rotate_left
    · intro w'
      go_simp
      with_reducible rfl
    rotate_left
    · simp only [Act.put, List.setIfInBounds_toArray, List.set_cons_zero, List.set_cons_succ, i64_w, i32_w]
      rfl
    refine take_ (i := 5) (N := some 75) (v := ?_) (a' := ?_) #[true, true, true, true, true, true, false] rfl rfl (by kernel_rfl) (fun _ _ _ h => h) (Or.inl ⟨by rfl, ?_⟩) hHeld ?_ ?_
    rotate_left
    · rintro w' s0
      go_simp
      with_reducible rfl
    rotate_left
    · simp only [Act.put, List.setIfInBounds_toArray, List.set_cons_zero, List.set_cons_succ, i64_w, i32_w]
      rfl
    refine one_ (i := 6) (N := some 76) #[true, true, true, true, true, true, true] rfl rfl (by kernel_rfl) (by decide) (fun K hK => ?_)
    refine goes_ Tryd.func112 (by kernel_rfl) rfl #[.slice (some ⟨gd, 16, none⟩) 16 16, .int .u32 s4] (by rfl) rfl rfl (by (try simp only [List.map_toArray, List.map_cons, List.map_nil]); first | done | rfl | (simp only [List.length_drop, List.length_take]; rfl)) ?_
    with_reducible refine (put4C gd 16 16 16 _ _ _ _ (HRd4.out) (by simp only [put4_len, List.length_replicate]; decide) (by decide)).mono ?_
    rintro e v5 ⟨rfl, k1, k2⟩
    refine ⟨_, rfl, ?_⟩
    have HR5 := Aside0.mk k1
    have P5 : Aside0 (Only gd (World.drew v4) v5) := ⟨k2⟩
    refine hK.out _ _ (k2.cell (p := ⟨g, 4, none⟩) HGE.out hHeld) (fun hHeld => ?_)
    clear hK K
    refine norm_ (a' := ?_) ?_ ?_
    rotate_left
    · show Act.put _ (some 76) _ = _
      simp only [Act.put, List.setIfInBounds_toArray, List.set_cons_zero, List.set_cons_succ, i64_w, i32_w]
      rfl
    refine done_ (by kernel_rfl) ?_
    have D5 : Aside0 (Dig v5 g (H8.l ⟨s0, s1, s2, s3, s4, s5, s6, s7⟩) xs3 ((0 : Nat) : Int) ((bs ++ padL n).length : Int)) := ⟨⟨(P5.out.block g (blk_lt' D4.out.blk) HGE.out).trans D4.out.blk, D4.out.h8, D4.out.x64⟩⟩
    clear hHeld k1 k2 sl4
    go_upto_region 20 with fail
    have sl5 : ∀ W : World, (Instr.sliceAt 22 (.pointer (some ⟨gd, 0, none⟩)) (some (.int .i64 20)) none none).run Tryd.prog W = .ok (.slice (some ⟨gd, 20, none⟩) 12 12) W := fun W => slice32 gd 20 (by decide) W
    have HRd5 := Aside0.mk (show (World.drew v5).heap[gd]? = _ from HR5.out)
    have S5 : Aside0 (v5.drew.cell? ⟨g, 5, none⟩ = some (.int .u32 s5)) := ⟨D5.out.hcell 5 (by decide)⟩
    refine start_ (n := 7) (S := fun w' => w'.cell? ⟨g, 5, none⟩ = some (.int .u32 s5)) (ds := []) #[false, false, false, false, false, false, false] (by kernel_rfl) rfl rfl S5.out (fun hHeld => ?_)
    refine pure_ (i := 0) (N := some 77) (v := ?_) (a' := ?_) #[true, false, false, false, false, false, false] rfl rfl (by kernel_rfl) (fun _ _ _ h => h) (Or.inl ⟨by rfl, ?_⟩) ?_ ?_
    rotate_left
    · intro w'
      go_simp
      with_reducible rfl
    rotate_left
    · simp only [Act.put, List.setIfInBounds_toArray, List.set_cons_zero, List.set_cons_succ, i64_w, i32_w]
      rfl
    refine pure_ (i := 1) (N := some 78) (v := ?_) (a' := ?_) #[true, true, false, false, false, false, false] rfl rfl (by kernel_rfl) (fun _ _ _ h => h) (Or.inl ⟨by rfl, ?_⟩) ?_ ?_
    rotate_left
    · intro w'
      go_simp
      with_reducible rfl
    rotate_left
    · simp only [Act.put, List.setIfInBounds_toArray, List.set_cons_zero, List.set_cons_succ, i64_w, i32_w]
      rfl
    refine pure_ (i := 2) (N := some 79) (v := ?_) (a' := ?_) #[true, true, true, false, false, false, false] rfl rfl (by kernel_rfl) (fun _ _ _ h => h) (Or.inl ⟨by rfl, ?_⟩) ?_ ?_
    rotate_left
    · intro w'
      go_simp
      with_reducible rfl
    rotate_left
    · simp only [Act.put, List.setIfInBounds_toArray, List.set_cons_zero, List.set_cons_succ, i64_w, i32_w]
      rfl
    refine pure_ (i := 3) (N := some 80) (v := ?_) (a' := ?_) #[true, true, true, true, false, false, false] rfl rfl (by kernel_rfl) (fun _ _ _ h => h) (Or.inl ⟨by rfl, ?_⟩) ?_ ?_
    rotate_left
    · intro w'
      go_simp
      with_reducible rfl
    rotate_left
    · simp only [Act.put, List.setIfInBounds_toArray, List.set_cons_zero, List.set_cons_succ, i64_w, i32_w]
      rfl
    refine pure_ (i := 4) (N := some 81) (v := ?_) (a' := ?_) #[true, true, true, true, true, false, false] rfl rfl (by kernel_rfl) (fun _ _ _ h => h) (Or.inl ⟨by rfl, ?_⟩) ?_ ?_
    rotate_left
    · intro w'
      go_simp
      with_reducible rfl
    rotate_left
    · simp only [Act.put, List.setIfInBounds_toArray, List.set_cons_zero, List.set_cons_succ, i64_w, i32_w]
      rfl
    refine take_ (i := 5) (N := some 82) (v := ?_) (a' := ?_) #[true, true, true, true, true, true, false] rfl rfl (by kernel_rfl) (fun _ _ _ h => h) (Or.inl ⟨by rfl, ?_⟩) hHeld ?_ ?_
    rotate_left
    · rintro w' s0
      go_simp
      with_reducible rfl
    rotate_left
    · simp only [Act.put, List.setIfInBounds_toArray, List.set_cons_zero, List.set_cons_succ, i64_w, i32_w]
      rfl
    refine one_ (i := 6) (N := some 83) #[true, true, true, true, true, true, true] rfl rfl (by kernel_rfl) (by decide) (fun K hK => ?_)
    refine goes_ Tryd.func112 (by kernel_rfl) rfl #[.slice (some ⟨gd, 20, none⟩) 12 12, .int .u32 s5] (by rfl) rfl rfl (by (try simp only [List.map_toArray, List.map_cons, List.map_nil]); first | done | rfl | (simp only [List.length_drop, List.length_take]; rfl)) ?_
    with_reducible refine (put4C gd 20 12 12 _ _ _ _ (HRd5.out) (by simp only [put4_len, List.length_replicate]; decide) (by decide)).mono ?_
    rintro e v6 ⟨rfl, k1, k2⟩
    refine ⟨_, rfl, ?_⟩
    have HR6 := Aside0.mk k1
    have P6 : Aside0 (Only gd (World.drew v5) v6) := ⟨k2⟩
    refine hK.out _ _ (k2.cell (p := ⟨g, 5, none⟩) HGE.out hHeld) (fun hHeld => ?_)
    clear hK K
    refine norm_ (a' := ?_) ?_ ?_
    rotate_left
    · show Act.put _ (some 83) _ = _
      simp only [Act.put, List.setIfInBounds_toArray, List.set_cons_zero, List.set_cons_succ, i64_w, i32_w]
      rfl
    refine done_ (by kernel_rfl) ?_
    have D6 : Aside0 (Dig v6 g (H8.l ⟨s0, s1, s2, s3, s4, s5, s6, s7⟩) xs3 ((0 : Nat) : Int) ((bs ++ padL n).length : Int)) := ⟨⟨(P6.out.block g (blk_lt' D5.out.blk) HGE.out).trans D5.out.blk, D5.out.h8, D5.out.x64⟩⟩
    clear hHeld k1 k2 sl5
    go_upto_region 21 with fail
    have sl6 : ∀ W : World, (Instr.sliceAt 22 (.pointer (some ⟨gd, 0, none⟩)) (some (.int .i64 24)) none none).run Tryd.prog W = .ok (.slice (some ⟨gd, 24, none⟩) 8 8) W := fun W => slice32 gd 24 (by decide) W
    have HRd6 := Aside0.mk (show (World.drew v6).heap[gd]? = _ from HR6.out)
    have S6 : Aside0 (v6.drew.cell? ⟨g, 6, none⟩ = some (.int .u32 s6)) := ⟨D6.out.hcell 6 (by decide)⟩
    refine start_ (n := 7) (S := fun w' => w'.cell? ⟨g, 6, none⟩ = some (.int .u32 s6)) (ds := []) #[false, false, false, false, false, false, false] (by kernel_rfl) rfl rfl S6.out (fun hHeld => ?_)
    refine pure_ (i := 0) (N := some 84) (v := ?_) (a' := ?_) #[true, false, false, false, false, false, false] rfl rfl (by kernel_rfl) (fun _ _ _ h => h) (Or.inl ⟨by rfl, ?_⟩) ?_ ?_
    rotate_left
    · intro w'
      go_simp
      with_reducible rfl
    rotate_left
    · simp only [Act.put, List.setIfInBounds_toArray, List.set_cons_zero, List.set_cons_succ, i64_w, i32_w]
      rfl
    refine pure_ (i := 1) (N := some 85) (v := ?_) (a' := ?_) #[true, true, false, false, false, false, false] rfl rfl (by kernel_rfl) (fun _ _ _ h => h) (Or.inl ⟨by rfl, ?_⟩) ?_ ?_
    rotate_left
    · intro w'
      go_simp
      with_reducible rfl
    rotate_left
    · simp only [Act.put, List.setIfInBounds_toArray, List.set_cons_zero, List.set_cons_succ, i64_w, i32_w]
      rfl
    refine pure_ (i := 2) (N := some 86) (v := ?_) (a' := ?_) #[true, true, true, false, false, false, false] rfl rfl (by kernel_rfl) (fun _ _ _ h => h) (Or.inl ⟨by rfl, ?_⟩) ?_ ?_
    rotate_left
    · intro w'
      go_simp
      with_reducible rfl
    rotate_left
    · simp only [Act.put, List.setIfInBounds_toArray, List.set_cons_zero, List.set_cons_succ, i64_w, i32_w]
      rfl
    refine pure_ (i := 3) (N := some 87) (v := ?_) (a' := ?_) #[true, true, true, true, false, false, false] rfl rfl (by kernel_rfl) (fun _ _ _ h => h) (Or.inl ⟨by rfl, ?_⟩) ?_ ?_
    rotate_left
    · intro w'
      go_simp
      with_reducible rfl
    rotate_left
    · simp only [Act.put, List.setIfInBounds_toArray, List.set_cons_zero, List.set_cons_succ, i64_w, i32_w]
      rfl
    refine pure_ (i := 4) (N := some 88) (v := ?_) (a' := ?_) #[true, true, true, true, true, false, false] rfl rfl (by kernel_rfl) (fun _ _ _ h => h) (Or.inl ⟨by rfl, ?_⟩) ?_ ?_
    rotate_left
    · intro w'
      go_simp
      with_reducible rfl
    rotate_left
    · simp only [Act.put, List.setIfInBounds_toArray, List.set_cons_zero, List.set_cons_succ, i64_w, i32_w]
      rfl
    refine take_ (i := 5) (N := some 89) (v := ?_) (a' := ?_) #[true, true, true, true, true, true, false] rfl rfl (by kernel_rfl) (fun _ _ _ h => h) (Or.inl ⟨by rfl, ?_⟩) hHeld ?_ ?_
    rotate_left
    · rintro w' s0
      go_simp
      with_reducible rfl
    rotate_left
    · simp only [Act.put, List.setIfInBounds_toArray, List.set_cons_zero, List.set_cons_succ, i64_w, i32_w]
      rfl
    refine one_ (i := 6) (N := some 90) #[true, true, true, true, true, true, true] rfl rfl (by kernel_rfl) (by decide) (fun K hK => ?_)
    refine goes_ Tryd.func112 (by kernel_rfl) rfl #[.slice (some ⟨gd, 24, none⟩) 8 8, .int .u32 s6] (by rfl) rfl rfl (by (try simp only [List.map_toArray, List.map_cons, List.map_nil]); first | done | rfl | (simp only [List.length_drop, List.length_take]; rfl)) ?_
    with_reducible refine (put4C gd 24 8 8 _ _ _ _ (HRd6.out) (by simp only [put4_len, List.length_replicate]; decide) (by decide)).mono ?_
    rintro e v7 ⟨rfl, k1, k2⟩
    refine ⟨_, rfl, ?_⟩
    have HR7 := Aside0.mk k1
    have P7 : Aside0 (Only gd (World.drew v6) v7) := ⟨k2⟩
    refine hK.out _ _ (k2.cell (p := ⟨g, 6, none⟩) HGE.out hHeld) (fun hHeld => ?_)
    clear hK K
    refine norm_ (a' := ?_) ?_ ?_
    rotate_left
    · show Act.put _ (some 90) _ = _
      simp only [Act.put, List.setIfInBounds_toArray, List.set_cons_zero, List.set_cons_succ, i64_w, i32_w]
      rfl
    refine done_ (by kernel_rfl) ?_
    have D7 : Aside0 (Dig v7 g (H8.l ⟨s0, s1, s2, s3, s4, s5, s6, s7⟩) xs3 ((0 : Nat) : Int) ((bs ++ padL n).length : Int)) := ⟨⟨(P7.out.block g (blk_lt' D6.out.blk) HGE.out).trans D6.out.blk, D6.out.h8, D6.out.x64⟩⟩
    clear hHeld k1 k2 sl6
    have zf := D7.out.flagc
    go_upto_region 23 with fail
    have sl7 : ∀ W : World, (Instr.sliceAt 22 (.pointer (some ⟨gd, 0, none⟩)) (some (.int .i64 28)) none none).run Tryd.prog W = .ok (.slice (some ⟨gd, 28, none⟩) 4 4) W := fun W => slice32 gd 28 (by decide) W
    have HRd7 := Aside0.mk (show (World.drew v7).heap[gd]? = _ from HR7.out)
    have S7 : Aside0 (v7.drew.cell? ⟨g, 7, none⟩ = some (.int .u32 s7)) := ⟨D7.out.hcell 7 (by decide)⟩
    refine start_ (n := 7) (S := fun w' => w'.cell? ⟨g, 7, none⟩ = some (.int .u32 s7)) (ds := []) #[false, false, false, false, false, false, false] (by kernel_rfl) rfl rfl S7.out (fun hHeld => ?_)
    refine pure_ (i := 0) (N := some 96) (v := ?_) (a' := ?_) #[true, false, false, false, false, false, false] rfl rfl (by kernel_rfl) (fun _ _ _ h => h) (Or.inl ⟨by rfl, ?_⟩) ?_ ?_
    rotate_left
    · intro w'
      go_simp
      with_reducible rfl
    rotate_left
    · simp only [Act.put, List.setIfInBounds_toArray, List.set_cons_zero, List.set_cons_succ, i64_w, i32_w]
      rfl
    refine pure_ (i := 1) (N := some 97) (v := ?_) (a' := ?_) #[true, true, false, false, false, false, false] rfl rfl (by kernel_rfl) (fun _ _ _ h => h) (Or.inl ⟨by rfl, ?_⟩) ?_ ?_
    rotate_left
    · intro w'
      go_simp
      with_reducible rfl
    rotate_left
    · simp only [Act.put, List.setIfInBounds_toArray, List.set_cons_zero, List.set_cons_succ, i64_w, i32_w]
      rfl
    refine pure_ (i := 2) (N := some 98) (v := ?_) (a' := ?_) #[true, true, true, false, false, false, false] rfl rfl (by kernel_rfl) (fun _ _ _ h => h) (Or.inl ⟨by rfl, ?_⟩) ?_ ?_
    rotate_left
    · intro w'
      go_simp
      with_reducible rfl
    rotate_left
    · simp only [Act.put, List.setIfInBounds_toArray, List.set_cons_zero, List.set_cons_succ, i64_w, i32_w]
      rfl
    refine pure_ (i := 3) (N := some 99) (v := ?_) (a' := ?_) #[true, true, true, true, false, false, false] rfl rfl (by kernel_rfl) (fun _ _ _ h => h) (Or.inl ⟨by rfl, ?_⟩) ?_ ?_
    rotate_left
    · intro w'
      go_simp
      with_reducible rfl
    rotate_left
    · simp only [Act.put, List.setIfInBounds_toArray, List.set_cons_zero, List.set_cons_succ, i64_w, i32_w]
      rfl
    refine pure_ (i := 4) (N := some 100) (v := ?_) (a' := ?_) #[true, true, true, true, true, false, false] rfl rfl (by kernel_rfl) (fun _ _ _ h => h) (Or.inl ⟨by rfl, ?_⟩) ?_ ?_
    rotate_left
    · intro w'
      go_simp
      with_reducible rfl
    rotate_left
    · simp only [Act.put, List.setIfInBounds_toArray, List.set_cons_zero, List.set_cons_succ, i64_w, i32_w]
      rfl
    refine take_ (i := 5) (N := some 101) (v := ?_) (a' := ?_) #[true, true, true, true, true, true, false] rfl rfl (by kernel_rfl) (fun _ _ _ h => h) (Or.inl ⟨by rfl, ?_⟩) hHeld ?_ ?_
    rotate_left
    · rintro w' s0
      go_simp
      with_reducible rfl
    rotate_left
    · simp only [Act.put, List.setIfInBounds_toArray, List.set_cons_zero, List.set_cons_succ, i64_w, i32_w]
      rfl
    refine one_ (i := 6) (N := some 102) #[true, true, true, true, true, true, true] rfl rfl (by kernel_rfl) (by decide) (fun K hK => ?_)
    refine goes_ Tryd.func112 (by kernel_rfl) rfl #[.slice (some ⟨gd, 28, none⟩) 4 4, .int .u32 s7] (by rfl) rfl rfl (by (try simp only [List.map_toArray, List.map_cons, List.map_nil]); first | done | rfl | (simp only [List.length_drop, List.length_take]; rfl)) ?_
    with_reducible refine (put4C gd 28 4 4 _ _ _ _ (HRd7.out) (by simp only [put4_len, List.length_replicate]; decide) (by decide)).mono ?_
    rintro e v8 ⟨rfl, k1, k2⟩
    refine ⟨_, rfl, ?_⟩
    have HR8 := Aside0.mk k1
    have P8 : Aside0 (Only gd (World.drew v7) v8) := ⟨k2⟩
    refine hK.out _ _ (k2.cell (p := ⟨g, 7, none⟩) HGE.out hHeld) (fun hHeld => ?_)
    clear hK K
    refine norm_ (a' := ?_) ?_ ?_
    rotate_left
    · show Act.put _ (some 102) _ = _
      simp only [Act.put, List.setIfInBounds_toArray, List.set_cons_zero, List.set_cons_succ, i64_w, i32_w]
      rfl
    refine done_ (by kernel_rfl) ?_
    have D8 : Aside0 (Dig v8 g (H8.l ⟨s0, s1, s2, s3, s4, s5, s6, s7⟩) xs3 ((0 : Nat) : Int) ((bs ++ padL n).length : Int)) := ⟨⟨(P8.out.block g (blk_lt' D7.out.blk) HGE.out).trans D7.out.blk, D7.out.h8, D7.out.x64⟩⟩
    clear hHeld k1 k2 sl7
    clear zf
    have c_1 := only_other (Only.of_below (g := g) HB1.out) HO2.out (Nat.le_succ _)
    have c_2 := c_1.trans HO3.out
    have c1 := c_2.step HB4.out
    have y_1 := (HO2.out.block _ (blk_lt' HRZ.out) (by omega)).trans HRZ.out
    have y_2 := (HO3.out.block _ (blk_lt' y_1) (by have := HGL.out; omega)).trans y_1
    have hgw : w.heap.size ≤ gd := by have := c_2.size; have := HGD.out; omega
    have hgz : w.heap.size ≠ gd := by have := blk_lt' y_2; have := HGD.out; omega
    have y1 := (HB4.out.block _ (blk_lt' y_2)).trans y_2
    have c2 := only_other c1 (undrew P1.out) hgw
    have y2 := ((undrew P1.out).block _ (blk_lt' y1) hgz).trans y1
    have c3 := only_other c2 (undrew P2.out) hgw
    have y3 := ((undrew P2.out).block _ (blk_lt' y2) hgz).trans y2
    have c4 := only_other c3 (undrew P3.out) hgw
    have y4 := ((undrew P3.out).block _ (blk_lt' y3) hgz).trans y3
    have c5 := only_other c4 (undrew P4.out) hgw
    have y5 := ((undrew P4.out).block _ (blk_lt' y4) hgz).trans y4
    have c6 := only_other c5 (undrew P5.out) hgw
    have y6 := ((undrew P5.out).block _ (blk_lt' y5) hgz).trans y5
    have c7 := only_other c6 (undrew P6.out) hgw
    have y7 := ((undrew P6.out).block _ (blk_lt' y6) hgz).trans y6
    have c8 := only_other c7 (undrew P7.out) hgw
    have y8 := ((undrew P7.out).block _ (blk_lt' y7) hgz).trans y7
    have c9 := only_other c8 (undrew P8.out) hgw
    have y9 := ((undrew P8.out).block _ (blk_lt' y8) hgz).trans y8
    have HC9 := Aside0.mk c9
    have HY9 := Aside0.mk y9
    have HALL := Aside0.mk (HSE.out)
    clear c_1 c_2 c1 c2 c3 c4 c5 c6 c7 c8 c9 y_1 y_2 y1 y2 y3 y4 y5 y6 y7 y8 y9
    go_upto_region 24 with fail
    go_wp2_with (first
      | ((with_reducible refine at_dst (N := 103) rfl ?_); refine wpList_load_row rfl 22 (.tmp 7) rfl gd rfl 22 _ (0, 0) _ HR8.out Tryd.underlying22 rfl (by simp only [byteC, List.size_toArray, List.length_map, put4_len, List.length_replicate]; kernel_rfl) ?_)
      | (refine wpList_store_row rfl 22 (.tmp 2) (.tmp 103) rfl w.heap.size _ rfl rfl 22 _ HY9.out (by simp only [byteC, List.size_toArray, List.length_map, put4_len, List.length_replicate]; kernel_rfl) (by simp only [byteC, List.size_toArray, List.length_map, put4_len, List.length_replicate]) (by simp [byteC, Value.oneCell']) ?_))
    refine bodyPost_ret_by (results_cell_row rfl _ _ w.heap.size 22 _ (0, 0) _ (by rfl) (setRow_heap _ _ _ _ _ _ HY9.out) Tryd.underlying22 rfl (by simp only [byteC, List.size_toArray, List.length_map, put4_len, List.length_replicate]; kernel_rfl)) rfl ⟨?_, ?_, ?_⟩
    · rw [HALL.out]; rfl
    · refine ⟨HC9.out.os, HC9.out.tape, HC9.out.output, by rw [size_setRow]; exact HC9.out.size, fun k hk hkg => ?_⟩
      refine Eq.trans ?_ (HC9.out.block k hk hkg)
      exact setRow_ne v8 w.heap.size _ k (by omega)
    · exact (World.cell?_of_block (w := v8) (by exact setRow_ne v8 w.heap.size _ g (by have := HGL.out; omega))).trans D8.out.flagc
end Go.Proofs.YtigpdgfhngknhaaDoor.Sha
/- sha256's Sum: the record's walk, the copy of the digest, the sum. -/
namespace Go.Proofs.YtigpdgfhngknhaaDoor.Sha
open Go.RowKit Go.Proofs.YtigpdgfhngknhaaDoorW.PrintWords Go.Proofs.YtigpdgfhngknhaaDoorW.PrintLast Go.Proofs.YtigpdgfhngknhaaDoorW.PrintMore Go.Proofs.YtigpdgfhngknhaaDoor.QFnTapRoot
set_option linter.unusedVariables false
set_option linter.unusedSimpArgs false
set_option maxHeartbeats 1000000 in
theorem getI (w : World) : (callFunc 109 #[]).run Tryd.prog w = .ok (.value (.int .u8 0)) w := by
  rw [run_callFunc_extern (e := fun _ => pure (.int .u8 0)) Tryd.func109 (by kernel_rfl) (by kernel_rfl) (by rfl) (by rfl)]
  rfl
set_option maxHeartbeats 1000000 in
theorem setI (w : World) (v : Value) : (callFunc 110 #[v]).run Tryd.prog w = .ok (.value (.tuple #[])) w := by
  rw [run_callFunc_extern (e := fun _ => pure (.tuple #[])) Tryd.func110 (by kernel_rfl) (by kernel_rfl) (by rfl) (by rfl)]
  rfl
set_option maxHeartbeats 1000000 in
theorem recordC (w : World) : Calls Tryd.prog 106 #[] w fun e w' => e = .returned (.tuple #[]) ∧ w'.heap = w.heap ∧ w'.os = w.os ∧ w'.tape = w.tape ∧ w'.output = w.output := by
  have h1 := getI
  have h2 := setI
  go_enter Tryd.func106, Tryd.ntmps106
  go_wp2_with fail
  go_end0
  exact ⟨rfl, rfl, rfl, rfl, rfl⟩
theorem dig_size (hs xs : List Int) (nx len : Int) (h8 : hs.length = 8) (h64 : xs.length = 64) : (wordC hs ++ (byteC xs ++ [Value.int .i64 nx, Value.int .u64 len, Value.bool false])).toArray.size = 75 := by
  simp only [List.size_toArray, List.length_append, wordC_len, byteC_len, h8, h64, List.length_cons, List.length_nil]
theorem dig_one (hs xs : List Int) (nx len : Int) : ((wordC hs ++ (byteC xs ++ [Value.int .i64 nx, Value.int .u64 len, Value.bool false])).toArray).all (·.oneCell') = true := by
  simp [wordC, byteC, Value.oneCell']
theorem dig_info (n : Nat) (h : n = 75) : (Tryd.prog.info? 121).map (·.size) = some n := by subst h; kernel_rfl
theorem sumD_len (s : H8) : (sumD s).length = 32 := by unfold sumD; simp only [put4_len, List.length_replicate]
theorem shaL_len (kl bs : List Int) : (shaL kl bs).length = 32 := sumD_len _
theorem row32_info (l : List Int) (h : l.length = 32) : (Tryd.prog.info? 22).map (·.size) = some (byteC l).toArray.size := by rw [List.size_toArray, byteC_len, h]; kernel_rfl
theorem byteC_one (l : List Int) : ((byteC l).toArray).all (·.oneCell') = true := by simp [byteC, Value.oneCell']
/-- An append, as an operation. -/
theorem run_append_op {P : Program} {w w' : World} {ρ : Operand → Value} {o : Oper} (s x : Operand) (T : TypeId) (ho : o.op = .call { callee := .builtin .append, args := #[s, x], argTypes := #[T, T] }) (A B v : Value) (hs : ρ s = A) (hx : ρ x = B) (hr : (Builtin.append_ #[T, T] o.type #[A, B]).run P w = .ok v w') :
    (execOp ρ o).run P w = .ok (.value v) w' := by
  simp [execOp, ho, resolve, invoke, builtin, hs, hx, hr, Result.andThen]
set_option maxRecDepth 100000 in
set_option maxHeartbeats 1000000 in
/-- The sum, whatever it is appended to. -/
theorem sumG (g : Nat) (A : Value) (kl bs : List Int) (w : World) (R : Value → World → Prop) (hd : DigS w g kl bs (bs.length : Int)) (hn : bs.length ≤ 100000000000) (hk : KRow w kl) (hg : 6 < w.heap.size)
    (hR : ∀ w3 gd, w3.heap[gd]? = some (.cells (byteC (shaL kl bs)).toArray 22 (0, 0)) → w.heap.size ≤ gd → Below w.heap.size w w3 → ∃ v w4, (Builtin.append_ #[26, 26] 26 #[A, .slice (some ⟨gd, 0, none⟩) 32 32]).run Tryd.prog w3 = .ok v w4 ∧ R v w4) :
    Calls Tryd.prog 104 #[.pointer (some ⟨g, 0, none⟩), A] w fun e w' => ∃ v, e = .returned v ∧ R v w' := by
  obtain ⟨xs, hd1, hx⟩ := hd.st
  have HD := Aside0.mk hd
  have HN := Aside0.mk hn
  have HK := Aside0.mk hk
  have HG := Aside0.mk hg
  have HX := Aside0.mk hx
  have HD1 := Aside0.mk hd1
  have HR := Aside0.mk hR
  have HCK : ∀ g2 w2, DigS w2 g2 kl bs (bs.length : Int) → KRow w2 kl → g2 ≠ 6 → g2 < w2.heap.size → Calls Tryd.prog 107 #[.pointer (some ⟨g2, 0, none⟩)] w2 fun e w' => e = .returned (.agg (byteC (shaL kl bs)).toArray) ∧ Only g2 w2 w' ∧ w'.cell? ⟨g2, 74, none⟩ = some (.bool false) := fun g2 w2 h1 h2 h3 h4 => checkC g2 kl bs w2 h1 hn h2 h3 h4
  have HL32 := shaL_len kl bs
  obtain ⟨hl, hhl⟩ : ∃ hl, shaL kl bs = hl := ⟨_, rfl⟩
  rw [hhl] at HR HCK HL32
  have HCK := Aside0.mk HCK
  have HL32 := Aside0.mk HL32
  clear hd hn hk hg hx hd1 hR hhl
  go_enter Tryd.func104, Tryd.ntmps104
  go_upto_region 1 with fail
  go_upto_region 2 with (go_at_call 106; (with_reducible refine (recordC _).mono ?_); rintro e w1 ⟨rfl, k1, k2, k3, k4⟩; have HB1 : Aside0 (Below w.heap.size w w1) := ⟨⟨k2, k3, k4, Nat.le_of_eq (by rw [k1]), fun k hk => by rw [k1]⟩⟩; have HS1 : Aside0 (w1.heap = w.heap) := ⟨k1⟩; clear k1 k2 k3 k4)
  have HD2 := Aside0.mk (HD1.out.below HB1.out)
  go_upto_region 3 with (first
    | ((with_reducible refine at_dst (N := 10) rfl ?_); refine wpList_load_row rfl 121 (.tmp 9) rfl g rfl 121 _ (0, 0) _ HD2.out.blk Tryd.underlying121 rfl (dig_info _ (dig_size _ _ _ _ HD2.out.h8 HD2.out.x64)) ?_)
    | (refine wpList_store_row rfl 121 (.tmp 5) (.tmp 10) rfl w1.heap.size _ rfl rfl 121 _ (heap_alloc_new _ _) (dig_info _ (dig_size _ _ _ _ HD2.out.h8 HD2.out.x64)) (Eq.trans (by kernel_rfl) (dig_size _ _ _ _ HD2.out.h8 HD2.out.x64).symm) (dig_one _ _ _ _) ?_))
  generalize hw2 : World.setRow _ _ _ = w2
  have HB2 : Aside0 (Below w.heap.size w w2) := ⟨by
    rw [← hw2]
    refine HB1.out.trans ⟨rfl, rfl, rfl, by rw [size_setRow]; simp, fun k hk => ?_⟩
    rw [setRow_ne _ _ _ _ (by rw [HS1.out]; omega), Below.heap_alloc w1 _ k (by rw [HS1.out]; exact hk)]⟩
  obtain ⟨gd, hgd⟩ : ∃ x, w1.heap.size = x := ⟨_, rfl⟩
  have HGD : Aside0 (w.heap.size = gd) := ⟨by rw [← hgd, HS1.out]⟩
  have HD3 : Aside0 (DigS w2 gd kl bs (bs.length : Int)) := ⟨⟨xs, ⟨by rw [← hw2, ← hgd]; exact setRow_heap _ _ _ _ _ _ (heap_alloc_new _ _), HD2.out.h8, HD2.out.x64⟩, HX.out⟩⟩
  rw [hgd]
  clear hw2 hgd
  have HLT : Aside0 (gd < w2.heap.size) := ⟨by obtain ⟨x, h, _⟩ := HD3.out.st; exact blk_lt' h.blk⟩
  have HC2 : Aside0 (Calls Tryd.prog 107 #[.pointer (some ⟨gd, 0, none⟩)] w2 fun e w' => e = .returned (.agg (byteC hl).toArray) ∧ Only gd w2 w' ∧ w'.cell? ⟨gd, 74, none⟩ = some (.bool false)) := ⟨HCK.out gd w2 HD3.out (HK.out.below HB2.out) (by have := HG.out; have := HGD.out; omega) HLT.out⟩
  go_upto_region 4 with (first
    | (go_at_call 107; (with_reducible refine HC2.out.mono ?_); rintro e w3 ⟨rfl, k1, k2⟩; have HO3 := Aside0.mk k1; have HF3 := Aside0.mk k2; clear k1 k2)
    | (refine wpList_store_row rfl 22 (.tmp 6) (.tmp 11) rfl w3.heap.size (byteC hl).toArray rfl rfl 22 _ (heap_alloc_new _ _) (row32_info _ HL32.out) (Eq.trans (b := 32) (by kernel_rfl) (by rw [List.size_toArray, byteC_len]; exact HL32.out.symm)) (byteC_one _) ?_))
  generalize hw4 : World.setRow _ _ _ = w4
  have HL3 : Aside0 (gd < w3.heap.size) := ⟨Nat.lt_of_lt_of_le HLT.out HO3.out.size⟩
  have HB4 : Aside0 (Below w.heap.size w w4) := ⟨by
    rw [← hw4]
    refine (HO3.out.below HB2.out (by have := HGD.out; omega) (HB2.out.size)).trans ⟨rfl, rfl, rfl, by rw [size_setRow]; simp, fun k hk => ?_⟩
    have h3 : w.heap.size ≤ w3.heap.size := by have := HL3.out; have := HGD.out; omega
    rw [setRow_ne _ _ _ _ (by omega), Below.heap_alloc w3 _ k (by omega)]⟩
  have HH4 : Aside0 (w4.heap[w3.heap.size]? = some (.cells (byteC hl).toArray 22 (0, 0))) := ⟨by rw [← hw4]; exact setRow_heap _ _ _ _ _ _ (heap_alloc_new _ _)⟩
  have zf : w4.cell? ⟨gd, 74, none⟩ = some (.bool false) := by
    rw [← hw4]
    refine (World.cell?_of_block (w := w3) ?_).trans HF3.out
    exact (setRow_ne (w3.alloc _) w3.heap.size _ gd (by have := HL3.out; omega)).trans (Below.heap_alloc w3 _ gd HL3.out)
  obtain ⟨gh, hgh⟩ : ∃ x, w3.heap.size = x := ⟨_, rfl⟩
  rw [hgh] at HH4 ⊢
  have HGH : Aside0 (w.heap.size ≤ gh) := ⟨by have := HL3.out; have := HGD.out; omega⟩
  obtain ⟨v, w5, hr, hRR⟩ := HR.out w4 gh HH4.out HGH.out HB4.out
  have HRR := Aside0.mk hRR
  clear hw4 hgh hRR
  go_upto_region 6 with fail
  go_wp2_with ((with_reducible refine at_dst (N := 19) rfl ?_); refine wpList_run rfl v (run_append_op (.tmp 17) (.tmp 18) 26 rfl A _ v rfl rfl hr) ?_)
  go_ret
  exact ⟨v, rfl, HRR.out⟩
end Go.Proofs.YtigpdgfhngknhaaDoor.Sha
/- sha256: a hash behind an interface; the sum of bytes. -/
namespace Go.Proofs.YtigpdgfhngknhaaDoor.Sha
open Go.RowKit Go.Proofs.YtigpdgfhngknhaaDoorW.PrintWords Go.Proofs.YtigpdgfhngknhaaDoorW.PrintLast Go.Proofs.YtigpdgfhngknhaaDoorW.PrintMore Go.Proofs.YtigpdgfhngknhaaDoor.QFnTapRoot
set_option linter.unusedVariables false
set_option linter.unusedSimpArgs false
/-- A hash, as an interface value. -/
def hv (g : Nat) : Value := .iface 107 (.pointer (some ⟨g, 0, none⟩))
set_option maxRecDepth 100000 in
theorem newH (w : World) : Calls Tryd.prog 46 #[] w fun e w' => e = .returned (hv w.heap.size) ∧ Dig w' w.heap.size iv.l (List.replicate 64 0) 0 0 ∧ Below w.heap.size w w' := by
  go_enter Tryd.func46, Tryd.ntmps46
  go_wp2_with (go_at_call 57; (with_reducible refine (newC w).mono ?_); rintro e w2 ⟨rfl, h1, h2⟩; have H1 := Aside0.mk h1; have H2 := Aside0.mk h2; clear h1 h2)
  go_ret
  exact ⟨rfl, H1.out, H2.out⟩
theorem dig_new {w : World} {g : Nat} (kl : List Int) (h : Dig w g iv.l (List.replicate 64 0) 0 0) : DigS w g kl [] 0 := ⟨⟨_, h, rfl⟩⟩
set_option maxRecDepth 100000 in
theorem mWrite (a : Addr) : Meth Tryd.prog 107 (.pointer (some a)) "Write" 105 (.pointer (some a)) := fun n w => by kernel_rfl
set_option maxRecDepth 100000 in
theorem mSum (a : Addr) : Meth Tryd.prog 107 (.pointer (some a)) "Sum" 104 (.pointer (some a)) := fun n w => by kernel_rfl
set_option maxRecDepth 100000 in
theorem mReset (a : Addr) : Meth Tryd.prog 107 (.pointer (some a)) "Reset" 65 (.pointer (some a)) := fun n w => by kernel_rfl
theorem setCells_row (g : Nat) (t : TypeId) : ∀ (vs old pre post : List Value) (w : World) (o : Nat), pre.length = o → old.length = vs.length → w.heap[g]? = some (.cells (pre ++ (old ++ post)).toArray t (0, 0)) → (w.setCells g o vs).heap[g]? = some (.cells (pre ++ (vs ++ post)).toArray t (0, 0))
  | [], [], pre, post, w, o, _, _, h => h
  | [], _ :: _, _, _, _, _, _, h, _ => by simp at h
  | _ :: _, [], _, _, _, _, _, h, _ => by simp at h
  | v :: r, x :: old, pre, post, w, o, ho, hl, h => by
    subst ho
    have h1 := heap_set_same h (j := pre.length) v
    rw [List.setIfInBounds_toArray, List.set_append_right _ _ (Nat.le_refl _), Nat.sub_self, List.cons_append, List.set_cons_zero, show pre ++ v :: (old ++ post) = (pre ++ [v]) ++ (old ++ post) by simp] at h1
    have h2 := setCells_row g t r old (pre ++ [v]) post _ (pre.length + 1) (by simp) (by simpa using hl) h1
    rw [show pre ++ (v :: r ++ post) = (pre ++ [v]) ++ (r ++ post) by simp]
    exact h2
theorem only_setCells (g : Nat) : ∀ (vs : List Value) (o : Nat) (w w1 : World), Only g w w1 → Only g w (w1.setCells g o vs)
  | [], _, _, _, h => h
  | v :: r, o, w, w1, h => only_setCells g r (o + 1) w _ (h.set o v)
theorem rds_below {w w1 : World} {A : Option Addr} {n g : Nat} {q : List Int} (h : ReadsInt w .u8 A n q) (hb : Below w.heap.size w w1) (hg : w.heap.size ≤ g) : RdS w1 g A n q := fun W hW => h.below (hW.below hb hg hb.size)
theorem row_cells {w : World} {g : Nat} {l : List Int} {t : TypeId} (h : w.heap[g]? = some (.cells (byteC l).toArray t (0, 0))) : ∀ j u, (byteC l)[j]? = some u → w.cell? ((⟨g, 0, none⟩ : Addr).add j) = some u := fun j u hu => by
  rw [add_any, Nat.zero_add]
  exact cell_of h (by rw [List.getElem?_toArray]; exact hu)
theorem byteC_cell (l : List Int) : ∀ u ∈ byteC l, u.oneCell' = true := fun u hu => by
  unfold byteC at hu
  obtain ⟨x, _, rfl⟩ := List.mem_map.1 hu
  rfl
theorem i_u8 : ∃ i z, Tryd.prog.info? 5 = some i ∧ i.size = 1 ∧ i.zero = some z ∧ i.bytes = 1 ∧ z.cells.size = 1 := by
  have h : (match Tryd.prog.info? 5 with | some i => i.size == 1 && (i.bytes == 1 && (match i.zero with | some z => z.cells.size == 1 | none => false)) | none => false) = true := by kernel_rfl
  split at h
  · rename_i i hi
    simp only [Bool.and_eq_true, beq_iff_eq] at h
    obtain ⟨h1, h2, h3⟩ := h
    split at h3
    · rename_i z hz
      exact ⟨i, z, hi, h1, hz, h2, by simpa using h3⟩
    · cases h3
  · cases h
set_option maxRecDepth 100000 in
/-- The sum, appended to an empty slice over a row of 32 bytes. -/
theorem sumRoom (g gs : Nat) (t : TypeId) (old : List Value) (ho : old.length = 32) (kl bs : List Int) (w : World) (hd : DigS w g kl bs (bs.length : Int)) (hn : bs.length ≤ 100000000000) (hk : KRow w kl) (hg : 6 < w.heap.size)
    (hs : w.heap[gs]? = some (.cells old.toArray t (0, 0))) :
    Calls Tryd.prog 104 #[.pointer (some ⟨g, 0, none⟩), .slice (some ⟨gs, 0, none⟩) 0 32] w fun e w' => e = .returned (.slice (some ⟨gs, 0, none⟩) 32 32) ∧ w'.heap[gs]? = some (.cells (byteC (shaL kl bs)).toArray t (0, 0)) ∧ Only gs w w' := by
  refine (sumG g _ kl bs w (fun v w' => v = .slice (some ⟨gs, 0, none⟩) 32 32 ∧ w'.heap[gs]? = some (.cells (byteC (shaL kl bs)).toArray t (0, 0)) ∧ Only gs w w') hd hn hk hg ?_).mono fun e w' ⟨v, he, h⟩ => by rw [h.1] at he; exact ⟨he, h.2⟩
  intro w3 gd h3 hgd hb
  obtain ⟨i, z, hi, hi1, hi2, hi3, hi4⟩ := i_u8
  have hgs := (hb.block gs (blk_lt' hs)).trans hs
  have hl32 : (byteC (shaL kl bs)).length = 32 := by rw [byteC_len, shaL_len]
  have hgl := blk_lt' hs
  refine ⟨_, _, run_append_room_cells (P := Tryd.prog) w3 26 26 5 i Tryd.underlying26 hi gs 0 0 32 ⟨gd, 0, none⟩ 32 32 (byteC (shaL kl bs)) (by rw [hl32, hi1]) (row_cells h3) (byteC_cell _) (by decide) ?_ ?_, rfl, ?_, ?_⟩
  · intro j hj
    rw [hi1, Nat.zero_mul, Nat.add_zero, Nat.zero_add]
    rw [cell_of hgs (v := old[j]'(by omega)) (by rw [List.getElem?_toArray]; exact List.getElem?_eq_getElem _)]; rfl
  · intro j hj
    rw [hi1]
    exact frozen_of hgs _
  · have h := setCells_row gs t (byteC (shaL kl bs)) old [] [] w3 (0 + 0 * i.size) (by simp) (by rw [ho, hl32]) (by simpa using hgs)
    simpa using h
  · exact only_setCells gs _ _ _ _ (Only.of_below hb)
set_option maxRecDepth 100000 in
/-- The sum, appended to nothing. -/
theorem sumNil (g : Nat) (kl bs : List Int) (w : World) (hd : DigS w g kl bs (bs.length : Int)) (hn : bs.length ≤ 100000000000) (hk : KRow w kl) (hg : 6 < w.heap.size) :
    Calls Tryd.prog 104 #[.pointer (some ⟨g, 0, none⟩), .slice none 0 0] w fun e w' => ∃ v, e = .returned v ∧ w'.ownsRow w.heap.size 5 1 v 32 (byteC (shaL kl bs)) ∧ Below w.heap.size w w' := by
  refine (sumG g _ kl bs w (fun v w' => w'.ownsRow w.heap.size 5 1 v 32 (byteC (shaL kl bs)) ∧ Below w.heap.size w w') hd hn hk hg ?_)
  intro w3 gd h3 hgd hb
  obtain ⟨i, z, hi, hi1, hi2, hi3, hi4⟩ := i_u8
  have hl32 : (byteC (shaL kl bs)).length = 32 := by rw [byteC_len, shaL_len]
  obtain ⟨v', w', hrun, r1, r2, _⟩ := run_append_own (P := Tryd.prog) w3 w.heap.size 26 26 5 i z 1 1 Tryd.underlying26 hi hi2 hi1 hi3 hi4 (by decide) (.slice none 0 0) 0 [] (World.ownsRow_nil w3 _ _ 1) ⟨gd, 0, none⟩ 32 32 (byteC (shaL kl bs)) (by rw [hl32]) (row_cells h3) (byteC_cell _) (by decide) (by decide) hb.size
  refine ⟨v', w', hrun, by simpa using r1, hb.trans ⟨r2.os, r2.tape, r2.output, r2.size, fun k hk => r2.block k (Nat.lt_of_lt_of_le hk hb.size) (by simp [Value.ownBlock])⟩⟩
end Go.Proofs.YtigpdgfhngknhaaDoor.Sha
/- sha256: the sum of bytes. -/
namespace Go.Proofs.YtigpdgfhngknhaaDoor.Sha
open Go.RowKit Go.Proofs.YtigpdgfhngknhaaDoorW.PrintWords Go.Proofs.YtigpdgfhngknhaaDoorW.PrintLast Go.Proofs.YtigpdgfhngknhaaDoorW.PrintMore Go.Proofs.YtigpdgfhngknhaaDoor.QFnTapRoot
set_option linter.unusedVariables false
set_option linter.unusedSimpArgs false
theorem slice32_0 (g : Nat) (w : World) : (Instr.sliceAt 22 (.pointer (some ⟨g, 0, none⟩)) none (some (.int .i64 0)) none).run Tryd.prog w = .ok (.slice (some ⟨g, 0, none⟩) 0 32) w := by
  have ha : Tryd.prog.arrayLen 22 = 32 := by kernel_rfl
  have he : Tryd.prog.elem 22 = 5 := by kernel_rfl
  have hs : (sizeOf 5).run Tryd.prog w = .ok 1 w := by kernel_rfl
  have h := run_sliceAt_array_h (P := Tryd.prog) w 22 ⟨g, 0, none⟩ (by rw [ha, he]; exact Tryd.underlying22) .i64 0 (by omega) (by rw [ha]; omega)
  rw [ha, he, hs] at h
  rw [h]
  rfl
set_option maxRecDepth 100000 in
theorem nilM (a : Addr) (name : String) (hn : name = "Sum") (w : World) (ρ : Operand → Value) (o : Oper) (x : Operand) (ho : o.op = .nilCheck x) (hx : ρ x = .func (.method name) #[.iface 107 (.pointer (some a))] #[]) : (execOp ρ o).run Tryd.prog w = .ok (.value (.func (.method name) #[.iface 107 (.pointer (some a))] #[])) w := by
  subst hn
  unfold execOp
  rw [ho]
  show Sem.run _ (match ρ x with | .pointer none | .nilIface | .nilFunc => _ | .func (.method name) first captured => _ | x => _) w = _
  rw [hx]
  kernel_rfl
set_option maxRecDepth 100000 in
set_option maxHeartbeats 4000000 in
theorem sum256C (A : Option Addr) (c : Nat) (bs kl : List Int) (w : World) (hb : ReadsInt w .u8 A bs.length bs) (hc : bs.length ≤ c) (hn : bs.length ≤ 100000000000) (hk : KRow w kl) :
    Calls Tryd.prog 36 #[.slice A bs.length c] w fun e w' => e = .returned (.agg (byteC (shaL kl bs)).toArray) ∧ Below w.heap.size w w' := by
  have HK := Aside0.mk hk
  have HKL := Aside0.mk hk.lt
  have HB := Aside0.mk hb
  have HC := Aside0.mk hc
  have HN := Aside0.mk hn
  have HL := Aside0.mk (shaL_len kl bs)
  have HWR : Aside0 (∀ g w2, DigS w2 g kl [] 0 → RdS w2 g A bs.length bs → KRow w2 kl → g ≠ 6 → Calls Tryd.prog 105 #[.pointer (some ⟨g, 0, none⟩), .slice A bs.length c] w2 fun e w' => (∃ v, e = .returned v) ∧ DigS w' g kl bs (bs.length : Int) ∧ Only g w2 w') := ⟨fun g w2 h1 h2 h3 h4 => (writeC g kl [] bs A c w2 h1 h2 hc (by simp only [List.length_nil]; omega) h3 h4).mono fun e w' ⟨he, h5, h6⟩ => ⟨⟨_, he⟩, h5, h6⟩⟩
  have HSU : Aside0 (∀ g gs w2, DigS w2 g kl bs (bs.length : Int) → KRow w2 kl → 6 < w2.heap.size → w2.heap[gs]? = some (.cells (byteC (List.replicate 32 0)).toArray 22 (0, 0)) → Calls Tryd.prog 104 #[.pointer (some ⟨g, 0, none⟩), .slice (some ⟨gs, 0, none⟩) 0 32] w2 fun e w' => (∃ v, e = .returned v) ∧ w'.heap[gs]? = some (.cells (byteC (shaL kl bs)).toArray 22 (0, 0)) ∧ Only gs w2 w') := ⟨fun g gs w2 h1 h2 h3 h4 => (sumRoom g gs 22 _ (by rw [byteC_len, List.length_replicate]) kl bs w2 h1 hn h2 h3 h4).mono fun e w' ⟨he, h5, h6⟩ => ⟨⟨_, he⟩, h5, h6⟩⟩
  obtain ⟨n, hbn⟩ : ∃ n, bs.length = n := ⟨_, rfl⟩
  obtain ⟨hl, hhl⟩ : ∃ hl, shaL kl bs = hl := ⟨_, rfl⟩
  rw [hbn] at HB HC HN HWR HSU ⊢
  rw [hhl] at HSU HL ⊢
  clear hb hc hn hk hbn hhl
  go_enter Tryd.func36, Tryd.ntmps36
  go_upto_region 2 with fail
  obtain ⟨r, hr⟩ : ∃ r, w.heap.size = r := ⟨_, rfl⟩
  have HR := Aside0.mk hr
  rw [hr]
  clear hr
  generalize hw1 : World.alloc _ _ = w1
  have HB1 : Aside0 (Below w.heap.size w w1) := ⟨by rw [← hw1]; exact below_alloc (Below.refl _ _) _⟩
  have HR1 : Aside0 (w1.heap[r]? = some (.cells (byteC (List.replicate 32 0)).toArray 22 (0, 0))) := ⟨by rw [← hw1, ← HR.out]; exact heap_alloc_new w (.cells (byteC (List.replicate 32 0)).toArray 22)⟩
  clear hw1
  go_upto_region 3 with (go_at_call 46; (with_reducible refine (newH w1).mono ?_); rintro e w2 ⟨rfl, h1, h2⟩; have H1 := Aside0.mk h1; have HB2 := Aside0.mk h2; clear h1 h2)
  unfold hv
  obtain ⟨g, hgg⟩ : ∃ g, w1.heap.size = g := ⟨_, rfl⟩
  have HG := Aside0.mk hgg
  rw [hgg] at H1 ⊢
  clear hgg
  have HRG : Aside0 (r < g ∧ w.heap.size ≤ g ∧ 6 < g) := ⟨by have h1 := blk_lt' HR1.out; have h2 := HR.out; have h3 := HG.out; have h4 := HKL.out; omega⟩
  have HC2 := Aside0.mk (HWR.out g w2 (dig_new kl H1.out) (rds_below HB.out (HB1.out.trans ⟨HB2.out.os, HB2.out.tape, HB2.out.output, HB2.out.size, fun k hk => HB2.out.block k (Nat.lt_of_lt_of_le hk HB1.out.size)⟩) HRG.out.2.1) ((HK.out.below HB1.out).below HB2.out) (by have := HRG.out; omega))
  go_upto_region 4 with (refine invL_ (some 10) rfl rfl (.tmp 8) "Write" rfl 107 _ rfl 105 (mWrite _) Tryd.func105 rfl rfl #[.pointer (some ⟨g, 0, none⟩), .slice A n c] (by simp only [List.map_toArray, List.map_cons, List.map_nil]; rfl) ?_; (with_reducible refine HC2.out.mono ?_); rintro e w3 ⟨⟨v9, rfl⟩, k1, k2⟩; refine ⟨_, rfl, ?_⟩; have H3 := Aside0.mk k1; have HO3 := Aside0.mk k2; clear k1 k2)
  go_upto_region 5 with fail
  generalize hw4 : World.alloc _ _ = w4
  have HB4 : Aside0 (Below w3.heap.size w3 w4) := ⟨by rw [← hw4]; exact below_alloc (Below.refl _ _) _⟩
  obtain ⟨gs, hgs⟩ : ∃ g, w3.heap.size = g := ⟨_, rfl⟩
  have HGS := Aside0.mk hgs
  have HS4 : Aside0 (w4.heap[gs]? = some (.cells (byteC (List.replicate 32 0)).toArray 22 (0, 0))) := ⟨by rw [← hw4, ← hgs]; exact heap_alloc_new w3 (.cells (byteC (List.replicate 32 0)).toArray 22)⟩
  rw [hgs]
  clear hw4 hgs
  have HBa : Aside0 (Below w.heap.size w w3) := ⟨HO3.out.below (HB1.out.trans ⟨HB2.out.os, HB2.out.tape, HB2.out.output, HB2.out.size, fun k hk => HB2.out.block k (Nat.lt_of_lt_of_le hk HB1.out.size)⟩) HRG.out.2.1 (Nat.le_trans HB1.out.size HB2.out.size)⟩
  have HGG : Aside0 (g < gs) := ⟨by obtain ⟨x, h, _⟩ := H3.out.st; have := blk_lt' h.blk; have := HGS.out; omega⟩
  have HBb : Aside0 (Below w.heap.size w w4) := ⟨HBa.out.trans ⟨HB4.out.os, HB4.out.tape, HB4.out.output, HB4.out.size, fun k hk => HB4.out.block k (Nat.lt_of_lt_of_le hk HBa.out.size)⟩⟩
  have HD4 := Aside0.mk (H3.out.below HB4.out)
  have HR4 : Aside0 (w4.heap[r]? = some (.cells (byteC (List.replicate 32 0)).toArray 22 (0, 0))) := ⟨by
    have h1 := (HB2.out.block r (blk_lt' HR1.out)).trans HR1.out
    have h2 := (HO3.out.block r (blk_lt' h1) (by have := HRG.out; omega)).trans h1
    exact (HB4.out.block r (blk_lt' h2)).trans h2⟩
  have HC5 := Aside0.mk (HSU.out g gs w4.drew (HD4.out.same rfl) (show KRow w4 kl from HK.out.below HBb.out) (Nat.lt_of_lt_of_le HKL.out HBb.out.size) HS4.out)
  have hsl : ∀ W : World, (Instr.sliceAt 22 (.pointer (some ⟨gs, 0, none⟩)) none (some (.int .i64 0)) none).run Tryd.prog W = .ok (.slice (some ⟨gs, 0, none⟩) 0 32) W := fun W => slice32_0 gs W
  refine start_ (n := 6) (S := fun w' => True) (ds := []) #[false, false, false, false, false, false] (by kernel_rfl) rfl rfl trivial (fun hHeld => ?_)
  refine pure_ (i := 0) (N := some 11) (v := ?_) (a' := ?_) #[true, false, false, false, false, false] rfl rfl (by kernel_rfl) (fun _ _ _ h => h) (Or.inl ⟨by rfl, ?_⟩) ?_ ?_
  rotate_left
  · intro w'
    go_simp
    with_reducible rfl
  rotate_left
  · simp only [Act.put, List.setIfInBounds_toArray, List.set_cons_zero, List.set_cons_succ, i64_w, i32_w]
    rfl
  refine pure_ (i := 1) (N := some 12) (v := ?_) (a' := ?_) #[true, true, false, false, false, false] rfl rfl (by kernel_rfl) (fun _ _ _ h => h) (Or.inl ⟨by rfl, ?_⟩) ?_ ?_
  rotate_left
  · intro w'
    go_simp
    with_reducible rfl
  rotate_left
  · simp only [Act.put, List.setIfInBounds_toArray, List.set_cons_zero, List.set_cons_succ, i64_w, i32_w]
    rfl
  refine pure_ (i := 2) (N := some 13) (v := ?_) (a' := ?_) #[true, true, true, false, false, false] rfl rfl (by kernel_rfl) (fun _ _ _ h => h) (Or.inl ⟨by rfl, ?_⟩) ?_ ?_
  rotate_left
  · intro w'
    go_simp
    with_reducible rfl
  rotate_left
  · simp only [Act.put, List.setIfInBounds_toArray, List.set_cons_zero, List.set_cons_succ, i64_w, i32_w]
    rfl
  refine pure_ (i := 3) (N := some 14) (v := ?_) (a' := ?_) #[true, true, true, true, false, false] rfl rfl (by kernel_rfl) (fun _ _ _ h => h) (Or.inl ⟨by rfl, ?_⟩) ?_ ?_
  rotate_left
  · intro w'
    refine nilM ⟨g, 0, none⟩ "Sum" rfl _ _ _ (.tmp 13) ?_ ?_ <;> rfl
  rotate_left
  · simp only [Act.put, List.setIfInBounds_toArray, List.set_cons_zero, List.set_cons_succ, i64_w, i32_w]
    rfl
  refine pure_ (i := 4) (N := some 15) (v := ?_) (a' := ?_) #[true, true, true, true, true, false] rfl rfl (by kernel_rfl) (fun _ _ _ h => h) (Or.inl ⟨by rfl, ?_⟩) ?_ ?_
  rotate_left
  · intro w'
    go_simp
    with_reducible rfl
  rotate_left
  · simp only [Act.put, List.setIfInBounds_toArray, List.set_cons_zero, List.set_cons_succ, i64_w, i32_w]
    rfl
  refine one_ (i := 5) (N := some 16) #[true, true, true, true, true, true] rfl rfl (by kernel_rfl) (by decide) (fun K hK => ?_)
  refine goesI_ (by rfl) rfl (.tmp 15) "Sum" rfl 107 _ rfl 104 (mSum _) Tryd.func104 rfl rfl #[.pointer (some ⟨g, 0, none⟩), .slice (some ⟨gs, 0, none⟩) 0 32] (by (try simp only [List.map_toArray, List.map_cons, List.map_nil]); first | done | rfl | (simp only [List.length_drop, List.length_take]; rfl)) ?_
  with_reducible refine HC5.out.mono ?_
  rintro e w5 ⟨⟨v8, rfl⟩, k1, k2⟩
  refine ⟨_, rfl, ?_⟩
  have HS5 := Aside0.mk k1
  have HO5 : Aside0 (Only gs w4 w5) := ⟨undrew k2⟩
  clear k1 k2
  refine hK.out _ _ trivial (fun hHeld => ?_)
  clear hK K
  refine norm_ (a' := ?_) ?_ ?_
  rotate_left
  · show Act.put _ (some 16) _ = _
    simp only [Act.put, List.setIfInBounds_toArray, List.set_cons_zero, List.set_cons_succ, i64_w, i32_w]
    rfl
  refine done_ (by kernel_rfl) ?_

  have HR5 : Aside0 (w5.heap[r]? = some (.cells (byteC (List.replicate 32 0)).toArray 22 (0, 0))) := ⟨(HO5.out.block r (blk_lt' HR4.out) (by have := HRG.out; have := HGG.out; omega)).trans HR4.out⟩
  go_wp2_with (first
    | ((with_reducible refine at_dst (N := 17) rfl ?_); refine wpList_load_row rfl 22 (.tmp 4) rfl gs rfl 22 _ (0, 0) _ HS5.out Tryd.underlying22 rfl (row32_info _ HL.out) ?_)
    | (refine wpList_store_row rfl 22 (.tmp 2) (.tmp 17) rfl r (byteC hl).toArray rfl rfl 22 _ HR5.out (row32_info _ HL.out) (by rw [List.size_toArray, byteC_len, List.length_replicate, List.size_toArray, byteC_len]; exact HL.out.symm) (byteC_one _) ?_))
  refine bodyPost_ret_by (results_cell_row rfl _ _ r 22 _ (0, 0) _ (by rfl) (setRow_heap _ _ _ _ _ _ HR5.out) Tryd.underlying22 rfl (row32_info _ HL.out)) rfl ⟨rfl, ?_⟩
  have HBc := (HO5.out.below HBb.out (by have := HRG.out; have := HGG.out; omega) HBb.out.size)
  exact ⟨HBc.os, HBc.tape, HBc.output, by rw [size_setRow]; exact HBc.size, fun k hk => (setRow_ne w5 r _ k (by have := HR.out; omega)).trans (HBc.block k hk)⟩
end Go.Proofs.YtigpdgfhngknhaaDoor.Sha
/- sha256: twice. -/
namespace Go.Proofs.YtigpdgfhngknhaaDoor.Sha
open Go.RowKit Go.Proofs.YtigpdgfhngknhaaDoorW.PrintWords Go.Proofs.YtigpdgfhngknhaaDoorW.PrintLast Go.Proofs.YtigpdgfhngknhaaDoorW.PrintMore Go.Proofs.YtigpdgfhngknhaaDoor.QFnTapRoot
set_option linter.unusedVariables false
set_option linter.unusedSimpArgs false
theorem hash_info (l : List Int) (h : l.length = 32) : (Tryd.prog.info? 49).map (·.size) = some (byteC l).toArray.size := by rw [List.size_toArray, byteC_len, h]; kernel_rfl
/-- What the hash of a transaction or a header is. -/
def shaD (kl bs : List Int) : List Int := shaL kl (shaL kl bs)
theorem shaD_len (kl bs : List Int) : (shaD kl bs).length = 32 := shaL_len _ _
theorem row_size (l : List Int) (h : l.length = 32) : (byteC (List.replicate 32 0)).toArray.size = (byteC l).toArray.size := by rw [List.size_toArray, byteC_len, List.length_replicate, List.size_toArray, byteC_len]; exact h.symm
theorem row_alloc (w : World) (t : TypeId) : (w.alloc (.cells (byteC (List.replicate 32 0)).toArray t)).heap[w.heap.size]? = some (.cells (byteC (List.replicate 32 0)).toArray t (0, 0)) := heap_alloc_new w _
theorem below_setRow {w w1 : World} {r : Nat} (cs : Array Value) (h : Below w.heap.size w w1) (hr : w.heap.size ≤ r) : Below w.heap.size w (w1.setRow r cs) :=
  ⟨h.os, h.tape, h.output, by rw [size_setRow]; exact h.size, fun k hk => (setRow_ne w1 r _ k (by omega)).trans (h.block k hk)⟩
theorem below_tr {w w1 w2 : World} (h : Below w.heap.size w w1) (k : Below w1.heap.size w1 w2) : Below w.heap.size w w2 :=
  h.trans ⟨k.os, k.tape, k.output, k.size, fun i hi => k.block i (Nat.lt_of_lt_of_le hi h.size)⟩
theorem reads_row {w : World} {g n : Nat} {l : List Int} {t : TypeId} (h : w.heap[g]? = some (.cells (byteC l).toArray t (0, 0))) (hn : l.length = n) (hs : n ≤ 1000000) : ReadsInt w .u8 (some ⟨g, 0, none⟩) n l :=
  ⟨hn, by omega, fun _ => ⟨_, rfl, fun j hj => by rw [add_any, Nat.zero_add]; exact row_cell h j (by omega)⟩⟩
set_option maxRecDepth 100000 in
set_option maxHeartbeats 4000000 in
theorem doubleC (A : Option Addr) (c : Nat) (bs kl : List Int) (w : World) (hb : ReadsInt w .u8 A bs.length bs) (hc : bs.length ≤ c) (hn : bs.length ≤ 100000000000) (hk : KRow w kl) :
    Calls Tryd.prog 23 #[.slice A bs.length c] w fun e w' => e = .returned (.agg (byteC (shaD kl bs)).toArray) ∧ Below w.heap.size w w' := by
  have HK := Aside0.mk hk
  have H1 : Aside0 (∀ w1, Below w.heap.size w w1 → Calls Tryd.prog 36 #[.slice A bs.length c] w1 fun e w' => e = .returned (.agg (byteC (shaL kl bs)).toArray) ∧ Below w1.heap.size w1 w') := ⟨fun w1 h => sum256C A c bs kl w1 (hb.below h) hc hn (hk.below h)⟩
  have hl1 := shaL_len kl bs
  have hl2 := shaD_len kl bs
  have hsd : shaD kl bs = shaL kl (shaL kl bs) := rfl
  obtain ⟨h2, hh2⟩ : ∃ h, shaD kl bs = h := ⟨_, rfl⟩
  rw [hh2] at hl2 hsd ⊢
  obtain ⟨h1, hh1⟩ : ∃ h, shaL kl bs = h := ⟨_, rfl⟩
  rw [hh1] at H1 hl1 hsd
  have H2 : Aside0 (∀ w1 g, KRow w1 kl → w1.heap[g]? = some (.cells (byteC h1).toArray 22 (0, 0)) → Calls Tryd.prog 36 #[.slice (some ⟨g, 0, none⟩) 32 32] w1 fun e w' => e = .returned (.agg (byteC h2).toArray) ∧ Below w1.heap.size w1 w') := ⟨fun w1 g hk1 hr => by
    have h := sum256C (some ⟨g, 0, none⟩) 32 h1 kl w1 (by rw [hl1]; exact reads_row hr hl1 (by decide)) (by omega) (by omega) hk1
    rw [hl1, ← hsd] at h
    exact h⟩
  have HL1 := Aside0.mk hl1
  have HL2 := Aside0.mk hl2
  obtain ⟨n, hbn⟩ : ∃ n, bs.length = n := ⟨_, rfl⟩
  rw [hbn] at H1 ⊢
  clear hb hc hn hk hbn hl1 hl2 hsd hh1 hh2
  go_enter Tryd.func23, Tryd.ntmps23
  go_upto_region 1 with fail
  obtain ⟨r, hr⟩ : ∃ r, w.heap.size = r := ⟨_, rfl⟩
  have HR := Aside0.mk hr
  rw [hr]
  generalize hw1 : World.alloc _ _ = w1
  have HB1 : Aside0 (Below w.heap.size w w1) := ⟨by rw [← hw1]; exact below_alloc (Below.refl _ _) _⟩
  have HR1 : Aside0 (w1.heap[r]? = some (.cells (byteC (List.replicate 32 0)).toArray 49 (0, 0))) := ⟨by rw [← hw1, ← HR.out]; exact row_alloc w _⟩
  clear hw1 hr
  go_upto_region 2 with (first
    | (go_at_call 36; (with_reducible refine (H1.out w1 HB1.out).mono ?_); rintro e w2 ⟨rfl, k1⟩; have HB2 := Aside0.mk k1; clear k1)
    | (refine wpList_store_row rfl 22 (.tmp 3) (.tmp 5) rfl w2.heap.size (byteC h1).toArray rfl rfl 22 _ (row_alloc w2 _) (row32_info _ HL1.out) (row_size _ HL1.out) (byteC_one _) ?_))
  obtain ⟨g, hg⟩ : ∃ g, w2.heap.size = g := ⟨_, rfl⟩
  have HG := Aside0.mk hg
  rw [hg]
  generalize hw3 : World.setRow _ _ _ = w3
  have HB3 : Aside0 (Below w2.heap.size w2 w3) := ⟨by rw [← hw3, ← hg]; exact below_setRow _ (below_alloc (Below.refl _ _) _) (Nat.le_refl _)⟩
  have HG3 : Aside0 (w3.heap[g]? = some (.cells (byteC h1).toArray 22 (0, 0))) := ⟨by rw [← hw3, ← hg]; exact setRow_heap _ _ _ _ _ _ (row_alloc w2 _)⟩
  have HBB := Aside0.mk (below_tr (below_tr HB1.out HB2.out) HB3.out)
  have HR3 : Aside0 (w3.heap[r]? = some (.cells (byteC (List.replicate 32 0)).toArray 49 (0, 0))) := ⟨by
    have h1 := (HB2.out.block r (blk_lt' HR1.out)).trans HR1.out
    exact (HB3.out.block r (blk_lt' h1)).trans h1⟩
  clear hg hw3
  have HC := Aside0.mk (H2.out w3 g (HK.out.below HBB.out) HG3.out)
  go_wp2_with (first
    | (go_at_call 36; (with_reducible refine HC.out.mono ?_); rintro e w4 ⟨rfl, k1⟩; have HB4 := Aside0.mk k1; clear k1; have HR4 := Aside0.mk ((HB4.out.block r (blk_lt' HR3.out)).trans HR3.out))
    | (refine wpList_store_row rfl 49 (.tmp 2) (.tmp 7) rfl r (byteC h2).toArray rfl rfl 49 _ HR4.out (hash_info _ HL2.out) (row_size _ HL2.out) (byteC_one _) ?_))
  refine bodyPost_ret_by (results_cell_row rfl _ _ r 49 _ (0, 0) _ (by rfl) (setRow_heap _ _ _ _ _ _ HR4.out) Tryd.underlying49 rfl (hash_info _ HL2.out)) rfl ⟨rfl, below_setRow _ (below_tr HBB.out HB4.out) (by have := HR.out; omega)⟩
set_option maxRecDepth 100000 in
set_option maxHeartbeats 4000000 in
theorem hashC (A : Option Addr) (c : Nat) (bs kl : List Int) (w : World) (hb : ReadsInt w .u8 A bs.length bs) (hc : bs.length ≤ c) (hn : bs.length ≤ 100000000000) (hk : KRow w kl) :
    Calls Tryd.prog 11 #[.slice A bs.length c] w fun e w' => e = .returned (.agg (byteC (shaD kl bs)).toArray) ∧ Below w.heap.size w w' := by
  have H1 : Aside0 (∀ w1, Below w.heap.size w w1 → Calls Tryd.prog 23 #[.slice A bs.length c] w1 fun e w' => e = .returned (.agg (byteC (shaD kl bs)).toArray) ∧ Below w1.heap.size w1 w') := ⟨fun w1 h => doubleC A c bs kl w1 (hb.below h) hc hn (hk.below h)⟩
  have hl1 := shaD_len kl bs
  obtain ⟨h1, hh1⟩ : ∃ h, shaD kl bs = h := ⟨_, rfl⟩
  rw [hh1] at H1 hl1 ⊢
  have HL1 := Aside0.mk hl1
  obtain ⟨n, hbn⟩ : ∃ n, bs.length = n := ⟨_, rfl⟩
  rw [hbn] at H1 ⊢
  clear hb hc hn hk hbn hl1 hh1
  go_enter Tryd.func11, Tryd.ntmps11
  go_upto_region 1 with fail
  obtain ⟨r, hr⟩ : ∃ r, w.heap.size = r := ⟨_, rfl⟩
  have HR := Aside0.mk hr
  rw [hr]
  generalize hw1 : World.alloc _ _ = w1
  have HB1 : Aside0 (Below w.heap.size w w1) := ⟨by rw [← hw1]; exact below_alloc (Below.refl _ _) _⟩
  have HR1 : Aside0 (w1.heap[r]? = some (.cells (byteC (List.replicate 32 0)).toArray 22 (0, 0))) := ⟨by rw [← hw1, ← HR.out]; exact row_alloc w _⟩
  clear hw1 hr
  go_wp2_with (first
    | (go_at_call 23; (with_reducible refine (H1.out w1 HB1.out).mono ?_); rintro e w2 ⟨rfl, k1⟩; have HB2 := Aside0.mk k1; clear k1; have HR4 := Aside0.mk ((HB2.out.block r (blk_lt' HR1.out)).trans HR1.out))
    | (refine wpList_store_row rfl 22 (.tmp 2) (.tmp 4) rfl r (byteC h1).toArray rfl rfl 22 _ HR4.out (row32_info _ HL1.out) (row_size _ HL1.out) (byteC_one _) ?_))
  refine bodyPost_ret_by (results_cell_row rfl _ _ r 22 _ (0, 0) _ (by rfl) (setRow_heap _ _ _ _ _ _ HR4.out) Tryd.underlying22 rfl (row32_info _ HL1.out)) rfl ⟨rfl, below_setRow _ (below_tr HB1.out HB2.out) (by have := HR.out; omega)⟩
end Go.Proofs.YtigpdgfhngknhaaDoor.Sha
/- sha256: the hash of what a function writes. -/
namespace Go.Proofs.YtigpdgfhngknhaaDoor.Sha
open Go.RowKit Go.Proofs.YtigpdgfhngknhaaDoorW.PrintWords Go.Proofs.YtigpdgfhngknhaaDoorW.PrintLast Go.Proofs.YtigpdgfhngknhaaDoorW.PrintMore Go.Proofs.YtigpdgfhngknhaaDoor.QFnTapRoot
set_option linter.unusedVariables false
set_option linter.unusedSimpArgs false
theorem mk32 (w : World) : (Instr.makeSlice 26 (.int .i64 0) (.int .i64 32)).run Tryd.prog w = .ok (.slice (some ⟨w.heap.size, 0, none⟩) 0 32) (w.alloc (.cells (byteC (List.replicate 32 0)).toArray 5)) := by kernel_rfl
theorem mk_op {P : Program} {w w' : World} {ρ : Operand → Value} {o : Oper} (t : TypeId) (l c : Operand) (ho : o.op = .makeSlice t l c) (L C v : Value) (hl : ρ l = L) (hc : ρ c = C) (hr : (Instr.makeSlice t L C).run P w = .ok v w') : (execOp ρ o).run P w = .ok (.value v) w' := by
  unfold execOp
  simp [ho, hl, hc, hr, Result.andThen]
theorem arr32 (g : Nat) (w : World) : (Instr.arrayAt 49 (.slice (some ⟨g, 0, none⟩) 32 32)).run Tryd.prog w = .ok (.pointer (some ⟨g, 0, none⟩)) w := by kernel_rfl
theorem resetS (g : Nat) (kl bs : List Int) (len : Int) (w : World) (h : DigS w g kl bs len) : Calls Tryd.prog 65 #[.pointer (some ⟨g, 0, none⟩)] w fun e w' => e = .returned (.tuple #[]) ∧ DigS w' g kl [] 0 ∧ Only g w w' := by
  obtain ⟨xs, h1, h2⟩ := h.st
  exact (resetC g _ _ _ _ w h1).mono fun e w' ⟨he, h3, h4⟩ => ⟨he, ⟨⟨xs, h3, by simp⟩⟩, h4⟩
set_option maxRecDepth 100000 in
set_option maxHeartbeats 4000000 in
/-- The hash, twice, of what a function writes (R: what it leaves). -/
theorem rawC (f : FuncId) (fn : Func) (hf : Tryd.prog.funcs[f]? = some fn) (hname : (fn.name == "runtime.NumGoroutine") = false) (hbd : fn.body.isSome = true) (first cap : Array Value) (kl bs : List Int) (w : World) (hn : bs.length ≤ 100000000000) (hk : KRow w kl)
    (hser : ∀ g w2, Below w.heap.size w w2 → w.heap.size ≤ g → DigS w2 g kl [] 0 → KRow w2 kl → Calls Tryd.prog f ((first ++ #[hv g]) ++ cap) w2 fun e w' => (∃ v, e = .returned v) ∧ DigS w' g kl bs (bs.length : Int) ∧ Only g w2 w') :
    Calls Tryd.prog 34 #[.func (.func f) first cap] w fun e w' => e = .returned (.agg (byteC (shaD kl bs)).toArray) ∧ Below w.heap.size w w' := by
  have HK := Aside0.mk hk
  have HKL := Aside0.mk hk.lt
  have HN := Aside0.mk hn
  have HSE := Aside0.mk hser
  have hl1 := shaL_len kl bs
  have hl2 := shaD_len kl bs
  have hsd : shaD kl bs = shaL kl (shaL kl bs) := rfl
  have HS1 : Aside0 (∀ g gs w2, DigS w2 g kl bs (bs.length : Int) → KRow w2 kl → 6 < w2.heap.size → w2.heap[gs]? = some (.cells (byteC (List.replicate 32 0)).toArray 5 (0, 0)) → Calls Tryd.prog 104 #[.pointer (some ⟨g, 0, none⟩), .slice (some ⟨gs, 0, none⟩) 0 32] w2 fun e w' => e = .returned (.slice (some ⟨gs, 0, none⟩) 32 32) ∧ w'.heap[gs]? = some (.cells (byteC (shaL kl bs)).toArray 5 (0, 0)) ∧ Only gs w2 w') := ⟨fun g gs w2 h1 h2 h3 h4 => sumRoom g gs 5 _ (by rw [byteC_len, List.length_replicate]) kl bs w2 h1 hn h2 h3 h4⟩
  have HS2 : Aside0 (∀ g gs w2, DigS w2 g kl (shaL kl bs) 32 → KRow w2 kl → 6 < w2.heap.size → w2.heap[gs]? = some (.cells (byteC (shaL kl bs)).toArray 5 (0, 0)) → Calls Tryd.prog 104 #[.pointer (some ⟨g, 0, none⟩), .slice (some ⟨gs, 0, none⟩) 0 32] w2 fun e w' => e = .returned (.slice (some ⟨gs, 0, none⟩) 32 32) ∧ w'.heap[gs]? = some (.cells (byteC (shaD kl bs)).toArray 5 (0, 0)) ∧ Only gs w2 w') := ⟨fun g gs w2 h1 h2 h3 h4 => sumRoom g gs 5 _ (by rw [byteC_len, hl1]) kl (shaL kl bs) w2 (by rw [hl1]; exact h1) (by omega) h2 h3 h4⟩
  have HWR : Aside0 (∀ g gs w2, DigS w2 g kl [] 0 → w2.heap[gs]? = some (.cells (byteC (shaL kl bs)).toArray 5 (0, 0)) → gs ≠ g → KRow w2 kl → g ≠ 6 → Calls Tryd.prog 105 #[.pointer (some ⟨g, 0, none⟩), .slice (some ⟨gs, 0, none⟩) 32 32] w2 fun e w' => (∃ v, e = .returned v) ∧ DigS w' g kl (shaL kl bs) 32 ∧ Only g w2 w') := ⟨fun g gs w2 h1 h2 h3 h4 h5 => by
    have h := writeC g kl [] (shaL kl bs) (some ⟨gs, 0, none⟩) 32 w2 h1 (by have := rds_row h2 h3 32 (by omega) (by omega); rw [List.take_of_length_le (by omega)] at this; rw [hl1]; exact this) (by omega) (by simp only [List.length_nil]; omega) h4 h5
    rw [hl1] at h
    exact h.mono fun e w' ⟨he, h6, h7⟩ => ⟨⟨_, he⟩, by simpa [hl1] using h6, h7⟩⟩
  obtain ⟨h2, hh2⟩ : ∃ h, shaD kl bs = h := ⟨_, rfl⟩
  rw [hh2] at hl2 HS2 ⊢
  obtain ⟨h1, hh1⟩ : ∃ h, shaL kl bs = h := ⟨_, rfl⟩
  rw [hh1] at HS1 HS2 HWR hl1
  have HL1 := Aside0.mk hl1
  have HL2 := Aside0.mk hl2
  obtain ⟨n, hbn⟩ : ∃ n, bs.length = n := ⟨_, rfl⟩
  have HBN := Aside0.mk hbn
  rw [hbn] at HSE HS1
  clear hn hk hser hbn hl1 hl2 hsd hh1 hh2
  have hfn := hf
  have hnn := hname
  have hbb := hbd
  have HF := Aside0.mk hf
  have HNM := Aside0.mk hname
  have HBD := Aside0.mk hbd
  clear hfn hnn hbb hf hname hbd
  go_enter Tryd.func34, Tryd.ntmps34
  go_upto_region 1 with fail
  obtain ⟨r, hr⟩ : ∃ r, w.heap.size = r := ⟨_, rfl⟩
  have HR := Aside0.mk hr
  rw [hr]
  generalize hw1 : World.alloc _ _ = w1
  have HB1 : Aside0 (Below w.heap.size w w1) := ⟨by rw [← hw1]; exact below_alloc (Below.refl _ _) _⟩
  have HR1 : Aside0 (w1.heap[r]? = some (.cells (byteC (List.replicate 32 0)).toArray 49 (0, 0))) := ⟨by rw [← hw1, ← HR.out]; exact row_alloc w _⟩
  clear hw1 hr
  go_upto_region 2 with (go_at_call 46; (with_reducible refine (newH w1).mono ?_); rintro e w2 ⟨rfl, h1, h2⟩; have H1 := Aside0.mk h1; have HB2 := Aside0.mk h2; clear h1 h2)
  obtain ⟨g, hgg⟩ : ∃ g, w1.heap.size = g := ⟨_, rfl⟩
  have HG := Aside0.mk hgg
  rw [hgg] at H1 ⊢
  clear hgg
  have HRG : Aside0 (r < g ∧ w.heap.size ≤ g ∧ 6 < g) := ⟨by have h1 := blk_lt' HR1.out; have h2 := HR.out; have h3 := HG.out; have h4 := HKL.out; omega⟩
  have HBa := Aside0.mk (below_tr HB1.out HB2.out)
  have HC3 := Aside0.mk (HSE.out g w2 HBa.out HRG.out.2.1 (dig_new kl H1.out) (HK.out.below HBa.out))
  go_upto_region 3 with (refine valL_ (some 10) rfl rfl (.tmp 8) rfl f first cap rfl HF.out HNM.out HBD.out ((first ++ #[hv g]) ++ cap) (by simp only [List.map_toArray, List.map_cons, List.map_nil]; rfl) ?_; (with_reducible refine HC3.out.mono ?_); rintro e w3 ⟨⟨v9, rfl⟩, k1, k2⟩; refine ⟨_, rfl, ?_⟩; have HD3 := Aside0.mk k1; have HO3 := Aside0.mk k2; clear k1 k2)
  have HBb := Aside0.mk (HO3.out.below HBa.out HRG.out.2.1 HBa.out.size)
  have HR3 : Aside0 (w3.heap[r]? = some (.cells (byteC (List.replicate 32 0)).toArray 49 (0, 0))) := ⟨by
    have h1 := (HB2.out.block r (blk_lt' HR1.out)).trans HR1.out
    exact (HO3.out.block r (blk_lt' h1) (by have := HRG.out; omega)).trans h1⟩
  go_upto_region 4 with ((with_reducible refine at_dst (N := 11) rfl ?_); refine wpList_run rfl _ (mk_op 26 (.const (.int .i64 0)) (.const (.int .i64 32)) rfl _ _ _ rfl rfl (mk32 w3)) ?_)
  obtain ⟨gb, hgb⟩ : ∃ g, w3.heap.size = g := ⟨_, rfl⟩
  have HGB := Aside0.mk hgb
  rw [hgb]
  generalize hw4 : World.alloc _ _ = w4
  have HB4 : Aside0 (Below w3.heap.size w3 w4) := ⟨by rw [← hw4]; exact below_alloc (Below.refl _ _) _⟩
  have HS4 : Aside0 (w4.heap[gb]? = some (.cells (byteC (List.replicate 32 0)).toArray 5 (0, 0))) := ⟨by rw [← hw4, ← hgb]; exact row_alloc w3 _⟩
  clear hw4 hgb
  have HBc := Aside0.mk (below_tr HBb.out HB4.out)
  have HD4 := Aside0.mk (HD3.out.below HB4.out)
  have HGG : Aside0 (g < gb) := ⟨by obtain ⟨x, h, _⟩ := HD3.out.st; have := blk_lt' h.blk; have := HGB.out; omega⟩
  have HR4 := Aside0.mk ((HB4.out.block r (blk_lt' HR3.out)).trans HR3.out)
  have HC5 := Aside0.mk (HS1.out g gb w4 HD4.out (HK.out.below HBc.out) (Nat.lt_of_lt_of_le HKL.out HBc.out.size) HS4.out)
  unfold hv
  go_upto_region 5 with (refine invL_ (some 14) rfl rfl (.tmp 12) "Sum" rfl 107 _ rfl 104 (mSum _) Tryd.func104 rfl rfl #[.pointer (some ⟨g, 0, none⟩), .slice (some ⟨gb, 0, none⟩) 0 32] (by simp only [List.map_toArray, List.map_cons, List.map_nil]; rfl) ?_; (with_reducible refine HC5.out.mono ?_); rintro e w5 ⟨rfl, k1, k2⟩; refine ⟨_, rfl, ?_⟩; have HS5 := Aside0.mk k1; have HO5 := Aside0.mk k2; clear k1 k2)
  have hgw : w.heap.size ≤ gb := by have := HRG.out; have := HGG.out; omega
  have HBd := Aside0.mk (HO5.out.below HBc.out hgw HBc.out.size)
  have HD5 : Aside0 (DigS w5 g kl bs (n : Int)) := ⟨HD4.out.same (HO5.out.block g (by obtain ⟨x, h, _⟩ := HD4.out.st; exact blk_lt' h.blk) (by have := HGG.out; omega))⟩
  have HR5 := Aside0.mk ((HO5.out.block r (blk_lt' HR4.out) (by have := HRG.out; have := HGG.out; omega)).trans HR4.out)
  have HC6 := Aside0.mk (resetS g kl bs _ w5 HD5.out)
  clear hgw
  go_upto_region 6 with (refine invL_ (some 16) rfl rfl (.tmp 15) "Reset" rfl 107 _ rfl 65 (mReset _) Tryd.func65 rfl rfl #[.pointer (some ⟨g, 0, none⟩)] (by simp only [List.map_toArray, List.map_cons, List.map_nil]; rfl) ?_; (with_reducible refine HC6.out.mono ?_); rintro e w6 ⟨rfl, k1, k2⟩; refine ⟨_, rfl, ?_⟩; have HD6 := Aside0.mk k1; have HO6 := Aside0.mk k2; clear k1 k2)
  have HBe := Aside0.mk (HO6.out.below HBd.out HRG.out.2.1 HBd.out.size)
  have HS6 := Aside0.mk ((HO6.out.block gb (blk_lt' HS5.out) (by have := HGG.out; omega)).trans HS5.out)
  have HR6 := Aside0.mk ((HO6.out.block r (blk_lt' HR5.out) (by have := HRG.out; omega)).trans HR5.out)
  have HC7 := Aside0.mk (HWR.out g gb w6 HD6.out HS6.out (by have := HGG.out; omega) (HK.out.below HBe.out) (by have := HRG.out; omega))
  go_upto_region 7 with (refine invL_ (some 19) rfl rfl (.tmp 17) "Write" rfl 107 _ rfl 105 (mWrite _) Tryd.func105 rfl rfl #[.pointer (some ⟨g, 0, none⟩), .slice (some ⟨gb, 0, none⟩) 32 32] (by simp only [List.map_toArray, List.map_cons, List.map_nil]; rfl) ?_; (with_reducible refine HC7.out.mono ?_); rintro e w7 ⟨⟨v7, rfl⟩, k1, k2⟩; refine ⟨_, rfl, ?_⟩; have HD7 := Aside0.mk k1; have HO7 := Aside0.mk k2; clear k1 k2)
  have HBf := Aside0.mk (HO7.out.below HBe.out HRG.out.2.1 HBe.out.size)
  have HS7 := Aside0.mk ((HO7.out.block gb (blk_lt' HS6.out) (by have := HGG.out; omega)).trans HS6.out)
  have HR7 := Aside0.mk ((HO7.out.block r (blk_lt' HR6.out) (by have := HRG.out; omega)).trans HR6.out)
  have HC8 := Aside0.mk (HS2.out g gb w7 HD7.out (HK.out.below HBf.out) (Nat.lt_of_lt_of_le HKL.out HBf.out.size) HS7.out)
  go_upto_region 8 with (refine invL_ (some 22) rfl rfl (.tmp 20) "Sum" rfl 107 _ rfl 104 (mSum _) Tryd.func104 rfl rfl #[.pointer (some ⟨g, 0, none⟩), .slice (some ⟨gb, 0, none⟩) 0 32] (by simp only [List.map_toArray, List.map_cons, List.map_nil]; rfl) ?_; (with_reducible refine HC8.out.mono ?_); rintro e w8 ⟨rfl, k1, k2⟩; refine ⟨_, rfl, ?_⟩; have HS8 := Aside0.mk k1; have HO8 := Aside0.mk k2; clear k1 k2)
  have HBg := Aside0.mk (HO8.out.below HBf.out (by have := HRG.out; have := HGG.out; omega) HBf.out.size)
  have HR8 := Aside0.mk ((HO8.out.block r (blk_lt' HR7.out) (by have := HRG.out; have := HGG.out; omega)).trans HR7.out)
  have harr := arr32 gb
  go_wp2_with (first
    | ((with_reducible refine at_dst (N := 26) rfl ?_); refine wpList_load_row rfl 49 (.tmp 25) rfl gb rfl 5 _ (0, 0) _ HS8.out Tryd.underlying49 rfl (hash_info _ HL2.out) ?_)
    | (refine wpList_store_row rfl 49 (.tmp 2) (.tmp 26) rfl r (byteC h2).toArray rfl rfl 49 _ HR8.out (hash_info _ HL2.out) (row_size _ HL2.out) (byteC_one _) ?_))
  refine bodyPost_ret_by (results_cell_row rfl _ _ r 49 _ (0, 0) _ (by rfl) (setRow_heap _ _ _ _ _ _ HR8.out) Tryd.underlying49 rfl (hash_info _ HL2.out)) rfl ⟨rfl, below_setRow _ HBg.out (by have := HR.out; omega)⟩
end Go.Proofs.YtigpdgfhngknhaaDoor.Sha
/- sha256 as a thing to which bytes are written. -/
namespace Go.Proofs.YtigpdgfhngknhaaDoor.Sha
open Go.RowKit Go.Proofs.YtigpdgfhngknhaaDoorW.PrintWords Go.Proofs.YtigpdgfhngknhaaDoorW.PrintLast Go.Proofs.YtigpdgfhngknhaaDoorW.PrintMore Go.Proofs.YtigpdgfhngknhaaDoor.QFnTapRoot
set_option linter.unusedVariables false
set_option maxRecDepth 100000 in
theorem nWrite (a : Addr) : Snk.NilNot Tryd.prog 107 (.pointer (some a)) "Write" := fun n w => by kernel_rfl
theorem DigS.lt {w : World} {g : Nat} {kl bs : List Int} {len : Int} (h : DigS w g kl bs len) : g < w.heap.size := by
  obtain ⟨x, h1, _⟩ := h.st
  exact blk_lt' h1.blk
def shaSink (w0 : World) (g : Nat) (kl : List Int) (hk : KRow w0 kl) (hg : w0.heap.size ≤ g) : Snk.Sink Tryd.prog w0 107 (.pointer (some ⟨g, 0, none⟩)) 105 100000000000 where
  St w bs := Below w0.heap.size w0 w ∧ DigS w g kl bs (bs.length : Int)
  own _ k := k = g
  meth := mWrite _
  nil := nWrite _
  below h := h.1
  fresh h hk := by subst hk; exact ⟨hg, h.2.lt⟩
  stay h hb hk := ⟨⟨hb, h.2.same (hk g rfl)⟩, fun k h => h⟩
  write {w bs p A c n} h hp hM hc hr ho := by
    subst hp
    have hK := hk.lt
    refine (writeC g kl bs p A c w h.2 (fun W hW => hr.keep hW.keep (fun ad e h0 hh => ho h0 ad e hh)) hc (by omega) (hk.below h.1) (by omega)).mono fun e w' ⟨he, h5, h6⟩ => ⟨he, ⟨h6.below h.1 hg h.1.size, h5⟩, h6.os, h6.tape, h6.output, h6.size, fun k hk hn => h6.block k hk hn, fun k h => .inl h⟩
end Go.Proofs.YtigpdgfhngknhaaDoor.Sha
/- A header is written, and its name. -/
namespace Go.Proofs.YtigpdgfhngknhaaDoor.Snk
open Go.RowKit Go.Proofs.YtigpdgfhngknhaaDoorW.PrintWords Go.Proofs.YtigpdgfhngknhaaDoorW.PrintLast Go.Proofs.YtigpdgfhngknhaaDoorW.PrintMore
set_option linter.unusedVariables false
set_option linter.unusedSimpArgs false
theorem mk8 (w : World) : (Instr.makeSlice 26 (.int .i64 8) (.int .i64 8)).run Tryd.prog w = .ok (.slice (some ⟨w.heap.size, 0, none⟩) 8 8) (w.alloc (.cells (byteC (List.replicate 8 0)).toArray 5)) := by kernel_rfl
set_option maxRecDepth 100000 in
theorem borrowC (w : World) : Calls Tryd.prog 42 #[.agg #[]] w fun e w' => ∃ gb, e = .returned (.slice (some ⟨gb, 0, none⟩) 8 8) ∧ w'.heap[gb]? = some (.cells (byteC (List.replicate 8 0)).toArray 5 (0, 0)) ∧ w.heap.size ≤ gb ∧ Below w.heap.size w w' := by
  go_enter Tryd.func42, Tryd.ntmps42
  go_upto_region 1 with fail
  generalize hw1 : World.alloc _ _ = w1
  have HB1 : Aside0 (Below w.heap.size w w1) := ⟨by rw [← hw1]; exact below_alloc (Below.refl _ _) _⟩
  clear hw1
  go_wp2_with ((with_reducible refine at_dst (N := 3) rfl ?_); refine wpList_run rfl _ (Sha.mk_op 26 (.const (.int .i64 8)) (.const (.int .i64 8)) rfl _ _ _ rfl rfl (mk8 w1)) ?_)
  go_ret
  exact ⟨_, rfl, heap_alloc_new w1 _, HB1.out.size, below_alloc HB1.out _⟩
set_option maxRecDepth 100000 in
theorem returnC (x : Value) (w : World) : Calls Tryd.prog 44 #[.agg #[], x] w fun e w' => e = .returned (.tuple #[]) ∧ Below w.heap.size w w' := by
  go_enter Tryd.func44, Tryd.ntmps44
  go_wp2_with fail
  go_end0
  exact ⟨rfl, below_alloc (Below.refl _ _) _⟩
set_option maxRecDepth 100000 in
set_option maxHeartbeats 2000000 in
theorem hdrC {w0 : World} {T : TypeId} {v : Value} {f M : Nat} (S : Sink Tryd.prog w0 T v f M) {fn : Func} (hf : Tryd.prog.funcs[f]? = some fn) (hname : (fn.name == "runtime.NumGoroutine") = false) (hbd : fn.body.isSome = true) (g : Nat) (h : HdV) (ho : h.ok) (hd : HdAt w0 g h) (w : World) (bs : List Int)
    (hs : S.St w bs) (hM : bs.length + 80 ≤ M) :
    Calls Tryd.prog 30 #[.iface T v, .int .u32 0, .pointer (some ⟨g, 0, none⟩)] w fun e w' => e = .returned .nilIface ∧ S.St w' (bs ++ h.bytes) ∧ Step S w w' := by
  have HH := Aside0.mk (fun gb wE w bs l tb h1 h2 h3 h4 h5 h6 h7 h8 => hdrBufC S hf hname hbd g gb h ho hd wE w bs l tb h1 h2 h3 h4 h5 h6 h7 h8)
  have HS := Aside0.mk hs
  have HM := Aside0.mk hM
  clear hf hname hbd ho hd hs hM
  go_enter Tryd.func30, Tryd.ntmps30
  go_upto_region 2 with (go_at_call 42; (with_reducible refine (borrowC w).mono ?_); rintro e w1 ⟨gb, rfl, k1, k2, k3⟩; have HR := Aside0.mk k1; have HG := Aside0.mk k2; have HB := Aside0.mk k3; clear k1 k2 k3)
  have HS1 := Aside0.mk (below_step HS.out HB.out)
  have HC := Aside0.mk (HH.out gb w w1 bs _ _ HS1.out.1 HS1.out.2 HG.out (Nat.le_trans (S.below HS.out).size HG.out) (fun hh => absurd (S.fresh HS.out (below_own HS.out HB.out gb hh)).2 (Nat.not_lt.2 HG.out)) rfl HR.out HM.out)
  go_upto_region 3 with (go_at_call 43; (with_reducible refine HC.out.mono ?_); rintro e w2 ⟨rfl, k1, k2⟩; have HS2 := Aside0.mk k1; have HE2 := Aside0.mk k2; clear k1 k2)
  go_wp2_with (go_at_call 44; (with_reducible refine (returnC _ w2).mono ?_); rintro e w3 ⟨rfl, k1⟩; have HB3 := Aside0.mk k1; clear k1)
  go_ret
  have h3 := below_step HS2.out HB3.out
  exact ⟨rfl, h3.1, HE2.out.trans h3.2⟩
theorem sha_only {w0 w w' : World} {g : Nat} {kl : List Int} {hk : Sha.KRow w0 kl} {hg : w0.heap.size ≤ g} (h : Step (Sha.shaSink w0 g kl hk hg) w w') : Only g w w' :=
  ⟨h.os, h.tape, h.output, h.size, fun k hk hn => h.block k hk hn⟩
set_option maxRecDepth 100000 in
set_option maxHeartbeats 2000000 in
/-- What BlockHash hands on: it writes the header. -/
theorem blockHash1C {w0 : World} {T : TypeId} {v : Value} {f M : Nat} (S : Sink Tryd.prog w0 T v f M) {fn : Func} (hf : Tryd.prog.funcs[f]? = some fn) (hname : (fn.name == "runtime.NumGoroutine") = false) (hbd : fn.body.isSome = true) (g gx : Nat) (h : HdV) (ho : h.ok) (hd : HdAt w0 g h) (hx : w0.cell? ⟨gx, 0, none⟩ = some (.pointer (some ⟨g, 0, none⟩))) (w : World) (bs : List Int)
    (hs : S.St w bs) (hM : bs.length + 80 ≤ M) :
    Calls Tryd.prog 35 #[.iface T v, .pointer (some ⟨gx, 0, none⟩)] w fun e w' => e = .returned .nilIface ∧ S.St w' (bs ++ h.bytes) ∧ Step S w w' := by
  have HC := Aside0.mk (hdrC S hf hname hbd g h ho hd w bs hs hM)
  have hx1 := pw_cell_below (S.below hs) hx
  clear hf hname hbd ho hd hx hs hM
  go_enter Tryd.func35, Tryd.ntmps35
  go_wp2_with (go_at_call 30; (with_reducible refine HC.out.mono ?_); rintro e w2 ⟨rfl, k1, k2⟩; have HS2 := Aside0.mk k1; have HE2 := Aside0.mk k2; clear k1 k2)
  go_ret
  exact ⟨rfl, HS2.out, HE2.out⟩
theorem HdV.bytes_len {h : HdV} (ho : h.ok) : h.bytes.length = 80 := by
  unfold HdV.bytes
  simp only [List.length_append, le4_len, ho.p, ho.r]
set_option maxRecDepth 100000 in
set_option maxHeartbeats 2000000 in
theorem blockHashC (g : Nat) (h : HdV) (ho : h.ok) (kl : List Int) (w : World) (hd : HdAt w g h) (hk : Sha.KRow w kl) :
    Calls Tryd.prog 22 #[.pointer (some ⟨g, 0, none⟩)] w fun e w' => e = .returned (.agg (byteC (Sha.shaD kl h.bytes)).toArray) ∧ Below w.heap.size w w' := by
  have HD := Aside0.mk hd
  have HK := Aside0.mk hk
  have HO := Aside0.mk ho
  have HL := Aside0.mk (Sha.shaD_len kl h.bytes)
  obtain ⟨hl, hhl⟩ : ∃ x, Sha.shaD kl h.bytes = x := ⟨_, rfl⟩
  rw [hhl] at HL ⊢
  have HHL := Aside0.mk hhl
  clear hd hk ho hhl
  go_enter Tryd.func22, Tryd.ntmps22
  go_upto_region 1 with fail
  generalize hw1 : World.alloc (World.alloc _ _) _ = w1
  have HB1 : Aside0 (Below w.heap.size w w1) := ⟨by rw [← hw1]; exact below_alloc (below_alloc (Below.refl _ _) _) _⟩
  have HX1 : Aside0 (w1.cell? ⟨w.heap.size, 0, none⟩ = some (.pointer (some ⟨g, 0, none⟩))) := ⟨by
    rw [← hw1]
    exact cell_of (heap_alloc_lt (heap_alloc_new w (.cells #[.pointer (some ⟨g, 0, none⟩)] _)) _) rfl⟩
  have HR1 : Aside0 (w1.heap[w.heap.size + 1]? = some (.cells (byteC (List.replicate 32 0)).toArray 49 (0, 0))) := ⟨by
    rw [← hw1]
    have hh := heap_alloc_new (w.alloc (.cells #[.pointer (some ⟨g, 0, none⟩)] 44)) (.cells (byteC (List.replicate 32 0)).toArray 49)
    rw [show (w.alloc (.cells #[.pointer (some ⟨g, 0, none⟩)] 44)).heap.size = w.heap.size + 1 by simp] at hh
    exact hh⟩
  clear hw1
  have HC : Aside0 (Calls Tryd.prog 34 #[.func (.func 35) #[] #[.pointer (some ⟨w.heap.size, 0, none⟩)]] w1 fun e w' => e = .returned (.agg (byteC hl).toArray) ∧ Below w1.heap.size w1 w') := ⟨by
    rw [← HHL.out]
    refine Sha.rawC 35 _ Tryd.func35 rfl rfl #[] #[.pointer (some ⟨w.heap.size, 0, none⟩)] kl h.bytes w1 (by rw [HdV.bytes_len HO.out]; decide) (HK.out.below HB1.out) ?_
    intro g2 w2 hb hg2 hd2 hk2
    have hh := blockHash1C (Sha.shaSink w1 g2 kl (HK.out.below HB1.out) hg2) Tryd.func105 rfl rfl g w.heap.size h HO.out (HD.out.below HB1.out) HX1.out w2 [] ⟨hb, hd2⟩ (by decide)
    exact hh.mono fun e w' ⟨h1, h2, h3⟩ => ⟨⟨_, h1⟩, by simpa using h2.2, sha_only h3⟩⟩
  go_wp2_with (first
    | (go_at_call 34; (with_reducible refine HC.out.mono ?_); rintro e w2 ⟨rfl, k1⟩; have HB2 := Aside0.mk k1; clear k1; have HR4 := Aside0.mk ((HB2.out.block _ (blk_lt' HR1.out)).trans HR1.out))
    | (refine wpList_store_row rfl 49 (.tmp 2) (.tmp 4) rfl (w.heap.size + 1) (byteC hl).toArray rfl rfl 49 _ HR4.out (Sha.hash_info _ HL.out) (Sha.row_size _ HL.out) (Sha.byteC_one _) ?_))
  refine bodyPost_ret_by (results_cell_row rfl _ _ (w.heap.size + 1) 49 _ (0, 0) _ (by rfl) (setRow_heap _ _ _ _ _ _ HR4.out) Tryd.underlying49 rfl (Sha.hash_info _ HL.out)) rfl ⟨rfl, Sha.below_setRow _ (Sha.below_tr HB1.out HB2.out) (Nat.le_succ _)⟩
end Go.Proofs.YtigpdgfhngknhaaDoor.Snk
