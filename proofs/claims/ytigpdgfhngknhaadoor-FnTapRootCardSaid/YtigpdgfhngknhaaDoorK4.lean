/- A number is written, short where it is small. -/
import Derived.Defers
import Derived.Shelf.Bytes.GrowOwn
import Derived.Test.YtigpdgfhngknhaaDoorProg
import Derived.Deep.QuietTactic
import Derived.BigQuiet
import Derived.Lib.BufferMore
import Derived.Laws.CopyOwn
import Derived.Test.YtigpdgfhngknhaaDoorK0
import Derived.Test.YtigpdgfhngknhaaDoorK2
import Derived.Test.YtigpdgfhngknhaaDoorK3
namespace Go.Proofs.YtigpdgfhngknhaaDoor.Snk
open Go.RowKit Go.Proofs.YtigpdgfhngknhaaDoorW.PrintWords Go.Proofs.YtigpdgfhngknhaaDoorW.PrintLast Go.Proofs.YtigpdgfhngknhaaDoorW.PrintMore
set_option linter.unusedVariables false
set_option linter.unusedSimpArgs false
theorem readN {w : World} {g n : Nat} {l p : List Int} {t : TypeId} (h : w.heap[g]? = some (.cells (byteC l).toArray t (0, 0))) (hn : n ≤ l.length) (h64 : n ≤ 64) (hp : p = l.take n) : ReadsInt w .u8 (some ⟨g, 0, none⟩) n p := by
  subst hp
  exact ⟨by rw [List.length_take]; omega, by omega, fun _ => ⟨_, rfl, fun j hj => by
    rw [add_any, Nat.zero_add, row_cell h j (by omega), List.getD_eq_getElem?_getD, List.getD_eq_getElem?_getD, List.getElem?_take_of_lt hj]⟩⟩
theorem take_put1 (l : List Int) (x : Int) (hl : l.length = 8) : [x] = (l.set 0 x).take 1 := by
  match l, hl with
  | _ :: _, _ => rfl
theorem take_put3 (l : List Int) (a v : Int) (hl : l.length = 8) : a :: le2 v = (lput2 (l.set 0 a) 1 v).take 3 := by
  match l, hl with
  | [_, _, _, _, _, _, _, _], _ => rfl
theorem take_put5 (l : List Int) (a v : Int) (hl : l.length = 8) : a :: le4 v = (lput4 (l.set 0 a) 1 v).take 5 := by
  match l, hl with
  | [_, _, _, _, _, _, _, _], _ => rfl
/-- A number's bytes. -/
def viB (x : Int) : List Int := if x < 253 then [x] else if x ≤ 65535 then 253 :: le2 x else 254 :: le4 x
theorem viB_len (x : Int) : (viB x).length ≤ 5 := by
  unfold viB
  split
  · exact (by decide : 1 ≤ 5)
  · split
    · exact (by decide : 3 ≤ 5)
    · exact (by decide : 5 ≤ 5)
set_option maxRecDepth 100000 in
set_option maxHeartbeats 4000000 in
theorem varInt1C {w0 : World} {T : TypeId} {v : Value} {f M : Nat} (S : Sink Tryd.prog w0 T v f M) {fn : Func} (hf : Tryd.prog.funcs[f]? = some fn) (hname : (fn.name == "runtime.NumGoroutine") = false) (hbd : fn.body.isSome = true) (gb : Nat) (pv x : Int) (h0 : 0 ≤ x) (hx : x < 253) (wE w : World) (bs l : List Int) (tb : TypeId)
    (hs : S.St w bs) (hE : Step S wE w) (hgE : wE.heap.size ≤ gb) (hg0 : w0.heap.size ≤ gb) (hno : ¬ S.own w gb) (hl : l.length = 8) (hrow : w.heap[gb]? = some (.cells (byteC l).toArray tb (0, 0))) (hM : bs.length + 1 ≤ M) :
    Calls Tryd.prog 69 #[.iface T v, .int .u32 pv, .int .u64 x, .slice (some ⟨gb, 0, none⟩) 8 8] w fun e w' => e = .returned .nilIface ∧ S.St w' (bs ++ [x]) ∧ Step S wE w' := by
  have HF := Aside0.mk hf
  have HNM := Aside0.mk hname
  have HBD := Aside0.mk hbd
  have HM := Aside0.mk hM
  have HGE := Aside0.mk hgE
  have HG0 := Aside0.mk hg0
  have HS0 := Aside0.mk hs
  have HE0 := Aside0.mk hE
  have HN0 := Aside0.mk hno
  have HL0 := Aside0.mk hl
  have HR0 := Aside0.mk hrow
  have HX : Aside0 (x % 256 = x) := ⟨by omega⟩
  clear hf hname hbd hM hgE hg0 hs hE hno hrow hl
  have z0 := row_cell HR0.out 0 (by rw [HL0.out]; decide)
  have f0 := frozen_of HR0.out 0
  go_enter Tryd.func69, Tryd.ntmps69
  go_upto_region 10 with fail
  clear z0 f0
  generalize hv1 : World.setCell _ _ _ = v1
  have HR1 : Aside0 (v1.heap[gb]? = some (.cells (byteC (l.set 0 (x))).toArray tb (0, 0))) := ⟨by rw [← hv1]; exact row_set HR0.out _ _⟩
  have P1 : Aside0 (Only gb w v1) := ⟨by rw [← hv1]; exact (Only.refl _ _).set _ _⟩
  clear hv1
  obtain ⟨hs1, he1, hn1⟩ := only_step HS0.out HE0.out HGE.out HG0.out HN0.out P1.out
  have HS1 := Aside0.mk hs1
  have HE1 := Aside0.mk he1
  have HN1 := Aside0.mk hn1
  have HL1 : Aside0 ((l.set 0 (x)).length = 8) := ⟨by rw [List.length_set]; exact HL0.out⟩
  clear hs1 he1 hn1
  obtain ⟨q, hq⟩ : ∃ q, q = [x] := ⟨_, rfl⟩
  have HQ := Aside0.mk hq
  have HW : Aside0 (Calls Tryd.prog f #[v, .slice (some ⟨gb, 0, none⟩) 1 8] (World.drew v1) fun e w' => e = .returned (.tuple #[.int .i64 1, .nilIface]) ∧ S.St w' (bs ++ q) ∧ Step S v1 w') := ⟨by
    subst hq
    have b0 := below_step HS1.out (show Below v1.heap.size v1 v1.drew from ⟨rfl, rfl, rfl, Nat.le_refl _, fun _ _ => rfl⟩)
    exact (S.writeC b0.1 (n := 1) (by rfl) HM.out (by decide) (readN (w := World.drew v1) HR1.out (by rw [HL1.out]; decide) (by decide) (by exact take_put1 l x HL0.out)) (fun _ a e hw => by obtain rfl := Option.some.inj e; exact HN1.out (b0.2.grow gb hw |>.elim id (fun h => absurd (blk_lt' HR1.out) (Nat.not_lt.2 h))))).mono fun e w' ⟨h1, h2, h3⟩ => ⟨h1, h2, b0.2.trans h3⟩⟩
  clear hq
  refine start_ (n := 12) (S := fun w' => True) (ds := []) #[false, false, false, false, false, false, false, false, false, false, false, false] (by kernel_rfl) rfl rfl trivial (fun hHeld => ?_)
  refine pure_ (i := 0) (N := some 53) (v := ?_) (a' := ?_) #[true, false, false, false, false, false, false, false, false, false, false, false] rfl rfl (by kernel_rfl) (fun _ _ _ h => h) (Or.inl ⟨by rfl, ?_⟩) ?_ ?_
  rotate_left
  · intro w'
    go_simp
    with_reducible rfl
  rotate_left
  · simp only [Act.put, List.setIfInBounds_toArray, List.set_cons_zero, List.set_cons_succ, i64_w, i32_w]
    rfl
  refine pure_ (i := 1) (N := some 54) (v := ?_) (a' := ?_) #[true, true, false, false, false, false, false, false, false, false, false, false] rfl rfl (by kernel_rfl) (fun _ _ _ h => h) (Or.inl ⟨by rfl, ?_⟩) ?_ ?_
  rotate_left
  · intro w'
    go_simp
    with_reducible rfl
  rotate_left
  · simp only [Act.put, List.setIfInBounds_toArray, List.set_cons_zero, List.set_cons_succ, i64_w, i32_w]
    rfl
  refine pure_ (i := 2) (N := some 55) (v := ?_) (a' := ?_) #[true, true, true, false, false, false, false, false, false, false, false, false] rfl rfl (by kernel_rfl) (fun _ _ _ h => h) (Or.inl ⟨by rfl, ?_⟩) ?_ ?_
  rotate_left
  · intro w'
    go_simp
    with_reducible rfl
  rotate_left
  · simp only [Act.put, List.setIfInBounds_toArray, List.set_cons_zero, List.set_cons_succ, i64_w, i32_w]
    rfl
  refine pure_ (i := 3) (N := some 56) (v := ?_) (a' := ?_) #[true, true, true, true, false, false, false, false, false, false, false, false] rfl rfl (by kernel_rfl) (fun _ _ _ h => h) (Or.inl ⟨by rfl, ?_⟩) ?_ ?_
  rotate_left
  · intro w'
    go_simp
    with_reducible rfl
  rotate_left
  · simp only [Act.put, List.setIfInBounds_toArray, List.set_cons_zero, List.set_cons_succ, i64_w, i32_w]
    rfl
  refine pure_ (i := 4) (N := some 57) (v := ?_) (a' := ?_) #[true, true, true, true, true, false, false, false, false, false, false, false] rfl rfl (by kernel_rfl) (fun _ _ _ h => h) (Or.inl ⟨by rfl, ?_⟩) ?_ ?_
  rotate_left
  · intro w'
    refine nil_run S.nil _ (.tmp 56) ?_ ?_ <;> rfl
  rotate_left
  · simp only [Act.put, List.setIfInBounds_toArray, List.set_cons_zero, List.set_cons_succ, i64_w, i32_w]
    rfl
  refine pure_ (i := 5) (N := some 58) (v := ?_) (a' := ?_) #[true, true, true, true, true, true, false, false, false, false, false, false] rfl rfl (by kernel_rfl) (fun _ _ _ h => h) (Or.inl ⟨by rfl, ?_⟩) ?_ ?_
  rotate_left
  · intro w'
    go_simp
    with_reducible rfl
  rotate_left
  · simp only [Act.put, List.setIfInBounds_toArray, List.set_cons_zero, List.set_cons_succ, i64_w, i32_w]
    rfl
  refine one_ (i := 6) (N := some 59) #[true, true, true, true, true, true, true, false, false, false, false, false] rfl rfl (by kernel_rfl) (by decide) (fun K hK => ?_)
  refine goesI_ (by rfl) rfl (.tmp 58) "Write" rfl T v rfl f S.meth HF.out HNM.out HBD.out #[v, .slice (some ⟨gb, 0, none⟩) 1 8] (by (try simp only [List.map_toArray, List.map_cons, List.map_nil]); first | done | rfl | (simp only [List.length_drop, List.length_take]; rfl)) ?_
  with_reducible refine HW.out.mono ?_
  rintro e v2 ⟨rfl, k1, k2⟩
  refine ⟨_, rfl, ?_⟩
  have HS2 := Aside0.mk k1
  have X := Aside0.mk k2
  clear k1 k2
  refine hK.out _ _ trivial (fun hHeld => ?_)
  clear hK K
  refine norm_ (a' := ?_) ?_ ?_
  rotate_left
  · show Act.put _ (some 59) _ = _
    simp only [Act.put, List.setIfInBounds_toArray, List.set_cons_zero, List.set_cons_succ, i64_w, i32_w]
    rfl
  refine pure_ (i := 7) (N := some 52) (v := ?_) (a' := ?_) #[true, true, true, true, true, true, true, true, false, false, false, false] rfl rfl (by kernel_rfl) (fun _ _ _ h => h) (Or.inl ⟨by rfl, ?_⟩) ?_ ?_
  rotate_left
  · intro w'
    go_simp
    with_reducible rfl
  rotate_left
  · simp only [Act.put, List.setIfInBounds_toArray, List.set_cons_zero, List.set_cons_succ, i64_w, i32_w]
    rfl
  refine pure_ (i := 8) (N := some 60) (v := ?_) (a' := ?_) #[true, true, true, true, true, true, true, true, true, false, false, false] rfl rfl (by kernel_rfl) (fun _ _ _ h => h) (Or.inl ⟨by rfl, ?_⟩) ?_ ?_
  rotate_left
  · intro w'
    go_simp
    with_reducible rfl
  rotate_left
  · simp only [Act.put, List.setIfInBounds_toArray, List.set_cons_zero, List.set_cons_succ, i64_w, i32_w]
    rfl
  refine pure_ (i := 9) (N := some 61) (v := ?_) (a' := ?_) #[true, true, true, true, true, true, true, true, true, true, false, false] rfl rfl (by kernel_rfl) (fun _ _ _ h => h) (Or.inl ⟨by rfl, ?_⟩) ?_ ?_
  rotate_left
  · intro w'
    go_simp
    with_reducible rfl
  rotate_left
  · simp only [Act.put, List.setIfInBounds_toArray, List.set_cons_zero, List.set_cons_succ, i64_w, i32_w]
    rfl
  refine pure_ (i := 10) (N := some 9) (v := ?_) (a' := ?_) #[true, true, true, true, true, true, true, true, true, true, true, false] rfl rfl (by kernel_rfl) (fun _ _ _ h => h) (Or.inl ⟨by rfl, ?_⟩) ?_ ?_
  rotate_left
  · intro w'
    go_simp
    with_reducible rfl
  rotate_left
  · simp only [Act.put, List.setIfInBounds_toArray, List.set_cons_zero, List.set_cons_succ, i64_w, i32_w]
    rfl
  refine pure_ (i := 11) (N := some 10) (v := ?_) (a' := ?_) #[true, true, true, true, true, true, true, true, true, true, true, true] rfl rfl (by kernel_rfl) (fun _ _ _ h => h) (Or.inl ⟨by rfl, ?_⟩) ?_ ?_
  rotate_left
  · intro w'
    go_simp
    with_reducible rfl
  rotate_left
  · simp only [Act.put, List.setIfInBounds_toArray, List.set_cons_zero, List.set_cons_succ, i64_w, i32_w]
    rfl
  refine done_ (by kernel_rfl) ?_
  go_wp2_with fail
  go_ret
  exact ⟨rfl, by have := HQ.out; subst this; exact HS2.out, HE1.out.trans X.out⟩
set_option maxRecDepth 100000 in
set_option maxHeartbeats 4000000 in
theorem varInt3C {w0 : World} {T : TypeId} {v : Value} {f M : Nat} (S : Sink Tryd.prog w0 T v f M) {fn : Func} (hf : Tryd.prog.funcs[f]? = some fn) (hname : (fn.name == "runtime.NumGoroutine") = false) (hbd : fn.body.isSome = true) (gb : Nat) (pv x : Int) (h0 : ¬ x < 253) (hx : x ≤ 65535) (wE w : World) (bs l : List Int) (tb : TypeId)
    (hs : S.St w bs) (hE : Step S wE w) (hgE : wE.heap.size ≤ gb) (hg0 : w0.heap.size ≤ gb) (hno : ¬ S.own w gb) (hl : l.length = 8) (hrow : w.heap[gb]? = some (.cells (byteC l).toArray tb (0, 0))) (hM : bs.length + 3 ≤ M) :
    Calls Tryd.prog 69 #[.iface T v, .int .u32 pv, .int .u64 x, .slice (some ⟨gb, 0, none⟩) 8 8] w fun e w' => e = .returned .nilIface ∧ S.St w' (bs ++ (253 :: le2 x)) ∧ Step S wE w' := by
  have HF := Aside0.mk hf
  have HNM := Aside0.mk hname
  have HBD := Aside0.mk hbd
  have HM := Aside0.mk hM
  have HGE := Aside0.mk hgE
  have HG0 := Aside0.mk hg0
  have HS0 := Aside0.mk hs
  have HE0 := Aside0.mk hE
  have HN0 := Aside0.mk hno
  have HL0 := Aside0.mk hl
  have HR0 := Aside0.mk hrow
  have HX : Aside0 (x % 65536 = x) := ⟨by omega⟩
  clear hf hname hbd hM hgE hg0 hs hE hno hrow hl
  have z0 := row_cell HR0.out 0 (by rw [HL0.out]; decide)
  have f0 := frozen_of HR0.out 0
  go_enter Tryd.func69, Tryd.ntmps69
  go_upto_region 14 with fail
  clear z0 f0
  generalize hv1 : World.setCell _ _ _ = v1
  have HR1 : Aside0 (v1.heap[gb]? = some (.cells (byteC (l.set 0 (253))).toArray tb (0, 0))) := ⟨by rw [← hv1]; exact row_set HR0.out _ _⟩
  have P1 : Aside0 (Only gb w v1) := ⟨by rw [← hv1]; exact (Only.refl _ _).set _ _⟩
  clear hv1
  obtain ⟨hs1, he1, hn1⟩ := only_step HS0.out HE0.out HGE.out HG0.out HN0.out P1.out
  have HS1 := Aside0.mk hs1
  have HE1 := Aside0.mk he1
  have HN1 := Aside0.mk hn1
  have HL1 : Aside0 ((l.set 0 (253)).length = 8) := ⟨by rw [List.length_set]; exact HL0.out⟩
  clear hs1 he1 hn1
  have HRd : Aside0 ((World.drew v1).heap[gb]? = some (.cells (byteC (l.set 0 (253))).toArray tb (0, 0))) := ⟨HR1.out⟩
  refine start_ (n := 6) (S := fun w' => True) (ds := []) #[false, false, false, false, false, false] (by kernel_rfl) rfl rfl trivial (fun hHeld => ?_)
  refine take_ (i := 0) (N := some 68) (v := ?_) (a' := ?_) #[true, false, false, false, false, false] rfl rfl (by kernel_rfl) (fun _ _ _ h => h) (Or.inl ⟨by rfl, ?_⟩) hHeld ?_ ?_
  rotate_left
  · rintro w' s0
    go_simp
    with_reducible rfl
  rotate_left
  · simp only [Act.put, List.setIfInBounds_toArray, List.set_cons_zero, List.set_cons_succ, i64_w, i32_w]
    rfl
  refine pure_ (i := 1) (N := some 69) (v := ?_) (a' := ?_) #[true, true, false, false, false, false] rfl rfl (by kernel_rfl) (fun _ _ _ h => h) (Or.inl ⟨by rfl, ?_⟩) ?_ ?_
  rotate_left
  · intro w'
    go_simp
    with_reducible rfl
  rotate_left
  · simp only [Act.put, List.setIfInBounds_toArray, List.set_cons_zero, List.set_cons_succ, i64_w, i32_w]
    rfl
  refine pure_ (i := 2) (N := some 70) (v := ?_) (a' := ?_) #[true, true, true, false, false, false] rfl rfl (by kernel_rfl) (fun _ _ _ h => h) (Or.inl ⟨by rfl, ?_⟩) ?_ ?_
  rotate_left
  · intro w'
    go_simp
    with_reducible rfl
  rotate_left
  · simp only [Act.put, List.setIfInBounds_toArray, List.set_cons_zero, List.set_cons_succ, i64_w, i32_w]
    rfl
  refine pure_ (i := 3) (N := some 71) (v := ?_) (a' := ?_) #[true, true, true, true, false, false] rfl rfl (by kernel_rfl) (fun _ _ _ h => h) (Or.inl ⟨by rfl, ?_⟩) ?_ ?_
  rotate_left
  · intro w'
    go_simp
    with_reducible rfl
  rotate_left
  · simp only [Act.put, List.setIfInBounds_toArray, List.set_cons_zero, List.set_cons_succ, i64_w, i32_w]
    rfl
  refine pure_ (i := 4) (N := some 72) (v := ?_) (a' := ?_) #[true, true, true, true, true, false] rfl rfl (by kernel_rfl) (fun _ _ _ h => h) (Or.inl ⟨by rfl, ?_⟩) ?_ ?_
  rotate_left
  · intro w'
    go_simp
    with_reducible rfl
  rotate_left
  · simp only [Act.put, List.setIfInBounds_toArray, List.set_cons_zero, List.set_cons_succ, i64_w, i32_w]
    rfl
  refine one_ (i := 5) (N := some 73) #[true, true, true, true, true, true] rfl rfl (by kernel_rfl) (by decide) (fun K hK => ?_)
  refine goes_ Tryd.func72 (by kernel_rfl) rfl #[.agg #[], .slice (some ⟨gb, 1, none⟩) 2 7, .int .u16 (x % 65536)] (by rfl) rfl rfl (by (try simp only [List.map_toArray, List.map_cons, List.map_nil]); first | done | rfl | (simp only [List.length_drop, List.length_take]; rfl)) ?_
  with_reducible refine (lput2C gb 1 2 7 _ _ (x % 65536) (.agg #[]) _ HRd.out (by rw [HL1.out]; decide) (by decide)).mono ?_
  rintro e v2 ⟨rfl, k1, k2⟩
  refine ⟨_, rfl, ?_⟩
  have HR2 := Aside0.mk k1
  have P2 : Aside0 (Only gb v1 v2) := ⟨⟨k2.os, k2.tape, k2.output, k2.size, k2.block⟩⟩
  clear k1 k2
  refine hK.out _ _ trivial (fun hHeld => ?_)
  clear hK K
  refine norm_ (a' := ?_) ?_ ?_
  rotate_left
  · show Act.put _ (some 73) _ = _
    simp only [Act.put, List.setIfInBounds_toArray, List.set_cons_zero, List.set_cons_succ, i64_w, i32_w]
    rfl
  refine done_ (by kernel_rfl) ?_
  obtain ⟨hs2, he2, hn2⟩ := only_step HS1.out HE1.out HGE.out HG0.out HN1.out P2.out
  have HS2 := Aside0.mk hs2
  have HE2 := Aside0.mk he2
  have HN2 := Aside0.mk hn2
  have HL2 : Aside0 ((lput2 (l.set 0 (253)) 1 (x % 65536)).length = 8) := ⟨by rw [lput2_len]; exact HL1.out⟩
  clear hs2 he2 hn2 hHeld
  go_upto_region 15 with fail
  obtain ⟨q, hq⟩ : ∃ q, q = (253 :: le2 x) := ⟨_, rfl⟩
  have HQ := Aside0.mk hq
  have HW : Aside0 (Calls Tryd.prog f #[v, .slice (some ⟨gb, 0, none⟩) 3 8] (World.drew v2) fun e w' => e = .returned (.tuple #[.int .i64 3, .nilIface]) ∧ S.St w' (bs ++ q) ∧ Step S v2 w') := ⟨by
    subst hq
    have b0 := below_step HS2.out (show Below v2.heap.size v2 v2.drew from ⟨rfl, rfl, rfl, Nat.le_refl _, fun _ _ => rfl⟩)
    exact (S.writeC b0.1 (n := 3) (by rfl) HM.out (by decide) (readN (w := World.drew v2) HR2.out (by rw [HL2.out]; decide) (by decide) (by rw [HX.out]; exact take_put3 l 253 x HL0.out)) (fun _ a e hw => by obtain rfl := Option.some.inj e; exact HN2.out (b0.2.grow gb hw |>.elim id (fun h => absurd (blk_lt' HR2.out) (Nat.not_lt.2 h))))).mono fun e w' ⟨h1, h2, h3⟩ => ⟨h1, h2, b0.2.trans h3⟩⟩
  clear hq
  refine start_ (n := 12) (S := fun w' => True) (ds := []) #[false, false, false, false, false, false, false, false, false, false, false, false] (by kernel_rfl) rfl rfl trivial (fun hHeld => ?_)
  refine pure_ (i := 0) (N := some 75) (v := ?_) (a' := ?_) #[true, false, false, false, false, false, false, false, false, false, false, false] rfl rfl (by kernel_rfl) (fun _ _ _ h => h) (Or.inl ⟨by rfl, ?_⟩) ?_ ?_
  rotate_left
  · intro w'
    go_simp
    with_reducible rfl
  rotate_left
  · simp only [Act.put, List.setIfInBounds_toArray, List.set_cons_zero, List.set_cons_succ, i64_w, i32_w]
    rfl
  refine pure_ (i := 1) (N := some 76) (v := ?_) (a' := ?_) #[true, true, false, false, false, false, false, false, false, false, false, false] rfl rfl (by kernel_rfl) (fun _ _ _ h => h) (Or.inl ⟨by rfl, ?_⟩) ?_ ?_
  rotate_left
  · intro w'
    go_simp
    with_reducible rfl
  rotate_left
  · simp only [Act.put, List.setIfInBounds_toArray, List.set_cons_zero, List.set_cons_succ, i64_w, i32_w]
    rfl
  refine pure_ (i := 2) (N := some 77) (v := ?_) (a' := ?_) #[true, true, true, false, false, false, false, false, false, false, false, false] rfl rfl (by kernel_rfl) (fun _ _ _ h => h) (Or.inl ⟨by rfl, ?_⟩) ?_ ?_
  rotate_left
  · intro w'
    go_simp
    with_reducible rfl
  rotate_left
  · simp only [Act.put, List.setIfInBounds_toArray, List.set_cons_zero, List.set_cons_succ, i64_w, i32_w]
    rfl
  refine pure_ (i := 3) (N := some 78) (v := ?_) (a' := ?_) #[true, true, true, true, false, false, false, false, false, false, false, false] rfl rfl (by kernel_rfl) (fun _ _ _ h => h) (Or.inl ⟨by rfl, ?_⟩) ?_ ?_
  rotate_left
  · intro w'
    go_simp
    with_reducible rfl
  rotate_left
  · simp only [Act.put, List.setIfInBounds_toArray, List.set_cons_zero, List.set_cons_succ, i64_w, i32_w]
    rfl
  refine pure_ (i := 4) (N := some 79) (v := ?_) (a' := ?_) #[true, true, true, true, true, false, false, false, false, false, false, false] rfl rfl (by kernel_rfl) (fun _ _ _ h => h) (Or.inl ⟨by rfl, ?_⟩) ?_ ?_
  rotate_left
  · intro w'
    refine nil_run S.nil _ (.tmp 78) ?_ ?_ <;> rfl
  rotate_left
  · simp only [Act.put, List.setIfInBounds_toArray, List.set_cons_zero, List.set_cons_succ, i64_w, i32_w]
    rfl
  refine pure_ (i := 5) (N := some 80) (v := ?_) (a' := ?_) #[true, true, true, true, true, true, false, false, false, false, false, false] rfl rfl (by kernel_rfl) (fun _ _ _ h => h) (Or.inl ⟨by rfl, ?_⟩) ?_ ?_
  rotate_left
  · intro w'
    go_simp
    with_reducible rfl
  rotate_left
  · simp only [Act.put, List.setIfInBounds_toArray, List.set_cons_zero, List.set_cons_succ, i64_w, i32_w]
    rfl
  refine one_ (i := 6) (N := some 81) #[true, true, true, true, true, true, true, false, false, false, false, false] rfl rfl (by kernel_rfl) (by decide) (fun K hK => ?_)
  refine goesI_ (by rfl) rfl (.tmp 80) "Write" rfl T v rfl f S.meth HF.out HNM.out HBD.out #[v, .slice (some ⟨gb, 0, none⟩) 3 8] (by (try simp only [List.map_toArray, List.map_cons, List.map_nil]); first | done | rfl | (simp only [List.length_drop, List.length_take]; rfl)) ?_
  with_reducible refine HW.out.mono ?_
  rintro e v3 ⟨rfl, k1, k2⟩
  refine ⟨_, rfl, ?_⟩
  have HS3 := Aside0.mk k1
  have X := Aside0.mk k2
  clear k1 k2
  refine hK.out _ _ trivial (fun hHeld => ?_)
  clear hK K
  refine norm_ (a' := ?_) ?_ ?_
  rotate_left
  · show Act.put _ (some 81) _ = _
    simp only [Act.put, List.setIfInBounds_toArray, List.set_cons_zero, List.set_cons_succ, i64_w, i32_w]
    rfl
  refine pure_ (i := 7) (N := some 74) (v := ?_) (a' := ?_) #[true, true, true, true, true, true, true, true, false, false, false, false] rfl rfl (by kernel_rfl) (fun _ _ _ h => h) (Or.inl ⟨by rfl, ?_⟩) ?_ ?_
  rotate_left
  · intro w'
    go_simp
    with_reducible rfl
  rotate_left
  · simp only [Act.put, List.setIfInBounds_toArray, List.set_cons_zero, List.set_cons_succ, i64_w, i32_w]
    rfl
  refine pure_ (i := 8) (N := some 82) (v := ?_) (a' := ?_) #[true, true, true, true, true, true, true, true, true, false, false, false] rfl rfl (by kernel_rfl) (fun _ _ _ h => h) (Or.inl ⟨by rfl, ?_⟩) ?_ ?_
  rotate_left
  · intro w'
    go_simp
    with_reducible rfl
  rotate_left
  · simp only [Act.put, List.setIfInBounds_toArray, List.set_cons_zero, List.set_cons_succ, i64_w, i32_w]
    rfl
  refine pure_ (i := 9) (N := some 83) (v := ?_) (a' := ?_) #[true, true, true, true, true, true, true, true, true, true, false, false] rfl rfl (by kernel_rfl) (fun _ _ _ h => h) (Or.inl ⟨by rfl, ?_⟩) ?_ ?_
  rotate_left
  · intro w'
    go_simp
    with_reducible rfl
  rotate_left
  · simp only [Act.put, List.setIfInBounds_toArray, List.set_cons_zero, List.set_cons_succ, i64_w, i32_w]
    rfl
  refine pure_ (i := 10) (N := some 11) (v := ?_) (a' := ?_) #[true, true, true, true, true, true, true, true, true, true, true, false] rfl rfl (by kernel_rfl) (fun _ _ _ h => h) (Or.inl ⟨by rfl, ?_⟩) ?_ ?_
  rotate_left
  · intro w'
    go_simp
    with_reducible rfl
  rotate_left
  · simp only [Act.put, List.setIfInBounds_toArray, List.set_cons_zero, List.set_cons_succ, i64_w, i32_w]
    rfl
  refine pure_ (i := 11) (N := some 12) (v := ?_) (a' := ?_) #[true, true, true, true, true, true, true, true, true, true, true, true] rfl rfl (by kernel_rfl) (fun _ _ _ h => h) (Or.inl ⟨by rfl, ?_⟩) ?_ ?_
  rotate_left
  · intro w'
    go_simp
    with_reducible rfl
  rotate_left
  · simp only [Act.put, List.setIfInBounds_toArray, List.set_cons_zero, List.set_cons_succ, i64_w, i32_w]
    rfl
  refine done_ (by kernel_rfl) ?_
  go_wp2_with fail
  go_ret
  exact ⟨rfl, by have := HQ.out; subst this; exact HS3.out, HE2.out.trans X.out⟩
set_option maxRecDepth 100000 in
set_option maxHeartbeats 4000000 in
theorem varInt5C {w0 : World} {T : TypeId} {v : Value} {f M : Nat} (S : Sink Tryd.prog w0 T v f M) {fn : Func} (hf : Tryd.prog.funcs[f]? = some fn) (hname : (fn.name == "runtime.NumGoroutine") = false) (hbd : fn.body.isSome = true) (gb : Nat) (pv x : Int) (h0 : ¬ x < 253) (h1 : ¬ x ≤ 65535) (hx : x ≤ 4294967295) (wE w : World) (bs l : List Int) (tb : TypeId)
    (hs : S.St w bs) (hE : Step S wE w) (hgE : wE.heap.size ≤ gb) (hg0 : w0.heap.size ≤ gb) (hno : ¬ S.own w gb) (hl : l.length = 8) (hrow : w.heap[gb]? = some (.cells (byteC l).toArray tb (0, 0))) (hM : bs.length + 5 ≤ M) :
    Calls Tryd.prog 69 #[.iface T v, .int .u32 pv, .int .u64 x, .slice (some ⟨gb, 0, none⟩) 8 8] w fun e w' => e = .returned .nilIface ∧ S.St w' (bs ++ (254 :: le4 x)) ∧ Step S wE w' := by
  have HF := Aside0.mk hf
  have HNM := Aside0.mk hname
  have HBD := Aside0.mk hbd
  have HM := Aside0.mk hM
  have HGE := Aside0.mk hgE
  have HG0 := Aside0.mk hg0
  have HS0 := Aside0.mk hs
  have HE0 := Aside0.mk hE
  have HN0 := Aside0.mk hno
  have HL0 := Aside0.mk hl
  have HR0 := Aside0.mk hrow
  have HX : Aside0 (x % 4294967296 = x) := ⟨by omega⟩
  clear hf hname hbd hM hgE hg0 hs hE hno hrow hl
  have z0 := row_cell HR0.out 0 (by rw [HL0.out]; decide)
  have f0 := frozen_of HR0.out 0
  go_enter Tryd.func69, Tryd.ntmps69
  go_upto_region 19 with fail
  clear z0 f0
  generalize hv1 : World.setCell _ _ _ = v1
  have HR1 : Aside0 (v1.heap[gb]? = some (.cells (byteC (l.set 0 (254))).toArray tb (0, 0))) := ⟨by rw [← hv1]; exact row_set HR0.out _ _⟩
  have P1 : Aside0 (Only gb w v1) := ⟨by rw [← hv1]; exact (Only.refl _ _).set _ _⟩
  clear hv1
  obtain ⟨hs1, he1, hn1⟩ := only_step HS0.out HE0.out HGE.out HG0.out HN0.out P1.out
  have HS1 := Aside0.mk hs1
  have HE1 := Aside0.mk he1
  have HN1 := Aside0.mk hn1
  have HL1 : Aside0 ((l.set 0 (254)).length = 8) := ⟨by rw [List.length_set]; exact HL0.out⟩
  clear hs1 he1 hn1
  have HRd : Aside0 ((World.drew v1).heap[gb]? = some (.cells (byteC (l.set 0 (254))).toArray tb (0, 0))) := ⟨HR1.out⟩
  refine start_ (n := 6) (S := fun w' => True) (ds := []) #[false, false, false, false, false, false] (by kernel_rfl) rfl rfl trivial (fun hHeld => ?_)
  refine take_ (i := 0) (N := some 90) (v := ?_) (a' := ?_) #[true, false, false, false, false, false] rfl rfl (by kernel_rfl) (fun _ _ _ h => h) (Or.inl ⟨by rfl, ?_⟩) hHeld ?_ ?_
  rotate_left
  · rintro w' s0
    go_simp
    with_reducible rfl
  rotate_left
  · simp only [Act.put, List.setIfInBounds_toArray, List.set_cons_zero, List.set_cons_succ, i64_w, i32_w]
    rfl
  refine pure_ (i := 1) (N := some 91) (v := ?_) (a' := ?_) #[true, true, false, false, false, false] rfl rfl (by kernel_rfl) (fun _ _ _ h => h) (Or.inl ⟨by rfl, ?_⟩) ?_ ?_
  rotate_left
  · intro w'
    go_simp
    with_reducible rfl
  rotate_left
  · simp only [Act.put, List.setIfInBounds_toArray, List.set_cons_zero, List.set_cons_succ, i64_w, i32_w]
    rfl
  refine pure_ (i := 2) (N := some 92) (v := ?_) (a' := ?_) #[true, true, true, false, false, false] rfl rfl (by kernel_rfl) (fun _ _ _ h => h) (Or.inl ⟨by rfl, ?_⟩) ?_ ?_
  rotate_left
  · intro w'
    go_simp
    with_reducible rfl
  rotate_left
  · simp only [Act.put, List.setIfInBounds_toArray, List.set_cons_zero, List.set_cons_succ, i64_w, i32_w]
    rfl
  refine pure_ (i := 3) (N := some 93) (v := ?_) (a' := ?_) #[true, true, true, true, false, false] rfl rfl (by kernel_rfl) (fun _ _ _ h => h) (Or.inl ⟨by rfl, ?_⟩) ?_ ?_
  rotate_left
  · intro w'
    go_simp
    with_reducible rfl
  rotate_left
  · simp only [Act.put, List.setIfInBounds_toArray, List.set_cons_zero, List.set_cons_succ, i64_w, i32_w]
    rfl
  refine pure_ (i := 4) (N := some 94) (v := ?_) (a' := ?_) #[true, true, true, true, true, false] rfl rfl (by kernel_rfl) (fun _ _ _ h => h) (Or.inl ⟨by rfl, ?_⟩) ?_ ?_
  rotate_left
  · intro w'
    go_simp
    with_reducible rfl
  rotate_left
  · simp only [Act.put, List.setIfInBounds_toArray, List.set_cons_zero, List.set_cons_succ, i64_w, i32_w]
    rfl
  refine one_ (i := 5) (N := some 95) #[true, true, true, true, true, true] rfl rfl (by kernel_rfl) (by decide) (fun K hK => ?_)
  refine goes_ Tryd.func53 (by kernel_rfl) rfl #[.agg #[], .slice (some ⟨gb, 1, none⟩) 4 7, .int .u32 (x % 4294967296)] (by rfl) rfl rfl (by (try simp only [List.map_toArray, List.map_cons, List.map_nil]); first | done | rfl | (simp only [List.length_drop, List.length_take]; rfl)) ?_
  with_reducible refine (lput4C gb 1 4 7 _ _ (x % 4294967296) (.agg #[]) _ HRd.out (by rw [HL1.out]; decide) (by decide)).mono ?_
  rintro e v2 ⟨rfl, k1, k2⟩
  refine ⟨_, rfl, ?_⟩
  have HR2 := Aside0.mk k1
  have P2 : Aside0 (Only gb v1 v2) := ⟨⟨k2.os, k2.tape, k2.output, k2.size, k2.block⟩⟩
  clear k1 k2
  refine hK.out _ _ trivial (fun hHeld => ?_)
  clear hK K
  refine norm_ (a' := ?_) ?_ ?_
  rotate_left
  · show Act.put _ (some 95) _ = _
    simp only [Act.put, List.setIfInBounds_toArray, List.set_cons_zero, List.set_cons_succ, i64_w, i32_w]
    rfl
  refine done_ (by kernel_rfl) ?_
  obtain ⟨hs2, he2, hn2⟩ := only_step HS1.out HE1.out HGE.out HG0.out HN1.out P2.out
  have HS2 := Aside0.mk hs2
  have HE2 := Aside0.mk he2
  have HN2 := Aside0.mk hn2
  have HL2 : Aside0 ((lput4 (l.set 0 (254)) 1 (x % 4294967296)).length = 8) := ⟨by rw [lput4_len]; exact HL1.out⟩
  clear hs2 he2 hn2 hHeld
  go_upto_region 20 with fail
  obtain ⟨q, hq⟩ : ∃ q, q = (254 :: le4 x) := ⟨_, rfl⟩
  have HQ := Aside0.mk hq
  have HW : Aside0 (Calls Tryd.prog f #[v, .slice (some ⟨gb, 0, none⟩) 5 8] (World.drew v2) fun e w' => e = .returned (.tuple #[.int .i64 5, .nilIface]) ∧ S.St w' (bs ++ q) ∧ Step S v2 w') := ⟨by
    subst hq
    have b0 := below_step HS2.out (show Below v2.heap.size v2 v2.drew from ⟨rfl, rfl, rfl, Nat.le_refl _, fun _ _ => rfl⟩)
    exact (S.writeC b0.1 (n := 5) (by rfl) HM.out (by decide) (readN (w := World.drew v2) HR2.out (by rw [HL2.out]; decide) (by decide) (by rw [HX.out]; exact take_put5 l 254 x HL0.out)) (fun _ a e hw => by obtain rfl := Option.some.inj e; exact HN2.out (b0.2.grow gb hw |>.elim id (fun h => absurd (blk_lt' HR2.out) (Nat.not_lt.2 h))))).mono fun e w' ⟨h1, h2, h3⟩ => ⟨h1, h2, b0.2.trans h3⟩⟩
  clear hq
  refine start_ (n := 12) (S := fun w' => True) (ds := []) #[false, false, false, false, false, false, false, false, false, false, false, false] (by kernel_rfl) rfl rfl trivial (fun hHeld => ?_)
  refine pure_ (i := 0) (N := some 97) (v := ?_) (a' := ?_) #[true, false, false, false, false, false, false, false, false, false, false, false] rfl rfl (by kernel_rfl) (fun _ _ _ h => h) (Or.inl ⟨by rfl, ?_⟩) ?_ ?_
  rotate_left
  · intro w'
    go_simp
    with_reducible rfl
  rotate_left
  · simp only [Act.put, List.setIfInBounds_toArray, List.set_cons_zero, List.set_cons_succ, i64_w, i32_w]
    rfl
  refine pure_ (i := 1) (N := some 98) (v := ?_) (a' := ?_) #[true, true, false, false, false, false, false, false, false, false, false, false] rfl rfl (by kernel_rfl) (fun _ _ _ h => h) (Or.inl ⟨by rfl, ?_⟩) ?_ ?_
  rotate_left
  · intro w'
    go_simp
    with_reducible rfl
  rotate_left
  · simp only [Act.put, List.setIfInBounds_toArray, List.set_cons_zero, List.set_cons_succ, i64_w, i32_w]
    rfl
  refine pure_ (i := 2) (N := some 99) (v := ?_) (a' := ?_) #[true, true, true, false, false, false, false, false, false, false, false, false] rfl rfl (by kernel_rfl) (fun _ _ _ h => h) (Or.inl ⟨by rfl, ?_⟩) ?_ ?_
  rotate_left
  · intro w'
    go_simp
    with_reducible rfl
  rotate_left
  · simp only [Act.put, List.setIfInBounds_toArray, List.set_cons_zero, List.set_cons_succ, i64_w, i32_w]
    rfl
  refine pure_ (i := 3) (N := some 100) (v := ?_) (a' := ?_) #[true, true, true, true, false, false, false, false, false, false, false, false] rfl rfl (by kernel_rfl) (fun _ _ _ h => h) (Or.inl ⟨by rfl, ?_⟩) ?_ ?_
  rotate_left
  · intro w'
    go_simp
    with_reducible rfl
  rotate_left
  · simp only [Act.put, List.setIfInBounds_toArray, List.set_cons_zero, List.set_cons_succ, i64_w, i32_w]
    rfl
  refine pure_ (i := 4) (N := some 101) (v := ?_) (a' := ?_) #[true, true, true, true, true, false, false, false, false, false, false, false] rfl rfl (by kernel_rfl) (fun _ _ _ h => h) (Or.inl ⟨by rfl, ?_⟩) ?_ ?_
  rotate_left
  · intro w'
    refine nil_run S.nil _ (.tmp 100) ?_ ?_ <;> rfl
  rotate_left
  · simp only [Act.put, List.setIfInBounds_toArray, List.set_cons_zero, List.set_cons_succ, i64_w, i32_w]
    rfl
  refine pure_ (i := 5) (N := some 102) (v := ?_) (a' := ?_) #[true, true, true, true, true, true, false, false, false, false, false, false] rfl rfl (by kernel_rfl) (fun _ _ _ h => h) (Or.inl ⟨by rfl, ?_⟩) ?_ ?_
  rotate_left
  · intro w'
    go_simp
    with_reducible rfl
  rotate_left
  · simp only [Act.put, List.setIfInBounds_toArray, List.set_cons_zero, List.set_cons_succ, i64_w, i32_w]
    rfl
  refine one_ (i := 6) (N := some 103) #[true, true, true, true, true, true, true, false, false, false, false, false] rfl rfl (by kernel_rfl) (by decide) (fun K hK => ?_)
  refine goesI_ (by rfl) rfl (.tmp 102) "Write" rfl T v rfl f S.meth HF.out HNM.out HBD.out #[v, .slice (some ⟨gb, 0, none⟩) 5 8] (by (try simp only [List.map_toArray, List.map_cons, List.map_nil]); first | done | rfl | (simp only [List.length_drop, List.length_take]; rfl)) ?_
  with_reducible refine HW.out.mono ?_
  rintro e v3 ⟨rfl, k1, k2⟩
  refine ⟨_, rfl, ?_⟩
  have HS3 := Aside0.mk k1
  have X := Aside0.mk k2
  clear k1 k2
  refine hK.out _ _ trivial (fun hHeld => ?_)
  clear hK K
  refine norm_ (a' := ?_) ?_ ?_
  rotate_left
  · show Act.put _ (some 103) _ = _
    simp only [Act.put, List.setIfInBounds_toArray, List.set_cons_zero, List.set_cons_succ, i64_w, i32_w]
    rfl
  refine pure_ (i := 7) (N := some 96) (v := ?_) (a' := ?_) #[true, true, true, true, true, true, true, true, false, false, false, false] rfl rfl (by kernel_rfl) (fun _ _ _ h => h) (Or.inl ⟨by rfl, ?_⟩) ?_ ?_
  rotate_left
  · intro w'
    go_simp
    with_reducible rfl
  rotate_left
  · simp only [Act.put, List.setIfInBounds_toArray, List.set_cons_zero, List.set_cons_succ, i64_w, i32_w]
    rfl
  refine pure_ (i := 8) (N := some 104) (v := ?_) (a' := ?_) #[true, true, true, true, true, true, true, true, true, false, false, false] rfl rfl (by kernel_rfl) (fun _ _ _ h => h) (Or.inl ⟨by rfl, ?_⟩) ?_ ?_
  rotate_left
  · intro w'
    go_simp
    with_reducible rfl
  rotate_left
  · simp only [Act.put, List.setIfInBounds_toArray, List.set_cons_zero, List.set_cons_succ, i64_w, i32_w]
    rfl
  refine pure_ (i := 9) (N := some 105) (v := ?_) (a' := ?_) #[true, true, true, true, true, true, true, true, true, true, false, false] rfl rfl (by kernel_rfl) (fun _ _ _ h => h) (Or.inl ⟨by rfl, ?_⟩) ?_ ?_
  rotate_left
  · intro w'
    go_simp
    with_reducible rfl
  rotate_left
  · simp only [Act.put, List.setIfInBounds_toArray, List.set_cons_zero, List.set_cons_succ, i64_w, i32_w]
    rfl
  refine pure_ (i := 10) (N := some 13) (v := ?_) (a' := ?_) #[true, true, true, true, true, true, true, true, true, true, true, false] rfl rfl (by kernel_rfl) (fun _ _ _ h => h) (Or.inl ⟨by rfl, ?_⟩) ?_ ?_
  rotate_left
  · intro w'
    go_simp
    with_reducible rfl
  rotate_left
  · simp only [Act.put, List.setIfInBounds_toArray, List.set_cons_zero, List.set_cons_succ, i64_w, i32_w]
    rfl
  refine pure_ (i := 11) (N := some 14) (v := ?_) (a' := ?_) #[true, true, true, true, true, true, true, true, true, true, true, true] rfl rfl (by kernel_rfl) (fun _ _ _ h => h) (Or.inl ⟨by rfl, ?_⟩) ?_ ?_
  rotate_left
  · intro w'
    go_simp
    with_reducible rfl
  rotate_left
  · simp only [Act.put, List.setIfInBounds_toArray, List.set_cons_zero, List.set_cons_succ, i64_w, i32_w]
    rfl
  refine done_ (by kernel_rfl) ?_
  go_wp2_with fail
  go_ret
  exact ⟨rfl, by have := HQ.out; subst this; exact HS3.out, HE2.out.trans X.out⟩
theorem varIntC {w0 : World} {T : TypeId} {v : Value} {f M : Nat} (S : Sink Tryd.prog w0 T v f M) {fn : Func} (hf : Tryd.prog.funcs[f]? = some fn) (hname : (fn.name == "runtime.NumGoroutine") = false) (hbd : fn.body.isSome = true) (gb : Nat) (pv x : Int) (h0 : 0 ≤ x) (hx : x ≤ 4294967295) (wE w : World) (bs l : List Int) (tb : TypeId)
    (hs : S.St w bs) (hE : Step S wE w) (hgE : wE.heap.size ≤ gb) (hg0 : w0.heap.size ≤ gb) (hno : ¬ S.own w gb) (hl : l.length = 8) (hrow : w.heap[gb]? = some (.cells (byteC l).toArray tb (0, 0))) (hM : bs.length + 5 ≤ M) :
    Calls Tryd.prog 69 #[.iface T v, .int .u32 pv, .int .u64 x, .slice (some ⟨gb, 0, none⟩) 8 8] w fun e w' => e = .returned .nilIface ∧ S.St w' (bs ++ viB x) ∧ Step S wE w' := by
  unfold viB
  split
  · exact varInt1C S hf hname hbd gb pv x h0 ‹_› wE w bs l tb hs hE hgE hg0 hno hl hrow (by omega)
  · split
    · exact varInt3C S hf hname hbd gb pv x ‹_› ‹_› wE w bs l tb hs hE hgE hg0 hno hl hrow (by omega)
    · exact varInt5C S hf hname hbd gb pv x ‹_› ‹_› hx wE w bs l tb hs hE hgE hg0 hno hl hrow (by omega)
end Go.Proofs.YtigpdgfhngknhaaDoor.Snk
/- A header is written, and its name. -/
namespace Go.Proofs.YtigpdgfhngknhaaDoor.Snk
open Go.RowKit Go.Proofs.YtigpdgfhngknhaaDoorW.PrintWords Go.Proofs.YtigpdgfhngknhaaDoorW.PrintLast Go.Proofs.YtigpdgfhngknhaaDoorW.PrintMore
set_option linter.unusedVariables false
set_option linter.unusedSimpArgs false
theorem mk8 (w : World) : (Instr.makeSlice 26 (.int .i64 8) (.int .i64 8)).run Tryd.prog w = .ok (.slice (some ⟨w.heap.size, 0, none⟩) 8 8) (w.alloc (.cells (byteC (List.replicate 8 0)).toArray 5)) := by kernel_rfl
set_option maxRecDepth 100000 in
theorem borrowC (w : World) : Calls Tryd.prog 42 #[.agg #[]] w fun e w' => ∃ gb, e = .returned (.slice (some ⟨gb, 0, none⟩) 8 8) ∧ w'.heap[gb]? = some (.cells (byteC (List.replicate 8 0)).toArray 5 (0, 0)) ∧ w.heap.size ≤ gb ∧ Below w.heap.size w w' := by
  go_enter Tryd.func42, Tryd.ntmps42
  go_upto_region 1 with fail
  generalize hw1 : World.alloc _ _ = w1
  have HB1 : Aside0 (Below w.heap.size w w1) := ⟨by rw [← hw1]; exact below_alloc (Below.refl _ _) _⟩
  clear hw1
  go_wp2_with ((with_reducible refine at_dst (N := 3) rfl ?_); refine wpList_run rfl _ (Sha.mk_op 26 (.const (.int .i64 8)) (.const (.int .i64 8)) rfl _ _ _ rfl rfl (mk8 w1)) ?_)
  go_ret
  exact ⟨_, rfl, heap_alloc_new w1 _, HB1.out.size, below_alloc HB1.out _⟩
set_option maxRecDepth 100000 in
theorem returnC (x : Value) (w : World) : Calls Tryd.prog 44 #[.agg #[], x] w fun e w' => e = .returned (.tuple #[]) ∧ Below w.heap.size w w' := by
  go_enter Tryd.func44, Tryd.ntmps44
  go_wp2_with fail
  go_end0
  exact ⟨rfl, below_alloc (Below.refl _ _) _⟩
set_option maxRecDepth 100000 in
set_option maxHeartbeats 2000000 in
theorem hdrC {w0 : World} {T : TypeId} {v : Value} {f M : Nat} (S : Sink Tryd.prog w0 T v f M) {fn : Func} (hf : Tryd.prog.funcs[f]? = some fn) (hname : (fn.name == "runtime.NumGoroutine") = false) (hbd : fn.body.isSome = true) (g : Nat) (h : HdV) (ho : h.ok) (hd : HdAt w0 g h) (w : World) (bs : List Int)
    (hs : S.St w bs) (hM : bs.length + 80 ≤ M) :
    Calls Tryd.prog 30 #[.iface T v, .int .u32 0, .pointer (some ⟨g, 0, none⟩)] w fun e w' => e = .returned .nilIface ∧ S.St w' (bs ++ h.bytes) ∧ Step S w w' := by
  have HH := Aside0.mk (fun gb wE w bs l tb h1 h2 h3 h4 h5 h6 h7 h8 => hdrBufC S hf hname hbd g gb h ho hd wE w bs l tb h1 h2 h3 h4 h5 h6 h7 h8)
  have HS := Aside0.mk hs
  have HM := Aside0.mk hM
  clear hf hname hbd ho hd hs hM
  go_enter Tryd.func30, Tryd.ntmps30
  go_upto_region 2 with (go_at_call 42; (with_reducible refine (borrowC w).mono ?_); rintro e w1 ⟨gb, rfl, k1, k2, k3⟩; have HR := Aside0.mk k1; have HG := Aside0.mk k2; have HB := Aside0.mk k3; clear k1 k2 k3)
  have HS1 := Aside0.mk (below_step HS.out HB.out)
  have HC := Aside0.mk (HH.out gb w w1 bs _ _ HS1.out.1 HS1.out.2 HG.out (Nat.le_trans (S.below HS.out).size HG.out) (fun hh => absurd (S.fresh HS.out (below_own HS.out HB.out gb hh)).2 (Nat.not_lt.2 HG.out)) rfl HR.out HM.out)
  go_upto_region 3 with (go_at_call 43; (with_reducible refine HC.out.mono ?_); rintro e w2 ⟨rfl, k1, k2⟩; have HS2 := Aside0.mk k1; have HE2 := Aside0.mk k2; clear k1 k2)
  go_wp2_with (go_at_call 44; (with_reducible refine (returnC _ w2).mono ?_); rintro e w3 ⟨rfl, k1⟩; have HB3 := Aside0.mk k1; clear k1)
  go_ret
  have h3 := below_step HS2.out HB3.out
  exact ⟨rfl, h3.1, HE2.out.trans h3.2⟩
theorem sha_only {w0 w w' : World} {g : Nat} {kl : List Int} {hk : Sha.KRow w0 kl} {hg : w0.heap.size ≤ g} (h : Step (Sha.shaSink w0 g kl hk hg) w w') : Only g w w' :=
  ⟨h.os, h.tape, h.output, h.size, fun k hk hn => h.block k hk hn⟩
set_option maxRecDepth 100000 in
set_option maxHeartbeats 2000000 in
/-- What BlockHash hands on: it writes the header. -/
theorem blockHash1C {w0 : World} {T : TypeId} {v : Value} {f M : Nat} (S : Sink Tryd.prog w0 T v f M) {fn : Func} (hf : Tryd.prog.funcs[f]? = some fn) (hname : (fn.name == "runtime.NumGoroutine") = false) (hbd : fn.body.isSome = true) (g gx : Nat) (h : HdV) (ho : h.ok) (hd : HdAt w0 g h) (hx : w0.cell? ⟨gx, 0, none⟩ = some (.pointer (some ⟨g, 0, none⟩))) (w : World) (bs : List Int)
    (hs : S.St w bs) (hM : bs.length + 80 ≤ M) :
    Calls Tryd.prog 35 #[.iface T v, .pointer (some ⟨gx, 0, none⟩)] w fun e w' => e = .returned .nilIface ∧ S.St w' (bs ++ h.bytes) ∧ Step S w w' := by
  have HC := Aside0.mk (hdrC S hf hname hbd g h ho hd w bs hs hM)
  have hx1 := pw_cell_below (S.below hs) hx
  clear hf hname hbd ho hd hx hs hM
  go_enter Tryd.func35, Tryd.ntmps35
  go_wp2_with (go_at_call 30; (with_reducible refine HC.out.mono ?_); rintro e w2 ⟨rfl, k1, k2⟩; have HS2 := Aside0.mk k1; have HE2 := Aside0.mk k2; clear k1 k2)
  go_ret
  exact ⟨rfl, HS2.out, HE2.out⟩
theorem HdV.bytes_len {h : HdV} (ho : h.ok) : h.bytes.length = 80 := by
  unfold HdV.bytes
  simp only [List.length_append, le4_len, ho.p, ho.r]
set_option maxRecDepth 100000 in
set_option maxHeartbeats 2000000 in
theorem blockHashC (g : Nat) (h : HdV) (ho : h.ok) (kl : List Int) (w : World) (hd : HdAt w g h) (hk : Sha.KRow w kl) :
    Calls Tryd.prog 22 #[.pointer (some ⟨g, 0, none⟩)] w fun e w' => e = .returned (.agg (byteC (Sha.shaD kl h.bytes)).toArray) ∧ Below w.heap.size w w' := by
  have HD := Aside0.mk hd
  have HK := Aside0.mk hk
  have HO := Aside0.mk ho
  have HL := Aside0.mk (Sha.shaD_len kl h.bytes)
  obtain ⟨hl, hhl⟩ : ∃ x, Sha.shaD kl h.bytes = x := ⟨_, rfl⟩
  rw [hhl] at HL ⊢
  have HHL := Aside0.mk hhl
  clear hd hk ho hhl
  go_enter Tryd.func22, Tryd.ntmps22
  go_upto_region 1 with fail
  generalize hw1 : World.alloc (World.alloc _ _) _ = w1
  have HB1 : Aside0 (Below w.heap.size w w1) := ⟨by rw [← hw1]; exact below_alloc (below_alloc (Below.refl _ _) _) _⟩
  have HX1 : Aside0 (w1.cell? ⟨w.heap.size, 0, none⟩ = some (.pointer (some ⟨g, 0, none⟩))) := ⟨by
    rw [← hw1]
    exact cell_of (heap_alloc_lt (heap_alloc_new w (.cells #[.pointer (some ⟨g, 0, none⟩)] _)) _) rfl⟩
  have HR1 : Aside0 (w1.heap[w.heap.size + 1]? = some (.cells (byteC (List.replicate 32 0)).toArray 49 (0, 0))) := ⟨by
    rw [← hw1]
    have hh := heap_alloc_new (w.alloc (.cells #[.pointer (some ⟨g, 0, none⟩)] 44)) (.cells (byteC (List.replicate 32 0)).toArray 49)
    rw [show (w.alloc (.cells #[.pointer (some ⟨g, 0, none⟩)] 44)).heap.size = w.heap.size + 1 by simp] at hh
    exact hh⟩
  clear hw1
  have HC : Aside0 (Calls Tryd.prog 34 #[.func (.func 35) #[] #[.pointer (some ⟨w.heap.size, 0, none⟩)]] w1 fun e w' => e = .returned (.agg (byteC hl).toArray) ∧ Below w1.heap.size w1 w') := ⟨by
    rw [← HHL.out]
    refine Sha.rawC 35 _ Tryd.func35 rfl rfl #[] #[.pointer (some ⟨w.heap.size, 0, none⟩)] kl h.bytes w1 (by rw [HdV.bytes_len HO.out]; decide) (HK.out.below HB1.out) ?_
    intro g2 w2 hb hg2 hd2 hk2
    have hh := blockHash1C (Sha.shaSink w1 g2 kl (HK.out.below HB1.out) hg2) Tryd.func105 rfl rfl g w.heap.size h HO.out (HD.out.below HB1.out) HX1.out w2 [] ⟨hb, hd2⟩ (by decide)
    exact hh.mono fun e w' ⟨h1, h2, h3⟩ => ⟨⟨_, h1⟩, by simpa using h2.2, sha_only h3⟩⟩
  go_wp2_with (first
    | (go_at_call 34; (with_reducible refine HC.out.mono ?_); rintro e w2 ⟨rfl, k1⟩; have HB2 := Aside0.mk k1; clear k1; have HR4 := Aside0.mk ((HB2.out.block _ (blk_lt' HR1.out)).trans HR1.out))
    | (refine wpList_store_row rfl 49 (.tmp 2) (.tmp 4) rfl (w.heap.size + 1) (byteC hl).toArray rfl rfl 49 _ HR4.out (Sha.hash_info _ HL.out) (Sha.row_size _ HL.out) (Sha.byteC_one _) ?_))
  refine bodyPost_ret_by (results_cell_row rfl _ _ (w.heap.size + 1) 49 _ (0, 0) _ (by rfl) (setRow_heap _ _ _ _ _ _ HR4.out) Tryd.underlying49 rfl (Sha.hash_info _ HL.out)) rfl ⟨rfl, Sha.below_setRow _ (Sha.below_tr HB1.out HB2.out) (Nat.le_succ _)⟩
end Go.Proofs.YtigpdgfhngknhaaDoor.Snk
/- Bytes are written, their number ahead. -/
namespace Go.Proofs.YtigpdgfhngknhaaDoor.Snk
open Go.RowKit Go.Proofs.YtigpdgfhngknhaaDoorW.PrintWords Go.Proofs.YtigpdgfhngknhaaDoorW.PrintLast Go.Proofs.YtigpdgfhngknhaaDoorW.PrintMore
set_option linter.unusedVariables false
set_option linter.unusedSimpArgs false
theorem read_lt {w : World} {A : Option Addr} {n : Nat} {p : List Int} (h : ReadsInt w .u8 A n p) (hn : 0 < n) (a : Addr) (ha : A = some a) : a.block < w.heap.size := by
  obtain ⟨ad, h1, h2⟩ := h.2.2 hn
  obtain rfl := Option.some.inj (ha.symm.trans h1)
  exact World.block_lt_of_cell? w _ (h2 0 hn)
set_option maxRecDepth 100000 in
set_option maxHeartbeats 4000000 in
theorem varBytesBufC {w0 : World} {T : TypeId} {v : Value} {f M : Nat} (S : Sink Tryd.prog w0 T v f M) {fn : Func} (hf : Tryd.prog.funcs[f]? = some fn) (hname : (fn.name == "runtime.NumGoroutine") = false) (hbd : fn.body.isSome = true) (gb : Nat) (pv : Int) (A : Option Addr) (n c : Nat) (p : List Int) (hr : ReadsInt w0 .u8 A n p) (hc : n ≤ c) (hn : n ≤ 4294967295) (wE w : World) (bs l : List Int) (tb : TypeId)
    (hs : S.St w bs) (hE : Step S wE w) (hgE : wE.heap.size ≤ gb) (hg0 : w0.heap.size ≤ gb) (hno : ¬ S.own w gb) (hl : l.length = 8) (hrow : w.heap[gb]? = some (.cells (byteC l).toArray tb (0, 0))) (hM : bs.length + (5 + n) ≤ M) :
    Calls Tryd.prog 60 #[.iface T v, .int .u32 pv, .slice A n c, .slice (some ⟨gb, 0, none⟩) 8 8] w fun e w' => e = .returned .nilIface ∧ S.St w' (bs ++ (viB n ++ p)) ∧ Step S wE w' := by
  have HV := Aside0.mk (varIntC S hf hname hbd gb pv (n : Int) (by omega) (by omega) wE w bs l tb hs hE hgE hg0 hno hl hrow (by omega))
  have HF := Aside0.mk hf
  have HNM := Aside0.mk hname
  have HBD := Aside0.mk hbd
  have HW : Aside0 (∀ w1 b1, S.St w1 b1 → b1.length ≤ bs.length + 5 → Calls Tryd.prog f #[v, .slice A n c] w1 fun e w' => e = .returned (.tuple #[.int .i64 (n : Int), .nilIface]) ∧ S.St w' (b1 ++ p) ∧ Step S w1 w') := ⟨fun w1 b1 h1 h2 => S.writeC h1 hr.1 (by omega) hc (hr.below (S.below h1)) (fun h0 a ha ho => absurd (S.fresh h1 ho).1 (Nat.not_le.2 (read_lt hr h0 a ha)))⟩
  have HLV : Aside0 ((bs ++ viB n).length ≤ bs.length + 5) := ⟨by rw [List.length_append]; have := viB_len (n : Int); omega⟩
  have hu : IntKind.u64.wrap (n : Int) = (n : Int) := by show (n : Int) % 18446744073709551616 = _; omega
  obtain ⟨q, hq⟩ : ∃ q, q = bs ++ viB n := ⟨_, rfl⟩
  have HQ := Aside0.mk hq
  rw [← hq] at HV HLV
  clear hf hname hbd hr hc hn hs hE hgE hg0 hno hl hrow hM hq
  go_enter Tryd.func60, Tryd.ntmps60
  go_upto_region 3 with (go_at_call 69; (with_reducible refine HV.out.mono ?_); rintro e w1 ⟨rfl, k1, k2⟩; have HS1 := Aside0.mk k1; have HE1 := Aside0.mk k2; clear k1 k2)
  have HC := Aside0.mk (HW.out w1 q HS1.out HLV.out)
  go_wp2_with (refine invL_ (some 25) rfl rfl (.tmp 23) "Write" rfl T v rfl f S.meth HF.out HNM.out HBD.out #[v, .slice A n c] (by simp only [List.map_toArray, List.map_cons, List.map_nil]; rfl) ?_; (with_reducible refine HC.out.mono ?_); rintro e w2 ⟨rfl, k1, k2⟩; refine ⟨_, rfl, ?_⟩; have HS2 := Aside0.mk k1; have HE2 := Aside0.mk k2; clear k1 k2)
  go_ret
  refine ⟨rfl, ?_, HE1.out.trans HE2.out⟩
  have h := HS2.out
  rw [HQ.out, List.append_assoc] at h
  exact h
set_option maxRecDepth 100000 in
theorem returnD (x : Value) (u : FrameMode) (w : World) : CallsD Tryd.prog 44 #[.agg #[], x] u w fun e u' w' => u' = u ∧ (e = .returned (.tuple #[]) ∧ Below w.heap.size w w') := by
  go_enter_d Tryd.func44, Tryd.ntmps44
  go_wp2_with fail
  go_end0
  exact ⟨rfl, below_alloc (Below.refl _ _) _⟩
set_option maxRecDepth 100000 in
set_option maxHeartbeats 2000000 in
theorem varBytesC {w0 : World} {T : TypeId} {v : Value} {f M : Nat} (S : Sink Tryd.prog w0 T v f M) {fn : Func} (hf : Tryd.prog.funcs[f]? = some fn) (hname : (fn.name == "runtime.NumGoroutine") = false) (hbd : fn.body.isSome = true) (pv : Int) (A : Option Addr) (n c : Nat) (p : List Int) (hr : ReadsInt w0 .u8 A n p) (hc : n ≤ c) (hn : n ≤ 4294967295) (w : World) (bs : List Int)
    (hs : S.St w bs) (hM : bs.length + (5 + n) ≤ M) :
    Calls Tryd.prog 50 #[.iface T v, .int .u32 pv, .slice A n c] w fun e w' => e = .returned .nilIface ∧ S.St w' (bs ++ (viB n ++ p)) ∧ Step S w w' := by
  have HH := Aside0.mk (fun gb wE w bs l tb h1 h2 h3 h4 h5 h6 h7 h8 => varBytesBufC S hf hname hbd gb pv A n c p hr hc hn wE w bs l tb h1 h2 h3 h4 h5 h6 h7 h8)
  have HS := Aside0.mk hs
  have HM := Aside0.mk hM
  clear hf hname hbd hr hc hn hs hM
  go_enter_defers Tryd.func50, Tryd.ntmps50
  go_upto_region 2 with (go_at_call 42; (with_reducible refine (borrowC w).mono ?_); rintro e w1 ⟨gb, rfl, k1, k2, k3⟩; have HR := Aside0.mk k1; have HG := Aside0.mk k2; have HB := Aside0.mk k3; clear k1 k2 k3)
  have HS1 := Aside0.mk (below_step HS.out HB.out)
  have HC := Aside0.mk (HH.out gb w w1 bs _ _ HS1.out.1 HS1.out.2 HG.out (Nat.le_trans (S.below HS.out).size HG.out) (fun hh => absurd (S.fresh HS.out (below_own HS.out HB.out gb hh)).2 (Nat.not_lt.2 HG.out)) rfl HR.out HM.out)
  go_upto_region 4 with (go_at_call 60; (with_reducible refine HC.out.mono ?_); rintro e w2 ⟨rfl, k1, k2⟩; have HS2 := Aside0.mk k1; have HE2 := Aside0.mk k2; clear k1 k2)
  go_wp2_with fail
  refine leaves_cons (f := 44) (args := #[.agg #[], .slice (some ⟨gb, 0, none⟩) 8 8]) (by simp) (by simp [go_sem]) ?_
  refine (returnD _ .returning _).mono ?_
  rintro e u' w3 ⟨rfl, rfl, k1⟩
  have h3 := below_step HS2.out k1
  exact ⟨_, results_tmp rfl _ _ _, rfl, h3.1, HE2.out.trans h3.2⟩
end Go.Proofs.YtigpdgfhngknhaaDoor.Snk
/-
  DERIVED: THE SHELF's CONTRACTS AT THIS DUMP, IN PLAIN WORDS (tools/lay-plain.mjs out of 'YtigpdgfhngknhaaDoorLay.lean', which tools/lay-shelf.mjs wrote): THE SAME DECLARATIONS UNDER THE SAME NAMES: 'import', 'namespace', 'open', 'def', 'theorem' AND NOTHING ELSE: no command of the shelf's: FOR A HAND-IN. Each laying: the table of numbers ('.._ren') and one theorem, a field a fact of the dump's own or the kernel's comparison; each contract: ONE APPLICATION.
-/
namespace Go.Proofs
open Go.Shelf
def Tryd.laysM252_ren : Go.Shelf.Ren := ⟨fun | 252 => 59 | 181 => 66 | 184 => 67 | 251 => 58 | 290 => 68 | 324 => 71 | n => n, fun | 130 => 47 | 3 => 3 | 4 => 4 | 0 => 0 | 93 => 41 | 131 => 109 | 37 => 26 | 75 => 43 | 91 => 39 | 20 => 20 | 5 => 5 | 80 => 135 | 9 => 9 | n => n, fun | 14 => 1 | n => n⟩
theorem Tryd.laysM252 : Go.Proofs.LaysM.n252 Tryd.prog Tryd.laysM252_ren := {
  mixed := by kernel_rfl
  f181 := Tryd.func66.trans (congrArg some (by kernel_rfl))
  f184 := Tryd.func67.trans (congrArg some (by kernel_rfl))
  f251 := Tryd.func58.trans (congrArg some (by kernel_rfl))
  f252 := Tryd.func59.trans (congrArg some (by kernel_rfl))
  f290 := Tryd.func68.trans (congrArg some (by kernel_rfl))
  f324 := Tryd.func71.trans (congrArg some (by kernel_rfl))
  t0 := Tryd.underlying0
  a0 := Tryd.isAgg0
  z0 := Tryd.sizeOf0
  v0 := Tryd.zeroValue0
  t3 := Tryd.underlying3
  a3 := Tryd.isAgg3
  z3 := Tryd.sizeOf3
  v3 := Tryd.zeroValue3
  t4 := Tryd.underlying4
  a4 := Tryd.isAgg4
  z4 := Tryd.sizeOf4
  v4 := Tryd.zeroValue4
  t20 := Tryd.underlying20
  a20 := Tryd.isAgg20
  z20 := Tryd.sizeOf20
  v20 := Tryd.zeroValue20
  t37 := Tryd.underlying26
  a37 := Tryd.isAgg26
  z37 := Tryd.sizeOf26
  v37 := Tryd.zeroValue26
  t75 := Tryd.underlying43
  a75 := Tryd.isAgg43
  z75 := Tryd.sizeOf43
  v75 := Tryd.zeroValue43
  t91 := Tryd.underlying39
  a91 := Tryd.isAgg39
  z91 := Tryd.sizeOf39
  v91 := Tryd.zeroValue39
  t93 := Tryd.underlying41
  a93 := Tryd.isAgg41
  z93 := Tryd.sizeOf41
  v93 := Tryd.zeroValue41
  t130 := Tryd.underlying47
  a130 := Tryd.isAgg47
  z130 := Tryd.sizeOf47
  v130 := Tryd.zeroValue47
  t131 := Tryd.underlying109
  a131 := Tryd.isAgg109
  z131 := Tryd.sizeOf109
  v131 := Tryd.zeroValue109
  g14 := by kernel_rfl
  t5 := Tryd.underlying5
  a5 := Tryd.isAgg5
  z5 := Tryd.sizeOf5
  v5 := Tryd.zeroValue5
  t9 := Tryd.underlying9
  a9 := Tryd.isAgg9
  z9 := Tryd.sizeOf9
  v9 := Tryd.zeroValue9
  t80 := Tryd.underlying135
  a80 := Tryd.isAgg135
  z80 := Tryd.sizeOf135
  v80 := Tryd.zeroValue135
  i0 := by kernel_rfl
  i3 := by kernel_rfl
  i4 := by kernel_rfl
  i5 := by kernel_rfl
  i9 := by kernel_rfl
  i20 := by kernel_rfl
  i37 := by kernel_rfl
  i75 := by kernel_rfl
  i80 := by kernel_rfl
  i91 := by kernel_rfl
  i93 := by kernel_rfl
  i130 := by kernel_rfl
  i131 := by kernel_rfl
  m14 := by kernel_rfl }
end Go.Proofs
/- bytes.Buffer: room is made. -/
namespace Go.Proofs.YtigpdgfhngknhaaDoor.Snk
open Go.RowKit Go.Proofs.YtigpdgfhngknhaaDoorW.PrintWords Go.Proofs.YtigpdgfhngknhaaDoorW.PrintLast Go.Proofs.YtigpdgfhngknhaaDoorW.PrintMore
set_option linter.unusedVariables false
set_option linter.unusedSimpArgs false
/-- A buffer's three cells. -/
def BfC (w : World) (b : Nat) (v : Value) (lr : Int) : Prop := w.heap[b]? = some (.cells #[v, .int .i64 0, .int .i8 lr] 41 (0, 0))
theorem BfC.c0 {w : World} {b : Nat} {v : Value} {lr : Int} (h : BfC w b v lr) : w.cell? ⟨b, 0, none⟩ = some v := cell_of h rfl
theorem BfC.c1 {w : World} {b : Nat} {v : Value} {lr : Int} (h : BfC w b v lr) : w.cell? ⟨b, 1, none⟩ = some (.int .i64 0) := cell_of h rfl
theorem BfC.c2 {w : World} {b : Nat} {v : Value} {lr : Int} (h : BfC w b v lr) : w.cell? ⟨b, 2, none⟩ = some (.int .i8 lr) := cell_of h rfl
theorem BfC.f {w : World} {b : Nat} {v : Value} {lr : Int} (h : BfC w b v lr) (j : Nat) : w.frozen? ⟨b, j, none⟩ = false := frozen_of h j
theorem BfC.set0 {w : World} {b : Nat} {v : Value} {lr : Int} (h : BfC w b v lr) (u : Value) : BfC (w.setCell ⟨b, 0, none⟩ u) b u lr := heap_set_same h (j := 0) u
theorem BfC.set1 {w : World} {b : Nat} {v : Value} {lr : Int} (h : BfC w b v lr) : BfC (w.setCell ⟨b, 1, none⟩ (.int .i64 0)) b v lr := heap_set_same h (j := 1) _
theorem BfC.set2 {w : World} {b : Nat} {v : Value} {lr : Int} (h : BfC w b v lr) (x : Int) : BfC (w.setCell ⟨b, 2, none⟩ (.int .i8 x)) b v x := heap_set_same h (j := 2) _
theorem BfC.below {w w1 : World} {b : Nat} {v : Value} {lr : Int} (h : BfC w b v lr) (hb : Below w.heap.size w w1) : BfC w1 b v lr := (hb.block b (blk_lt' h)).trans h
theorem tryRoom (b : Nat) (ao : Option Addr) (l cap n : Nat) (lr : Int) (w : World) (h : BfC w b (.slice ao l cap) lr) (hlc : l ≤ cap) (hcap : cap ≤ maxLen) (hn : n ≤ cap - l) :
    Calls Tryd.prog 58 #[.pointer (some ⟨b, 0, none⟩), .int .i64 n] w fun e w' => e = .returned (.tuple #[.int .i64 l, .bool true]) ∧ w' = w.setCell ⟨b, 0, none⟩ (.slice ao (l + n) cap) :=
  Any.Buffer_tryGrow_room { Tryd.laysM252 with } b ao l cap n w h.c0 (h.f 0) hlc hcap hn
theorem tryNone (b : Nat) (ao : Option Addr) (l cap n : Nat) (lr : Int) (w : World) (h : BfC w b (.slice ao l cap) lr) (hlc : l ≤ cap) (hcap : cap ≤ maxLen) (hn : cap - l < n) :
    Calls Tryd.prog 58 #[.pointer (some ⟨b, 0, none⟩), .int .i64 n] w fun e w' => e = .returned (.tuple #[.int .i64 0, .bool false]) ∧ w' = w :=
  Any.Buffer_tryGrow_none { Tryd.laysM252 with } b ao l cap n w h.c0 hlc hcap hn
theorem growRow (g l c n : Nat) (cur : Array Value) (w : World) (hg : w.heap[g]? = some (.cells cur 5 (0, 0))) (hcs : cur.size = c) (hlc : l ≤ c) (hn : 1 ≤ n) (hlim : l + n ≤ 140737488355328) (hc2 : c ≤ 140737488355328) (h1 : ∀ v ∈ cur.toList.take l, v.oneCell' = true) :
    Calls Tryd.prog 68 #[.slice (some ⟨g, 0, none⟩) l c, .int .i64 n] w fun e w' => ∃ cap2 cells, e = .returned (.slice (some ⟨w.heap.size, 0, none⟩) l cap2) ∧ w'.heap[w.heap.size]? = some (.cells cells 5 (0, 0)) ∧ cells.size = cap2 ∧ cells.toList.take l = cur.toList.take l ∧ l + n ≤ cap2 ∧ cap2 ≤ maxLen ∧ Below w.heap.size w w' :=
  Any.bytes_growSlice_row { Tryd.laysM252 with } g l c n cur w hg hcs hlc hn hlim hc2 h1
theorem growNil (n : Nat) (w : World) (hn : 1 ≤ n) (hlim : n ≤ 140737488355328) :
    Calls Tryd.prog 68 #[.slice none 0 0, .int .i64 n] w fun e w' => ∃ cap2 cells, e = .returned (.slice (some ⟨w.heap.size, 0, none⟩) 0 cap2) ∧ w'.heap[w.heap.size]? = some (.cells cells 5 (0, 0)) ∧ cells.size = cap2 ∧ n ≤ cap2 ∧ cap2 ≤ maxLen ∧ Below w.heap.size w w' :=
  Any.bytes_growSlice_nil { Tryd.laysM252 with } n w hn hlim
set_option maxRecDepth 100000 in
theorem lenC (b : Nat) (ao : Option Addr) (l cap : Nat) (lr : Int) (w : World) (h : BfC w b (.slice ao l cap) lr) (hl : l ≤ 9223372036854775807) : Calls Tryd.prog 66 #[.pointer (some ⟨b, 0, none⟩)] w fun e w' => e = .returned (.int .i64 l) ∧ Below w.heap.size w w' ∧ BfC w' b (.slice ao l cap) lr := by
  have H := Aside0.mk h
  have hw : wrap64 (l : Int) = l := by unfold wrap64; omega
  have HW := Aside0.mk hw
  have z0 := h.c0
  have z1 := h.c1
  have hl2 : (l : Int) ≤ 9223372036854775807 := by omega
  clear h hl hw
  go_enter Tryd.func66, Tryd.ntmps66
  go_upto_region 1 with fail
  refine start_ (n := 11) (S := fun w' => w'.cell? ⟨b, 0, none⟩ = some (.slice ao l cap) ∧ w'.cell? ⟨b, 1, none⟩ = some (.int .i64 0)) (ds := []) #[false, false, false, false, false, false, false, false, false, false, false] (by kernel_rfl) rfl rfl ⟨H.out.c0, H.out.c1⟩ (fun hHeld => ?_)
  refine pure_ (i := 0) (N := some 3) (v := ?_) (a' := ?_) #[true, false, false, false, false, false, false, false, false, false, false] rfl rfl (by kernel_rfl) (fun _ _ _ h => h) (Or.inl ⟨by rfl, ?_⟩) ?_ ?_
  rotate_left
  · intro w'
    go_simp
    with_reducible rfl
  rotate_left
  · simp only [Act.put, List.setIfInBounds_toArray, List.set_cons_zero, List.set_cons_succ, i64_w, i32_w]
    rfl
  refine pure_ (i := 1) (N := some 4) (v := ?_) (a' := ?_) #[true, true, false, false, false, false, false, false, false, false, false] rfl rfl (by kernel_rfl) (fun _ _ _ h => h) (Or.inl ⟨by rfl, ?_⟩) ?_ ?_
  rotate_left
  · intro w'
    go_simp
    with_reducible rfl
  rotate_left
  · simp only [Act.put, List.setIfInBounds_toArray, List.set_cons_zero, List.set_cons_succ, i64_w, i32_w]
    rfl
  refine pure_ (i := 2) (N := some 5) (v := ?_) (a' := ?_) #[true, true, true, false, false, false, false, false, false, false, false] rfl rfl (by kernel_rfl) (fun _ _ _ h => h) (Or.inl ⟨by rfl, ?_⟩) ?_ ?_
  rotate_left
  · intro w'
    go_simp
    with_reducible rfl
  rotate_left
  · simp only [Act.put, List.setIfInBounds_toArray, List.set_cons_zero, List.set_cons_succ, i64_w, i32_w]
    rfl
  refine take_ (i := 3) (N := some 6) (v := ?_) (a' := ?_) #[true, true, true, true, false, false, false, false, false, false, false] rfl rfl (by kernel_rfl) (fun _ _ _ h => h) (Or.inl ⟨by rfl, ?_⟩) hHeld ?_ ?_
  rotate_left
  · rintro w' ⟨s0, s1⟩
    go_simp
    with_reducible rfl
  rotate_left
  · simp only [Act.put, List.setIfInBounds_toArray, List.set_cons_zero, List.set_cons_succ, i64_w, i32_w]
    rfl
  refine pure_ (i := 4) (N := some 7) (v := ?_) (a' := ?_) #[true, true, true, true, true, false, false, false, false, false, false] rfl rfl (by kernel_rfl) (fun _ _ _ h => h) (Or.inl ⟨by rfl, ?_⟩) ?_ ?_
  rotate_left
  · intro w'
    go_simp
    with_reducible rfl
  rotate_left
  · simp only [Act.put, List.setIfInBounds_toArray, List.set_cons_zero, List.set_cons_succ, i64_w, i32_w]
    rfl
  refine pure_ (i := 5) (N := some 8) (v := ?_) (a' := ?_) #[true, true, true, true, true, true, false, false, false, false, false] rfl rfl (by kernel_rfl) (fun _ _ _ h => h) (Or.inl ⟨by rfl, ?_⟩) ?_ ?_
  rotate_left
  · intro w'
    go_simp
    with_reducible rfl
  rotate_left
  · simp only [Act.put, List.setIfInBounds_toArray, List.set_cons_zero, List.set_cons_succ, i64_w, i32_w]
    rfl
  refine pure_ (i := 6) (N := some 9) (v := ?_) (a' := ?_) #[true, true, true, true, true, true, true, false, false, false, false] rfl rfl (by kernel_rfl) (fun _ _ _ h => h) (Or.inl ⟨by rfl, ?_⟩) ?_ ?_
  rotate_left
  · intro w'
    go_simp
    with_reducible rfl
  rotate_left
  · simp only [Act.put, List.setIfInBounds_toArray, List.set_cons_zero, List.set_cons_succ, i64_w, i32_w]
    rfl
  refine pure_ (i := 7) (N := some 10) (v := ?_) (a' := ?_) #[true, true, true, true, true, true, true, true, false, false, false] rfl rfl (by kernel_rfl) (fun _ _ _ h => h) (Or.inl ⟨by rfl, ?_⟩) ?_ ?_
  rotate_left
  · intro w'
    go_simp
    with_reducible rfl
  rotate_left
  · simp only [Act.put, List.setIfInBounds_toArray, List.set_cons_zero, List.set_cons_succ, i64_w, i32_w]
    rfl
  refine take_ (i := 8) (N := some 11) (v := ?_) (a' := ?_) #[true, true, true, true, true, true, true, true, true, false, false] rfl rfl (by kernel_rfl) (fun _ _ _ h => h) (Or.inl ⟨by rfl, ?_⟩) hHeld ?_ ?_
  rotate_left
  · rintro w' ⟨s0, s1⟩
    go_simp
    with_reducible rfl
  rotate_left
  · simp only [Act.put, List.setIfInBounds_toArray, List.set_cons_zero, List.set_cons_succ, i64_w, i32_w]
    rfl
  refine pure_ (i := 9) (N := some 12) (v := ?_) (a' := ?_) #[true, true, true, true, true, true, true, true, true, true, false] rfl rfl (by kernel_rfl) (fun _ _ _ h => h) (Or.inl ⟨by rfl, ?_⟩) ?_ ?_
  rotate_left
  · intro w'
    go_simp
    with_reducible rfl
  rotate_left
  · simp only [Act.put, List.setIfInBounds_toArray, List.set_cons_zero, List.set_cons_succ, i64_w, i32_w]
    rfl
  refine pure_ (i := 10) (N := some 2) (v := ?_) (a' := ?_) #[true, true, true, true, true, true, true, true, true, true, true] rfl rfl (by kernel_rfl) (fun _ _ _ h => h) (Or.inl ⟨by rfl, ?_⟩) ?_ ?_
  rotate_left
  · intro w'
    go_simp
    with_reducible rfl
  rotate_left
  · simp only [Act.put, List.setIfInBounds_toArray, List.set_cons_zero, List.set_cons_succ, i64_w, i32_w]
    rfl
  refine done_ (by kernel_rfl) ?_
  go_wp2_with fail
  go_ret
  exact ⟨congrArg (fun x => Ending.returned (Value.int .i64 x)) HW.out, ⟨rfl, rfl, rfl, Nat.le_refl _, fun _ _ => rfl⟩, H.out⟩
theorem mk_bytes (n c : Nat) (hn : n ≤ c) (hc : c ≤ 1000000) (w : World) : (Instr.makeSlice 26 (.int .i64 (n : Int)) (.int .i64 (c : Int))).run Tryd.prog w = .ok (.slice (some ⟨w.heap.size, 0, none⟩) n c) (w.alloc (.cells (madeCells #[.int .u8 0] c) 5)) := by
  obtain ⟨i, z, hi, hi1, hi2, hi3, hi4⟩ : ∃ i z, Tryd.prog.info? 5 = some i ∧ i.size = 1 ∧ i.zero = some z ∧ i.bytes = 1 ∧ z.cells = #[.int .u8 0] := by
    have h : (match Tryd.prog.info? 5 with | some i => i.size == 1 && (i.bytes == 1 && (match i.zero with | some (.int .u8 0) => true | _ => false)) | none => false) = true := by kernel_rfl
    split at h
    · rename_i i hi
      simp only [Bool.and_eq_true, beq_iff_eq] at h
      obtain ⟨h1, h2, h3⟩ := h
      split at h3
      · rename_i hz
        exact ⟨i, _, hi, h1, hz, h2, rfl⟩
      · cases h3
    · cases h
  have h := run_make (P := Tryd.prog) w 26 5 i _ Tryd.underlying26 hi hi2 .i64 .i64 (n : Int) (c : Int) (by omega) (by omega) (by rw [hi3]; omega) (by omega)
  rw [hi1, hi4] at h
  simpa only [Int.toNat_natCast, Nat.mul_one] using h
/-- The buffer has grown: its row is a new one. -/
def Grown (b l n : Nat) (old : List Value) (lr : Int) (w w' : World) : Prop := ∃ r cap cells, w.heap.size ≤ r ∧ BfC w' b (.slice (some ⟨r, 0, none⟩) (l + n) cap) lr ∧ w'.heap[r]? = some (.cells cells 5 (0, 0)) ∧ cells.size = cap ∧ cells.toList.take l = old ∧ l + n ≤ cap ∧ cap ≤ maxLen ∧ Only b w w'
theorem grown_of {b l n r cap : Nat} {cells : Array Value} {old : List Value} {lr : Int} {w w3 w' : World} (hb : b < w.heap.size) (hr : w.heap.size ≤ r) (hrow : w3.heap[r]? = some (.cells cells 5 (0, 0))) (hO : Only b w w3) (hO2 : Only b w3 w') (hB : BfC w' b (.slice (some ⟨r, 0, none⟩) (l + n) cap) lr) (hs : cells.size = cap) (ho : cells.toList.take l = old) (h1 : l + n ≤ cap) (h2 : cap ≤ maxLen) : Grown b l n old lr w w' :=
  ⟨r, cap, cells, hr, hB, (hO2.block r (blk_lt' hrow) (by omega)).trans hrow, hs, ho, h1, h2, hO.trans hO2⟩
set_option maxRecDepth 100000 in
set_option maxHeartbeats 4000000 in
theorem growN (b n : Nat) (lr : Int) (w : World) (h : BfC w b (.slice none 0 0) lr) (hn : 1 ≤ n) (hn2 : n ≤ 64) :
    Calls Tryd.prog 59 #[.pointer (some ⟨b, 0, none⟩), .int .i64 n] w fun e w' => e = .returned (.int .i64 (0 : Nat)) ∧ Grown b 0 n [] lr w w' := by
  have HL := Aside0.mk (lenC b none 0 0 lr w h (by omega))
  have HX : Aside0 (0 ≤ 0 ∧ 0 ≤ maxLen ∧ 0 - 0 < n) := ⟨by omega, by simp [maxLen], by omega⟩
  have HN := Aside0.mk hn
  have HN2 := Aside0.mk hn2
  have H := Aside0.mk h
  have hi64 : (n : Int) ≤ 64 := by omega
  have h8 : ∀ w, (Instr.makeSlice 26 (.int .i64 (n : Int)) (.int .i64 64)).run Tryd.prog w = .ok (.slice (some ⟨w.heap.size, 0, none⟩) n 64) (w.alloc (.cells (madeCells #[.int .u8 0] 64) 5)) := fun w => mk_bytes n 64 (by omega) (by omega) w
  have h7 : ∀ w : World, (binOp .eql 26 (.slice none 0 0) (.slice none 0 0)).run Tryd.prog w = .ok (.bool true) w := fun w => Lib.run_eql_slice_nil_nil w 0 0 Tryd.underlying26
  clear h hn hn2
  go_enter Tryd.func59, Tryd.ntmps59
  go_upto_region 2 with (go_at_call 66; (with_reducible refine (HL.out).mono ?_); rintro e w1 ⟨rfl, hb1, h1⟩; have H1 := Aside0.mk h1; have HB1 := Aside0.mk hb1; clear hb1 h1)
  have c0 := H1.out.c0
  have c1 := H1.out.c1
  go_upto_region 5 with (go_at_call 58; (with_reducible refine (tryNone b none 0 0 n lr w1 H1.out HX.out.1 HX.out.2.1 HX.out.2.2).mono ?_); rintro e w2 ⟨rfl, rfl⟩)
  go_upto_region 8 with fail
  have HA : BfC (w2.alloc (.cells (madeCells #[.int .u8 0] 64) 5)) b (.slice none 0 0) lr := H1.out.below (below_alloc (Below.refl _ _) _)
  have cA := HA.c0
  have fA := HA.f 0
  go_wp2_with fail
  go_ret
  exact ⟨rfl, grown_of (blk_lt' H.out) (HB1.out.size) (heap_alloc_new w2 _) (Only.of_below (below_alloc HB1.out _)) ((Only.refl _ _).set _ _) (by rw [Nat.zero_add]; exact HA.set0 _) (size_madeCells _ _) rfl (by omega) (by simp [maxLen])⟩
set_option maxRecDepth 100000 in
set_option maxHeartbeats 8000000 in
theorem growB (b n : Nat) (lr : Int) (w : World) (h : BfC w b (.slice none 0 0) lr) (hn : 64 < n) (hlim : n ≤ 140737488355328) :
    Calls Tryd.prog 59 #[.pointer (some ⟨b, 0, none⟩), .int .i64 n] w fun e w' => e = .returned (.int .i64 (0 : Nat)) ∧ Grown b 0 n [] lr w w' := by
  have hlc : 0 ≤ 0 := Nat.zero_le _
  have hnl : 0 - 0 < n := by omega
  have HW : Aside0 (IntKind.i64.wrap (n : Int) = n) := ⟨by rw [i64_w]; unfold wrap64; omega⟩
  have HGS : Aside0 (∀ w2 : World, Below w.heap.size w w2 → Calls Tryd.prog 68 #[.slice none 0 0, .int .i64 n] w2 fun e w3 => ∃ cap2 cells, e = .returned (.slice (some ⟨w2.heap.size, 0, none⟩) 0 cap2) ∧ w3.heap[w2.heap.size]? = some (.cells cells 5 (0, 0)) ∧ cells.size = cap2 ∧ cells.toList.take 0 = [] ∧ 0 + n ≤ cap2 ∧ cap2 ≤ maxLen ∧ Below w2.heap.size w2 w3) := ⟨fun w2 hb2 => by
    refine (growNil n w2 (by omega) (by omega)).mono ?_
    rintro e w3 ⟨cap2, cells, h1, h2, h3, h4⟩
    exact ⟨cap2, cells, h1, h2, h3, rfl, by rw [Nat.zero_add]; exact h4.1, h4.2.1, h4.2.2⟩⟩
  have HL := Aside0.mk (lenC b none 0 0 lr w h (by omega))
  have HX : Aside0 (0 ≤ 0 ∧ 0 ≤ maxLen ∧ 0 - 0 < n) := ⟨hlc, by simp only [maxLen]; omega, hnl⟩
  have HN : Aside0 (0 + n ≤ 140737488355328) := ⟨by omega⟩
  have H := Aside0.mk h
  obtain ⟨m, hm⟩ : ∃ m, 0 + n = m := ⟨_, rfl⟩
  have HM := Aside0.mk hm
  have HS : Aside0 (wrap64 ((n : Int)) = (m : Int)) := ⟨by unfold wrap64; omega⟩
  have hm0 : 0 < m := by omega
  have h7 : ∀ w : World, (binOp .eql 26 (.slice none 0 0) (.slice none 0 0)).run Tryd.prog w = .ok (.bool true) w := fun w => Lib.run_eql_slice_nil_nil w 0 0 Tryd.underlying26
  have hn64 : ¬ (n : Int) ≤ 64 := by omega
  have hq2 : ¬ wrap64 (9223372036854775807 - (n : Int)) < 0 := by unfold wrap64; omega
  clear h hlc hnl hn hlim hm
  go_enter Tryd.func59, Tryd.ntmps59
  go_upto_region 2 with (go_at_call 66; (with_reducible refine (HL.out).mono ?_); rintro e w1 ⟨rfl, hb1, h1⟩; have H1 := Aside0.mk h1; have HB1 := Aside0.mk hb1; clear hb1 h1)
  have c0 := H1.out.c0
  have c1 := H1.out.c1
  go_upto_region 5 with (go_at_call 58; (with_reducible refine (tryNone b none 0 0 n lr w1 H1.out HX.out.1 HX.out.2.1 HX.out.2.2).mono ?_); rintro e w2 ⟨rfl, rfl⟩)
  go_upto_region 15 with fail
  refine start_ (n := 20) (S := fun w' => w'.cell? ⟨b, 0, none⟩ = some (.slice none 0 0) ∧ w'.cell? ⟨b, 1, none⟩ = some (.int .i64 0) ∧ BfC w' b (.slice none 0 0) lr) (ds := [19]) #[false, false, false, false, false, false, false, false, false, false, false, false, false, false, false, false, false, false, false, false] (by kernel_rfl) rfl rfl ⟨H1.out.c0, H1.out.c1, H1.out⟩ (fun hHeld => ?_)
  refine pure_ (i := 0) (N := some 76) (v := ?_) (a' := ?_) #[true, false, false, false, false, false, false, false, false, false, false, false, false, false, false, false, false, false, false, false] rfl rfl (by kernel_rfl) (fun _ _ _ h => h) (Or.inl ⟨by rfl, ?_⟩) ?_ ?_
  rotate_left
  · intro w'
    go_simp
    with_reducible rfl
  rotate_left
  · simp only [Act.put, List.setIfInBounds_toArray, List.set_cons_zero, List.set_cons_succ, i64_w, i32_w]
    rfl
  refine pure_ (i := 1) (N := some 77) (v := ?_) (a' := ?_) #[true, true, false, false, false, false, false, false, false, false, false, false, false, false, false, false, false, false, false, false] rfl rfl (by kernel_rfl) (fun _ _ _ h => h) (Or.inl ⟨by rfl, ?_⟩) ?_ ?_
  rotate_left
  · intro w'
    go_simp
    with_reducible rfl
  rotate_left
  · simp only [Act.put, List.setIfInBounds_toArray, List.set_cons_zero, List.set_cons_succ, i64_w, i32_w]
    rfl
  refine pure_ (i := 2) (N := some 78) (v := ?_) (a' := ?_) #[true, true, true, false, false, false, false, false, false, false, false, false, false, false, false, false, false, false, false, false] rfl rfl (by kernel_rfl) (fun _ _ _ h => h) (Or.inl ⟨by rfl, ?_⟩) ?_ ?_
  rotate_left
  · intro w'
    go_simp
    with_reducible rfl
  rotate_left
  · simp only [Act.put, List.setIfInBounds_toArray, List.set_cons_zero, List.set_cons_succ, i64_w, i32_w]
    rfl
  refine pure_ (i := 3) (N := some 79) (v := ?_) (a' := ?_) #[true, true, true, true, false, false, false, false, false, false, false, false, false, false, false, false, false, false, false, false] rfl rfl (by kernel_rfl) (fun _ _ _ h => h) (Or.inl ⟨by rfl, ?_⟩) ?_ ?_
  rotate_left
  · intro w'
    go_simp
    with_reducible rfl
  rotate_left
  · simp only [Act.put, List.setIfInBounds_toArray, List.set_cons_zero, List.set_cons_succ, i64_w, i32_w]
    rfl
  refine take_ (i := 4) (N := some 80) (v := ?_) (a' := ?_) #[true, true, true, true, true, false, false, false, false, false, false, false, false, false, false, false, false, false, false, false] rfl rfl (by kernel_rfl) (fun _ _ _ h => h) (Or.inl ⟨by rfl, ?_⟩) hHeld ?_ ?_
  rotate_left
  · rintro w' ⟨s0, s1, s2⟩
    go_simp
    with_reducible rfl
  rotate_left
  · simp only [Act.put, List.setIfInBounds_toArray, List.set_cons_zero, List.set_cons_succ, i64_w, i32_w]
    rfl
  refine pure_ (i := 5) (N := some 81) (v := ?_) (a' := ?_) #[true, true, true, true, true, true, false, false, false, false, false, false, false, false, false, false, false, false, false, false] rfl rfl (by kernel_rfl) (fun _ _ _ h => h) (Or.inl ⟨by rfl, ?_⟩) ?_ ?_
  rotate_left
  · intro w'
    go_simp
    with_reducible rfl
  rotate_left
  · simp only [Act.put, List.setIfInBounds_toArray, List.set_cons_zero, List.set_cons_succ, i64_w, i32_w]
    rfl
  refine pure_ (i := 6) (N := some 82) (v := ?_) (a' := ?_) #[true, true, true, true, true, true, true, false, false, false, false, false, false, false, false, false, false, false, false, false] rfl rfl (by kernel_rfl) (fun _ _ _ h => h) (Or.inl ⟨by rfl, ?_⟩) ?_ ?_
  rotate_left
  · intro w'
    go_simp
    with_reducible rfl
  rotate_left
  · simp only [Act.put, List.setIfInBounds_toArray, List.set_cons_zero, List.set_cons_succ, i64_w, i32_w]
    rfl
  refine pure_ (i := 7) (N := some 83) (v := ?_) (a' := ?_) #[true, true, true, true, true, true, true, true, false, false, false, false, false, false, false, false, false, false, false, false] rfl rfl (by kernel_rfl) (fun _ _ _ h => h) (Or.inl ⟨by rfl, ?_⟩) ?_ ?_
  rotate_left
  · intro w'
    go_simp
    with_reducible rfl
  rotate_left
  · simp only [Act.put, List.setIfInBounds_toArray, List.set_cons_zero, List.set_cons_succ, i64_w, i32_w]
    rfl
  refine take_ (i := 8) (N := some 84) (v := ?_) (a' := ?_) #[true, true, true, true, true, true, true, true, true, false, false, false, false, false, false, false, false, false, false, false] rfl rfl (by kernel_rfl) (fun _ _ _ h => h) (Or.inl ⟨by rfl, ?_⟩) hHeld ?_ ?_
  rotate_left
  · rintro w' ⟨s0, s1, s2⟩
    go_simp
    with_reducible rfl
  rotate_left
  · simp only [Act.put, List.setIfInBounds_toArray, List.set_cons_zero, List.set_cons_succ, i64_w, i32_w]
    rfl
  refine pure_ (i := 9) (N := some 85) (v := ?_) (a' := ?_) #[true, true, true, true, true, true, true, true, true, true, false, false, false, false, false, false, false, false, false, false] rfl rfl (by kernel_rfl) (fun _ _ _ h => h) (Or.inl ⟨by rfl, ?_⟩) ?_ ?_
  rotate_left
  · intro w'
    go_simp
    with_reducible rfl
  rotate_left
  · simp only [Act.put, List.setIfInBounds_toArray, List.set_cons_zero, List.set_cons_succ, i64_w, i32_w]
    rfl
  refine pure_ (i := 10) (N := some 86) (v := ?_) (a' := ?_) #[true, true, true, true, true, true, true, true, true, true, true, false, false, false, false, false, false, false, false, false] rfl rfl (by kernel_rfl) (fun _ _ _ h => h) (Or.inl ⟨by rfl, ?_⟩) ?_ ?_
  rotate_left
  · intro w'
    go_simp
    with_reducible rfl
  rotate_left
  · simp only [Act.put, List.setIfInBounds_toArray, List.set_cons_zero, List.set_cons_succ, i64_w, i32_w]
    rfl
  refine pure_ (i := 11) (N := some 87) (v := ?_) (a' := ?_) #[true, true, true, true, true, true, true, true, true, true, true, true, false, false, false, false, false, false, false, false] rfl rfl (by kernel_rfl) (fun _ _ _ h => h) (Or.inl ⟨by rfl, ?_⟩) ?_ ?_
  rotate_left
  · intro w'
    go_simp
    with_reducible rfl
  rotate_left
  · simp only [Act.put, List.setIfInBounds_toArray, List.set_cons_zero, List.set_cons_succ, i64_w, i32_w]
    rfl
  refine pure_ (i := 12) (N := some 88) (v := ?_) (a' := ?_) #[true, true, true, true, true, true, true, true, true, true, true, true, true, false, false, false, false, false, false, false] rfl rfl (by kernel_rfl) (fun _ _ _ h => h) (Or.inl ⟨by rfl, ?_⟩) ?_ ?_
  rotate_left
  · intro w'
    go_simp
    with_reducible rfl
  rotate_left
  · simp only [Act.put, List.setIfInBounds_toArray, List.set_cons_zero, List.set_cons_succ, i64_w, i32_w]
    rfl
  refine take_ (i := 13) (N := some 89) (v := ?_) (a' := ?_) #[true, true, true, true, true, true, true, true, true, true, true, true, true, true, false, false, false, false, false, false] rfl rfl (by kernel_rfl) (fun _ _ _ h => h) (Or.inl ⟨by rfl, ?_⟩) hHeld ?_ ?_
  rotate_left
  · rintro w' ⟨s0, s1, s2⟩
    go_simp
    with_reducible rfl
  rotate_left
  · simp only [Act.put, List.setIfInBounds_toArray, List.set_cons_zero, List.set_cons_succ, i64_w, i32_w]
    rfl
  refine pure_ (i := 14) (N := some 90) (v := ?_) (a' := ?_) #[true, true, true, true, true, true, true, true, true, true, true, true, true, true, true, false, false, false, false, false] rfl rfl (by kernel_rfl) (fun _ _ _ h => h) (Or.inl ⟨by rfl, ?_⟩) ?_ ?_
  rotate_left
  · intro w'
    go_simp
    with_reducible rfl
  rotate_left
  · simp only [Act.put, List.setIfInBounds_toArray, List.set_cons_zero, List.set_cons_succ, i64_w, i32_w]
    rfl
  refine pure_ (i := 15) (N := some 91) (v := ?_) (a' := ?_) #[true, true, true, true, true, true, true, true, true, true, true, true, true, true, true, true, false, false, false, false] rfl rfl (by kernel_rfl) (fun _ _ _ h => h) (Or.inl ⟨by rfl, ?_⟩) ?_ ?_
  rotate_left
  · intro w'
    go_simp
    rw [HW.out]
  rotate_left
  · simp only [Act.put, List.setIfInBounds_toArray, List.set_cons_zero, List.set_cons_succ, i64_w, i32_w]
    rfl
  refine one_ (i := 16) (N := some 92) #[true, true, true, true, true, true, true, true, true, true, true, true, true, true, true, true, true, false, false, false] rfl rfl (by kernel_rfl) (by decide) (fun K hK => ?_)
  refine goes_ Tryd.func68 (by kernel_rfl) rfl #[.slice none 0 0, .int .i64 n] (by rfl) rfl rfl (by (try simp only [List.map_toArray, List.map_cons, List.map_nil]); first | done | rfl | (simp only [List.length_drop, List.length_take]; rfl)) ?_
  with_reducible refine (HGS.out w2.drew (below_drew HB1.out)).mono ?_
  rintro e w3 ⟨cap2, cells, rfl, k1, k2, k3, k4, k5, k6⟩
  refine ⟨_, rfl, ?_⟩
  refine hK.out _ _ (let q := hHeld.2.2.below k6; ⟨q.c0, q.c1, q⟩) (fun hHeld => ?_)
  clear hK K
  refine norm_ (a' := ?_) ?_ ?_
  rotate_left
  · show Act.put _ (some 92) _ = _
    simp only [Act.put, List.setIfInBounds_toArray, List.set_cons_zero, List.set_cons_succ, i64_w, i32_w]
    rfl
  refine pure_ (i := 17) (N := some 93) (v := ?_) (a' := ?_) #[true, true, true, true, true, true, true, true, true, true, true, true, true, true, true, true, true, true, false, false] rfl rfl (by kernel_rfl) (fun _ _ _ h => h) (Or.inl ⟨by rfl, ?_⟩) ?_ ?_
  rotate_left
  · intro w'
    go_simp
    with_reducible rfl
  rotate_left
  · simp only [Act.put, List.setIfInBounds_toArray, List.set_cons_zero, List.set_cons_succ, i64_w, i32_w]
    rfl
  refine pure_ (i := 18) (N := some 94) (v := ?_) (a' := ?_) #[true, true, true, true, true, true, true, true, true, true, true, true, true, true, true, true, true, true, true, false] rfl rfl (by kernel_rfl) (fun _ _ _ h => h) (Or.inl ⟨by rfl, ?_⟩) ?_ ?_
  rotate_left
  · intro w'
    go_simp
    with_reducible rfl
  rotate_left
  · simp only [Act.put, List.setIfInBounds_toArray, List.set_cons_zero, List.set_cons_succ, i64_w, i32_w]
    rfl
  refine last_ (i := 19) (N := none) #[true, true, true, true, true, true, true, true, true, true, true, true, true, true, true, true, true, true, true, true] rfl rfl (by kernel_rfl) (by decide) (fun K hK => ?_)
  obtain ⟨s0, s1, s2⟩ := hHeld
  have fA := s2.f 0
  refine skip_ (w1 := ?_) (by rfl) rfl ?_ ?_
  rotate_left
  · go_simp
    rfl
  refine hK.out _ _ ?_
  clear hK K
  refine norm_ (a' := ?_) ?_ ?_
  rotate_left
  · rfl
  refine done_ (by kernel_rfl) ?_
  have K1 := Aside0.mk k1
  have K2 := Aside0.mk k2
  have K3 := Aside0.mk k3
  have K4 : Aside0 (m ≤ cap2) := ⟨by have := HM.out; omega⟩
  have K5 := Aside0.mk k5
  have K6 : Aside0 (Below w2.heap.size w2 w3) := ⟨below_then (below_drew (Below.refl _ w2)) (Nat.le_refl _) k6⟩
  have hm2 : (m : Int) ≤ cap2 := by have := HM.out; omega
  have hm3 : m ≤ cap2 := by have := HM.out; omega
  have hm4 : ¬ cap2 = 0 := by omega
  clear k1 k2 k3 k4 k5 k6 s0 s1 fA c0 c1 hq2
  generalize hw4 : World.setCell _ _ _ = w4
  have H4 : Aside0 (BfC w4 b (.slice (some ⟨w2.heap.size, 0, none⟩) 0 cap2) lr) := ⟨by rw [← hw4]; exact s2.set0 _⟩
  have O4 : Aside0 (Only b w3 w4) := ⟨by rw [← hw4]; exact (Only.refl _ _).set _ _⟩
  clear hw4 s2
  have f1 := H4.out.f 1
  have cc1 := H4.out.c1
  go_upto_region 17 with fail
  generalize hw5 : World.setCell _ _ _ = w5
  have H5 : Aside0 (BfC w5 b (.slice (some ⟨w2.heap.size, 0, none⟩) 0 cap2) lr) := ⟨by rw [← hw5]; exact H4.out.set1⟩
  have O5 : Aside0 (Only b w3 w5) := ⟨by rw [← hw5]; exact O4.out.set _ _⟩
  clear hw5 f1 cc1
  have f0 := H5.out.f 0
  have c50 := H5.out.c0
  have hs := HS.out
  go_wp2_with fail
  go_ret
  have hm := HM.out
  subst hm
  exact ⟨rfl, grown_of (blk_lt' H.out) HB1.out.size K1.out (Only.of_below (below_then HB1.out HB1.out.size K6.out)) (O5.out.set _ _) (H5.out.set0 _) K2.out K3.out K4.out K5.out⟩
set_option maxRecDepth 100000 in
set_option maxHeartbeats 8000000 in
theorem growE (b n : Nat) (lr : Int) (w : World) (g cap : Nat) (cur : Array Value) (h : BfC w b (.slice (some ⟨g, 0, none⟩) 0 cap) lr) (hg : w.heap[g]? = some (.cells cur 5 (0, 0))) (hcs : cur.size = cap) (hn : cap - 0 < n) (hlim : 0 + n ≤ 140737488355328) (h1c : ∀ v ∈ cur.toList.take 0, v.oneCell' = true) :
    Calls Tryd.prog 59 #[.pointer (some ⟨b, 0, none⟩), .int .i64 n] w fun e w' => e = .returned (.int .i64 (0 : Nat)) ∧ Grown b 0 n (cur.toList.take 0) lr w w' := by
  have hlc : 0 ≤ cap := Nat.zero_le _
  have hnl : cap - 0 < n := by omega
  have HW : Aside0 (IntKind.i64.wrap (n : Int) = n) := ⟨by rw [i64_w]; unfold wrap64; omega⟩
  have HGS : Aside0 (∀ w2 : World, Below w.heap.size w w2 → Calls Tryd.prog 68 #[.slice (some ⟨g, 0, none⟩) 0 cap, .int .i64 n] w2 fun e w3 => ∃ cap2 cells, e = .returned (.slice (some ⟨w2.heap.size, 0, none⟩) 0 cap2) ∧ w3.heap[w2.heap.size]? = some (.cells cells 5 (0, 0)) ∧ cells.size = cap2 ∧ cells.toList.take 0 = (cur.toList.take 0) ∧ 0 + n ≤ cap2 ∧ cap2 ≤ maxLen ∧ Below w2.heap.size w2 w3) := ⟨fun w2 hb2 => by
    refine (growRow g 0 cap n cur w2 ((hb2.block g (blk_lt' hg)).trans hg) hcs hlc (by omega) hlim (by omega) h1c).mono ?_
    rintro e w3 ⟨cap2, cells, h1, h2, h3, h4⟩
    exact ⟨cap2, cells, h1, h2, h3, h4⟩⟩
  have HL := Aside0.mk (lenC b (some ⟨g, 0, none⟩) 0 cap lr w h (by omega))
  have HX : Aside0 (0 ≤ cap ∧ cap ≤ maxLen ∧ cap - 0 < n) := ⟨hlc, by simp only [maxLen]; omega, hnl⟩
  have HN : Aside0 (0 + n ≤ 140737488355328) := ⟨by omega⟩
  have H := Aside0.mk h
  obtain ⟨m, hm⟩ : ∃ m, 0 + n = m := ⟨_, rfl⟩
  have HM := Aside0.mk hm
  have HS : Aside0 (wrap64 ((n : Int)) = (m : Int)) := ⟨by unfold wrap64; omega⟩
  have hm0 : 0 < m := by omega
  have hq1 : ¬ (n : Int) ≤ wrap64 (wrap64 ((cap : Int) / 2)) := by unfold wrap64; omega
  have hq2 : ¬ wrap64 (wrap64 (9223372036854775807 - (cap : Int)) - (n : Int)) < (cap : Int) := by unfold wrap64; omega
  have h7 : ∀ w : World, (binOp .eql 26 (.slice (some ⟨g, 0, none⟩) 0 cap) (.slice none 0 0)).run Tryd.prog w = .ok (.bool false) w := fun w => Lib.run_eql_slice_some_nil w _ _ _ Tryd.underlying26
  clear h hlc hnl hn hlim hm hg hcs h1c
  go_enter Tryd.func59, Tryd.ntmps59
  go_upto_region 2 with (go_at_call 66; (with_reducible refine (HL.out).mono ?_); rintro e w1 ⟨rfl, hb1, h1⟩; have H1 := Aside0.mk h1; have HB1 := Aside0.mk hb1; clear hb1 h1)
  have c0 := H1.out.c0
  have c1 := H1.out.c1
  go_upto_region 5 with (go_at_call 58; (with_reducible refine (tryNone b (some ⟨g, 0, none⟩) 0 cap n lr w1 H1.out HX.out.1 HX.out.2.1 HX.out.2.2).mono ?_); rintro e w2 ⟨rfl, rfl⟩)
  go_upto_region 15 with fail
  refine start_ (n := 20) (S := fun w' => w'.cell? ⟨b, 0, none⟩ = some (.slice (some ⟨g, 0, none⟩) 0 cap) ∧ w'.cell? ⟨b, 1, none⟩ = some (.int .i64 0) ∧ BfC w' b (.slice (some ⟨g, 0, none⟩) 0 cap) lr) (ds := [19]) #[false, false, false, false, false, false, false, false, false, false, false, false, false, false, false, false, false, false, false, false] (by kernel_rfl) rfl rfl ⟨H1.out.c0, H1.out.c1, H1.out⟩ (fun hHeld => ?_)
  refine pure_ (i := 0) (N := some 76) (v := ?_) (a' := ?_) #[true, false, false, false, false, false, false, false, false, false, false, false, false, false, false, false, false, false, false, false] rfl rfl (by kernel_rfl) (fun _ _ _ h => h) (Or.inl ⟨by rfl, ?_⟩) ?_ ?_
  rotate_left
  · intro w'
    go_simp
    with_reducible rfl
  rotate_left
  · simp only [Act.put, List.setIfInBounds_toArray, List.set_cons_zero, List.set_cons_succ, i64_w, i32_w]
    rfl
  refine pure_ (i := 1) (N := some 77) (v := ?_) (a' := ?_) #[true, true, false, false, false, false, false, false, false, false, false, false, false, false, false, false, false, false, false, false] rfl rfl (by kernel_rfl) (fun _ _ _ h => h) (Or.inl ⟨by rfl, ?_⟩) ?_ ?_
  rotate_left
  · intro w'
    go_simp
    with_reducible rfl
  rotate_left
  · simp only [Act.put, List.setIfInBounds_toArray, List.set_cons_zero, List.set_cons_succ, i64_w, i32_w]
    rfl
  refine pure_ (i := 2) (N := some 78) (v := ?_) (a' := ?_) #[true, true, true, false, false, false, false, false, false, false, false, false, false, false, false, false, false, false, false, false] rfl rfl (by kernel_rfl) (fun _ _ _ h => h) (Or.inl ⟨by rfl, ?_⟩) ?_ ?_
  rotate_left
  · intro w'
    go_simp
    with_reducible rfl
  rotate_left
  · simp only [Act.put, List.setIfInBounds_toArray, List.set_cons_zero, List.set_cons_succ, i64_w, i32_w]
    rfl
  refine pure_ (i := 3) (N := some 79) (v := ?_) (a' := ?_) #[true, true, true, true, false, false, false, false, false, false, false, false, false, false, false, false, false, false, false, false] rfl rfl (by kernel_rfl) (fun _ _ _ h => h) (Or.inl ⟨by rfl, ?_⟩) ?_ ?_
  rotate_left
  · intro w'
    go_simp
    with_reducible rfl
  rotate_left
  · simp only [Act.put, List.setIfInBounds_toArray, List.set_cons_zero, List.set_cons_succ, i64_w, i32_w]
    rfl
  refine take_ (i := 4) (N := some 80) (v := ?_) (a' := ?_) #[true, true, true, true, true, false, false, false, false, false, false, false, false, false, false, false, false, false, false, false] rfl rfl (by kernel_rfl) (fun _ _ _ h => h) (Or.inl ⟨by rfl, ?_⟩) hHeld ?_ ?_
  rotate_left
  · rintro w' ⟨s0, s1, s2⟩
    go_simp
    with_reducible rfl
  rotate_left
  · simp only [Act.put, List.setIfInBounds_toArray, List.set_cons_zero, List.set_cons_succ, i64_w, i32_w]
    rfl
  refine pure_ (i := 5) (N := some 81) (v := ?_) (a' := ?_) #[true, true, true, true, true, true, false, false, false, false, false, false, false, false, false, false, false, false, false, false] rfl rfl (by kernel_rfl) (fun _ _ _ h => h) (Or.inl ⟨by rfl, ?_⟩) ?_ ?_
  rotate_left
  · intro w'
    go_simp
    with_reducible rfl
  rotate_left
  · simp only [Act.put, List.setIfInBounds_toArray, List.set_cons_zero, List.set_cons_succ, i64_w, i32_w]
    rfl
  refine pure_ (i := 6) (N := some 82) (v := ?_) (a' := ?_) #[true, true, true, true, true, true, true, false, false, false, false, false, false, false, false, false, false, false, false, false] rfl rfl (by kernel_rfl) (fun _ _ _ h => h) (Or.inl ⟨by rfl, ?_⟩) ?_ ?_
  rotate_left
  · intro w'
    go_simp
    with_reducible rfl
  rotate_left
  · simp only [Act.put, List.setIfInBounds_toArray, List.set_cons_zero, List.set_cons_succ, i64_w, i32_w]
    rfl
  refine pure_ (i := 7) (N := some 83) (v := ?_) (a' := ?_) #[true, true, true, true, true, true, true, true, false, false, false, false, false, false, false, false, false, false, false, false] rfl rfl (by kernel_rfl) (fun _ _ _ h => h) (Or.inl ⟨by rfl, ?_⟩) ?_ ?_
  rotate_left
  · intro w'
    go_simp
    with_reducible rfl
  rotate_left
  · simp only [Act.put, List.setIfInBounds_toArray, List.set_cons_zero, List.set_cons_succ, i64_w, i32_w]
    rfl
  refine take_ (i := 8) (N := some 84) (v := ?_) (a' := ?_) #[true, true, true, true, true, true, true, true, true, false, false, false, false, false, false, false, false, false, false, false] rfl rfl (by kernel_rfl) (fun _ _ _ h => h) (Or.inl ⟨by rfl, ?_⟩) hHeld ?_ ?_
  rotate_left
  · rintro w' ⟨s0, s1, s2⟩
    go_simp
    with_reducible rfl
  rotate_left
  · simp only [Act.put, List.setIfInBounds_toArray, List.set_cons_zero, List.set_cons_succ, i64_w, i32_w]
    rfl
  refine pure_ (i := 9) (N := some 85) (v := ?_) (a' := ?_) #[true, true, true, true, true, true, true, true, true, true, false, false, false, false, false, false, false, false, false, false] rfl rfl (by kernel_rfl) (fun _ _ _ h => h) (Or.inl ⟨by rfl, ?_⟩) ?_ ?_
  rotate_left
  · intro w'
    go_simp
    with_reducible rfl
  rotate_left
  · simp only [Act.put, List.setIfInBounds_toArray, List.set_cons_zero, List.set_cons_succ, i64_w, i32_w]
    rfl
  refine pure_ (i := 10) (N := some 86) (v := ?_) (a' := ?_) #[true, true, true, true, true, true, true, true, true, true, true, false, false, false, false, false, false, false, false, false] rfl rfl (by kernel_rfl) (fun _ _ _ h => h) (Or.inl ⟨by rfl, ?_⟩) ?_ ?_
  rotate_left
  · intro w'
    go_simp
    with_reducible rfl
  rotate_left
  · simp only [Act.put, List.setIfInBounds_toArray, List.set_cons_zero, List.set_cons_succ, i64_w, i32_w]
    rfl
  refine pure_ (i := 11) (N := some 87) (v := ?_) (a' := ?_) #[true, true, true, true, true, true, true, true, true, true, true, true, false, false, false, false, false, false, false, false] rfl rfl (by kernel_rfl) (fun _ _ _ h => h) (Or.inl ⟨by rfl, ?_⟩) ?_ ?_
  rotate_left
  · intro w'
    go_simp
    with_reducible rfl
  rotate_left
  · simp only [Act.put, List.setIfInBounds_toArray, List.set_cons_zero, List.set_cons_succ, i64_w, i32_w]
    rfl
  refine pure_ (i := 12) (N := some 88) (v := ?_) (a' := ?_) #[true, true, true, true, true, true, true, true, true, true, true, true, true, false, false, false, false, false, false, false] rfl rfl (by kernel_rfl) (fun _ _ _ h => h) (Or.inl ⟨by rfl, ?_⟩) ?_ ?_
  rotate_left
  · intro w'
    go_simp
    with_reducible rfl
  rotate_left
  · simp only [Act.put, List.setIfInBounds_toArray, List.set_cons_zero, List.set_cons_succ, i64_w, i32_w]
    rfl
  refine take_ (i := 13) (N := some 89) (v := ?_) (a' := ?_) #[true, true, true, true, true, true, true, true, true, true, true, true, true, true, false, false, false, false, false, false] rfl rfl (by kernel_rfl) (fun _ _ _ h => h) (Or.inl ⟨by rfl, ?_⟩) hHeld ?_ ?_
  rotate_left
  · rintro w' ⟨s0, s1, s2⟩
    go_simp
    with_reducible rfl
  rotate_left
  · simp only [Act.put, List.setIfInBounds_toArray, List.set_cons_zero, List.set_cons_succ, i64_w, i32_w]
    rfl
  refine pure_ (i := 14) (N := some 90) (v := ?_) (a' := ?_) #[true, true, true, true, true, true, true, true, true, true, true, true, true, true, true, false, false, false, false, false] rfl rfl (by kernel_rfl) (fun _ _ _ h => h) (Or.inl ⟨by rfl, ?_⟩) ?_ ?_
  rotate_left
  · intro w'
    go_simp
    with_reducible rfl
  rotate_left
  · simp only [Act.put, List.setIfInBounds_toArray, List.set_cons_zero, List.set_cons_succ, i64_w, i32_w]
    rfl
  refine pure_ (i := 15) (N := some 91) (v := ?_) (a' := ?_) #[true, true, true, true, true, true, true, true, true, true, true, true, true, true, true, true, false, false, false, false] rfl rfl (by kernel_rfl) (fun _ _ _ h => h) (Or.inl ⟨by rfl, ?_⟩) ?_ ?_
  rotate_left
  · intro w'
    go_simp
    rw [HW.out]
  rotate_left
  · simp only [Act.put, List.setIfInBounds_toArray, List.set_cons_zero, List.set_cons_succ, i64_w, i32_w]
    rfl
  refine one_ (i := 16) (N := some 92) #[true, true, true, true, true, true, true, true, true, true, true, true, true, true, true, true, true, false, false, false] rfl rfl (by kernel_rfl) (by decide) (fun K hK => ?_)
  refine goes_ Tryd.func68 (by kernel_rfl) rfl #[.slice (some ⟨g, 0, none⟩) 0 cap, .int .i64 n] (by rfl) rfl rfl (by (try simp only [List.map_toArray, List.map_cons, List.map_nil]); first | done | rfl | (simp only [List.length_drop, List.length_take]; rfl)) ?_
  with_reducible refine (HGS.out w2.drew (below_drew HB1.out)).mono ?_
  rintro e w3 ⟨cap2, cells, rfl, k1, k2, k3, k4, k5, k6⟩
  refine ⟨_, rfl, ?_⟩
  refine hK.out _ _ (let q := hHeld.2.2.below k6; ⟨q.c0, q.c1, q⟩) (fun hHeld => ?_)
  clear hK K
  refine norm_ (a' := ?_) ?_ ?_
  rotate_left
  · show Act.put _ (some 92) _ = _
    simp only [Act.put, List.setIfInBounds_toArray, List.set_cons_zero, List.set_cons_succ, i64_w, i32_w]
    rfl
  refine pure_ (i := 17) (N := some 93) (v := ?_) (a' := ?_) #[true, true, true, true, true, true, true, true, true, true, true, true, true, true, true, true, true, true, false, false] rfl rfl (by kernel_rfl) (fun _ _ _ h => h) (Or.inl ⟨by rfl, ?_⟩) ?_ ?_
  rotate_left
  · intro w'
    go_simp
    with_reducible rfl
  rotate_left
  · simp only [Act.put, List.setIfInBounds_toArray, List.set_cons_zero, List.set_cons_succ, i64_w, i32_w]
    rfl
  refine pure_ (i := 18) (N := some 94) (v := ?_) (a' := ?_) #[true, true, true, true, true, true, true, true, true, true, true, true, true, true, true, true, true, true, true, false] rfl rfl (by kernel_rfl) (fun _ _ _ h => h) (Or.inl ⟨by rfl, ?_⟩) ?_ ?_
  rotate_left
  · intro w'
    go_simp
    with_reducible rfl
  rotate_left
  · simp only [Act.put, List.setIfInBounds_toArray, List.set_cons_zero, List.set_cons_succ, i64_w, i32_w]
    rfl
  refine last_ (i := 19) (N := none) #[true, true, true, true, true, true, true, true, true, true, true, true, true, true, true, true, true, true, true, true] rfl rfl (by kernel_rfl) (by decide) (fun K hK => ?_)
  obtain ⟨s0, s1, s2⟩ := hHeld
  have fA := s2.f 0
  refine skip_ (w1 := ?_) (by rfl) rfl ?_ ?_
  rotate_left
  · go_simp
    rfl
  refine hK.out _ _ ?_
  clear hK K
  refine norm_ (a' := ?_) ?_ ?_
  rotate_left
  · rfl
  refine done_ (by kernel_rfl) ?_
  have K1 := Aside0.mk k1
  have K2 := Aside0.mk k2
  have K3 := Aside0.mk k3
  have K4 : Aside0 (m ≤ cap2) := ⟨by have := HM.out; omega⟩
  have K5 := Aside0.mk k5
  have K6 : Aside0 (Below w2.heap.size w2 w3) := ⟨below_then (below_drew (Below.refl _ w2)) (Nat.le_refl _) k6⟩
  have hm2 : (m : Int) ≤ cap2 := by have := HM.out; omega
  have hm3 : m ≤ cap2 := by have := HM.out; omega
  have hm4 : ¬ cap2 = 0 := by omega
  clear k1 k2 k3 k4 k5 k6 s0 s1 fA c0 c1 hq2
  generalize hw4 : World.setCell _ _ _ = w4
  have H4 : Aside0 (BfC w4 b (.slice (some ⟨w2.heap.size, 0, none⟩) 0 cap2) lr) := ⟨by rw [← hw4]; exact s2.set0 _⟩
  have O4 : Aside0 (Only b w3 w4) := ⟨by rw [← hw4]; exact (Only.refl _ _).set _ _⟩
  clear hw4 s2
  have f1 := H4.out.f 1
  have cc1 := H4.out.c1
  go_upto_region 17 with fail
  generalize hw5 : World.setCell _ _ _ = w5
  have H5 : Aside0 (BfC w5 b (.slice (some ⟨w2.heap.size, 0, none⟩) 0 cap2) lr) := ⟨by rw [← hw5]; exact H4.out.set1⟩
  have O5 : Aside0 (Only b w3 w5) := ⟨by rw [← hw5]; exact O4.out.set _ _⟩
  clear hw5 f1 cc1
  have f0 := H5.out.f 0
  have c50 := H5.out.c0
  have hs := HS.out
  go_wp2_with fail
  go_ret
  have hm := HM.out
  subst hm
  exact ⟨rfl, grown_of (blk_lt' H.out) HB1.out.size K1.out (Only.of_below (below_then HB1.out HB1.out.size K6.out)) (O5.out.set _ _) (H5.out.set0 _) K2.out K3.out K4.out K5.out⟩
set_option maxRecDepth 100000 in
set_option maxHeartbeats 8000000 in
theorem growD (b n : Nat) (lr : Int) (w : World) (g l cap : Nat) (cur : Array Value) (h : BfC w b (.slice (some ⟨g, 0, none⟩) l cap) lr) (hg : w.heap[g]? = some (.cells cur 5 (0, 0))) (hcs : cur.size = cap) (hl : 0 < l) (hlc : l ≤ cap) (hn : cap - l < n) (hlim : l + n ≤ 140737488355328) (h1c : ∀ v ∈ cur.toList.take l, v.oneCell' = true) :
    Calls Tryd.prog 59 #[.pointer (some ⟨b, 0, none⟩), .int .i64 n] w fun e w' => e = .returned (.int .i64 (l : Nat)) ∧ Grown b l n (cur.toList.take l) lr w w' := by
  have hnl : cap - l < n := by omega
  have HW : Aside0 (IntKind.i64.wrap (n : Int) = n) := ⟨by rw [i64_w]; unfold wrap64; omega⟩
  have HGS : Aside0 (∀ w2 : World, Below w.heap.size w w2 → Calls Tryd.prog 68 #[.slice (some ⟨g, 0, none⟩) l cap, .int .i64 n] w2 fun e w3 => ∃ cap2 cells, e = .returned (.slice (some ⟨w2.heap.size, 0, none⟩) l cap2) ∧ w3.heap[w2.heap.size]? = some (.cells cells 5 (0, 0)) ∧ cells.size = cap2 ∧ cells.toList.take l = (cur.toList.take l) ∧ l + n ≤ cap2 ∧ cap2 ≤ maxLen ∧ Below w2.heap.size w2 w3) := ⟨fun w2 hb2 => by
    refine (growRow g l cap n cur w2 ((hb2.block g (blk_lt' hg)).trans hg) hcs hlc (by omega) hlim (by omega) h1c).mono ?_
    rintro e w3 ⟨cap2, cells, h1, h2, h3, h4⟩
    exact ⟨cap2, cells, h1, h2, h3, h4⟩⟩
  have HL := Aside0.mk (lenC b (some ⟨g, 0, none⟩) l cap lr w h (by omega))
  have HX : Aside0 (l ≤ cap ∧ cap ≤ maxLen ∧ cap - l < n) := ⟨hlc, by simp only [maxLen]; omega, hnl⟩
  have HN : Aside0 (l + n ≤ 140737488355328) := ⟨by omega⟩
  have H := Aside0.mk h
  obtain ⟨m, hm⟩ : ∃ m, l + n = m := ⟨_, rfl⟩
  have HM := Aside0.mk hm
  have HS : Aside0 (wrap64 ((l : Int) + (n : Int)) = (m : Int)) := ⟨by unfold wrap64; omega⟩
  have hm0 : 0 < m := by omega
  have hl0 : ¬ (l : Int) = 0 := by omega
  have hq1 : ¬ (n : Int) ≤ wrap64 (wrap64 ((cap : Int) / 2) - (l : Int)) := by unfold wrap64; omega
  have hq2 : ¬ wrap64 (wrap64 (9223372036854775807 - (cap : Int)) - (n : Int)) < (cap : Int) := by unfold wrap64; omega
  have h7 : ∀ w : World, (binOp .eql 26 (.slice (some ⟨g, 0, none⟩) l cap) (.slice none 0 0)).run Tryd.prog w = .ok (.bool false) w := fun w => Lib.run_eql_slice_some_nil w _ _ _ Tryd.underlying26
  clear h hlc hnl hn hlim hm hg hcs h1c hl
  go_enter Tryd.func59, Tryd.ntmps59
  go_upto_region 2 with (go_at_call 66; (with_reducible refine (HL.out).mono ?_); rintro e w1 ⟨rfl, hb1, h1⟩; have H1 := Aside0.mk h1; have HB1 := Aside0.mk hb1; clear hb1 h1)
  have c0 := H1.out.c0
  have c1 := H1.out.c1
  go_upto_region 5 with (go_at_call 58; (with_reducible refine (tryNone b (some ⟨g, 0, none⟩) l cap n lr w1 H1.out HX.out.1 HX.out.2.1 HX.out.2.2).mono ?_); rintro e w2 ⟨rfl, rfl⟩)
  go_upto_region 15 with fail
  refine start_ (n := 20) (S := fun w' => w'.cell? ⟨b, 0, none⟩ = some (.slice (some ⟨g, 0, none⟩) l cap) ∧ w'.cell? ⟨b, 1, none⟩ = some (.int .i64 0) ∧ BfC w' b (.slice (some ⟨g, 0, none⟩) l cap) lr) (ds := [19]) #[false, false, false, false, false, false, false, false, false, false, false, false, false, false, false, false, false, false, false, false] (by kernel_rfl) rfl rfl ⟨H1.out.c0, H1.out.c1, H1.out⟩ (fun hHeld => ?_)
  refine pure_ (i := 0) (N := some 76) (v := ?_) (a' := ?_) #[true, false, false, false, false, false, false, false, false, false, false, false, false, false, false, false, false, false, false, false] rfl rfl (by kernel_rfl) (fun _ _ _ h => h) (Or.inl ⟨by rfl, ?_⟩) ?_ ?_
  rotate_left
  · intro w'
    go_simp
    with_reducible rfl
  rotate_left
  · simp only [Act.put, List.setIfInBounds_toArray, List.set_cons_zero, List.set_cons_succ, i64_w, i32_w]
    rfl
  refine pure_ (i := 1) (N := some 77) (v := ?_) (a' := ?_) #[true, true, false, false, false, false, false, false, false, false, false, false, false, false, false, false, false, false, false, false] rfl rfl (by kernel_rfl) (fun _ _ _ h => h) (Or.inl ⟨by rfl, ?_⟩) ?_ ?_
  rotate_left
  · intro w'
    go_simp
    with_reducible rfl
  rotate_left
  · simp only [Act.put, List.setIfInBounds_toArray, List.set_cons_zero, List.set_cons_succ, i64_w, i32_w]
    rfl
  refine pure_ (i := 2) (N := some 78) (v := ?_) (a' := ?_) #[true, true, true, false, false, false, false, false, false, false, false, false, false, false, false, false, false, false, false, false] rfl rfl (by kernel_rfl) (fun _ _ _ h => h) (Or.inl ⟨by rfl, ?_⟩) ?_ ?_
  rotate_left
  · intro w'
    go_simp
    with_reducible rfl
  rotate_left
  · simp only [Act.put, List.setIfInBounds_toArray, List.set_cons_zero, List.set_cons_succ, i64_w, i32_w]
    rfl
  refine pure_ (i := 3) (N := some 79) (v := ?_) (a' := ?_) #[true, true, true, true, false, false, false, false, false, false, false, false, false, false, false, false, false, false, false, false] rfl rfl (by kernel_rfl) (fun _ _ _ h => h) (Or.inl ⟨by rfl, ?_⟩) ?_ ?_
  rotate_left
  · intro w'
    go_simp
    with_reducible rfl
  rotate_left
  · simp only [Act.put, List.setIfInBounds_toArray, List.set_cons_zero, List.set_cons_succ, i64_w, i32_w]
    rfl
  refine take_ (i := 4) (N := some 80) (v := ?_) (a' := ?_) #[true, true, true, true, true, false, false, false, false, false, false, false, false, false, false, false, false, false, false, false] rfl rfl (by kernel_rfl) (fun _ _ _ h => h) (Or.inl ⟨by rfl, ?_⟩) hHeld ?_ ?_
  rotate_left
  · rintro w' ⟨s0, s1, s2⟩
    go_simp
    with_reducible rfl
  rotate_left
  · simp only [Act.put, List.setIfInBounds_toArray, List.set_cons_zero, List.set_cons_succ, i64_w, i32_w]
    rfl
  refine pure_ (i := 5) (N := some 81) (v := ?_) (a' := ?_) #[true, true, true, true, true, true, false, false, false, false, false, false, false, false, false, false, false, false, false, false] rfl rfl (by kernel_rfl) (fun _ _ _ h => h) (Or.inl ⟨by rfl, ?_⟩) ?_ ?_
  rotate_left
  · intro w'
    go_simp
    with_reducible rfl
  rotate_left
  · simp only [Act.put, List.setIfInBounds_toArray, List.set_cons_zero, List.set_cons_succ, i64_w, i32_w]
    rfl
  refine pure_ (i := 6) (N := some 82) (v := ?_) (a' := ?_) #[true, true, true, true, true, true, true, false, false, false, false, false, false, false, false, false, false, false, false, false] rfl rfl (by kernel_rfl) (fun _ _ _ h => h) (Or.inl ⟨by rfl, ?_⟩) ?_ ?_
  rotate_left
  · intro w'
    go_simp
    with_reducible rfl
  rotate_left
  · simp only [Act.put, List.setIfInBounds_toArray, List.set_cons_zero, List.set_cons_succ, i64_w, i32_w]
    rfl
  refine pure_ (i := 7) (N := some 83) (v := ?_) (a' := ?_) #[true, true, true, true, true, true, true, true, false, false, false, false, false, false, false, false, false, false, false, false] rfl rfl (by kernel_rfl) (fun _ _ _ h => h) (Or.inl ⟨by rfl, ?_⟩) ?_ ?_
  rotate_left
  · intro w'
    go_simp
    with_reducible rfl
  rotate_left
  · simp only [Act.put, List.setIfInBounds_toArray, List.set_cons_zero, List.set_cons_succ, i64_w, i32_w]
    rfl
  refine take_ (i := 8) (N := some 84) (v := ?_) (a' := ?_) #[true, true, true, true, true, true, true, true, true, false, false, false, false, false, false, false, false, false, false, false] rfl rfl (by kernel_rfl) (fun _ _ _ h => h) (Or.inl ⟨by rfl, ?_⟩) hHeld ?_ ?_
  rotate_left
  · rintro w' ⟨s0, s1, s2⟩
    go_simp
    with_reducible rfl
  rotate_left
  · simp only [Act.put, List.setIfInBounds_toArray, List.set_cons_zero, List.set_cons_succ, i64_w, i32_w]
    rfl
  refine pure_ (i := 9) (N := some 85) (v := ?_) (a' := ?_) #[true, true, true, true, true, true, true, true, true, true, false, false, false, false, false, false, false, false, false, false] rfl rfl (by kernel_rfl) (fun _ _ _ h => h) (Or.inl ⟨by rfl, ?_⟩) ?_ ?_
  rotate_left
  · intro w'
    go_simp
    with_reducible rfl
  rotate_left
  · simp only [Act.put, List.setIfInBounds_toArray, List.set_cons_zero, List.set_cons_succ, i64_w, i32_w]
    rfl
  refine pure_ (i := 10) (N := some 86) (v := ?_) (a' := ?_) #[true, true, true, true, true, true, true, true, true, true, true, false, false, false, false, false, false, false, false, false] rfl rfl (by kernel_rfl) (fun _ _ _ h => h) (Or.inl ⟨by rfl, ?_⟩) ?_ ?_
  rotate_left
  · intro w'
    go_simp
    with_reducible rfl
  rotate_left
  · simp only [Act.put, List.setIfInBounds_toArray, List.set_cons_zero, List.set_cons_succ, i64_w, i32_w]
    rfl
  refine pure_ (i := 11) (N := some 87) (v := ?_) (a' := ?_) #[true, true, true, true, true, true, true, true, true, true, true, true, false, false, false, false, false, false, false, false] rfl rfl (by kernel_rfl) (fun _ _ _ h => h) (Or.inl ⟨by rfl, ?_⟩) ?_ ?_
  rotate_left
  · intro w'
    go_simp
    with_reducible rfl
  rotate_left
  · simp only [Act.put, List.setIfInBounds_toArray, List.set_cons_zero, List.set_cons_succ, i64_w, i32_w]
    rfl
  refine pure_ (i := 12) (N := some 88) (v := ?_) (a' := ?_) #[true, true, true, true, true, true, true, true, true, true, true, true, true, false, false, false, false, false, false, false] rfl rfl (by kernel_rfl) (fun _ _ _ h => h) (Or.inl ⟨by rfl, ?_⟩) ?_ ?_
  rotate_left
  · intro w'
    go_simp
    with_reducible rfl
  rotate_left
  · simp only [Act.put, List.setIfInBounds_toArray, List.set_cons_zero, List.set_cons_succ, i64_w, i32_w]
    rfl
  refine take_ (i := 13) (N := some 89) (v := ?_) (a' := ?_) #[true, true, true, true, true, true, true, true, true, true, true, true, true, true, false, false, false, false, false, false] rfl rfl (by kernel_rfl) (fun _ _ _ h => h) (Or.inl ⟨by rfl, ?_⟩) hHeld ?_ ?_
  rotate_left
  · rintro w' ⟨s0, s1, s2⟩
    go_simp
    with_reducible rfl
  rotate_left
  · simp only [Act.put, List.setIfInBounds_toArray, List.set_cons_zero, List.set_cons_succ, i64_w, i32_w]
    rfl
  refine pure_ (i := 14) (N := some 90) (v := ?_) (a' := ?_) #[true, true, true, true, true, true, true, true, true, true, true, true, true, true, true, false, false, false, false, false] rfl rfl (by kernel_rfl) (fun _ _ _ h => h) (Or.inl ⟨by rfl, ?_⟩) ?_ ?_
  rotate_left
  · intro w'
    go_simp
    with_reducible rfl
  rotate_left
  · simp only [Act.put, List.setIfInBounds_toArray, List.set_cons_zero, List.set_cons_succ, i64_w, i32_w]
    rfl
  refine pure_ (i := 15) (N := some 91) (v := ?_) (a' := ?_) #[true, true, true, true, true, true, true, true, true, true, true, true, true, true, true, true, false, false, false, false] rfl rfl (by kernel_rfl) (fun _ _ _ h => h) (Or.inl ⟨by rfl, ?_⟩) ?_ ?_
  rotate_left
  · intro w'
    go_simp
    rw [HW.out]
  rotate_left
  · simp only [Act.put, List.setIfInBounds_toArray, List.set_cons_zero, List.set_cons_succ, i64_w, i32_w]
    rfl
  refine one_ (i := 16) (N := some 92) #[true, true, true, true, true, true, true, true, true, true, true, true, true, true, true, true, true, false, false, false] rfl rfl (by kernel_rfl) (by decide) (fun K hK => ?_)
  refine goes_ Tryd.func68 (by kernel_rfl) rfl #[.slice (some ⟨g, 0, none⟩) l cap, .int .i64 n] (by rfl) rfl rfl (by (try simp only [List.map_toArray, List.map_cons, List.map_nil]); first | done | rfl | (simp only [List.length_drop, List.length_take]; rfl)) ?_
  with_reducible refine (HGS.out w2.drew (below_drew HB1.out)).mono ?_
  rintro e w3 ⟨cap2, cells, rfl, k1, k2, k3, k4, k5, k6⟩
  refine ⟨_, rfl, ?_⟩
  refine hK.out _ _ (let q := hHeld.2.2.below k6; ⟨q.c0, q.c1, q⟩) (fun hHeld => ?_)
  clear hK K
  refine norm_ (a' := ?_) ?_ ?_
  rotate_left
  · show Act.put _ (some 92) _ = _
    simp only [Act.put, List.setIfInBounds_toArray, List.set_cons_zero, List.set_cons_succ, i64_w, i32_w]
    rfl
  refine pure_ (i := 17) (N := some 93) (v := ?_) (a' := ?_) #[true, true, true, true, true, true, true, true, true, true, true, true, true, true, true, true, true, true, false, false] rfl rfl (by kernel_rfl) (fun _ _ _ h => h) (Or.inl ⟨by rfl, ?_⟩) ?_ ?_
  rotate_left
  · intro w'
    go_simp
    with_reducible rfl
  rotate_left
  · simp only [Act.put, List.setIfInBounds_toArray, List.set_cons_zero, List.set_cons_succ, i64_w, i32_w]
    rfl
  refine pure_ (i := 18) (N := some 94) (v := ?_) (a' := ?_) #[true, true, true, true, true, true, true, true, true, true, true, true, true, true, true, true, true, true, true, false] rfl rfl (by kernel_rfl) (fun _ _ _ h => h) (Or.inl ⟨by rfl, ?_⟩) ?_ ?_
  rotate_left
  · intro w'
    go_simp
    with_reducible rfl
  rotate_left
  · simp only [Act.put, List.setIfInBounds_toArray, List.set_cons_zero, List.set_cons_succ, i64_w, i32_w]
    rfl
  refine last_ (i := 19) (N := none) #[true, true, true, true, true, true, true, true, true, true, true, true, true, true, true, true, true, true, true, true] rfl rfl (by kernel_rfl) (by decide) (fun K hK => ?_)
  obtain ⟨s0, s1, s2⟩ := hHeld
  have fA := s2.f 0
  refine skip_ (w1 := ?_) (by rfl) rfl ?_ ?_
  rotate_left
  · go_simp
    rfl
  refine hK.out _ _ ?_
  clear hK K
  refine norm_ (a' := ?_) ?_ ?_
  rotate_left
  · rfl
  refine done_ (by kernel_rfl) ?_
  have K1 := Aside0.mk k1
  have K2 := Aside0.mk k2
  have K3 := Aside0.mk k3
  have K4 : Aside0 (m ≤ cap2) := ⟨by have := HM.out; omega⟩
  have K5 := Aside0.mk k5
  have K6 : Aside0 (Below w2.heap.size w2 w3) := ⟨below_then (below_drew (Below.refl _ w2)) (Nat.le_refl _) k6⟩
  have hm2 : (m : Int) ≤ cap2 := by have := HM.out; omega
  have hm3 : m ≤ cap2 := by have := HM.out; omega
  have hm4 : ¬ cap2 = 0 := by omega
  clear k1 k2 k3 k4 k5 k6 s0 s1 fA c0 c1 hq2
  generalize hw4 : World.setCell _ _ _ = w4
  have H4 : Aside0 (BfC w4 b (.slice (some ⟨w2.heap.size, 0, none⟩) l cap2) lr) := ⟨by rw [← hw4]; exact s2.set0 _⟩
  have O4 : Aside0 (Only b w3 w4) := ⟨by rw [← hw4]; exact (Only.refl _ _).set _ _⟩
  clear hw4 s2
  have f1 := H4.out.f 1
  have cc1 := H4.out.c1
  go_upto_region 17 with fail
  generalize hw5 : World.setCell _ _ _ = w5
  have H5 : Aside0 (BfC w5 b (.slice (some ⟨w2.heap.size, 0, none⟩) l cap2) lr) := ⟨by rw [← hw5]; exact H4.out.set1⟩
  have O5 : Aside0 (Only b w3 w5) := ⟨by rw [← hw5]; exact O4.out.set _ _⟩
  clear hw5 f1 cc1
  have f0 := H5.out.f 0
  have c50 := H5.out.c0
  have hs := HS.out
  go_wp2_with fail
  go_ret
  have hm := HM.out
  subst hm
  exact ⟨rfl, grown_of (blk_lt' H.out) HB1.out.size K1.out (Only.of_below (below_then HB1.out HB1.out.size K6.out)) (O5.out.set _ _) (H5.out.set0 _) K2.out K3.out K4.out K5.out⟩
end Go.Proofs.YtigpdgfhngknhaaDoor.Snk
/- bytes.Buffer: bytes are written. -/
namespace Go.Proofs.YtigpdgfhngknhaaDoor.Snk
open Go.RowKit Go.Proofs.YtigpdgfhngknhaaDoorW.PrintWords Go.Proofs.YtigpdgfhngknhaaDoorW.PrintLast Go.Proofs.YtigpdgfhngknhaaDoorW.PrintMore
set_option linter.unusedVariables false
set_option linter.unusedSimpArgs false
/-- Room was made behind l cells: the row r. -/
def Room (b l n : Nat) (old : List Value) (lr : Int) (own : Nat → Prop) (w w' : World) : Prop := ∃ r cap cells, BfC w' b (.slice (some ⟨r, 0, none⟩) (l + n) cap) lr ∧ r ≠ b ∧ own r ∧ w'.heap[r]? = some (.cells cells 5 (0, 0)) ∧ cells.size = cap ∧ cells.toList.take l = old ∧ l + n ≤ cap ∧ cap ≤ maxLen ∧ Only b w w'
theorem Grown.room {b l n : Nat} {old : List Value} {lr : Int} {w w' : World} (hb : b < w.heap.size) (h : Grown b l n old lr w w') : Room b l n old lr (fun k => w.heap.size ≤ k) w w' := by
  obtain ⟨r, cap, cells, h1, h2, h3, h4, h5, h6, h7, h8⟩ := h
  exact ⟨r, cap, cells, h2, by omega, h1, h3, h4, h5, h6, h7, h8⟩
theorem grow0 (b n : Nat) (lr : Int) (w : World) (h : BfC w b (.slice none 0 0) lr) (hn : 1 ≤ n) (hlim : n ≤ 140737488355328) : Calls Tryd.prog 59 #[.pointer (some ⟨b, 0, none⟩), .int .i64 n] w fun e w' => e = .returned (.int .i64 (0 : Nat)) ∧ Grown b 0 n [] lr w w' := by
  by_cases h64 : n ≤ 64
  · exact growN b n lr w h hn h64
  · exact growB b n lr w h (by omega) hlim
theorem growR (b n : Nat) (lr : Int) (w : World) (g l cap : Nat) (cur : Array Value) (h : BfC w b (.slice (some ⟨g, 0, none⟩) l cap) lr) (hg : w.heap[g]? = some (.cells cur 5 (0, 0))) (hcs : cur.size = cap) (hlc : l ≤ cap) (hn : cap - l < n) (hlim : l + n ≤ 140737488355328) (h1c : ∀ v ∈ cur.toList.take l, v.oneCell' = true) : Calls Tryd.prog 59 #[.pointer (some ⟨b, 0, none⟩), .int .i64 n] w fun e w' => e = .returned (.int .i64 (l : Nat)) ∧ Grown b l n (cur.toList.take l) lr w w' := by
  by_cases hl : 0 < l
  · exact growD b n lr w g l cap cur h hg hcs hl hlc hn hlim h1c
  · obtain rfl : l = 0 := by omega
    exact growE b n lr w g cap cur h hg hcs hn hlim h1c
/-- A copy of bytes into a row. -/
theorem copyB {W : World} {ρ : Operand → Value} {o : Oper} (d s : Operand) (ho : o.op = .call { callee := .builtin .copy, args := #[d, s], argTypes := #[26, 26] }) {r off n dc c : Nat} {A : Option Addr} {p : List Int} {cells : Array Value} (hg : W.heap[r]? = some (.cells cells 5 (0, 0))) (hn : 0 < n) (hfit : off + n ≤ cells.size)
    (hd : ρ d = .slice (some ⟨r, off, none⟩) n dc) (hs : ρ s = .slice A n c) (hp : ReadsInt W .u8 A n p) :
    (execOp ρ o).run Tryd.prog W = .ok (.value (.int .i64 (n : Int))) (W.setRow r (cells.toList.take off ++ (byteC p ++ cells.toList.drop (off + n))).toArray) := by
  have hsz : (Tryd.prog.info? 5).map (·.size) = some 1 := by kernel_rfl
  obtain ⟨hl, _, hc⟩ := hp
  obtain ⟨ad, rfl, hcc⟩ := hc hn
  have hb : (byteC p).length = n := by rw [byteC_len, hl]
  have hrun := run_copy_row (P := Tryd.prog) W 26 26 o.type 5 r off n dc ad n c cells 5 (byteC p) Tryd.underlying26 hsz hg (by rw [hb]; exact (Nat.min_self n).symm) (fun j v hj => ?_) (by rw [hb]; exact hfit) (fun v hv => ?_)
  · rw [hb] at hrun
    simp [execOp, ho, resolve, invoke, builtin, hd, hs, hrun, Result.andThen]
    rfl
  · have hjl : j < p.length := by rw [← byteC_len]; exact (List.getElem?_eq_some_iff.1 hj).1
    rw [byteC_at hjl] at hj
    obtain rfl := Option.some.inj hj
    exact hcc j (by omega)
  · unfold byteC at hv
    obtain ⟨x, _, rfl⟩ := List.mem_map.1 hv
    rfl
/-- What a buffer's writer may turn: its three cells and one row. -/
structure Turned (b r : Nat) (w w' : World) : Prop where
  os : w'.os = w.os
  tape : w'.tape = w.tape
  output : w'.output = w.output
  size : w.heap.size ≤ w'.heap.size
  block : ∀ k, k < w.heap.size → k ≠ b → k ≠ r → w'.heap[k]? = w.heap[k]?
theorem Turned.row {b r : Nat} {w w1 : World} (h : Only b w w1) (cs : Array Value) : Turned b r w (w1.setRow r cs) :=
  ⟨h.os, h.tape, h.output, by rw [setRow_size]; exact h.size, fun k hk hkb hkr => (setRow_other w1 r k cs hkr).trans (h.block k hk hkb)⟩
theorem BfC.row {w : World} {b r : Nat} {v : Value} {lr : Int} (h : BfC w b v lr) (hr : r ≠ b) (cs : Array Value) : BfC (w.setRow r cs) b v lr := (setRow_other w r b cs (Ne.symm hr)).trans h
theorem take_laid (L P : List Value) (off n : Nat) (h : off + n ≤ L.length) (hP : P.length = n) : (L.take off ++ (P ++ L.drop (off + n))).take (off + n) = L.take off ++ P := by
  rw [← List.append_assoc, List.take_left' (by rw [List.length_append, List.length_take]; omega)]
theorem size_laid (L P : List Value) (off n : Nat) (h : off + n ≤ L.length) (hP : P.length = n) : (L.take off ++ (P ++ L.drop (off + n))).toArray.size = L.length := by
  simp only [List.size_toArray, List.length_append, List.length_take, List.length_drop]; omega
/-- n bytes more lie in the row r. -/
def Laid (b l n : Nat) (row : List Value) (own : Nat → Prop) (w w' : World) : Prop := ∃ r cap cells, BfC w' b (.slice (some ⟨r, 0, none⟩) (l + n) cap) 0 ∧ r ≠ b ∧ own r ∧ w'.heap[r]? = some (.cells cells 5 (0, 0)) ∧ cells.size = cap ∧ cells.toList.take (l + n) = row ∧ l + n ≤ cap ∧ cap ≤ maxLen ∧ Turned b r w w'
set_option maxRecDepth 100000 in
set_option maxHeartbeats 4000000 in
theorem writeT (b n l : Nat) (v : Value) (lr : Int) (own : Nat → Prop) (old : List Value) (A : Option Addr) (c : Nat) (p : List Int) (w : World) (h : BfC w b v lr) (hn : 0 < n) (hc : n ≤ c) (hr : ∀ W, Only b w W → ReadsInt W .u8 A n p) (hl : l + n ≤ 140737488355328) (ht : ∀ w1, BfC w1 b v 0 → Only b w w1 → Calls Tryd.prog 58 #[.pointer (some ⟨b, 0, none⟩), .int .i64 n] w1 (fun e w' => e = .returned (.tuple #[.int .i64 l, .bool true]) ∧ Room b l n old 0 own w w')) :
    Calls Tryd.prog 92 #[.pointer (some ⟨b, 0, none⟩), .slice A n c] w fun e w' => e = .returned (.tuple #[.int .i64 n, .nilIface]) ∧ Laid b l n (old ++ byteC p) own w w' := by
  have HN := Aside0.mk hn
  have HC := Aside0.mk hc
  have HR := Aside0.mk hr
  have HT := Aside0.mk ht
  have HL := Aside0.mk hl
  have HP : Aside0 (p.length = n) := ⟨(hr w (Only.refl _ _)).1⟩
  obtain ⟨m, hm⟩ : ∃ m, l + n = m := ⟨_, rfl⟩
  have HM := Aside0.mk hm
  have hlm : l ≤ m := by omega
  have hlm2 : (l : Int) ≤ (m : Int) := by omega
  have hml : Aside0 (m - l = n) := ⟨by omega⟩
  have c2 := h.c2
  have f2 := h.f 2
  have H := Aside0.mk h
  clear h hn hc hr ht hl hm
  go_enter Tryd.func92, Tryd.ntmps92
  go_upto_region 2 with fail
  generalize hw1 : World.setCell _ _ _ = w1
  have H1 : Aside0 (BfC w1 b v 0) := ⟨by rw [← hw1]; exact H.out.set2 0⟩
  have O1 : Aside0 (Only b w w1) := ⟨by rw [← hw1]; exact (Only.refl _ _).set _ _⟩
  clear hw1 c2 f2
  go_upto_region 5 with (go_at_call 58; (with_reducible refine (HT.out w1 H1.out O1.out).mono ?_); rintro e w2 ⟨rfl, r, cap, cells, k1, k2, k3, k4, k5, k6, k7, k8, k9⟩; have K1 := Aside0.mk k1; have K2 := Aside0.mk k2; have K3 := Aside0.mk k3; have K4 := Aside0.mk k4; have K5 := Aside0.mk k5; have K6 := Aside0.mk k6; have K7 := Aside0.mk k7; have K8 := Aside0.mk k8; have K9 := Aside0.mk k9; clear k1 k2 k3 k4 k5 k6 k7 k8 k9)
  have hc0 : w2.cell? ⟨b, 0, none⟩ = some (.slice (some ⟨r, 0, none⟩) m cap) := by rw [← HM.out]; exact K1.out.c0
  have hcl : ¬ cap = l := by have h1 := K7.out; have h2 := HN.out; omega
  have hmc : m ≤ cap := by have h1 := K7.out; have h2 := HM.out; omega
  have HFIT : Aside0 (l + n ≤ cells.toList.length) := ⟨by rw [Array.length_toList, K5.out]; exact K7.out⟩
  have HRUN : Aside0 (∀ (ρ : Operand → Value) (o : Oper) (dc : Nat), o.op = .call { callee := .builtin .copy, args := #[.tmp 29, .tmp 30], argTypes := #[26, 26] } → ρ (.tmp 29) = .slice (some ⟨r, l, none⟩) (m - l) dc → ρ (.tmp 30) = .slice A n c → (execOp ρ o).run Tryd.prog w2 = .ok (.value (.int .i64 (n : Int))) (w2.setRow r (cells.toList.take l ++ (byteC p ++ cells.toList.drop (l + n))).toArray)) := ⟨fun ρ o dc h1 h2 h3 => copyB (.tmp 29) (.tmp 30) h1 K4.out HN.out (by rw [← Array.length_toList]; exact HFIT.out) (by rw [h2, hml.out]) h3 (HR.out w2 K9.out)⟩
  obtain ⟨w9, hw9⟩ : ∃ w9, w2.setRow r (cells.toList.take l ++ (byteC p ++ cells.toList.drop (l + n))).toArray = w9 := ⟨_, rfl⟩
  have HW9 := Aside0.mk hw9
  rw [hw9] at HRUN
  clear hw9
  go_wp2_with ((with_reducible refine at_dst (N := 31) rfl ?_); refine wpList_run rfl _ (HRUN.out _ _ _ rfl rfl rfl) ?_)
  go_ret2
  have hw9 := HW9.out
  subst hw9
  exact ⟨rfl, r, cap, _, K1.out.row K2.out _, K2.out, K3.out, setRow_heap _ _ _ _ _ _ K4.out, (size_laid _ _ _ _ HFIT.out (by rw [byteC_len]; exact HP.out)).trans (by rw [Array.length_toList, K5.out]), (take_laid _ _ _ _ HFIT.out (by rw [byteC_len]; exact HP.out)).trans (by rw [K6.out]), K7.out, K8.out, .row K9.out _⟩
set_option maxRecDepth 100000 in
set_option maxHeartbeats 4000000 in
theorem writeF (b n l : Nat) (v : Value) (lr : Int) (own : Nat → Prop) (old : List Value) (A : Option Addr) (c : Nat) (p : List Int) (w : World) (h : BfC w b v lr) (hn : 0 < n) (hc : n ≤ c) (hr : ∀ W, Only b w W → ReadsInt W .u8 A n p) (hl : l + n ≤ 140737488355328) (ht : ∀ w1, BfC w1 b v 0 → Only b w w1 → Calls Tryd.prog 58 #[.pointer (some ⟨b, 0, none⟩), .int .i64 n] w1 (fun e w' => e = .returned (.tuple #[.int .i64 0, .bool false]) ∧ w' = w1)) (hg : ∀ w1, BfC w1 b v 0 → Only b w w1 → Calls Tryd.prog 59 #[.pointer (some ⟨b, 0, none⟩), .int .i64 n] w1 (fun e w' => e = .returned (.int .i64 l) ∧ Room b l n old 0 own w w')) :
    Calls Tryd.prog 92 #[.pointer (some ⟨b, 0, none⟩), .slice A n c] w fun e w' => e = .returned (.tuple #[.int .i64 n, .nilIface]) ∧ Laid b l n (old ++ byteC p) own w w' := by
  have HN := Aside0.mk hn
  have HC := Aside0.mk hc
  have HR := Aside0.mk hr
  have HT := Aside0.mk ht
  have HL := Aside0.mk hl
  have HP : Aside0 (p.length = n) := ⟨(hr w (Only.refl _ _)).1⟩
  have HGR := Aside0.mk hg
  obtain ⟨m, hm⟩ : ∃ m, l + n = m := ⟨_, rfl⟩
  have HM := Aside0.mk hm
  have hlm : l ≤ m := by omega
  have hlm2 : (l : Int) ≤ (m : Int) := by omega
  have hml : Aside0 (m - l = n) := ⟨by omega⟩
  have c2 := h.c2
  have f2 := h.f 2
  have H := Aside0.mk h
  clear h hn hc hr ht hl hg hm
  go_enter Tryd.func92, Tryd.ntmps92
  go_upto_region 2 with fail
  generalize hw1 : World.setCell _ _ _ = w1
  have H1 : Aside0 (BfC w1 b v 0) := ⟨by rw [← hw1]; exact H.out.set2 0⟩
  have O1 : Aside0 (Only b w w1) := ⟨by rw [← hw1]; exact (Only.refl _ _).set _ _⟩
  clear hw1 c2 f2
  go_upto_region 3 with (go_at_call 58; (with_reducible refine (HT.out w1 H1.out O1.out).mono ?_); rintro e w2 ⟨rfl, rfl⟩)
  go_upto_region 5 with (go_at_call 59; (with_reducible refine (HGR.out w2 H1.out O1.out).mono ?_); rintro e w3 ⟨rfl, r, cap, cells, k1, k2, k3, k4, k5, k6, k7, k8, k9⟩; have K1 := Aside0.mk k1; have K2 := Aside0.mk k2; have K3 := Aside0.mk k3; have K4 := Aside0.mk k4; have K5 := Aside0.mk k5; have K6 := Aside0.mk k6; have K7 := Aside0.mk k7; have K8 := Aside0.mk k8; have K9 := Aside0.mk k9; clear k1 k2 k3 k4 k5 k6 k7 k8 k9)
  have hc0 : w3.cell? ⟨b, 0, none⟩ = some (.slice (some ⟨r, 0, none⟩) m cap) := by rw [← HM.out]; exact K1.out.c0
  have hcl : ¬ cap = l := by have h1 := K7.out; have h2 := HN.out; omega
  have hmc : m ≤ cap := by have h1 := K7.out; have h2 := HM.out; omega
  have HFIT : Aside0 (l + n ≤ cells.toList.length) := ⟨by rw [Array.length_toList, K5.out]; exact K7.out⟩
  have HRUN : Aside0 (∀ (ρ : Operand → Value) (o : Oper) (dc : Nat), o.op = .call { callee := .builtin .copy, args := #[.tmp 29, .tmp 30], argTypes := #[26, 26] } → ρ (.tmp 29) = .slice (some ⟨r, l, none⟩) (m - l) dc → ρ (.tmp 30) = .slice A n c → (execOp ρ o).run Tryd.prog w3 = .ok (.value (.int .i64 (n : Int))) (w3.setRow r (cells.toList.take l ++ (byteC p ++ cells.toList.drop (l + n))).toArray)) := ⟨fun ρ o dc h1 h2 h3 => copyB (.tmp 29) (.tmp 30) h1 K4.out HN.out (by rw [← Array.length_toList]; exact HFIT.out) (by rw [h2, hml.out]) h3 (HR.out w3 K9.out)⟩
  obtain ⟨w9, hw9⟩ : ∃ w9, w3.setRow r (cells.toList.take l ++ (byteC p ++ cells.toList.drop (l + n))).toArray = w9 := ⟨_, rfl⟩
  have HW9 := Aside0.mk hw9
  rw [hw9] at HRUN
  clear hw9
  go_wp2_with ((with_reducible refine at_dst (N := 31) rfl ?_); refine wpList_run rfl _ (HRUN.out _ _ _ rfl rfl rfl) ?_)
  go_ret2
  have hw9 := HW9.out
  subst hw9
  exact ⟨rfl, r, cap, _, K1.out.row K2.out _, K2.out, K3.out, setRow_heap _ _ _ _ _ _ K4.out, (size_laid _ _ _ _ HFIT.out (by rw [byteC_len]; exact HP.out)).trans (by rw [Array.length_toList, K5.out]), (take_laid _ _ _ _ HFIT.out (by rw [byteC_len]; exact HP.out)).trans (by rw [K6.out]), K7.out, K8.out, .row K9.out _⟩
end Go.Proofs.YtigpdgfhngknhaaDoor.Snk
/- bytes.Buffer: one byte; nothing; what it holds. -/
namespace Go.Proofs.YtigpdgfhngknhaaDoor.Snk
open Go.RowKit Go.Proofs.YtigpdgfhngknhaaDoorW.PrintWords Go.Proofs.YtigpdgfhngknhaaDoorW.PrintLast Go.Proofs.YtigpdgfhngknhaaDoorW.PrintMore
set_option linter.unusedVariables false
set_option linter.unusedSimpArgs false
theorem Turned.only {b r : Nat} {w w1 w2 : World} (h : Only b w w1) (k : Only r w1 w2) : Turned b r w w2 :=
  ⟨k.os.trans h.os, k.tape.trans h.tape, k.output.trans h.output, Nat.le_trans h.size k.size, fun i hi hb hr => (k.block i (Nat.lt_of_lt_of_le hi h.size) hr).trans (h.block i hi hb)⟩
theorem take_set_end (L : List Value) (l : Nat) (old : List Value) (x : Value) (h : L.take l = old) (hl : l + 1 ≤ L.length) : (L.set l x).take (l + 1) = old ++ [x] := by
  subst h
  rw [List.take_add_one, List.take_set_of_le (Nat.le_refl _), List.getElem?_set_self (by omega)]
  rfl
theorem BfC.trans' {w : World} {b r : Nat} {v u : Value} {lr : Int} {j : Nat} {cells : Array Value} (h : BfC w b v lr) (hr : r ≠ b) (hc : w.heap[r]? = some (.cells cells 5 (0, 0))) : BfC (w.setCell ⟨r, j, none⟩ u) b v lr := (Below.heap_setCell w ⟨r, j, none⟩ u b (Ne.symm hr)).trans h
set_option maxRecDepth 100000 in
set_option maxHeartbeats 4000000 in
theorem byteT (b l : Nat) (v : Value) (lr : Int) (own : Nat → Prop) (old : List Value) (x : Int) (w : World) (h : BfC w b v lr) (hl : l + 1 ≤ 140737488355328) (ht : ∀ w1, BfC w1 b v 0 → Only b w w1 → Calls Tryd.prog 58 #[.pointer (some ⟨b, 0, none⟩), .int .i64 1] w1 (fun e w' => e = .returned (.tuple #[.int .i64 l, .bool true]) ∧ Room b l 1 old 0 own w w')) :
    Calls Tryd.prog 49 #[.pointer (some ⟨b, 0, none⟩), .int .u8 x] w fun e w' => e = .returned (.nilIface) ∧ Laid b l 1 (old ++ [.int .u8 x]) own w w' := by
  have HT := Aside0.mk ht
  have HL := Aside0.mk hl
  obtain ⟨m, hm⟩ : ∃ m, l + 1 = m := ⟨_, rfl⟩
  have HM := Aside0.mk hm
  have hlm : l < m := by omega
  have hlm2 : (l : Int) < (m : Int) := by omega
  have c2 := h.c2
  have f2 := h.f 2
  have H := Aside0.mk h
  clear h ht hl hm
  go_enter Tryd.func49, Tryd.ntmps49
  go_upto_region 2 with fail
  generalize hw1 : World.setCell _ _ _ = w1
  have H1 : Aside0 (BfC w1 b v 0) := ⟨by rw [← hw1]; exact H.out.set2 0⟩
  have O1 : Aside0 (Only b w w1) := ⟨by rw [← hw1]; exact (Only.refl _ _).set _ _⟩
  clear hw1 c2 f2
  go_upto_region 5 with (go_at_call 58; (with_reducible refine (HT.out w1 H1.out O1.out).mono ?_); rintro e w2 ⟨rfl, r, cap, cells, k1, k2, k3, k4, k5, k6, k7, k8, k9⟩; have K1 := Aside0.mk k1; have K2 := Aside0.mk k2; have K3 := Aside0.mk k3; have K4 := Aside0.mk k4; have K5 := Aside0.mk k5; have K6 := Aside0.mk k6; have K7 := Aside0.mk k7; have K8 := Aside0.mk k8; have K9 := Aside0.mk k9; clear k1 k2 k3 k4 k5 k6 k7 k8 k9)
  have hc0 : w2.cell? ⟨b, 0, none⟩ = some (.slice (some ⟨r, 0, none⟩) m cap) := by rw [← HM.out]; exact K1.out.c0
  have hfz : w2.frozen? ⟨r, l, none⟩ = false := frozen_of K4.out l
  have hcl : l < cells.size := by rw [K5.out]; have h1 := K7.out; omega
  obtain ⟨y, hy⟩ : ∃ y, cells[l]? = some y := ⟨_, Array.getElem?_eq_getElem hcl⟩
  have hcy : w2.cell? ⟨r, l, none⟩ = some y := cell_of K4.out hy
  clear hcl hy
  go_wp2_with fail
  go_ret
  exact ⟨rfl, r, cap, _, K1.out.trans' K2.out K4.out, K2.out, K3.out, heap_set_same K4.out (j := l) _, (by rw [Array.size_setIfInBounds]; exact K5.out), (by rw [Array.toList_setIfInBounds]; exact take_set_end _ _ _ _ K6.out (by rw [Array.length_toList, K5.out]; exact K7.out)), K7.out, K8.out, .only K9.out ((Only.refl _ _).set _ _)⟩
set_option maxRecDepth 100000 in
set_option maxHeartbeats 4000000 in
theorem byteF (b l : Nat) (v : Value) (lr : Int) (own : Nat → Prop) (old : List Value) (x : Int) (w : World) (h : BfC w b v lr) (hl : l + 1 ≤ 140737488355328) (ht : ∀ w1, BfC w1 b v 0 → Only b w w1 → Calls Tryd.prog 58 #[.pointer (some ⟨b, 0, none⟩), .int .i64 1] w1 (fun e w' => e = .returned (.tuple #[.int .i64 0, .bool false]) ∧ w' = w1)) (hg : ∀ w1, BfC w1 b v 0 → Only b w w1 → Calls Tryd.prog 59 #[.pointer (some ⟨b, 0, none⟩), .int .i64 1] w1 (fun e w' => e = .returned (.int .i64 l) ∧ Room b l 1 old 0 own w w')) :
    Calls Tryd.prog 49 #[.pointer (some ⟨b, 0, none⟩), .int .u8 x] w fun e w' => e = .returned (.nilIface) ∧ Laid b l 1 (old ++ [.int .u8 x]) own w w' := by
  have HT := Aside0.mk ht
  have HL := Aside0.mk hl
  have HGR := Aside0.mk hg
  obtain ⟨m, hm⟩ : ∃ m, l + 1 = m := ⟨_, rfl⟩
  have HM := Aside0.mk hm
  have hlm : l < m := by omega
  have hlm2 : (l : Int) < (m : Int) := by omega
  have c2 := h.c2
  have f2 := h.f 2
  have H := Aside0.mk h
  clear h ht hl hg hm
  go_enter Tryd.func49, Tryd.ntmps49
  go_upto_region 2 with fail
  generalize hw1 : World.setCell _ _ _ = w1
  have H1 : Aside0 (BfC w1 b v 0) := ⟨by rw [← hw1]; exact H.out.set2 0⟩
  have O1 : Aside0 (Only b w w1) := ⟨by rw [← hw1]; exact (Only.refl _ _).set _ _⟩
  clear hw1 c2 f2
  go_upto_region 3 with (go_at_call 58; (with_reducible refine (HT.out w1 H1.out O1.out).mono ?_); rintro e w2 ⟨rfl, rfl⟩)
  go_upto_region 5 with (go_at_call 59; (with_reducible refine (HGR.out w2 H1.out O1.out).mono ?_); rintro e w3 ⟨rfl, r, cap, cells, k1, k2, k3, k4, k5, k6, k7, k8, k9⟩; have K1 := Aside0.mk k1; have K2 := Aside0.mk k2; have K3 := Aside0.mk k3; have K4 := Aside0.mk k4; have K5 := Aside0.mk k5; have K6 := Aside0.mk k6; have K7 := Aside0.mk k7; have K8 := Aside0.mk k8; have K9 := Aside0.mk k9; clear k1 k2 k3 k4 k5 k6 k7 k8 k9)
  have hc0 : w3.cell? ⟨b, 0, none⟩ = some (.slice (some ⟨r, 0, none⟩) m cap) := by rw [← HM.out]; exact K1.out.c0
  have hfz : w3.frozen? ⟨r, l, none⟩ = false := frozen_of K4.out l
  have hcl : l < cells.size := by rw [K5.out]; have h1 := K7.out; omega
  obtain ⟨y, hy⟩ : ∃ y, cells[l]? = some y := ⟨_, Array.getElem?_eq_getElem hcl⟩
  have hcy : w3.cell? ⟨r, l, none⟩ = some y := cell_of K4.out hy
  clear hcl hy
  go_wp2_with fail
  go_ret
  exact ⟨rfl, r, cap, _, K1.out.trans' K2.out K4.out, K2.out, K3.out, heap_set_same K4.out (j := l) _, (by rw [Array.size_setIfInBounds]; exact K5.out), (by rw [Array.toList_setIfInBounds]; exact take_set_end _ _ _ _ K6.out (by rw [Array.length_toList, K5.out]; exact K7.out)), K7.out, K8.out, .only K9.out ((Only.refl _ _).set _ _)⟩
set_option maxRecDepth 100000 in
set_option maxHeartbeats 4000000 in
theorem zeroN (b : Nat) (lr : Int) (A : Option Addr) (c : Nat) (w : World) (h : BfC w b (.slice none 0 0) lr) :
    Calls Tryd.prog 92 #[.pointer (some ⟨b, 0, none⟩), .slice A 0 c] w fun e w' => e = .returned (.tuple #[.int .i64 (0 : Nat), .nilIface]) ∧ BfC w' b (.slice none 0 0) 0 ∧ Only b w w' := by
  have hlc : 0 ≤ 0 := Nat.le_refl _
  have hcm : 0 ≤ maxLen := by simp [maxLen]
  have HT : Aside0 (∀ w1, BfC w1 b (.slice none 0 0) 0 → Calls Tryd.prog 58 #[.pointer (some ⟨b, 0, none⟩), .int .i64 0] w1 fun e w' => e = .returned (.tuple #[.int .i64 (0 : Nat), .bool true]) ∧ w' = w1.setCell ⟨b, 0, none⟩ (.slice none (0 + 0) 0)) := ⟨fun w1 h1 => tryRoom b none 0 0 0 0 w1 h1 hlc hcm (Nat.zero_le _)⟩
  have HLC := Aside0.mk hlc
  have c2 := h.c2
  have f2 := h.f 2
  have H := Aside0.mk h
  clear h hcm
  go_enter Tryd.func92, Tryd.ntmps92
  go_upto_region 2 with fail
  generalize hw1 : World.setCell _ _ _ = w1
  have H1 : Aside0 (BfC w1 b (.slice none 0 0) 0) := ⟨by rw [← hw1]; exact H.out.set2 0⟩
  have O1 : Aside0 (Only b w w1) := ⟨by rw [← hw1]; exact (Only.refl _ _).set _ _⟩
  clear hw1 c2 f2
  go_upto_region 5 with (go_at_call 58; (with_reducible refine (HT.out w1 H1.out).mono ?_); rintro e w2 ⟨rfl, hw2⟩; have H2 : Aside0 (BfC w2 b (.slice none 0 0) 0) := ⟨by rw [hw2]; exact H1.out.set0 _⟩; have O2 : Aside0 (Only b w w2) := ⟨by rw [hw2]; exact O1.out.set _ _⟩; clear hw2)
  have hc0 := H2.out.c0
  have hsz : Aside0 ((Tryd.prog.info? 5).map (·.size) = some 1) := ⟨by kernel_rfl⟩
  have hu : Aside0 (Tryd.prog.underlying 26 = some (.slice 5)) := ⟨Tryd.underlying26⟩
  go_wp2_with ((with_reducible refine at_dst (N := 31) rfl ?_); refine wpList_copy_nothing rfl (.tmp 29) (.tmp 30) 26 26 rfl 5 hu.out hsz.out _ _ _ _ _ _ rfl rfl (by first | rfl | (rw [Nat.sub_self]; rfl)) ?_)
  all_goals
    go_ret2
    first
      | exact ⟨rfl, H2.out, O2.out⟩
      | (have hx : cap = l := by assumption
         subst hx
         exact ⟨rfl, H2.out, O2.out⟩)
      | (have hx : l = cap := by assumption
         subst hx
         exact ⟨rfl, H2.out, O2.out⟩)
set_option maxRecDepth 100000 in
set_option maxHeartbeats 4000000 in
theorem zeroR (b g l cap : Nat) (lr : Int) (A : Option Addr) (c : Nat) (w : World) (h : BfC w b (.slice (some ⟨g, 0, none⟩) l cap) lr) (hlc : l ≤ cap) (hcm : cap ≤ maxLen) :
    Calls Tryd.prog 92 #[.pointer (some ⟨b, 0, none⟩), .slice A 0 c] w fun e w' => e = .returned (.tuple #[.int .i64 (0 : Nat), .nilIface]) ∧ BfC w' b (.slice (some ⟨g, 0, none⟩) l cap) 0 ∧ Only b w w' := by
  have hlm : ¬ (cap : Int) < (l : Int) := by omega
  have HT : Aside0 (∀ w1, BfC w1 b (.slice (some ⟨g, 0, none⟩) l cap) 0 → Calls Tryd.prog 58 #[.pointer (some ⟨b, 0, none⟩), .int .i64 0] w1 fun e w' => e = .returned (.tuple #[.int .i64 l, .bool true]) ∧ w' = w1.setCell ⟨b, 0, none⟩ (.slice (some ⟨g, 0, none⟩) (l + 0) cap)) := ⟨fun w1 h1 => tryRoom b (some ⟨g, 0, none⟩) l cap 0 0 w1 h1 hlc hcm (Nat.zero_le _)⟩
  have HLC := Aside0.mk hlc
  have c2 := h.c2
  have f2 := h.f 2
  have H := Aside0.mk h
  clear h hcm
  go_enter Tryd.func92, Tryd.ntmps92
  go_upto_region 2 with fail
  generalize hw1 : World.setCell _ _ _ = w1
  have H1 : Aside0 (BfC w1 b (.slice (some ⟨g, 0, none⟩) l cap) 0) := ⟨by rw [← hw1]; exact H.out.set2 0⟩
  have O1 : Aside0 (Only b w w1) := ⟨by rw [← hw1]; exact (Only.refl _ _).set _ _⟩
  clear hw1 c2 f2
  go_upto_region 5 with (go_at_call 58; (with_reducible refine (HT.out w1 H1.out).mono ?_); rintro e w2 ⟨rfl, hw2⟩; have H2 : Aside0 (BfC w2 b (.slice (some ⟨g, 0, none⟩) l cap) 0) := ⟨by rw [hw2]; exact H1.out.set0 _⟩; have O2 : Aside0 (Only b w w2) := ⟨by rw [hw2]; exact O1.out.set _ _⟩; clear hw2)
  have hc0 := H2.out.c0
  have hsz : Aside0 ((Tryd.prog.info? 5).map (·.size) = some 1) := ⟨by kernel_rfl⟩
  have hu : Aside0 (Tryd.prog.underlying 26 = some (.slice 5)) := ⟨Tryd.underlying26⟩
  go_wp2_with ((with_reducible refine at_dst (N := 31) rfl ?_); refine wpList_copy_nothing rfl (.tmp 29) (.tmp 30) 26 26 rfl 5 hu.out hsz.out _ _ _ _ _ _ rfl rfl (by first | rfl | (rw [Nat.sub_self]; rfl)) ?_)
  all_goals
    go_ret2
    first
      | exact ⟨rfl, H2.out, O2.out⟩
      | (have hx : cap = l := by assumption
         subst hx
         exact ⟨rfl, H2.out, O2.out⟩)
      | (have hx : l = cap := by assumption
         subst hx
         exact ⟨rfl, H2.out, O2.out⟩)
set_option maxRecDepth 100000 in
set_option maxHeartbeats 4000000 in
theorem bytesN (b : Nat) (lr : Int) (w : World) (h : BfC w b (.slice none 0 0) lr) :
    Calls Tryd.prog 17 #[.pointer (some ⟨b, 0, none⟩)] w fun e w' => e = .returned (.slice none 0 0) ∧ Below w.heap.size w w' ∧ BfC w' b (.slice none 0 0) lr := by
  have H := Aside0.mk h
  clear h
  go_enter Tryd.func17, Tryd.ntmps17
  go_upto_region 1 with fail
  refine start_ (n := 10) (S := fun w' => w'.cell? ⟨b, 0, none⟩ = some (.slice none 0 0) ∧ w'.cell? ⟨b, 1, none⟩ = some (.int .i64 0)) (ds := []) #[false, false, false, false, false, false, false, false, false, false] (by kernel_rfl) rfl rfl ⟨H.out.c0, H.out.c1⟩ (fun hHeld => ?_)
  refine pure_ (i := 0) (N := some 3) (v := ?_) (a' := ?_) #[true, false, false, false, false, false, false, false, false, false] rfl rfl (by kernel_rfl) (fun _ _ _ h => h) (Or.inl ⟨by rfl, ?_⟩) ?_ ?_
  rotate_left
  · intro w'
    go_simp
    with_reducible rfl
  rotate_left
  · simp only [Act.put, List.setIfInBounds_toArray, List.set_cons_zero, List.set_cons_succ, i64_w, i32_w]
    rfl
  refine pure_ (i := 1) (N := some 4) (v := ?_) (a' := ?_) #[true, true, false, false, false, false, false, false, false, false] rfl rfl (by kernel_rfl) (fun _ _ _ h => h) (Or.inl ⟨by rfl, ?_⟩) ?_ ?_
  rotate_left
  · intro w'
    go_simp
    with_reducible rfl
  rotate_left
  · simp only [Act.put, List.setIfInBounds_toArray, List.set_cons_zero, List.set_cons_succ, i64_w, i32_w]
    rfl
  refine pure_ (i := 2) (N := some 5) (v := ?_) (a' := ?_) #[true, true, true, false, false, false, false, false, false, false] rfl rfl (by kernel_rfl) (fun _ _ _ h => h) (Or.inl ⟨by rfl, ?_⟩) ?_ ?_
  rotate_left
  · intro w'
    go_simp
    with_reducible rfl
  rotate_left
  · simp only [Act.put, List.setIfInBounds_toArray, List.set_cons_zero, List.set_cons_succ, i64_w, i32_w]
    rfl
  refine take_ (i := 3) (N := some 6) (v := ?_) (a' := ?_) #[true, true, true, true, false, false, false, false, false, false] rfl rfl (by kernel_rfl) (fun _ _ _ h => h) (Or.inl ⟨by rfl, ?_⟩) hHeld ?_ ?_
  rotate_left
  · rintro w' ⟨s0, s1⟩
    go_simp
    with_reducible rfl
  rotate_left
  · simp only [Act.put, List.setIfInBounds_toArray, List.set_cons_zero, List.set_cons_succ, i64_w, i32_w]
    rfl
  refine pure_ (i := 4) (N := some 7) (v := ?_) (a' := ?_) #[true, true, true, true, true, false, false, false, false, false] rfl rfl (by kernel_rfl) (fun _ _ _ h => h) (Or.inl ⟨by rfl, ?_⟩) ?_ ?_
  rotate_left
  · intro w'
    go_simp
    with_reducible rfl
  rotate_left
  · simp only [Act.put, List.setIfInBounds_toArray, List.set_cons_zero, List.set_cons_succ, i64_w, i32_w]
    rfl
  refine pure_ (i := 5) (N := some 8) (v := ?_) (a' := ?_) #[true, true, true, true, true, true, false, false, false, false] rfl rfl (by kernel_rfl) (fun _ _ _ h => h) (Or.inl ⟨by rfl, ?_⟩) ?_ ?_
  rotate_left
  · intro w'
    go_simp
    with_reducible rfl
  rotate_left
  · simp only [Act.put, List.setIfInBounds_toArray, List.set_cons_zero, List.set_cons_succ, i64_w, i32_w]
    rfl
  refine pure_ (i := 6) (N := some 9) (v := ?_) (a' := ?_) #[true, true, true, true, true, true, true, false, false, false] rfl rfl (by kernel_rfl) (fun _ _ _ h => h) (Or.inl ⟨by rfl, ?_⟩) ?_ ?_
  rotate_left
  · intro w'
    go_simp
    with_reducible rfl
  rotate_left
  · simp only [Act.put, List.setIfInBounds_toArray, List.set_cons_zero, List.set_cons_succ, i64_w, i32_w]
    rfl
  refine take_ (i := 7) (N := some 10) (v := ?_) (a' := ?_) #[true, true, true, true, true, true, true, true, false, false] rfl rfl (by kernel_rfl) (fun _ _ _ h => h) (Or.inl ⟨by rfl, ?_⟩) hHeld ?_ ?_
  rotate_left
  · rintro w' ⟨s0, s1⟩
    go_simp
    with_reducible rfl
  rotate_left
  · simp only [Act.put, List.setIfInBounds_toArray, List.set_cons_zero, List.set_cons_succ, i64_w, i32_w]
    rfl
  refine pure_ (i := 8) (N := some 11) (v := ?_) (a' := ?_) #[true, true, true, true, true, true, true, true, true, false] rfl rfl (by kernel_rfl) (fun _ _ _ h => h) (Or.inl ⟨by rfl, ?_⟩) ?_ ?_
  rotate_left
  · intro w'
    go_simp
    with_reducible rfl
  rotate_left
  · simp only [Act.put, List.setIfInBounds_toArray, List.set_cons_zero, List.set_cons_succ, i64_w, i32_w]
    rfl
  refine pure_ (i := 9) (N := some 2) (v := ?_) (a' := ?_) #[true, true, true, true, true, true, true, true, true, true] rfl rfl (by kernel_rfl) (fun _ _ _ h => h) (Or.inl ⟨by rfl, ?_⟩) ?_ ?_
  rotate_left
  · intro w'
    go_simp
    with_reducible rfl
  rotate_left
  · simp only [Act.put, List.setIfInBounds_toArray, List.set_cons_zero, List.set_cons_succ, i64_w, i32_w]
    rfl
  refine done_ (by kernel_rfl) ?_
  go_wp2_with fail
  go_ret
  exact ⟨rfl, below_drew (Below.refl _ _), H.out⟩
set_option maxRecDepth 100000 in
set_option maxHeartbeats 4000000 in
theorem bytesR (b g l cap : Nat) (lr : Int) (w : World) (h : BfC w b (.slice (some ⟨g, 0, none⟩) l cap) lr) (hlc : l ≤ cap) (hcm : cap ≤ maxLen) :
    Calls Tryd.prog 17 #[.pointer (some ⟨b, 0, none⟩)] w fun e w' => e = .returned (.slice (some ⟨g, 0, none⟩) l cap) ∧ Below w.heap.size w w' ∧ BfC w' b (.slice (some ⟨g, 0, none⟩) l cap) lr := by
  have H := Aside0.mk h
  clear h hcm
  go_enter Tryd.func17, Tryd.ntmps17
  go_upto_region 1 with fail
  refine start_ (n := 10) (S := fun w' => w'.cell? ⟨b, 0, none⟩ = some (.slice (some ⟨g, 0, none⟩) l cap) ∧ w'.cell? ⟨b, 1, none⟩ = some (.int .i64 0)) (ds := []) #[false, false, false, false, false, false, false, false, false, false] (by kernel_rfl) rfl rfl ⟨H.out.c0, H.out.c1⟩ (fun hHeld => ?_)
  refine pure_ (i := 0) (N := some 3) (v := ?_) (a' := ?_) #[true, false, false, false, false, false, false, false, false, false] rfl rfl (by kernel_rfl) (fun _ _ _ h => h) (Or.inl ⟨by rfl, ?_⟩) ?_ ?_
  rotate_left
  · intro w'
    go_simp
    with_reducible rfl
  rotate_left
  · simp only [Act.put, List.setIfInBounds_toArray, List.set_cons_zero, List.set_cons_succ, i64_w, i32_w]
    rfl
  refine pure_ (i := 1) (N := some 4) (v := ?_) (a' := ?_) #[true, true, false, false, false, false, false, false, false, false] rfl rfl (by kernel_rfl) (fun _ _ _ h => h) (Or.inl ⟨by rfl, ?_⟩) ?_ ?_
  rotate_left
  · intro w'
    go_simp
    with_reducible rfl
  rotate_left
  · simp only [Act.put, List.setIfInBounds_toArray, List.set_cons_zero, List.set_cons_succ, i64_w, i32_w]
    rfl
  refine pure_ (i := 2) (N := some 5) (v := ?_) (a' := ?_) #[true, true, true, false, false, false, false, false, false, false] rfl rfl (by kernel_rfl) (fun _ _ _ h => h) (Or.inl ⟨by rfl, ?_⟩) ?_ ?_
  rotate_left
  · intro w'
    go_simp
    with_reducible rfl
  rotate_left
  · simp only [Act.put, List.setIfInBounds_toArray, List.set_cons_zero, List.set_cons_succ, i64_w, i32_w]
    rfl
  refine take_ (i := 3) (N := some 6) (v := ?_) (a' := ?_) #[true, true, true, true, false, false, false, false, false, false] rfl rfl (by kernel_rfl) (fun _ _ _ h => h) (Or.inl ⟨by rfl, ?_⟩) hHeld ?_ ?_
  rotate_left
  · rintro w' ⟨s0, s1⟩
    go_simp
    with_reducible rfl
  rotate_left
  · simp only [Act.put, List.setIfInBounds_toArray, List.set_cons_zero, List.set_cons_succ, i64_w, i32_w]
    rfl
  refine pure_ (i := 4) (N := some 7) (v := ?_) (a' := ?_) #[true, true, true, true, true, false, false, false, false, false] rfl rfl (by kernel_rfl) (fun _ _ _ h => h) (Or.inl ⟨by rfl, ?_⟩) ?_ ?_
  rotate_left
  · intro w'
    go_simp
    with_reducible rfl
  rotate_left
  · simp only [Act.put, List.setIfInBounds_toArray, List.set_cons_zero, List.set_cons_succ, i64_w, i32_w]
    rfl
  refine pure_ (i := 5) (N := some 8) (v := ?_) (a' := ?_) #[true, true, true, true, true, true, false, false, false, false] rfl rfl (by kernel_rfl) (fun _ _ _ h => h) (Or.inl ⟨by rfl, ?_⟩) ?_ ?_
  rotate_left
  · intro w'
    go_simp
    with_reducible rfl
  rotate_left
  · simp only [Act.put, List.setIfInBounds_toArray, List.set_cons_zero, List.set_cons_succ, i64_w, i32_w]
    rfl
  refine pure_ (i := 6) (N := some 9) (v := ?_) (a' := ?_) #[true, true, true, true, true, true, true, false, false, false] rfl rfl (by kernel_rfl) (fun _ _ _ h => h) (Or.inl ⟨by rfl, ?_⟩) ?_ ?_
  rotate_left
  · intro w'
    go_simp
    with_reducible rfl
  rotate_left
  · simp only [Act.put, List.setIfInBounds_toArray, List.set_cons_zero, List.set_cons_succ, i64_w, i32_w]
    rfl
  refine take_ (i := 7) (N := some 10) (v := ?_) (a' := ?_) #[true, true, true, true, true, true, true, true, false, false] rfl rfl (by kernel_rfl) (fun _ _ _ h => h) (Or.inl ⟨by rfl, ?_⟩) hHeld ?_ ?_
  rotate_left
  · rintro w' ⟨s0, s1⟩
    go_simp
    with_reducible rfl
  rotate_left
  · simp only [Act.put, List.setIfInBounds_toArray, List.set_cons_zero, List.set_cons_succ, i64_w, i32_w]
    rfl
  refine pure_ (i := 8) (N := some 11) (v := ?_) (a' := ?_) #[true, true, true, true, true, true, true, true, true, false] rfl rfl (by kernel_rfl) (fun _ _ _ h => h) (Or.inl ⟨by rfl, ?_⟩) ?_ ?_
  rotate_left
  · intro w'
    go_simp
    with_reducible rfl
  rotate_left
  · simp only [Act.put, List.setIfInBounds_toArray, List.set_cons_zero, List.set_cons_succ, i64_w, i32_w]
    rfl
  refine pure_ (i := 9) (N := some 2) (v := ?_) (a' := ?_) #[true, true, true, true, true, true, true, true, true, true] rfl rfl (by kernel_rfl) (fun _ _ _ h => h) (Or.inl ⟨by rfl, ?_⟩) ?_ ?_
  rotate_left
  · intro w'
    go_simp
    with_reducible rfl
  rotate_left
  · simp only [Act.put, List.setIfInBounds_toArray, List.set_cons_zero, List.set_cons_succ, i64_w, i32_w]
    rfl
  refine done_ (by kernel_rfl) ?_
  go_wp2_with fail
  go_ret
  exact ⟨rfl, below_drew (Below.refl _ _), H.out⟩
end Go.Proofs.YtigpdgfhngknhaaDoor.Snk
