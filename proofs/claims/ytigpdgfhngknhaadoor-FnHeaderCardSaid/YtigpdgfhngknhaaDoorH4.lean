/- A header is written that lies anywhere. -/
import Derived.Test.YtigpdgfhngknhaaDoorWArr
import Derived.Laws.Rows
import Derived.Deep.LoopGhost
import Derived.Shelf.Bytes.GrowOwn
import Derived.Test.YtigpdgfhngknhaaDoorProg
import Derived.Test.YtigpdgfhngknhaaDoorH0
import Derived.Test.YtigpdgfhngknhaaDoorH1
import Derived.Test.YtigpdgfhngknhaaDoorH3
namespace Go.Proofs.YtigpdgfhngknhaaDoor.Snk
open Go.RowKit Go.Proofs.YtigpdgfhngknhaaDoorW.PrintWords Go.Proofs.YtigpdgfhngknhaaDoorW.PrintLast Go.Proofs.YtigpdgfhngknhaaDoorW.PrintMore
set_option linter.unusedVariables false
set_option linter.unusedSimpArgs false
set_option maxRecDepth 100000 in
set_option maxHeartbeats 8000000 in
theorem hdrBufD {w0 : World} {T : TypeId} {v : Value} {f M : Nat} (S : Sink Tryd.prog w0 T v f M) {fn : Func} (hf : Tryd.prog.funcs[f]? = some fn) (hname : (fn.name == "runtime.NumGoroutine") = false) (hbd : fn.body.isSome = true) (g gb : Nat) (h : HdV) (ho : h.ok) (wE w : World) (bs l : List Int) (tb : TypeId)
    (hs : S.St w bs) (hE : Step S wE w) (hgE : wE.heap.size ≤ gb) (hg0 : w0.heap.size ≤ gb) (hno : ¬ S.own w gb) (hl : l.length = 8) (hrow : w.heap[gb]? = some (.cells (byteC l).toArray tb (0, 0))) (hM : bs.length + 80 ≤ M) (hng : g ≠ gb) (hd : ∀ w bs, S.St w bs → Step S wE w → HdAt w g h) (hgn : ∀ w bs, S.St w bs → Step S wE w → ¬ S.own w g) :
    Calls Tryd.prog 43 #[.iface T v, .int .u32 0, .pointer (some ⟨g, 0, none⟩), .slice (some ⟨gb, 0, none⟩) 8 8] w fun e w' => e = .returned .nilIface ∧ S.St w' (bs ++ h.bytes) ∧ Step S wE w' := by
  have HF := Aside0.mk hf
  have HNM := Aside0.mk hname
  have HBD := Aside0.mk hbd
  have HO := Aside0.mk ho
  have HD := Aside0.mk hd
  have HM := Aside0.mk hM
  have HGE := Aside0.mk hgE
  have HG0 := Aside0.mk hg0
  have HS0 := Aside0.mk hs
  have HE0 := Aside0.mk hE
  have HN0 := Aside0.mk hno
  have HL0 := Aside0.mk hl
  have HR0 := Aside0.mk hrow
  have HGN := Aside0.mk hgn
  have HNG := Aside0.mk hng
  have ho1 : 0 ≤ h.t := ho.t0
  have ho2 : h.t < 4294967296 := ho.t1
  have HT : Aside0 (h.t % 4294967296 = h.t) := ⟨by omega⟩
  obtain ⟨bs0, hb0⟩ : ∃ b, b = bs := ⟨_, rfl⟩
  have HB0 := Aside0.mk hb0
  rw [← hb0] at HS0
  clear hf hname hbd hd hgn hng hM hgE hg0 hs hE hno hl hrow hb0 ho ho1 ho2
  go_enter Tryd.func43, Tryd.ntmps43
  go_upto_region 1 with fail
  have hz0 := (show (w.drew).cell? ⟨g, 0, none⟩ = some (.int .i32 h.v) from (HD.out _ _ HS0.out HE0.out).v)
  have C1 : Aside0 (w.drew.cell? ⟨g, 0, none⟩ = some (.int .i32 h.v)) := ⟨hz0⟩
  have HRd1 : Aside0 ((World.drew w).heap[gb]? = _) := ⟨HR0.out⟩
  refine start_ (n := 9) (S := fun w' => w'.cell? ⟨g, 0, none⟩ = some (.int .i32 h.v)) (ds := []) #[false, false, false, false, false, false, false, false, false] (by kernel_rfl) rfl rfl C1.out (fun hHeld => ?_)
  refine take_ (i := 0) (N := some 21) (v := ?_) (a' := ?_) #[true, false, false, false, false, false, false, false, false] rfl rfl (by kernel_rfl) (fun _ _ _ h => h) (Or.inl ⟨by rfl, ?_⟩) hHeld ?_ ?_
  rotate_left
  · rintro w' s0
    go_simp
    with_reducible rfl
  rotate_left
  · simp only [Act.put, List.setIfInBounds_toArray, List.set_cons_zero, List.set_cons_succ, i64_w, i32_w]
    rfl
  refine pure_ (i := 1) (N := some 22) (v := ?_) (a' := ?_) #[true, true, false, false, false, false, false, false, false] rfl rfl (by kernel_rfl) (fun _ _ _ h => h) (Or.inl ⟨by rfl, ?_⟩) ?_ ?_
  rotate_left
  · intro w'
    go_simp
    with_reducible rfl
  rotate_left
  · simp only [Act.put, List.setIfInBounds_toArray, List.set_cons_zero, List.set_cons_succ, i64_w, i32_w]
    rfl
  refine pure_ (i := 2) (N := some 23) (v := ?_) (a' := ?_) #[true, true, true, false, false, false, false, false, false] rfl rfl (by kernel_rfl) (fun _ _ _ h => h) (Or.inl ⟨by rfl, ?_⟩) ?_ ?_
  rotate_left
  · intro w'
    go_simp
    with_reducible rfl
  rotate_left
  · simp only [Act.put, List.setIfInBounds_toArray, List.set_cons_zero, List.set_cons_succ, i64_w, i32_w]
    rfl
  refine pure_ (i := 3) (N := some 24) (v := ?_) (a' := ?_) #[true, true, true, true, false, false, false, false, false] rfl rfl (by kernel_rfl) (fun _ _ _ h => h) (Or.inl ⟨by rfl, ?_⟩) ?_ ?_
  rotate_left
  · intro w'
    go_simp
    with_reducible rfl
  rotate_left
  · simp only [Act.put, List.setIfInBounds_toArray, List.set_cons_zero, List.set_cons_succ, i64_w, i32_w]
    rfl
  refine pure_ (i := 4) (N := some 25) (v := ?_) (a' := ?_) #[true, true, true, true, true, false, false, false, false] rfl rfl (by kernel_rfl) (fun _ _ _ h => h) (Or.inl ⟨by rfl, ?_⟩) ?_ ?_
  rotate_left
  · intro w'
    go_simp
    with_reducible rfl
  rotate_left
  · simp only [Act.put, List.setIfInBounds_toArray, List.set_cons_zero, List.set_cons_succ, i64_w, i32_w]
    rfl
  refine pure_ (i := 5) (N := some 26) (v := ?_) (a' := ?_) #[true, true, true, true, true, true, false, false, false] rfl rfl (by kernel_rfl) (fun _ _ _ h => h) (Or.inl ⟨by rfl, ?_⟩) ?_ ?_
  rotate_left
  · intro w'
    go_simp
    with_reducible rfl
  rotate_left
  · simp only [Act.put, List.setIfInBounds_toArray, List.set_cons_zero, List.set_cons_succ, i64_w, i32_w]
    rfl
  refine take_ (i := 6) (N := some 27) (v := ?_) (a' := ?_) #[true, true, true, true, true, true, true, false, false] rfl rfl (by kernel_rfl) (fun _ _ _ h => h) (Or.inl ⟨by rfl, ?_⟩) hHeld ?_ ?_
  rotate_left
  · rintro w' s0
    go_simp
    with_reducible rfl
  rotate_left
  · simp only [Act.put, List.setIfInBounds_toArray, List.set_cons_zero, List.set_cons_succ, i64_w, i32_w]
    rfl
  refine pure_ (i := 7) (N := some 28) (v := ?_) (a' := ?_) #[true, true, true, true, true, true, true, true, false] rfl rfl (by kernel_rfl) (fun _ _ _ h => h) (Or.inl ⟨by rfl, ?_⟩) ?_ ?_
  rotate_left
  · intro w'
    go_simp
    with_reducible rfl
  rotate_left
  · simp only [Act.put, List.setIfInBounds_toArray, List.set_cons_zero, List.set_cons_succ, i64_w, i32_w]
    rfl
  refine one_ (i := 8) (N := some 29) #[true, true, true, true, true, true, true, true, true] rfl rfl (by kernel_rfl) (by decide) (fun K hK => ?_)
  refine goes_ Tryd.func53 (by kernel_rfl) rfl #[.agg #[], .slice (some ⟨gb, 0, none⟩) 4 8, .int .u32 (h.v % 4294967296)] (by rfl) rfl rfl (by (try simp only [List.map_toArray, List.map_cons, List.map_nil]); first | done | rfl | (simp only [List.length_drop, List.length_take]; rfl)) ?_
  with_reducible refine (lput4C gb 0 4 8 _ _ (h.v % 4294967296) (.agg #[]) _ HRd1.out (by rw [HL0.out]; decide) (by decide)).mono ?_
  rintro e v1 ⟨rfl, k1, k2⟩
  refine ⟨_, rfl, ?_⟩
  have HR1 := Aside0.mk k1
  have P1 : Aside0 (Only gb w v1) := ⟨⟨k2.os, k2.tape, k2.output, k2.size, k2.block⟩⟩
  clear k1 k2
  refine hK.out _ _ (by have := P1.out; exact this.cell (p := ⟨g, 0, none⟩) (by intro e; exact HNG.out e) hHeld) (fun hHeld => ?_)
  clear hK K
  refine norm_ (a' := ?_) ?_ ?_
  rotate_left
  · show Act.put _ (some 29) _ = _
    simp only [Act.put, List.setIfInBounds_toArray, List.set_cons_zero, List.set_cons_succ, i64_w, i32_w]
    rfl
  refine done_ (by kernel_rfl) ?_
  obtain ⟨hs1, he1, hn1⟩ := only_step HS0.out HE0.out HGE.out HG0.out HN0.out P1.out
  have HS1 := Aside0.mk hs1
  have HE1 := Aside0.mk he1
  have HN1 := Aside0.mk hn1
  have HL1 : Aside0 ((lput4 l 0 (h.v % 4294967296)).length = 8) := ⟨by rw [lput4_len]; exact HL0.out⟩
  clear hs1 he1 hn1 hHeld
  clear hz0
  go_upto_region 2 with fail
  obtain ⟨q2, hq2⟩ : ∃ q, q = le4 (h.v % 4294967296) := ⟨_, rfl⟩
  have HQ2 := Aside0.mk hq2
  have HW2 : Aside0 (Calls Tryd.prog f #[v, .slice (some ⟨gb, 0, none⟩) 4 8] (World.drew v1) fun e w' => e = .returned (.tuple #[.int .i64 4, .nilIface]) ∧ S.St w' (bs0 ++ q2) ∧ Step S v1 w') := ⟨by
    subst hq2
    have b0 := below_step HS1.out (show Below v1.heap.size v1 v1.drew from ⟨rfl, rfl, rfl, Nat.le_refl _, fun _ _ => rfl⟩)
    exact (S.writeC b0.1 (le4_len _) (by have h1 := HM.out; have h2 := HB0.out; have h3 := HO.out.p; have h4 := HO.out.r; subst h2; (try simp only [List.length_append, le4_len, List.length_take]); omega) (by decide) (by have := read4 (w := v1) HR1.out HL1.out; rw [lput4_take _ _ (by have := HL1.out; rw [lput4_len] at this; omega)] at this; exact this) (fun _ a e hw => by obtain rfl := Option.some.inj e; exact HN1.out (b0.2.grow gb hw |>.elim id (fun h => absurd (blk_lt' HR1.out) (Nat.not_lt.2 h))))).mono fun e w' ⟨h1, h2, h3⟩ => ⟨h1, h2, b0.2.trans h3⟩⟩
  clear hq2
  have hnl : ∀ W : World, True := fun _ => trivial
  clear hnl
  refine start_ (n := 12) (S := fun w' => True) (ds := []) #[false, false, false, false, false, false, false, false, false, false, false, false] (by kernel_rfl) rfl rfl trivial (fun hHeld => ?_)
  refine pure_ (i := 0) (N := some 31) (v := ?_) (a' := ?_) #[true, false, false, false, false, false, false, false, false, false, false, false] rfl rfl (by kernel_rfl) (fun _ _ _ h => h) (Or.inl ⟨by rfl, ?_⟩) ?_ ?_
  rotate_left
  · intro w'
    go_simp
    with_reducible rfl
  rotate_left
  · simp only [Act.put, List.setIfInBounds_toArray, List.set_cons_zero, List.set_cons_succ, i64_w, i32_w]
    rfl
  refine pure_ (i := 1) (N := some 32) (v := ?_) (a' := ?_) #[true, true, false, false, false, false, false, false, false, false, false, false] rfl rfl (by kernel_rfl) (fun _ _ _ h => h) (Or.inl ⟨by rfl, ?_⟩) ?_ ?_
  rotate_left
  · intro w'
    go_simp
    with_reducible rfl
  rotate_left
  · simp only [Act.put, List.setIfInBounds_toArray, List.set_cons_zero, List.set_cons_succ, i64_w, i32_w]
    rfl
  refine pure_ (i := 2) (N := some 33) (v := ?_) (a' := ?_) #[true, true, true, false, false, false, false, false, false, false, false, false] rfl rfl (by kernel_rfl) (fun _ _ _ h => h) (Or.inl ⟨by rfl, ?_⟩) ?_ ?_
  rotate_left
  · intro w'
    go_simp
    with_reducible rfl
  rotate_left
  · simp only [Act.put, List.setIfInBounds_toArray, List.set_cons_zero, List.set_cons_succ, i64_w, i32_w]
    rfl
  refine pure_ (i := 3) (N := some 34) (v := ?_) (a' := ?_) #[true, true, true, true, false, false, false, false, false, false, false, false] rfl rfl (by kernel_rfl) (fun _ _ _ h => h) (Or.inl ⟨by rfl, ?_⟩) ?_ ?_
  rotate_left
  · intro w'
    go_simp
    with_reducible rfl
  rotate_left
  · simp only [Act.put, List.setIfInBounds_toArray, List.set_cons_zero, List.set_cons_succ, i64_w, i32_w]
    rfl
  refine pure_ (i := 4) (N := some 35) (v := ?_) (a' := ?_) #[true, true, true, true, true, false, false, false, false, false, false, false] rfl rfl (by kernel_rfl) (fun _ _ _ h => h) (Or.inl ⟨by rfl, ?_⟩) ?_ ?_
  rotate_left
  · intro w'
    refine nil_run S.nil _ (.tmp 34) ?_ ?_ <;> rfl
  rotate_left
  · simp only [Act.put, List.setIfInBounds_toArray, List.set_cons_zero, List.set_cons_succ, i64_w, i32_w]
    rfl
  refine pure_ (i := 5) (N := some 36) (v := ?_) (a' := ?_) #[true, true, true, true, true, true, false, false, false, false, false, false] rfl rfl (by kernel_rfl) (fun _ _ _ h => h) (Or.inl ⟨by rfl, ?_⟩) ?_ ?_
  rotate_left
  · intro w'
    go_simp
    with_reducible rfl
  rotate_left
  · simp only [Act.put, List.setIfInBounds_toArray, List.set_cons_zero, List.set_cons_succ, i64_w, i32_w]
    rfl
  refine one_ (i := 6) (N := some 37) #[true, true, true, true, true, true, true, false, false, false, false, false] rfl rfl (by kernel_rfl) (by decide) (fun K hK => ?_)
  refine goesI_ (by rfl) rfl (.tmp 36) "Write" rfl T v rfl f S.meth HF.out HNM.out HBD.out #[v, .slice (some ⟨gb, 0, none⟩) 4 8] (by (try simp only [List.map_toArray, List.map_cons, List.map_nil]); first | done | rfl | (simp only [List.length_drop, List.length_take]; rfl)) ?_
  with_reducible refine HW2.out.mono ?_
  rintro e v2 ⟨rfl, k1, k2⟩
  refine ⟨_, rfl, ?_⟩
  have HS2 := Aside0.mk k1
  have X2 := Aside0.mk k2
  clear k1 k2
  refine hK.out _ _ trivial (fun hHeld => ?_)
  clear hK K
  refine norm_ (a' := ?_) ?_ ?_
  rotate_left
  · show Act.put _ (some 37) _ = _
    simp only [Act.put, List.setIfInBounds_toArray, List.set_cons_zero, List.set_cons_succ, i64_w, i32_w]
    rfl
  refine pure_ (i := 7) (N := some 30) (v := ?_) (a' := ?_) #[true, true, true, true, true, true, true, true, false, false, false, false] rfl rfl (by kernel_rfl) (fun _ _ _ h => h) (Or.inl ⟨by rfl, ?_⟩) ?_ ?_
  rotate_left
  · intro w'
    go_simp
    with_reducible rfl
  rotate_left
  · simp only [Act.put, List.setIfInBounds_toArray, List.set_cons_zero, List.set_cons_succ, i64_w, i32_w]
    rfl
  refine pure_ (i := 8) (N := some 38) (v := ?_) (a' := ?_) #[true, true, true, true, true, true, true, true, true, false, false, false] rfl rfl (by kernel_rfl) (fun _ _ _ h => h) (Or.inl ⟨by rfl, ?_⟩) ?_ ?_
  rotate_left
  · intro w'
    go_simp
    with_reducible rfl
  rotate_left
  · simp only [Act.put, List.setIfInBounds_toArray, List.set_cons_zero, List.set_cons_succ, i64_w, i32_w]
    rfl
  refine pure_ (i := 9) (N := some 39) (v := ?_) (a' := ?_) #[true, true, true, true, true, true, true, true, true, true, false, false] rfl rfl (by kernel_rfl) (fun _ _ _ h => h) (Or.inl ⟨by rfl, ?_⟩) ?_ ?_
  rotate_left
  · intro w'
    go_simp
    with_reducible rfl
  rotate_left
  · simp only [Act.put, List.setIfInBounds_toArray, List.set_cons_zero, List.set_cons_succ, i64_w, i32_w]
    rfl
  refine pure_ (i := 10) (N := some 9) (v := ?_) (a' := ?_) #[true, true, true, true, true, true, true, true, true, true, true, false] rfl rfl (by kernel_rfl) (fun _ _ _ h => h) (Or.inl ⟨by rfl, ?_⟩) ?_ ?_
  rotate_left
  · intro w'
    go_simp
    with_reducible rfl
  rotate_left
  · simp only [Act.put, List.setIfInBounds_toArray, List.set_cons_zero, List.set_cons_succ, i64_w, i32_w]
    rfl
  refine pure_ (i := 11) (N := some 10) (v := ?_) (a' := ?_) #[true, true, true, true, true, true, true, true, true, true, true, true] rfl rfl (by kernel_rfl) (fun _ _ _ h => h) (Or.inl ⟨by rfl, ?_⟩) ?_ ?_
  rotate_left
  · intro w'
    go_simp
    with_reducible rfl
  rotate_left
  · simp only [Act.put, List.setIfInBounds_toArray, List.set_cons_zero, List.set_cons_succ, i64_w, i32_w]
    rfl
  refine done_ (by kernel_rfl) ?_
  have HE2 := Aside0.mk (HE1.out.trans X2.out)
  have kr2 := X2.out.kept HN1.out HR1.out
  have HR2 := Aside0.mk kr2.1
  have HN2 := Aside0.mk kr2.2
  have HL2 := HL1
  clear kr2
  go_upto_region 5 with fail
  obtain ⟨q3, hq3⟩ : ∃ q, q = h.p := ⟨_, rfl⟩
  have HQ3 := Aside0.mk hq3
  have HW3 : Aside0 (Calls Tryd.prog f #[v, .slice (some ⟨g, 1, none⟩) 32 32] (World.drew v2) fun e w' => e = .returned (.tuple #[.int .i64 32, .nilIface]) ∧ S.St w' ((bs0 ++ q2) ++ q3) ∧ Step S v2 w') := ⟨by
    subst hq3
    have b0 := below_step HS2.out (show Below v2.heap.size v2 v2.drew from ⟨rfl, rfl, rfl, Nat.le_refl _, fun _ _ => rfl⟩)
    exact (S.writeC b0.1 HO.out.p (by have h1 := HM.out; have h2 := HB0.out; have h3 := HO.out.p; have h4 := HO.out.r; subst h2; have hq2 := congrArg List.length HQ2.out; (try simp only [le4_len] at hq2); (try simp only [List.length_append, le4_len, List.length_take]); omega) (by decide) (((HD.out _ _ HS2.out HE2.out)).readP HO.out) (fun _ a e hw => by obtain rfl := Option.some.inj e; exact HGN.out _ _ b0.1 (HE2.out.trans b0.2) hw)).mono fun e w' ⟨h1, h2, h3⟩ => ⟨h1, h2, b0.2.trans h3⟩⟩
  clear hq3
  have hnl : ∀ W : World, True := fun _ => trivial
  clear hnl
  refine start_ (n := 14) (S := fun w' => True) (ds := []) #[false, false, false, false, false, false, false, false, false, false, false, false, false, false] (by kernel_rfl) rfl rfl trivial (fun hHeld => ?_)
  refine pure_ (i := 0) (N := some 44) (v := ?_) (a' := ?_) #[true, false, false, false, false, false, false, false, false, false, false, false, false, false] rfl rfl (by kernel_rfl) (fun _ _ _ h => h) (Or.inl ⟨by rfl, ?_⟩) ?_ ?_
  rotate_left
  · intro w'
    go_simp
    with_reducible rfl
  rotate_left
  · simp only [Act.put, List.setIfInBounds_toArray, List.set_cons_zero, List.set_cons_succ, i64_w, i32_w]
    rfl
  refine pure_ (i := 1) (N := some 45) (v := ?_) (a' := ?_) #[true, true, false, false, false, false, false, false, false, false, false, false, false, false] rfl rfl (by kernel_rfl) (fun _ _ _ h => h) (Or.inl ⟨by rfl, ?_⟩) ?_ ?_
  rotate_left
  · intro w'
    go_simp
    with_reducible rfl
  rotate_left
  · simp only [Act.put, List.setIfInBounds_toArray, List.set_cons_zero, List.set_cons_succ, i64_w, i32_w]
    rfl
  refine pure_ (i := 2) (N := some 46) (v := ?_) (a' := ?_) #[true, true, true, false, false, false, false, false, false, false, false, false, false, false] rfl rfl (by kernel_rfl) (fun _ _ _ h => h) (Or.inl ⟨by rfl, ?_⟩) ?_ ?_
  rotate_left
  · intro w'
    go_simp
    with_reducible rfl
  rotate_left
  · simp only [Act.put, List.setIfInBounds_toArray, List.set_cons_zero, List.set_cons_succ, i64_w, i32_w]
    rfl
  refine pure_ (i := 3) (N := some 47) (v := ?_) (a' := ?_) #[true, true, true, true, false, false, false, false, false, false, false, false, false, false] rfl rfl (by kernel_rfl) (fun _ _ _ h => h) (Or.inl ⟨by rfl, ?_⟩) ?_ ?_
  rotate_left
  · intro w'
    go_simp
    with_reducible rfl
  rotate_left
  · simp only [Act.put, List.setIfInBounds_toArray, List.set_cons_zero, List.set_cons_succ, i64_w, i32_w]
    rfl
  refine pure_ (i := 4) (N := some 48) (v := ?_) (a' := ?_) #[true, true, true, true, true, false, false, false, false, false, false, false, false, false] rfl rfl (by kernel_rfl) (fun _ _ _ h => h) (Or.inl ⟨by rfl, ?_⟩) ?_ ?_
  rotate_left
  · intro w'
    go_simp
    with_reducible rfl
  rotate_left
  · simp only [Act.put, List.setIfInBounds_toArray, List.set_cons_zero, List.set_cons_succ, i64_w, i32_w]
    rfl
  refine pure_ (i := 5) (N := some 49) (v := ?_) (a' := ?_) #[true, true, true, true, true, true, false, false, false, false, false, false, false, false] rfl rfl (by kernel_rfl) (fun _ _ _ h => h) (Or.inl ⟨by rfl, ?_⟩) ?_ ?_
  rotate_left
  · intro w'
    go_simp
    with_reducible rfl
  rotate_left
  · simp only [Act.put, List.setIfInBounds_toArray, List.set_cons_zero, List.set_cons_succ, i64_w, i32_w]
    rfl
  refine pure_ (i := 6) (N := some 50) (v := ?_) (a' := ?_) #[true, true, true, true, true, true, true, false, false, false, false, false, false, false] rfl rfl (by kernel_rfl) (fun _ _ _ h => h) (Or.inl ⟨by rfl, ?_⟩) ?_ ?_
  rotate_left
  · intro w'
    refine nil_run S.nil _ (.tmp 49) ?_ ?_ <;> rfl
  rotate_left
  · simp only [Act.put, List.setIfInBounds_toArray, List.set_cons_zero, List.set_cons_succ, i64_w, i32_w]
    rfl
  refine pure_ (i := 7) (N := some 51) (v := ?_) (a' := ?_) #[true, true, true, true, true, true, true, true, false, false, false, false, false, false] rfl rfl (by kernel_rfl) (fun _ _ _ h => h) (Or.inl ⟨by rfl, ?_⟩) ?_ ?_
  rotate_left
  · intro w'
    go_simp
    with_reducible rfl
  rotate_left
  · simp only [Act.put, List.setIfInBounds_toArray, List.set_cons_zero, List.set_cons_succ, i64_w, i32_w]
    rfl
  refine one_ (i := 8) (N := some 52) #[true, true, true, true, true, true, true, true, true, false, false, false, false, false] rfl rfl (by kernel_rfl) (by decide) (fun K hK => ?_)
  refine goesI_ (by rfl) rfl (.tmp 51) "Write" rfl T v rfl f S.meth HF.out HNM.out HBD.out #[v, .slice (some ⟨g, 1, none⟩) 32 32] (by (try simp only [List.map_toArray, List.map_cons, List.map_nil]); first | done | rfl | (simp only [List.length_drop, List.length_take]; rfl)) ?_
  with_reducible refine HW3.out.mono ?_
  rintro e v3 ⟨rfl, k1, k2⟩
  refine ⟨_, rfl, ?_⟩
  have HS3 := Aside0.mk k1
  have X3 := Aside0.mk k2
  clear k1 k2
  refine hK.out _ _ trivial (fun hHeld => ?_)
  clear hK K
  refine norm_ (a' := ?_) ?_ ?_
  rotate_left
  · show Act.put _ (some 52) _ = _
    simp only [Act.put, List.setIfInBounds_toArray, List.set_cons_zero, List.set_cons_succ, i64_w, i32_w]
    rfl
  refine pure_ (i := 9) (N := some 43) (v := ?_) (a' := ?_) #[true, true, true, true, true, true, true, true, true, true, false, false, false, false] rfl rfl (by kernel_rfl) (fun _ _ _ h => h) (Or.inl ⟨by rfl, ?_⟩) ?_ ?_
  rotate_left
  · intro w'
    go_simp
    with_reducible rfl
  rotate_left
  · simp only [Act.put, List.setIfInBounds_toArray, List.set_cons_zero, List.set_cons_succ, i64_w, i32_w]
    rfl
  refine pure_ (i := 10) (N := some 53) (v := ?_) (a' := ?_) #[true, true, true, true, true, true, true, true, true, true, true, false, false, false] rfl rfl (by kernel_rfl) (fun _ _ _ h => h) (Or.inl ⟨by rfl, ?_⟩) ?_ ?_
  rotate_left
  · intro w'
    go_simp
    with_reducible rfl
  rotate_left
  · simp only [Act.put, List.setIfInBounds_toArray, List.set_cons_zero, List.set_cons_succ, i64_w, i32_w]
    rfl
  refine pure_ (i := 11) (N := some 54) (v := ?_) (a' := ?_) #[true, true, true, true, true, true, true, true, true, true, true, true, false, false] rfl rfl (by kernel_rfl) (fun _ _ _ h => h) (Or.inl ⟨by rfl, ?_⟩) ?_ ?_
  rotate_left
  · intro w'
    go_simp
    with_reducible rfl
  rotate_left
  · simp only [Act.put, List.setIfInBounds_toArray, List.set_cons_zero, List.set_cons_succ, i64_w, i32_w]
    rfl
  refine pure_ (i := 12) (N := some 11) (v := ?_) (a' := ?_) #[true, true, true, true, true, true, true, true, true, true, true, true, true, false] rfl rfl (by kernel_rfl) (fun _ _ _ h => h) (Or.inl ⟨by rfl, ?_⟩) ?_ ?_
  rotate_left
  · intro w'
    go_simp
    with_reducible rfl
  rotate_left
  · simp only [Act.put, List.setIfInBounds_toArray, List.set_cons_zero, List.set_cons_succ, i64_w, i32_w]
    rfl
  refine pure_ (i := 13) (N := some 12) (v := ?_) (a' := ?_) #[true, true, true, true, true, true, true, true, true, true, true, true, true, true] rfl rfl (by kernel_rfl) (fun _ _ _ h => h) (Or.inl ⟨by rfl, ?_⟩) ?_ ?_
  rotate_left
  · intro w'
    go_simp
    with_reducible rfl
  rotate_left
  · simp only [Act.put, List.setIfInBounds_toArray, List.set_cons_zero, List.set_cons_succ, i64_w, i32_w]
    rfl
  refine done_ (by kernel_rfl) ?_
  have HE3 := Aside0.mk (HE2.out.trans X3.out)
  have kr3 := X3.out.kept HN2.out HR2.out
  have HR3 := Aside0.mk kr3.1
  have HN3 := Aside0.mk kr3.2
  have HL3 := HL2
  clear kr3
  go_upto_region 8 with fail
  obtain ⟨q4, hq4⟩ : ∃ q, q = h.r := ⟨_, rfl⟩
  have HQ4 := Aside0.mk hq4
  have HW4 : Aside0 (Calls Tryd.prog f #[v, .slice (some ⟨g, 33, none⟩) 32 32] (World.drew v3) fun e w' => e = .returned (.tuple #[.int .i64 32, .nilIface]) ∧ S.St w' (((bs0 ++ q2) ++ q3) ++ q4) ∧ Step S v3 w') := ⟨by
    subst hq4
    have b0 := below_step HS3.out (show Below v3.heap.size v3 v3.drew from ⟨rfl, rfl, rfl, Nat.le_refl _, fun _ _ => rfl⟩)
    exact (S.writeC b0.1 HO.out.r (by have h1 := HM.out; have h2 := HB0.out; have h3 := HO.out.p; have h4 := HO.out.r; subst h2; have hq2 := congrArg List.length HQ2.out; (try simp only [le4_len] at hq2);  have hq3 := congrArg List.length HQ3.out; (try simp only [le4_len] at hq3); (try simp only [List.length_append, le4_len, List.length_take]); omega) (by decide) (((HD.out _ _ HS3.out HE3.out)).readR HO.out) (fun _ a e hw => by obtain rfl := Option.some.inj e; exact HGN.out _ _ b0.1 (HE3.out.trans b0.2) hw)).mono fun e w' ⟨h1, h2, h3⟩ => ⟨h1, h2, b0.2.trans h3⟩⟩
  clear hq4
  have hnl : ∀ W : World, True := fun _ => trivial
  clear hnl
  refine start_ (n := 14) (S := fun w' => True) (ds := []) #[false, false, false, false, false, false, false, false, false, false, false, false, false, false] (by kernel_rfl) rfl rfl trivial (fun hHeld => ?_)
  refine pure_ (i := 0) (N := some 59) (v := ?_) (a' := ?_) #[true, false, false, false, false, false, false, false, false, false, false, false, false, false] rfl rfl (by kernel_rfl) (fun _ _ _ h => h) (Or.inl ⟨by rfl, ?_⟩) ?_ ?_
  rotate_left
  · intro w'
    go_simp
    with_reducible rfl
  rotate_left
  · simp only [Act.put, List.setIfInBounds_toArray, List.set_cons_zero, List.set_cons_succ, i64_w, i32_w]
    rfl
  refine pure_ (i := 1) (N := some 60) (v := ?_) (a' := ?_) #[true, true, false, false, false, false, false, false, false, false, false, false, false, false] rfl rfl (by kernel_rfl) (fun _ _ _ h => h) (Or.inl ⟨by rfl, ?_⟩) ?_ ?_
  rotate_left
  · intro w'
    go_simp
    with_reducible rfl
  rotate_left
  · simp only [Act.put, List.setIfInBounds_toArray, List.set_cons_zero, List.set_cons_succ, i64_w, i32_w]
    rfl
  refine pure_ (i := 2) (N := some 61) (v := ?_) (a' := ?_) #[true, true, true, false, false, false, false, false, false, false, false, false, false, false] rfl rfl (by kernel_rfl) (fun _ _ _ h => h) (Or.inl ⟨by rfl, ?_⟩) ?_ ?_
  rotate_left
  · intro w'
    go_simp
    with_reducible rfl
  rotate_left
  · simp only [Act.put, List.setIfInBounds_toArray, List.set_cons_zero, List.set_cons_succ, i64_w, i32_w]
    rfl
  refine pure_ (i := 3) (N := some 62) (v := ?_) (a' := ?_) #[true, true, true, true, false, false, false, false, false, false, false, false, false, false] rfl rfl (by kernel_rfl) (fun _ _ _ h => h) (Or.inl ⟨by rfl, ?_⟩) ?_ ?_
  rotate_left
  · intro w'
    go_simp
    with_reducible rfl
  rotate_left
  · simp only [Act.put, List.setIfInBounds_toArray, List.set_cons_zero, List.set_cons_succ, i64_w, i32_w]
    rfl
  refine pure_ (i := 4) (N := some 63) (v := ?_) (a' := ?_) #[true, true, true, true, true, false, false, false, false, false, false, false, false, false] rfl rfl (by kernel_rfl) (fun _ _ _ h => h) (Or.inl ⟨by rfl, ?_⟩) ?_ ?_
  rotate_left
  · intro w'
    go_simp
    with_reducible rfl
  rotate_left
  · simp only [Act.put, List.setIfInBounds_toArray, List.set_cons_zero, List.set_cons_succ, i64_w, i32_w]
    rfl
  refine pure_ (i := 5) (N := some 64) (v := ?_) (a' := ?_) #[true, true, true, true, true, true, false, false, false, false, false, false, false, false] rfl rfl (by kernel_rfl) (fun _ _ _ h => h) (Or.inl ⟨by rfl, ?_⟩) ?_ ?_
  rotate_left
  · intro w'
    go_simp
    with_reducible rfl
  rotate_left
  · simp only [Act.put, List.setIfInBounds_toArray, List.set_cons_zero, List.set_cons_succ, i64_w, i32_w]
    rfl
  refine pure_ (i := 6) (N := some 65) (v := ?_) (a' := ?_) #[true, true, true, true, true, true, true, false, false, false, false, false, false, false] rfl rfl (by kernel_rfl) (fun _ _ _ h => h) (Or.inl ⟨by rfl, ?_⟩) ?_ ?_
  rotate_left
  · intro w'
    refine nil_run S.nil _ (.tmp 64) ?_ ?_ <;> rfl
  rotate_left
  · simp only [Act.put, List.setIfInBounds_toArray, List.set_cons_zero, List.set_cons_succ, i64_w, i32_w]
    rfl
  refine pure_ (i := 7) (N := some 66) (v := ?_) (a' := ?_) #[true, true, true, true, true, true, true, true, false, false, false, false, false, false] rfl rfl (by kernel_rfl) (fun _ _ _ h => h) (Or.inl ⟨by rfl, ?_⟩) ?_ ?_
  rotate_left
  · intro w'
    go_simp
    with_reducible rfl
  rotate_left
  · simp only [Act.put, List.setIfInBounds_toArray, List.set_cons_zero, List.set_cons_succ, i64_w, i32_w]
    rfl
  refine one_ (i := 8) (N := some 67) #[true, true, true, true, true, true, true, true, true, false, false, false, false, false] rfl rfl (by kernel_rfl) (by decide) (fun K hK => ?_)
  refine goesI_ (by rfl) rfl (.tmp 66) "Write" rfl T v rfl f S.meth HF.out HNM.out HBD.out #[v, .slice (some ⟨g, 33, none⟩) 32 32] (by (try simp only [List.map_toArray, List.map_cons, List.map_nil]); first | done | rfl | (simp only [List.length_drop, List.length_take]; rfl)) ?_
  with_reducible refine HW4.out.mono ?_
  rintro e v4 ⟨rfl, k1, k2⟩
  refine ⟨_, rfl, ?_⟩
  have HS4 := Aside0.mk k1
  have X4 := Aside0.mk k2
  clear k1 k2
  refine hK.out _ _ trivial (fun hHeld => ?_)
  clear hK K
  refine norm_ (a' := ?_) ?_ ?_
  rotate_left
  · show Act.put _ (some 67) _ = _
    simp only [Act.put, List.setIfInBounds_toArray, List.set_cons_zero, List.set_cons_succ, i64_w, i32_w]
    rfl
  refine pure_ (i := 9) (N := some 58) (v := ?_) (a' := ?_) #[true, true, true, true, true, true, true, true, true, true, false, false, false, false] rfl rfl (by kernel_rfl) (fun _ _ _ h => h) (Or.inl ⟨by rfl, ?_⟩) ?_ ?_
  rotate_left
  · intro w'
    go_simp
    with_reducible rfl
  rotate_left
  · simp only [Act.put, List.setIfInBounds_toArray, List.set_cons_zero, List.set_cons_succ, i64_w, i32_w]
    rfl
  refine pure_ (i := 10) (N := some 68) (v := ?_) (a' := ?_) #[true, true, true, true, true, true, true, true, true, true, true, false, false, false] rfl rfl (by kernel_rfl) (fun _ _ _ h => h) (Or.inl ⟨by rfl, ?_⟩) ?_ ?_
  rotate_left
  · intro w'
    go_simp
    with_reducible rfl
  rotate_left
  · simp only [Act.put, List.setIfInBounds_toArray, List.set_cons_zero, List.set_cons_succ, i64_w, i32_w]
    rfl
  refine pure_ (i := 11) (N := some 69) (v := ?_) (a' := ?_) #[true, true, true, true, true, true, true, true, true, true, true, true, false, false] rfl rfl (by kernel_rfl) (fun _ _ _ h => h) (Or.inl ⟨by rfl, ?_⟩) ?_ ?_
  rotate_left
  · intro w'
    go_simp
    with_reducible rfl
  rotate_left
  · simp only [Act.put, List.setIfInBounds_toArray, List.set_cons_zero, List.set_cons_succ, i64_w, i32_w]
    rfl
  refine pure_ (i := 12) (N := some 13) (v := ?_) (a' := ?_) #[true, true, true, true, true, true, true, true, true, true, true, true, true, false] rfl rfl (by kernel_rfl) (fun _ _ _ h => h) (Or.inl ⟨by rfl, ?_⟩) ?_ ?_
  rotate_left
  · intro w'
    go_simp
    with_reducible rfl
  rotate_left
  · simp only [Act.put, List.setIfInBounds_toArray, List.set_cons_zero, List.set_cons_succ, i64_w, i32_w]
    rfl
  refine pure_ (i := 13) (N := some 14) (v := ?_) (a' := ?_) #[true, true, true, true, true, true, true, true, true, true, true, true, true, true] rfl rfl (by kernel_rfl) (fun _ _ _ h => h) (Or.inl ⟨by rfl, ?_⟩) ?_ ?_
  rotate_left
  · intro w'
    go_simp
    with_reducible rfl
  rotate_left
  · simp only [Act.put, List.setIfInBounds_toArray, List.set_cons_zero, List.set_cons_succ, i64_w, i32_w]
    rfl
  refine done_ (by kernel_rfl) ?_
  have HE4 := Aside0.mk (HE3.out.trans X4.out)
  have kr4 := X4.out.kept HN3.out HR3.out
  have HR4 := Aside0.mk kr4.1
  have HN4 := Aside0.mk kr4.2
  have HL4 := HL3
  clear kr4
  go_upto_region 11 with fail
  have hz4 := (show (v4.drew).cell? ⟨g, 65, none⟩ = some (.int .i64 h.t) from (HD.out _ _ HS4.out HE4.out).t)
  have C5 : Aside0 (v4.drew.cell? ⟨g, 65, none⟩ = some (.int .i64 h.t)) := ⟨hz4⟩
  have HRd5 : Aside0 ((World.drew v4).heap[gb]? = _) := ⟨HR4.out⟩
  refine start_ (n := 10) (S := fun w' => w'.cell? ⟨g, 65, none⟩ = some (.int .i64 h.t)) (ds := []) #[false, false, false, false, false, false, false, false, false, false] (by kernel_rfl) rfl rfl C5.out (fun hHeld => ?_)
  refine take_ (i := 0) (N := some 73) (v := ?_) (a' := ?_) #[true, false, false, false, false, false, false, false, false, false] rfl rfl (by kernel_rfl) (fun _ _ _ h => h) (Or.inl ⟨by rfl, ?_⟩) hHeld ?_ ?_
  rotate_left
  · rintro w' s0
    go_simp
    with_reducible rfl
  rotate_left
  · simp only [Act.put, List.setIfInBounds_toArray, List.set_cons_zero, List.set_cons_succ, i64_w, i32_w]
    rfl
  refine pure_ (i := 1) (N := some 74) (v := ?_) (a' := ?_) #[true, true, false, false, false, false, false, false, false, false] rfl rfl (by kernel_rfl) (fun _ _ _ h => h) (Or.inl ⟨by rfl, ?_⟩) ?_ ?_
  rotate_left
  · intro w'
    go_simp
    with_reducible rfl
  rotate_left
  · simp only [Act.put, List.setIfInBounds_toArray, List.set_cons_zero, List.set_cons_succ, i64_w, i32_w]
    rfl
  refine pure_ (i := 2) (N := some 75) (v := ?_) (a' := ?_) #[true, true, true, false, false, false, false, false, false, false] rfl rfl (by kernel_rfl) (fun _ _ _ h => h) (Or.inl ⟨by rfl, ?_⟩) ?_ ?_
  rotate_left
  · intro w'
    go_simp
    with_reducible rfl
  rotate_left
  · simp only [Act.put, List.setIfInBounds_toArray, List.set_cons_zero, List.set_cons_succ, i64_w, i32_w]
    rfl
  refine pure_ (i := 3) (N := some 76) (v := ?_) (a' := ?_) #[true, true, true, true, false, false, false, false, false, false] rfl rfl (by kernel_rfl) (fun _ _ _ h => h) (Or.inl ⟨by rfl, ?_⟩) ?_ ?_
  rotate_left
  · intro w'
    go_simp
    with_reducible rfl
  rotate_left
  · simp only [Act.put, List.setIfInBounds_toArray, List.set_cons_zero, List.set_cons_succ, i64_w, i32_w]
    rfl
  refine pure_ (i := 4) (N := some 77) (v := ?_) (a' := ?_) #[true, true, true, true, true, false, false, false, false, false] rfl rfl (by kernel_rfl) (fun _ _ _ h => h) (Or.inl ⟨by rfl, ?_⟩) ?_ ?_
  rotate_left
  · intro w'
    go_simp
    with_reducible rfl
  rotate_left
  · simp only [Act.put, List.setIfInBounds_toArray, List.set_cons_zero, List.set_cons_succ, i64_w, i32_w]
    rfl
  refine pure_ (i := 5) (N := some 78) (v := ?_) (a' := ?_) #[true, true, true, true, true, true, false, false, false, false] rfl rfl (by kernel_rfl) (fun _ _ _ h => h) (Or.inl ⟨by rfl, ?_⟩) ?_ ?_
  rotate_left
  · intro w'
    go_simp
    with_reducible rfl
  rotate_left
  · simp only [Act.put, List.setIfInBounds_toArray, List.set_cons_zero, List.set_cons_succ, i64_w, i32_w]
    rfl
  refine take_ (i := 6) (N := some 79) (v := ?_) (a' := ?_) #[true, true, true, true, true, true, true, false, false, false] rfl rfl (by kernel_rfl) (fun _ _ _ h => h) (Or.inl ⟨by rfl, ?_⟩) hHeld ?_ ?_
  rotate_left
  · rintro w' s0
    go_simp
    with_reducible rfl
  rotate_left
  · simp only [Act.put, List.setIfInBounds_toArray, List.set_cons_zero, List.set_cons_succ, i64_w, i32_w]
    rfl
  refine one_ (i := 7) (N := some 80) #[true, true, true, true, true, true, true, true, false, false] rfl rfl (by kernel_rfl) (by decide) (fun K hK => ?_)
  refine goes_ Tryd.func33 (by kernel_rfl) rfl #[.agg #[.int .i64 h.t]] (by rfl) rfl rfl (by (try simp only [List.map_toArray, List.map_cons, List.map_nil]); first | done | rfl | (simp only [List.length_drop, List.length_take]; rfl)) ?_
  with_reducible refine (timeUnixC h.t _).mono ?_
  rintro e wt ⟨rfl, k1⟩
  refine ⟨_, rfl, ?_⟩
  have HRe5 := Aside0.mk ((k1.block gb (blk_lt' HRd5.out)).trans HRd5.out)
  have PT5 : Aside0 (Below v4.heap.size v4 wt) := ⟨⟨k1.os, k1.tape, k1.output, k1.size, k1.block⟩⟩
  have CT : wt.cell? ⟨g, 65, none⟩ = some (.int .i64 h.t) := pw_cell_below k1 hHeld
  clear k1
  refine hK.out _ _ CT (fun hHeld => ?_)
  clear hK K
  refine norm_ (a' := ?_) ?_ ?_
  rotate_left
  · show Act.put _ (some 80) _ = _
    simp only [Act.put, List.setIfInBounds_toArray, List.set_cons_zero, List.set_cons_succ, i64_w, i32_w]
    rfl
  refine pure_ (i := 8) (N := some 81) (v := ?_) (a' := ?_) #[true, true, true, true, true, true, true, true, true, false] rfl rfl (by kernel_rfl) (fun _ _ _ h => h) (Or.inl ⟨by rfl, ?_⟩) ?_ ?_
  rotate_left
  · intro w'
    go_simp
    with_reducible rfl
  rotate_left
  · simp only [Act.put, List.setIfInBounds_toArray, List.set_cons_zero, List.set_cons_succ, i64_w, i32_w]
    rfl
  refine one_ (i := 9) (N := some 82) #[true, true, true, true, true, true, true, true, true, true] rfl rfl (by kernel_rfl) (by decide) (fun K hK => ?_)
  refine goes_ Tryd.func53 (by kernel_rfl) rfl #[.agg #[], .slice (some ⟨gb, 0, none⟩) 4 8, .int .u32 (h.t % 4294967296)] (by rfl) rfl rfl (by (try simp only [List.map_toArray, List.map_cons, List.map_nil]); first | done | rfl | (simp only [List.length_drop, List.length_take]; rfl)) ?_
  with_reducible refine (lput4C gb 0 4 8 _ _ (h.t % 4294967296) (.agg #[]) _ HRe5.out (by rw [HL4.out]; decide) (by decide)).mono ?_
  rintro e v5 ⟨rfl, k1, k2⟩
  refine ⟨_, rfl, ?_⟩
  have HR5 := Aside0.mk k1
  have P5 : Aside0 (Only gb v4 v5) := ⟨(Only.of_below (g := gb) PT5.out).trans ⟨k2.os, k2.tape, k2.output, k2.size, k2.block⟩⟩
  have K2 := k2
  clear k1
  refine hK.out _ _ (by have := K2; exact this.cell (p := ⟨g, 65, none⟩) (by intro e; exact HNG.out e) hHeld) (fun hHeld => ?_)
  clear hK K
  refine norm_ (a' := ?_) ?_ ?_
  rotate_left
  · show Act.put _ (some 82) _ = _
    simp only [Act.put, List.setIfInBounds_toArray, List.set_cons_zero, List.set_cons_succ, i64_w, i32_w]
    rfl
  refine done_ (by kernel_rfl) ?_
  obtain ⟨hs5, he5, hn5⟩ := only_step HS4.out HE4.out HGE.out HG0.out HN4.out P5.out
  have HS5 := Aside0.mk hs5
  have HE5 := Aside0.mk he5
  have HN5 := Aside0.mk hn5
  have HL5 : Aside0 ((lput4 (lput4 l 0 (h.v % 4294967296)) 0 (h.t % 4294967296)).length = 8) := ⟨by rw [lput4_len]; exact HL4.out⟩
  clear K2
  clear hs5 he5 hn5 hHeld
  clear hz4
  go_upto_region 12 with fail
  obtain ⟨q6, hq6⟩ : ∃ q, q = le4 (h.t % 4294967296) := ⟨_, rfl⟩
  have HQ6 := Aside0.mk hq6
  have HW6 : Aside0 (Calls Tryd.prog f #[v, .slice (some ⟨gb, 0, none⟩) 4 8] (World.drew v5) fun e w' => e = .returned (.tuple #[.int .i64 4, .nilIface]) ∧ S.St w' ((((bs0 ++ q2) ++ q3) ++ q4) ++ q6) ∧ Step S v5 w') := ⟨by
    subst hq6
    have b0 := below_step HS5.out (show Below v5.heap.size v5 v5.drew from ⟨rfl, rfl, rfl, Nat.le_refl _, fun _ _ => rfl⟩)
    exact (S.writeC b0.1 (le4_len _) (by have h1 := HM.out; have h2 := HB0.out; have h3 := HO.out.p; have h4 := HO.out.r; subst h2; have hq2 := congrArg List.length HQ2.out; (try simp only [le4_len] at hq2);  have hq3 := congrArg List.length HQ3.out; (try simp only [le4_len] at hq3);  have hq4 := congrArg List.length HQ4.out; (try simp only [le4_len] at hq4); (try simp only [List.length_append, le4_len, List.length_take]); omega) (by decide) (by have := read4 (w := v5) HR5.out HL5.out; rw [lput4_take _ _ (by have := HL5.out; rw [lput4_len] at this; omega)] at this; exact this) (fun _ a e hw => by obtain rfl := Option.some.inj e; exact HN5.out (b0.2.grow gb hw |>.elim id (fun h => absurd (blk_lt' HR5.out) (Nat.not_lt.2 h))))).mono fun e w' ⟨h1, h2, h3⟩ => ⟨h1, h2, b0.2.trans h3⟩⟩
  clear hq6
  have hnl : ∀ W : World, True := fun _ => trivial
  clear hnl
  refine start_ (n := 12) (S := fun w' => True) (ds := []) #[false, false, false, false, false, false, false, false, false, false, false, false] (by kernel_rfl) rfl rfl trivial (fun hHeld => ?_)
  refine pure_ (i := 0) (N := some 84) (v := ?_) (a' := ?_) #[true, false, false, false, false, false, false, false, false, false, false, false] rfl rfl (by kernel_rfl) (fun _ _ _ h => h) (Or.inl ⟨by rfl, ?_⟩) ?_ ?_
  rotate_left
  · intro w'
    go_simp
    with_reducible rfl
  rotate_left
  · simp only [Act.put, List.setIfInBounds_toArray, List.set_cons_zero, List.set_cons_succ, i64_w, i32_w]
    rfl
  refine pure_ (i := 1) (N := some 85) (v := ?_) (a' := ?_) #[true, true, false, false, false, false, false, false, false, false, false, false] rfl rfl (by kernel_rfl) (fun _ _ _ h => h) (Or.inl ⟨by rfl, ?_⟩) ?_ ?_
  rotate_left
  · intro w'
    go_simp
    with_reducible rfl
  rotate_left
  · simp only [Act.put, List.setIfInBounds_toArray, List.set_cons_zero, List.set_cons_succ, i64_w, i32_w]
    rfl
  refine pure_ (i := 2) (N := some 86) (v := ?_) (a' := ?_) #[true, true, true, false, false, false, false, false, false, false, false, false] rfl rfl (by kernel_rfl) (fun _ _ _ h => h) (Or.inl ⟨by rfl, ?_⟩) ?_ ?_
  rotate_left
  · intro w'
    go_simp
    with_reducible rfl
  rotate_left
  · simp only [Act.put, List.setIfInBounds_toArray, List.set_cons_zero, List.set_cons_succ, i64_w, i32_w]
    rfl
  refine pure_ (i := 3) (N := some 87) (v := ?_) (a' := ?_) #[true, true, true, true, false, false, false, false, false, false, false, false] rfl rfl (by kernel_rfl) (fun _ _ _ h => h) (Or.inl ⟨by rfl, ?_⟩) ?_ ?_
  rotate_left
  · intro w'
    go_simp
    with_reducible rfl
  rotate_left
  · simp only [Act.put, List.setIfInBounds_toArray, List.set_cons_zero, List.set_cons_succ, i64_w, i32_w]
    rfl
  refine pure_ (i := 4) (N := some 88) (v := ?_) (a' := ?_) #[true, true, true, true, true, false, false, false, false, false, false, false] rfl rfl (by kernel_rfl) (fun _ _ _ h => h) (Or.inl ⟨by rfl, ?_⟩) ?_ ?_
  rotate_left
  · intro w'
    refine nil_run S.nil _ (.tmp 87) ?_ ?_ <;> rfl
  rotate_left
  · simp only [Act.put, List.setIfInBounds_toArray, List.set_cons_zero, List.set_cons_succ, i64_w, i32_w]
    rfl
  refine pure_ (i := 5) (N := some 89) (v := ?_) (a' := ?_) #[true, true, true, true, true, true, false, false, false, false, false, false] rfl rfl (by kernel_rfl) (fun _ _ _ h => h) (Or.inl ⟨by rfl, ?_⟩) ?_ ?_
  rotate_left
  · intro w'
    go_simp
    with_reducible rfl
  rotate_left
  · simp only [Act.put, List.setIfInBounds_toArray, List.set_cons_zero, List.set_cons_succ, i64_w, i32_w]
    rfl
  refine one_ (i := 6) (N := some 90) #[true, true, true, true, true, true, true, false, false, false, false, false] rfl rfl (by kernel_rfl) (by decide) (fun K hK => ?_)
  refine goesI_ (by rfl) rfl (.tmp 89) "Write" rfl T v rfl f S.meth HF.out HNM.out HBD.out #[v, .slice (some ⟨gb, 0, none⟩) 4 8] (by (try simp only [List.map_toArray, List.map_cons, List.map_nil]); first | done | rfl | (simp only [List.length_drop, List.length_take]; rfl)) ?_
  with_reducible refine HW6.out.mono ?_
  rintro e v6 ⟨rfl, k1, k2⟩
  refine ⟨_, rfl, ?_⟩
  have HS6 := Aside0.mk k1
  have X6 := Aside0.mk k2
  clear k1 k2
  refine hK.out _ _ trivial (fun hHeld => ?_)
  clear hK K
  refine norm_ (a' := ?_) ?_ ?_
  rotate_left
  · show Act.put _ (some 90) _ = _
    simp only [Act.put, List.setIfInBounds_toArray, List.set_cons_zero, List.set_cons_succ, i64_w, i32_w]
    rfl
  refine pure_ (i := 7) (N := some 83) (v := ?_) (a' := ?_) #[true, true, true, true, true, true, true, true, false, false, false, false] rfl rfl (by kernel_rfl) (fun _ _ _ h => h) (Or.inl ⟨by rfl, ?_⟩) ?_ ?_
  rotate_left
  · intro w'
    go_simp
    with_reducible rfl
  rotate_left
  · simp only [Act.put, List.setIfInBounds_toArray, List.set_cons_zero, List.set_cons_succ, i64_w, i32_w]
    rfl
  refine pure_ (i := 8) (N := some 91) (v := ?_) (a' := ?_) #[true, true, true, true, true, true, true, true, true, false, false, false] rfl rfl (by kernel_rfl) (fun _ _ _ h => h) (Or.inl ⟨by rfl, ?_⟩) ?_ ?_
  rotate_left
  · intro w'
    go_simp
    with_reducible rfl
  rotate_left
  · simp only [Act.put, List.setIfInBounds_toArray, List.set_cons_zero, List.set_cons_succ, i64_w, i32_w]
    rfl
  refine pure_ (i := 9) (N := some 92) (v := ?_) (a' := ?_) #[true, true, true, true, true, true, true, true, true, true, false, false] rfl rfl (by kernel_rfl) (fun _ _ _ h => h) (Or.inl ⟨by rfl, ?_⟩) ?_ ?_
  rotate_left
  · intro w'
    go_simp
    with_reducible rfl
  rotate_left
  · simp only [Act.put, List.setIfInBounds_toArray, List.set_cons_zero, List.set_cons_succ, i64_w, i32_w]
    rfl
  refine pure_ (i := 10) (N := some 15) (v := ?_) (a' := ?_) #[true, true, true, true, true, true, true, true, true, true, true, false] rfl rfl (by kernel_rfl) (fun _ _ _ h => h) (Or.inl ⟨by rfl, ?_⟩) ?_ ?_
  rotate_left
  · intro w'
    go_simp
    with_reducible rfl
  rotate_left
  · simp only [Act.put, List.setIfInBounds_toArray, List.set_cons_zero, List.set_cons_succ, i64_w, i32_w]
    rfl
  refine pure_ (i := 11) (N := some 16) (v := ?_) (a' := ?_) #[true, true, true, true, true, true, true, true, true, true, true, true] rfl rfl (by kernel_rfl) (fun _ _ _ h => h) (Or.inl ⟨by rfl, ?_⟩) ?_ ?_
  rotate_left
  · intro w'
    go_simp
    with_reducible rfl
  rotate_left
  · simp only [Act.put, List.setIfInBounds_toArray, List.set_cons_zero, List.set_cons_succ, i64_w, i32_w]
    rfl
  refine done_ (by kernel_rfl) ?_
  have HE6 := Aside0.mk (HE5.out.trans X6.out)
  have kr6 := X6.out.kept HN5.out HR5.out
  have HR6 := Aside0.mk kr6.1
  have HN6 := Aside0.mk kr6.2
  have HL6 := HL5
  clear kr6
  go_upto_region 15 with fail
  have hz6 := (show (v6.drew).cell? ⟨g, 66, none⟩ = some (.int .u32 h.b) from (HD.out _ _ HS6.out HE6.out).b)
  have C7 : Aside0 (v6.drew.cell? ⟨g, 66, none⟩ = some (.int .u32 h.b)) := ⟨hz6⟩
  have HRd7 : Aside0 ((World.drew v6).heap[gb]? = _) := ⟨HR6.out⟩
  refine start_ (n := 8) (S := fun w' => w'.cell? ⟨g, 66, none⟩ = some (.int .u32 h.b)) (ds := []) #[false, false, false, false, false, false, false, false] (by kernel_rfl) rfl rfl C7.out (fun hHeld => ?_)
  refine take_ (i := 0) (N := some 96) (v := ?_) (a' := ?_) #[true, false, false, false, false, false, false, false] rfl rfl (by kernel_rfl) (fun _ _ _ h => h) (Or.inl ⟨by rfl, ?_⟩) hHeld ?_ ?_
  rotate_left
  · rintro w' s0
    go_simp
    with_reducible rfl
  rotate_left
  · simp only [Act.put, List.setIfInBounds_toArray, List.set_cons_zero, List.set_cons_succ, i64_w, i32_w]
    rfl
  refine pure_ (i := 1) (N := some 97) (v := ?_) (a' := ?_) #[true, true, false, false, false, false, false, false] rfl rfl (by kernel_rfl) (fun _ _ _ h => h) (Or.inl ⟨by rfl, ?_⟩) ?_ ?_
  rotate_left
  · intro w'
    go_simp
    with_reducible rfl
  rotate_left
  · simp only [Act.put, List.setIfInBounds_toArray, List.set_cons_zero, List.set_cons_succ, i64_w, i32_w]
    rfl
  refine pure_ (i := 2) (N := some 98) (v := ?_) (a' := ?_) #[true, true, true, false, false, false, false, false] rfl rfl (by kernel_rfl) (fun _ _ _ h => h) (Or.inl ⟨by rfl, ?_⟩) ?_ ?_
  rotate_left
  · intro w'
    go_simp
    with_reducible rfl
  rotate_left
  · simp only [Act.put, List.setIfInBounds_toArray, List.set_cons_zero, List.set_cons_succ, i64_w, i32_w]
    rfl
  refine pure_ (i := 3) (N := some 99) (v := ?_) (a' := ?_) #[true, true, true, true, false, false, false, false] rfl rfl (by kernel_rfl) (fun _ _ _ h => h) (Or.inl ⟨by rfl, ?_⟩) ?_ ?_
  rotate_left
  · intro w'
    go_simp
    with_reducible rfl
  rotate_left
  · simp only [Act.put, List.setIfInBounds_toArray, List.set_cons_zero, List.set_cons_succ, i64_w, i32_w]
    rfl
  refine pure_ (i := 4) (N := some 100) (v := ?_) (a' := ?_) #[true, true, true, true, true, false, false, false] rfl rfl (by kernel_rfl) (fun _ _ _ h => h) (Or.inl ⟨by rfl, ?_⟩) ?_ ?_
  rotate_left
  · intro w'
    go_simp
    with_reducible rfl
  rotate_left
  · simp only [Act.put, List.setIfInBounds_toArray, List.set_cons_zero, List.set_cons_succ, i64_w, i32_w]
    rfl
  refine pure_ (i := 5) (N := some 101) (v := ?_) (a' := ?_) #[true, true, true, true, true, true, false, false] rfl rfl (by kernel_rfl) (fun _ _ _ h => h) (Or.inl ⟨by rfl, ?_⟩) ?_ ?_
  rotate_left
  · intro w'
    go_simp
    with_reducible rfl
  rotate_left
  · simp only [Act.put, List.setIfInBounds_toArray, List.set_cons_zero, List.set_cons_succ, i64_w, i32_w]
    rfl
  refine take_ (i := 6) (N := some 102) (v := ?_) (a' := ?_) #[true, true, true, true, true, true, true, false] rfl rfl (by kernel_rfl) (fun _ _ _ h => h) (Or.inl ⟨by rfl, ?_⟩) hHeld ?_ ?_
  rotate_left
  · rintro w' s0
    go_simp
    with_reducible rfl
  rotate_left
  · simp only [Act.put, List.setIfInBounds_toArray, List.set_cons_zero, List.set_cons_succ, i64_w, i32_w]
    rfl
  refine one_ (i := 7) (N := some 103) #[true, true, true, true, true, true, true, true] rfl rfl (by kernel_rfl) (by decide) (fun K hK => ?_)
  refine goes_ Tryd.func53 (by kernel_rfl) rfl #[.agg #[], .slice (some ⟨gb, 0, none⟩) 4 8, .int .u32 (h.b)] (by rfl) rfl rfl (by (try simp only [List.map_toArray, List.map_cons, List.map_nil]); first | done | rfl | (simp only [List.length_drop, List.length_take]; rfl)) ?_
  with_reducible refine (lput4C gb 0 4 8 _ _ (h.b) (.agg #[]) _ HRd7.out (by rw [HL6.out]; decide) (by decide)).mono ?_
  rintro e v7 ⟨rfl, k1, k2⟩
  refine ⟨_, rfl, ?_⟩
  have HR7 := Aside0.mk k1
  have P7 : Aside0 (Only gb v6 v7) := ⟨⟨k2.os, k2.tape, k2.output, k2.size, k2.block⟩⟩
  clear k1 k2
  refine hK.out _ _ (by have := P7.out; exact this.cell (p := ⟨g, 66, none⟩) (by intro e; exact HNG.out e) hHeld) (fun hHeld => ?_)
  clear hK K
  refine norm_ (a' := ?_) ?_ ?_
  rotate_left
  · show Act.put _ (some 103) _ = _
    simp only [Act.put, List.setIfInBounds_toArray, List.set_cons_zero, List.set_cons_succ, i64_w, i32_w]
    rfl
  refine done_ (by kernel_rfl) ?_
  obtain ⟨hs7, he7, hn7⟩ := only_step HS6.out HE6.out HGE.out HG0.out HN6.out P7.out
  have HS7 := Aside0.mk hs7
  have HE7 := Aside0.mk he7
  have HN7 := Aside0.mk hn7
  have HL7 : Aside0 ((lput4 (lput4 (lput4 l 0 (h.v % 4294967296)) 0 (h.t % 4294967296)) 0 (h.b)).length = 8) := ⟨by rw [lput4_len]; exact HL6.out⟩
  clear hs7 he7 hn7 hHeld
  clear hz6
  go_upto_region 16 with fail
  obtain ⟨q8, hq8⟩ : ∃ q, q = le4 (h.b) := ⟨_, rfl⟩
  have HQ8 := Aside0.mk hq8
  have HW8 : Aside0 (Calls Tryd.prog f #[v, .slice (some ⟨gb, 0, none⟩) 4 8] (World.drew v7) fun e w' => e = .returned (.tuple #[.int .i64 4, .nilIface]) ∧ S.St w' (((((bs0 ++ q2) ++ q3) ++ q4) ++ q6) ++ q8) ∧ Step S v7 w') := ⟨by
    subst hq8
    have b0 := below_step HS7.out (show Below v7.heap.size v7 v7.drew from ⟨rfl, rfl, rfl, Nat.le_refl _, fun _ _ => rfl⟩)
    exact (S.writeC b0.1 (le4_len _) (by have h1 := HM.out; have h2 := HB0.out; have h3 := HO.out.p; have h4 := HO.out.r; subst h2; have hq2 := congrArg List.length HQ2.out; (try simp only [le4_len] at hq2);  have hq3 := congrArg List.length HQ3.out; (try simp only [le4_len] at hq3);  have hq4 := congrArg List.length HQ4.out; (try simp only [le4_len] at hq4);  have hq6 := congrArg List.length HQ6.out; (try simp only [le4_len] at hq6); (try simp only [List.length_append, le4_len, List.length_take]); omega) (by decide) (by have := read4 (w := v7) HR7.out HL7.out; rw [lput4_take _ _ (by have := HL7.out; rw [lput4_len] at this; omega)] at this; exact this) (fun _ a e hw => by obtain rfl := Option.some.inj e; exact HN7.out (b0.2.grow gb hw |>.elim id (fun h => absurd (blk_lt' HR7.out) (Nat.not_lt.2 h))))).mono fun e w' ⟨h1, h2, h3⟩ => ⟨h1, h2, b0.2.trans h3⟩⟩
  clear hq8
  have hnl : ∀ W : World, True := fun _ => trivial
  clear hnl
  refine start_ (n := 12) (S := fun w' => True) (ds := []) #[false, false, false, false, false, false, false, false, false, false, false, false] (by kernel_rfl) rfl rfl trivial (fun hHeld => ?_)
  refine pure_ (i := 0) (N := some 105) (v := ?_) (a' := ?_) #[true, false, false, false, false, false, false, false, false, false, false, false] rfl rfl (by kernel_rfl) (fun _ _ _ h => h) (Or.inl ⟨by rfl, ?_⟩) ?_ ?_
  rotate_left
  · intro w'
    go_simp
    with_reducible rfl
  rotate_left
  · simp only [Act.put, List.setIfInBounds_toArray, List.set_cons_zero, List.set_cons_succ, i64_w, i32_w]
    rfl
  refine pure_ (i := 1) (N := some 106) (v := ?_) (a' := ?_) #[true, true, false, false, false, false, false, false, false, false, false, false] rfl rfl (by kernel_rfl) (fun _ _ _ h => h) (Or.inl ⟨by rfl, ?_⟩) ?_ ?_
  rotate_left
  · intro w'
    go_simp
    with_reducible rfl
  rotate_left
  · simp only [Act.put, List.setIfInBounds_toArray, List.set_cons_zero, List.set_cons_succ, i64_w, i32_w]
    rfl
  refine pure_ (i := 2) (N := some 107) (v := ?_) (a' := ?_) #[true, true, true, false, false, false, false, false, false, false, false, false] rfl rfl (by kernel_rfl) (fun _ _ _ h => h) (Or.inl ⟨by rfl, ?_⟩) ?_ ?_
  rotate_left
  · intro w'
    go_simp
    with_reducible rfl
  rotate_left
  · simp only [Act.put, List.setIfInBounds_toArray, List.set_cons_zero, List.set_cons_succ, i64_w, i32_w]
    rfl
  refine pure_ (i := 3) (N := some 108) (v := ?_) (a' := ?_) #[true, true, true, true, false, false, false, false, false, false, false, false] rfl rfl (by kernel_rfl) (fun _ _ _ h => h) (Or.inl ⟨by rfl, ?_⟩) ?_ ?_
  rotate_left
  · intro w'
    go_simp
    with_reducible rfl
  rotate_left
  · simp only [Act.put, List.setIfInBounds_toArray, List.set_cons_zero, List.set_cons_succ, i64_w, i32_w]
    rfl
  refine pure_ (i := 4) (N := some 109) (v := ?_) (a' := ?_) #[true, true, true, true, true, false, false, false, false, false, false, false] rfl rfl (by kernel_rfl) (fun _ _ _ h => h) (Or.inl ⟨by rfl, ?_⟩) ?_ ?_
  rotate_left
  · intro w'
    refine nil_run S.nil _ (.tmp 108) ?_ ?_ <;> rfl
  rotate_left
  · simp only [Act.put, List.setIfInBounds_toArray, List.set_cons_zero, List.set_cons_succ, i64_w, i32_w]
    rfl
  refine pure_ (i := 5) (N := some 110) (v := ?_) (a' := ?_) #[true, true, true, true, true, true, false, false, false, false, false, false] rfl rfl (by kernel_rfl) (fun _ _ _ h => h) (Or.inl ⟨by rfl, ?_⟩) ?_ ?_
  rotate_left
  · intro w'
    go_simp
    with_reducible rfl
  rotate_left
  · simp only [Act.put, List.setIfInBounds_toArray, List.set_cons_zero, List.set_cons_succ, i64_w, i32_w]
    rfl
  refine one_ (i := 6) (N := some 111) #[true, true, true, true, true, true, true, false, false, false, false, false] rfl rfl (by kernel_rfl) (by decide) (fun K hK => ?_)
  refine goesI_ (by rfl) rfl (.tmp 110) "Write" rfl T v rfl f S.meth HF.out HNM.out HBD.out #[v, .slice (some ⟨gb, 0, none⟩) 4 8] (by (try simp only [List.map_toArray, List.map_cons, List.map_nil]); first | done | rfl | (simp only [List.length_drop, List.length_take]; rfl)) ?_
  with_reducible refine HW8.out.mono ?_
  rintro e v8 ⟨rfl, k1, k2⟩
  refine ⟨_, rfl, ?_⟩
  have HS8 := Aside0.mk k1
  have X8 := Aside0.mk k2
  clear k1 k2
  refine hK.out _ _ trivial (fun hHeld => ?_)
  clear hK K
  refine norm_ (a' := ?_) ?_ ?_
  rotate_left
  · show Act.put _ (some 111) _ = _
    simp only [Act.put, List.setIfInBounds_toArray, List.set_cons_zero, List.set_cons_succ, i64_w, i32_w]
    rfl
  refine pure_ (i := 7) (N := some 104) (v := ?_) (a' := ?_) #[true, true, true, true, true, true, true, true, false, false, false, false] rfl rfl (by kernel_rfl) (fun _ _ _ h => h) (Or.inl ⟨by rfl, ?_⟩) ?_ ?_
  rotate_left
  · intro w'
    go_simp
    with_reducible rfl
  rotate_left
  · simp only [Act.put, List.setIfInBounds_toArray, List.set_cons_zero, List.set_cons_succ, i64_w, i32_w]
    rfl
  refine pure_ (i := 8) (N := some 112) (v := ?_) (a' := ?_) #[true, true, true, true, true, true, true, true, true, false, false, false] rfl rfl (by kernel_rfl) (fun _ _ _ h => h) (Or.inl ⟨by rfl, ?_⟩) ?_ ?_
  rotate_left
  · intro w'
    go_simp
    with_reducible rfl
  rotate_left
  · simp only [Act.put, List.setIfInBounds_toArray, List.set_cons_zero, List.set_cons_succ, i64_w, i32_w]
    rfl
  refine pure_ (i := 9) (N := some 113) (v := ?_) (a' := ?_) #[true, true, true, true, true, true, true, true, true, true, false, false] rfl rfl (by kernel_rfl) (fun _ _ _ h => h) (Or.inl ⟨by rfl, ?_⟩) ?_ ?_
  rotate_left
  · intro w'
    go_simp
    with_reducible rfl
  rotate_left
  · simp only [Act.put, List.setIfInBounds_toArray, List.set_cons_zero, List.set_cons_succ, i64_w, i32_w]
    rfl
  refine pure_ (i := 10) (N := some 17) (v := ?_) (a' := ?_) #[true, true, true, true, true, true, true, true, true, true, true, false] rfl rfl (by kernel_rfl) (fun _ _ _ h => h) (Or.inl ⟨by rfl, ?_⟩) ?_ ?_
  rotate_left
  · intro w'
    go_simp
    with_reducible rfl
  rotate_left
  · simp only [Act.put, List.setIfInBounds_toArray, List.set_cons_zero, List.set_cons_succ, i64_w, i32_w]
    rfl
  refine pure_ (i := 11) (N := some 18) (v := ?_) (a' := ?_) #[true, true, true, true, true, true, true, true, true, true, true, true] rfl rfl (by kernel_rfl) (fun _ _ _ h => h) (Or.inl ⟨by rfl, ?_⟩) ?_ ?_
  rotate_left
  · intro w'
    go_simp
    with_reducible rfl
  rotate_left
  · simp only [Act.put, List.setIfInBounds_toArray, List.set_cons_zero, List.set_cons_succ, i64_w, i32_w]
    rfl
  refine done_ (by kernel_rfl) ?_
  have HE8 := Aside0.mk (HE7.out.trans X8.out)
  have kr8 := X8.out.kept HN7.out HR7.out
  have HR8 := Aside0.mk kr8.1
  have HN8 := Aside0.mk kr8.2
  have HL8 := HL7
  clear kr8
  go_upto_region 19 with fail
  have hz8 := (show (v8.drew).cell? ⟨g, 67, none⟩ = some (.int .u32 h.n) from (HD.out _ _ HS8.out HE8.out).n)
  have C9 : Aside0 (v8.drew.cell? ⟨g, 67, none⟩ = some (.int .u32 h.n)) := ⟨hz8⟩
  have HRd9 : Aside0 ((World.drew v8).heap[gb]? = _) := ⟨HR8.out⟩
  refine start_ (n := 8) (S := fun w' => w'.cell? ⟨g, 67, none⟩ = some (.int .u32 h.n)) (ds := []) #[false, false, false, false, false, false, false, false] (by kernel_rfl) rfl rfl C9.out (fun hHeld => ?_)
  refine take_ (i := 0) (N := some 117) (v := ?_) (a' := ?_) #[true, false, false, false, false, false, false, false] rfl rfl (by kernel_rfl) (fun _ _ _ h => h) (Or.inl ⟨by rfl, ?_⟩) hHeld ?_ ?_
  rotate_left
  · rintro w' s0
    go_simp
    with_reducible rfl
  rotate_left
  · simp only [Act.put, List.setIfInBounds_toArray, List.set_cons_zero, List.set_cons_succ, i64_w, i32_w]
    rfl
  refine pure_ (i := 1) (N := some 118) (v := ?_) (a' := ?_) #[true, true, false, false, false, false, false, false] rfl rfl (by kernel_rfl) (fun _ _ _ h => h) (Or.inl ⟨by rfl, ?_⟩) ?_ ?_
  rotate_left
  · intro w'
    go_simp
    with_reducible rfl
  rotate_left
  · simp only [Act.put, List.setIfInBounds_toArray, List.set_cons_zero, List.set_cons_succ, i64_w, i32_w]
    rfl
  refine pure_ (i := 2) (N := some 119) (v := ?_) (a' := ?_) #[true, true, true, false, false, false, false, false] rfl rfl (by kernel_rfl) (fun _ _ _ h => h) (Or.inl ⟨by rfl, ?_⟩) ?_ ?_
  rotate_left
  · intro w'
    go_simp
    with_reducible rfl
  rotate_left
  · simp only [Act.put, List.setIfInBounds_toArray, List.set_cons_zero, List.set_cons_succ, i64_w, i32_w]
    rfl
  refine pure_ (i := 3) (N := some 120) (v := ?_) (a' := ?_) #[true, true, true, true, false, false, false, false] rfl rfl (by kernel_rfl) (fun _ _ _ h => h) (Or.inl ⟨by rfl, ?_⟩) ?_ ?_
  rotate_left
  · intro w'
    go_simp
    with_reducible rfl
  rotate_left
  · simp only [Act.put, List.setIfInBounds_toArray, List.set_cons_zero, List.set_cons_succ, i64_w, i32_w]
    rfl
  refine pure_ (i := 4) (N := some 121) (v := ?_) (a' := ?_) #[true, true, true, true, true, false, false, false] rfl rfl (by kernel_rfl) (fun _ _ _ h => h) (Or.inl ⟨by rfl, ?_⟩) ?_ ?_
  rotate_left
  · intro w'
    go_simp
    with_reducible rfl
  rotate_left
  · simp only [Act.put, List.setIfInBounds_toArray, List.set_cons_zero, List.set_cons_succ, i64_w, i32_w]
    rfl
  refine pure_ (i := 5) (N := some 122) (v := ?_) (a' := ?_) #[true, true, true, true, true, true, false, false] rfl rfl (by kernel_rfl) (fun _ _ _ h => h) (Or.inl ⟨by rfl, ?_⟩) ?_ ?_
  rotate_left
  · intro w'
    go_simp
    with_reducible rfl
  rotate_left
  · simp only [Act.put, List.setIfInBounds_toArray, List.set_cons_zero, List.set_cons_succ, i64_w, i32_w]
    rfl
  refine take_ (i := 6) (N := some 123) (v := ?_) (a' := ?_) #[true, true, true, true, true, true, true, false] rfl rfl (by kernel_rfl) (fun _ _ _ h => h) (Or.inl ⟨by rfl, ?_⟩) hHeld ?_ ?_
  rotate_left
  · rintro w' s0
    go_simp
    with_reducible rfl
  rotate_left
  · simp only [Act.put, List.setIfInBounds_toArray, List.set_cons_zero, List.set_cons_succ, i64_w, i32_w]
    rfl
  refine one_ (i := 7) (N := some 124) #[true, true, true, true, true, true, true, true] rfl rfl (by kernel_rfl) (by decide) (fun K hK => ?_)
  refine goes_ Tryd.func53 (by kernel_rfl) rfl #[.agg #[], .slice (some ⟨gb, 0, none⟩) 4 8, .int .u32 (h.n)] (by rfl) rfl rfl (by (try simp only [List.map_toArray, List.map_cons, List.map_nil]); first | done | rfl | (simp only [List.length_drop, List.length_take]; rfl)) ?_
  with_reducible refine (lput4C gb 0 4 8 _ _ (h.n) (.agg #[]) _ HRd9.out (by rw [HL8.out]; decide) (by decide)).mono ?_
  rintro e v9 ⟨rfl, k1, k2⟩
  refine ⟨_, rfl, ?_⟩
  have HR9 := Aside0.mk k1
  have P9 : Aside0 (Only gb v8 v9) := ⟨⟨k2.os, k2.tape, k2.output, k2.size, k2.block⟩⟩
  clear k1 k2
  refine hK.out _ _ (by have := P9.out; exact this.cell (p := ⟨g, 67, none⟩) (by intro e; exact HNG.out e) hHeld) (fun hHeld => ?_)
  clear hK K
  refine norm_ (a' := ?_) ?_ ?_
  rotate_left
  · show Act.put _ (some 124) _ = _
    simp only [Act.put, List.setIfInBounds_toArray, List.set_cons_zero, List.set_cons_succ, i64_w, i32_w]
    rfl
  refine done_ (by kernel_rfl) ?_
  obtain ⟨hs9, he9, hn9⟩ := only_step HS8.out HE8.out HGE.out HG0.out HN8.out P9.out
  have HS9 := Aside0.mk hs9
  have HE9 := Aside0.mk he9
  have HN9 := Aside0.mk hn9
  have HL9 : Aside0 ((lput4 (lput4 (lput4 (lput4 l 0 (h.v % 4294967296)) 0 (h.t % 4294967296)) 0 (h.b)) 0 (h.n)).length = 8) := ⟨by rw [lput4_len]; exact HL8.out⟩
  clear hs9 he9 hn9 hHeld
  clear hz8
  go_upto_region 20 with fail
  obtain ⟨q10, hq10⟩ : ∃ q, q = le4 (h.n) := ⟨_, rfl⟩
  have HQ10 := Aside0.mk hq10
  have HW10 : Aside0 (Calls Tryd.prog f #[v, .slice (some ⟨gb, 0, none⟩) 4 8] (World.drew v9) fun e w' => e = .returned (.tuple #[.int .i64 4, .nilIface]) ∧ S.St w' ((((((bs0 ++ q2) ++ q3) ++ q4) ++ q6) ++ q8) ++ q10) ∧ Step S v9 w') := ⟨by
    subst hq10
    have b0 := below_step HS9.out (show Below v9.heap.size v9 v9.drew from ⟨rfl, rfl, rfl, Nat.le_refl _, fun _ _ => rfl⟩)
    exact (S.writeC b0.1 (le4_len _) (by have h1 := HM.out; have h2 := HB0.out; have h3 := HO.out.p; have h4 := HO.out.r; subst h2; have hq2 := congrArg List.length HQ2.out; (try simp only [le4_len] at hq2);  have hq3 := congrArg List.length HQ3.out; (try simp only [le4_len] at hq3);  have hq4 := congrArg List.length HQ4.out; (try simp only [le4_len] at hq4);  have hq6 := congrArg List.length HQ6.out; (try simp only [le4_len] at hq6);  have hq8 := congrArg List.length HQ8.out; (try simp only [le4_len] at hq8); (try simp only [List.length_append, le4_len, List.length_take]); omega) (by decide) (by have := read4 (w := v9) HR9.out HL9.out; rw [lput4_take _ _ (by have := HL9.out; rw [lput4_len] at this; omega)] at this; exact this) (fun _ a e hw => by obtain rfl := Option.some.inj e; exact HN9.out (b0.2.grow gb hw |>.elim id (fun h => absurd (blk_lt' HR9.out) (Nat.not_lt.2 h))))).mono fun e w' ⟨h1, h2, h3⟩ => ⟨h1, h2, b0.2.trans h3⟩⟩
  clear hq10
  have hnl : ∀ W : World, True := fun _ => trivial
  clear hnl
  refine start_ (n := 12) (S := fun w' => True) (ds := []) #[false, false, false, false, false, false, false, false, false, false, false, false] (by kernel_rfl) rfl rfl trivial (fun hHeld => ?_)
  refine pure_ (i := 0) (N := some 126) (v := ?_) (a' := ?_) #[true, false, false, false, false, false, false, false, false, false, false, false] rfl rfl (by kernel_rfl) (fun _ _ _ h => h) (Or.inl ⟨by rfl, ?_⟩) ?_ ?_
  rotate_left
  · intro w'
    go_simp
    with_reducible rfl
  rotate_left
  · simp only [Act.put, List.setIfInBounds_toArray, List.set_cons_zero, List.set_cons_succ, i64_w, i32_w]
    rfl
  refine pure_ (i := 1) (N := some 127) (v := ?_) (a' := ?_) #[true, true, false, false, false, false, false, false, false, false, false, false] rfl rfl (by kernel_rfl) (fun _ _ _ h => h) (Or.inl ⟨by rfl, ?_⟩) ?_ ?_
  rotate_left
  · intro w'
    go_simp
    with_reducible rfl
  rotate_left
  · simp only [Act.put, List.setIfInBounds_toArray, List.set_cons_zero, List.set_cons_succ, i64_w, i32_w]
    rfl
  refine pure_ (i := 2) (N := some 128) (v := ?_) (a' := ?_) #[true, true, true, false, false, false, false, false, false, false, false, false] rfl rfl (by kernel_rfl) (fun _ _ _ h => h) (Or.inl ⟨by rfl, ?_⟩) ?_ ?_
  rotate_left
  · intro w'
    go_simp
    with_reducible rfl
  rotate_left
  · simp only [Act.put, List.setIfInBounds_toArray, List.set_cons_zero, List.set_cons_succ, i64_w, i32_w]
    rfl
  refine pure_ (i := 3) (N := some 129) (v := ?_) (a' := ?_) #[true, true, true, true, false, false, false, false, false, false, false, false] rfl rfl (by kernel_rfl) (fun _ _ _ h => h) (Or.inl ⟨by rfl, ?_⟩) ?_ ?_
  rotate_left
  · intro w'
    go_simp
    with_reducible rfl
  rotate_left
  · simp only [Act.put, List.setIfInBounds_toArray, List.set_cons_zero, List.set_cons_succ, i64_w, i32_w]
    rfl
  refine pure_ (i := 4) (N := some 130) (v := ?_) (a' := ?_) #[true, true, true, true, true, false, false, false, false, false, false, false] rfl rfl (by kernel_rfl) (fun _ _ _ h => h) (Or.inl ⟨by rfl, ?_⟩) ?_ ?_
  rotate_left
  · intro w'
    refine nil_run S.nil _ (.tmp 129) ?_ ?_ <;> rfl
  rotate_left
  · simp only [Act.put, List.setIfInBounds_toArray, List.set_cons_zero, List.set_cons_succ, i64_w, i32_w]
    rfl
  refine pure_ (i := 5) (N := some 131) (v := ?_) (a' := ?_) #[true, true, true, true, true, true, false, false, false, false, false, false] rfl rfl (by kernel_rfl) (fun _ _ _ h => h) (Or.inl ⟨by rfl, ?_⟩) ?_ ?_
  rotate_left
  · intro w'
    go_simp
    with_reducible rfl
  rotate_left
  · simp only [Act.put, List.setIfInBounds_toArray, List.set_cons_zero, List.set_cons_succ, i64_w, i32_w]
    rfl
  refine one_ (i := 6) (N := some 132) #[true, true, true, true, true, true, true, false, false, false, false, false] rfl rfl (by kernel_rfl) (by decide) (fun K hK => ?_)
  refine goesI_ (by rfl) rfl (.tmp 131) "Write" rfl T v rfl f S.meth HF.out HNM.out HBD.out #[v, .slice (some ⟨gb, 0, none⟩) 4 8] (by (try simp only [List.map_toArray, List.map_cons, List.map_nil]); first | done | rfl | (simp only [List.length_drop, List.length_take]; rfl)) ?_
  with_reducible refine HW10.out.mono ?_
  rintro e v10 ⟨rfl, k1, k2⟩
  refine ⟨_, rfl, ?_⟩
  have HS10 := Aside0.mk k1
  have X10 := Aside0.mk k2
  clear k1 k2
  refine hK.out _ _ trivial (fun hHeld => ?_)
  clear hK K
  refine norm_ (a' := ?_) ?_ ?_
  rotate_left
  · show Act.put _ (some 132) _ = _
    simp only [Act.put, List.setIfInBounds_toArray, List.set_cons_zero, List.set_cons_succ, i64_w, i32_w]
    rfl
  refine pure_ (i := 7) (N := some 125) (v := ?_) (a' := ?_) #[true, true, true, true, true, true, true, true, false, false, false, false] rfl rfl (by kernel_rfl) (fun _ _ _ h => h) (Or.inl ⟨by rfl, ?_⟩) ?_ ?_
  rotate_left
  · intro w'
    go_simp
    with_reducible rfl
  rotate_left
  · simp only [Act.put, List.setIfInBounds_toArray, List.set_cons_zero, List.set_cons_succ, i64_w, i32_w]
    rfl
  refine pure_ (i := 8) (N := some 133) (v := ?_) (a' := ?_) #[true, true, true, true, true, true, true, true, true, false, false, false] rfl rfl (by kernel_rfl) (fun _ _ _ h => h) (Or.inl ⟨by rfl, ?_⟩) ?_ ?_
  rotate_left
  · intro w'
    go_simp
    with_reducible rfl
  rotate_left
  · simp only [Act.put, List.setIfInBounds_toArray, List.set_cons_zero, List.set_cons_succ, i64_w, i32_w]
    rfl
  refine pure_ (i := 9) (N := some 134) (v := ?_) (a' := ?_) #[true, true, true, true, true, true, true, true, true, true, false, false] rfl rfl (by kernel_rfl) (fun _ _ _ h => h) (Or.inl ⟨by rfl, ?_⟩) ?_ ?_
  rotate_left
  · intro w'
    go_simp
    with_reducible rfl
  rotate_left
  · simp only [Act.put, List.setIfInBounds_toArray, List.set_cons_zero, List.set_cons_succ, i64_w, i32_w]
    rfl
  refine pure_ (i := 10) (N := some 19) (v := ?_) (a' := ?_) #[true, true, true, true, true, true, true, true, true, true, true, false] rfl rfl (by kernel_rfl) (fun _ _ _ h => h) (Or.inl ⟨by rfl, ?_⟩) ?_ ?_
  rotate_left
  · intro w'
    go_simp
    with_reducible rfl
  rotate_left
  · simp only [Act.put, List.setIfInBounds_toArray, List.set_cons_zero, List.set_cons_succ, i64_w, i32_w]
    rfl
  refine pure_ (i := 11) (N := some 20) (v := ?_) (a' := ?_) #[true, true, true, true, true, true, true, true, true, true, true, true] rfl rfl (by kernel_rfl) (fun _ _ _ h => h) (Or.inl ⟨by rfl, ?_⟩) ?_ ?_
  rotate_left
  · intro w'
    go_simp
    with_reducible rfl
  rotate_left
  · simp only [Act.put, List.setIfInBounds_toArray, List.set_cons_zero, List.set_cons_succ, i64_w, i32_w]
    rfl
  refine done_ (by kernel_rfl) ?_
  have HE10 := Aside0.mk (HE9.out.trans X10.out)
  have kr10 := X10.out.kept HN9.out HR9.out
  have HR10 := Aside0.mk kr10.1
  have HN10 := Aside0.mk kr10.2
  have HL10 := HL9
  clear kr10
  go_wp2_with fail
  go_ret
  refine ⟨rfl, ?_, HE10.out⟩
  have e0 := HB0.out
  have e2 := HQ2.out
  have e3 := HQ3.out
  have e4 := HQ4.out
  have e6 := HQ6.out
  have e8 := HQ8.out
  have e10 := HQ10.out
  have e := HS10.out
  rw [HT.out] at e6
  subst e0 e2 e3 e4 e6 e8 e10
  unfold HdV.bytes
  simpa only [List.append_assoc] using e
theorem HdAt.step {P : Program} {w0 w w' : World} {T : TypeId} {v : Value} {f M g : Nat} {h : HdV} {S : Sink P w0 T v f M} (k : HdAt w g h) (hs : Step S w w') (hn : ¬ S.own w g) : HdAt w' g h := by
  have hb := hs.block g k.lt hn
  have hc : ∀ (j : Nat) (x : Value), w.cell? ⟨g, j, none⟩ = some x → w'.cell? ⟨g, j, none⟩ = some x := fun j x hx => (show w'.cell? ⟨g, j, none⟩ = w.cell? ⟨g, j, none⟩ from World.cell?_of_block (w := w) hb).trans hx
  exact ⟨hc _ _ k.v, fun j hj => hc _ _ (k.p j hj), fun j hj => hc _ _ (k.r j hj), hc _ _ k.t, hc _ _ k.b, hc _ _ k.n⟩
set_option maxRecDepth 100000 in
set_option maxHeartbeats 2000000 in
theorem hdrD {w0 : World} {T : TypeId} {v : Value} {f M : Nat} (S : Sink Tryd.prog w0 T v f M) {fn : Func} (hf : Tryd.prog.funcs[f]? = some fn) (hname : (fn.name == "runtime.NumGoroutine") = false) (hbd : fn.body.isSome = true) (g : Nat) (h : HdV) (ho : h.ok) (w : World) (hd : HdAt w g h) (hgn : ¬ S.own w g) (bs : List Int)
    (hs : S.St w bs) (hM : bs.length + 80 ≤ M) :
    Calls Tryd.prog 30 #[.iface T v, .int .u32 0, .pointer (some ⟨g, 0, none⟩)] w fun e w' => e = .returned .nilIface ∧ S.St w' (bs ++ h.bytes) ∧ Step S w w' := by
  have HH := Aside0.mk (fun gb w1 l tb h1 h2 h3 h4 h5 h6 h7 h8 h9 => hdrBufD S hf hname hbd g gb h ho w w1 bs l tb h1 h2 h3 h4 h5 h6 h7 h8 h9 (fun w' _ _ hE => hd.step hE hgn) (fun w' _ _ hE hh => (hE.grow g hh).elim hgn (fun h1 => absurd hd.lt (Nat.not_lt.2 h1))))
  have HS := Aside0.mk hs
  have HM := Aside0.mk hM
  have HDL := Aside0.mk hd.lt
  clear hf hname hbd ho hd hgn hs hM
  go_enter Tryd.func30, Tryd.ntmps30
  go_upto_region 2 with (go_at_call 42; (with_reducible refine (borrowC w).mono ?_); rintro e w1 ⟨gb, rfl, k1, k2, k3⟩; have HR := Aside0.mk k1; have HG := Aside0.mk k2; have HB := Aside0.mk k3; clear k1 k2 k3)
  have HS1 := Aside0.mk (below_step HS.out HB.out)
  have HC := Aside0.mk (HH.out gb w1 _ _ HS1.out.1 HS1.out.2 HG.out (Nat.le_trans (S.below HS.out).size HG.out) (fun hh => absurd (S.fresh HS.out (below_own HS.out HB.out gb hh)).2 (Nat.not_lt.2 HG.out)) rfl HR.out HM.out (by have h1 := HDL.out; have h2 := HG.out; omega))
  go_upto_region 3 with (go_at_call 43; (with_reducible refine HC.out.mono ?_); rintro e w2 ⟨rfl, k1, k2⟩; have HS2 := Aside0.mk k1; have HE2 := Aside0.mk k2; clear k1 k2)
  go_wp2_with (go_at_call 44; (with_reducible refine (returnC _ w2).mono ?_); rintro e w3 ⟨rfl, k1⟩; have HB3 := Aside0.mk k1; clear k1)
  go_ret
  have h3 := below_step HS2.out HB3.out
  exact ⟨rfl, h3.1, HE2.out.trans h3.2⟩
set_option maxRecDepth 100000 in
theorem serializeC {w0 : World} {T : TypeId} {v : Value} {f M : Nat} (S : Sink Tryd.prog w0 T v f M) {fn : Func} (hf : Tryd.prog.funcs[f]? = some fn) (hname : (fn.name == "runtime.NumGoroutine") = false) (hbd : fn.body.isSome = true) (g : Nat) (h : HdV) (ho : h.ok) (w : World) (hd : HdAt w g h) (hgn : ¬ S.own w g) (bs : List Int)
    (hs : S.St w bs) (hM : bs.length + 80 ≤ M) :
    Calls Tryd.prog 16 #[.pointer (some ⟨g, 0, none⟩), .iface T v] w fun e w' => e = .returned .nilIface ∧ S.St w' (bs ++ h.bytes) ∧ Step S w w' := by
  have HC := Aside0.mk (hdrD S hf hname hbd g h ho w hd hgn bs hs hM)
  clear hf hname hbd ho hd hgn hs hM
  go_enter Tryd.func16, Tryd.ntmps16
  go_wp2_with (go_at_call 30; (with_reducible refine HC.out.mono ?_); rintro e w2 ⟨rfl, k1, k2⟩; have HS2 := Aside0.mk k1; have HE2 := Aside0.mk k2; clear k1 k2)
  go_ret
  exact ⟨rfl, HS2.out, HE2.out⟩
end Go.Proofs.YtigpdgfhngknhaaDoor.Snk
/- A struct, or an array, read, laid, built as a whole. -/
namespace Go.Proofs.YtigpdgfhngknhaaDoorW.PrintWords
open Go.RowKit
set_option linter.unusedVariables false
section
variable {P : Program} {ops : Array Oper} {rest : List Oper} {o : Oper} {a : Act} {w : World} {Q : Exit → Act → World → Prop}
/-- A struct, or an array, read as a whole, wherever it lies. -/
theorem run_loadVar_at (w : World) (p : Addr) (ty : TypeId) (cs : List Value) (d : TypeDesc) (hc : ∀ j v, cs[j]? = some v → w.cell? (p.add j) = some v)
    (hu : P.underlying ty = some d) (hd : (match d with | .struct _ | .array _ _ => true | _ => false) = true) (hi : (P.info? ty).map (·.size) = some cs.length) : (loadVar ty p).run P w = .ok (.agg cs.toArray) w := by
  have hl : (loadCells p cs.length).run P w = .ok cs.toArray w := run_loadCells_list (P := P) w p cs (fun j v hv => hc j v (by simpa using hv))
  cases hq : P.info? ty with
  | none => simp [hq] at hi
  | some i =>
    have hs : i.size = cs.length := by simpa [hq] using hi
    have hagg : (isAgg ty).run P w = .ok true w := by
      unfold isAgg
      rw [Sem.run_bind, run_underlying hu w]
      cases d <;> simp_all
    simp [loadVar, Sem.run_bind, hagg, sizeOf, typeInfo, hq, hs, hl]
theorem run_load_at {ρ : Operand → Value} (ty : TypeId) (x : Operand) (ho : o.op = .load ty x) (p : Addr) (hx : ρ x = .pointer (some p)) (cs : List Value) (d : TypeDesc) (hc : ∀ j v, cs[j]? = some v → w.cell? (p.add j) = some v)
    (hu : P.underlying ty = some d) (hd : (match d with | .struct _ | .array _ _ => true | _ => false) = true) (hi : (P.info? ty).map (·.size) = some cs.length) : (execOp ρ o).run P w = .ok (.value (.agg cs.toArray)) w := by
  unfold execOp
  simp only [ho, hx, Instr.loadAt, Instr.sureAddr, Sem.run_bind, Sem.run_pure, Result.andThen_ok, run_loadVar_at w p ty cs d hc hu hd hi]
theorem wpList_load_at (hgd : o.guard = none) (ty : TypeId) (x : Operand) (ho : o.op = .load ty x) (p : Addr) (hx : a.eval x = .pointer (some p)) (cs : List Value) (d : TypeDesc) (hc : ∀ j v, cs[j]? = some v → w.cell? (p.add j) = some v)
    (hu : P.underlying ty = some d) (hd : (match d with | .struct _ | .array _ _ => true | _ => false) = true) (hi : (P.info? ty).map (·.size) = some cs.length) (h : wpList P ops Q rest (a.put o.dst (.agg cs.toArray)) w) : wpList P ops Q (o :: rest) a w :=
  wpList_run hgd _ (run_load_at ty x ho p hx cs d hc hu hd hi) h
theorem at_none {P : Program} {ops : Array Oper} {rest : List Oper} {o : Oper} {a : Act} {w : World} {Q : Exit → Act → World → Prop} (_h : o.dst = none) (h : wpList P ops Q (o :: rest) a w) : wpList P ops Q (o :: rest) a w := h
/-- A store of a whole struct into a block that is told. -/
theorem wpList_store_whole (hgd : o.guard = none) (ty : TypeId) (x y : Operand) (ho : o.op = .store ty x y) (g : Nat) (cells : Array Value) (hx : a.eval x = .pointer (some ⟨g, 0, none⟩)) (hy : a.eval y = .agg cells)
    (t : TypeId) (old : Array Value) (hg : w.heap[g]? = some (.cells old t (0, 0))) (hi : (P.info? ty).map (·.size) = some cells.size) (hold : old.size = cells.size) (h1 : cells.all (·.oneCell') = true) {w0 : World} {B : Nat} (hB : Below B w0 w) (hg0 : B ≤ g)
    (h : ∀ W, W.heap[g]? = some (.cells cells t (0, 0)) → Below B w0 W → (∀ k, k ≠ g → W.heap[k]? = w.heap[k]?) → W.heap.size = w.heap.size → wpList P ops Q rest (a.put o.dst undef) W) : wpList P ops Q (o :: rest) a w := by
  refine wpList_store_row hgd ty x y ho g cells hx hy t old hg hi hold h1 ?_
  have hlt := blk_lt' hg
  have hs : (w.setRow g cells).heap.size = w.heap.size := by simp [World.setRow]
  have hk : ∀ k, k ≠ g → (w.setRow g cells).heap[k]? = w.heap[k]? := fun k hk => by simp [World.setRow, Array.getElem?_modify, Ne.symm hk]
  refine h _ (by simp [World.setRow, Array.getElem?_modify, hg]) ⟨hB.os, hB.tape, hB.output, by rw [hs]; exact hB.size, fun k hk2 => (hk k (by omega)).trans (hB.block k hk2)⟩ hk hs
end
theorem run_built {P : Program} {o : Oper} {w : World} {ρ : Operand → Value} (t : TypeId) (parts : Array (Nat × Operand)) (ho : o.op = .build t parts) (l : List (Nat × Value)) (hp : (parts.map fun (i, x) => (i, ρ x)).toList = l) (cells : Array Value) (h : P.built t l = some cells) : (execOp ρ o).run P w = .ok (.value (.agg cells)) w := by
  subst hp
  unfold execOp
  simp only [ho, Sem.run_bind, run_build w t _ cells h, Result.andThen_ok]
  rfl
theorem uncons_ {n : Nat} (h : List Value) (hl : h.length = n + 1) : ∃ a t, h = a :: t ∧ t.length = n := by
  cases h with
  | nil => simp at hl
  | cons a t => exact ⟨a, t, rfl, by simpa using hl⟩
theorem list32 (t0 : List Value) (l0 : t0.length = 32) : ∃ a0 a1 a2 a3 a4 a5 a6 a7 a8 a9 a10 a11 a12 a13 a14 a15 a16 a17 a18 a19 a20 a21 a22 a23 a24 a25 a26 a27 a28 a29 a30 a31 : Value, t0 = [a0, a1, a2, a3, a4, a5, a6, a7, a8, a9, a10, a11, a12, a13, a14, a15, a16, a17, a18, a19, a20, a21, a22, a23, a24, a25, a26, a27, a28, a29, a30, a31] := by
  obtain ⟨a0, t1, e0, l1⟩ := uncons_ (n := 31) t0 l0
  obtain ⟨a1, t2, e1, l2⟩ := uncons_ (n := 30) t1 l1
  obtain ⟨a2, t3, e2, l3⟩ := uncons_ (n := 29) t2 l2
  obtain ⟨a3, t4, e3, l4⟩ := uncons_ (n := 28) t3 l3
  obtain ⟨a4, t5, e4, l5⟩ := uncons_ (n := 27) t4 l4
  obtain ⟨a5, t6, e5, l6⟩ := uncons_ (n := 26) t5 l5
  obtain ⟨a6, t7, e6, l7⟩ := uncons_ (n := 25) t6 l6
  obtain ⟨a7, t8, e7, l8⟩ := uncons_ (n := 24) t7 l7
  obtain ⟨a8, t9, e8, l9⟩ := uncons_ (n := 23) t8 l8
  obtain ⟨a9, t10, e9, l10⟩ := uncons_ (n := 22) t9 l9
  obtain ⟨a10, t11, e10, l11⟩ := uncons_ (n := 21) t10 l10
  obtain ⟨a11, t12, e11, l12⟩ := uncons_ (n := 20) t11 l11
  obtain ⟨a12, t13, e12, l13⟩ := uncons_ (n := 19) t12 l12
  obtain ⟨a13, t14, e13, l14⟩ := uncons_ (n := 18) t13 l13
  obtain ⟨a14, t15, e14, l15⟩ := uncons_ (n := 17) t14 l14
  obtain ⟨a15, t16, e15, l16⟩ := uncons_ (n := 16) t15 l15
  obtain ⟨a16, t17, e16, l17⟩ := uncons_ (n := 15) t16 l16
  obtain ⟨a17, t18, e17, l18⟩ := uncons_ (n := 14) t17 l17
  obtain ⟨a18, t19, e18, l19⟩ := uncons_ (n := 13) t18 l18
  obtain ⟨a19, t20, e19, l20⟩ := uncons_ (n := 12) t19 l19
  obtain ⟨a20, t21, e20, l21⟩ := uncons_ (n := 11) t20 l20
  obtain ⟨a21, t22, e21, l22⟩ := uncons_ (n := 10) t21 l21
  obtain ⟨a22, t23, e22, l23⟩ := uncons_ (n := 9) t22 l22
  obtain ⟨a23, t24, e23, l24⟩ := uncons_ (n := 8) t23 l23
  obtain ⟨a24, t25, e24, l25⟩ := uncons_ (n := 7) t24 l24
  obtain ⟨a25, t26, e25, l26⟩ := uncons_ (n := 6) t25 l25
  obtain ⟨a26, t27, e26, l27⟩ := uncons_ (n := 5) t26 l26
  obtain ⟨a27, t28, e27, l28⟩ := uncons_ (n := 4) t27 l27
  obtain ⟨a28, t29, e28, l29⟩ := uncons_ (n := 3) t28 l28
  obtain ⟨a29, t30, e29, l30⟩ := uncons_ (n := 2) t29 l29
  obtain ⟨a30, t31, e30, l31⟩ := uncons_ (n := 1) t30 l30
  obtain ⟨a31, t32, e31, l32⟩ := uncons_ (n := 0) t31 l31
  have e := List.length_eq_zero_iff.1 l32
  exact ⟨_, _, _, _, _, _, _, _, _, _, _, _, _, _, _, _, _, _, _, _, _, _, _, _, _, _, _, _, _, _, _, _, by rw [e0, e1, e2, e3, e4, e5, e6, e7, e8, e9, e10, e11, e12, e13, e14, e15, e16, e17, e18, e19, e20, e21, e22, e23, e24, e25, e26, e27, e28, e29, e30, e31, e]⟩
theorem run_boxed {P : Program} {o : Oper} {w : World} {ρ : Operand → Value} (t : TypeId) (x : Operand) (ho : o.op = .box t x) (cs : Array Value) (hx : ρ x = .agg cs) : (execOp ρ o).run P w = .ok (.value (.pointer (some ⟨w.heap.size, 0, none⟩))) (w.alloc (.cells cs t)) := by
  unfold execOp
  simp [ho, hx, Instr.box, newVar, Value.cells, newRow]
end Go.Proofs.YtigpdgfhngknhaaDoorW.PrintWords
namespace Go.Proofs.YtigpdgfhngknhaaDoorW.PrintLast
open Go.RowKit Go.Proofs.YtigpdgfhngknhaaDoorW.PrintWords
/-- An operation of a drawn region that yields a value and turns the world. -/
theorem yval_ {P : Program} {ops : Array Oper} {Q : Exit → Act → World → Prop} {oi : Oper} {N : Option Tmp} {a : Act} {w w1 : World} {K : Act → World → Prop} (v : Value) (hw : Region.wanted oi (yielded ops a.tmps) = true) (hN : oi.dst = N) (hrun : (execOp a.eval oi).run P w = .ok (.value v) w1)
    (h : K (a.put N v) w1) : if Region.wanted oi (yielded ops a.tmps) = true then Oper.wp P oi a w K Q else K (a.put N undef) w := by
  rw [if_pos hw]
  unfold Oper.wp
  rw [hrun]
  subst hN
  exact h
end Go.Proofs.YtigpdgfhngknhaaDoorW.PrintLast
/- A header of the text's own; a block that has it alone. -/
namespace Go.Proofs.YtigpdgfhngknhaaDoor.Snk
open Go.RowKit Go.Proofs.YtigpdgfhngknhaaDoorW.PrintWords Go.Proofs.YtigpdgfhngknhaaDoorW.PrintLast Go.Proofs.YtigpdgfhngknhaaDoorW.PrintMore Go.Proofs.YtigpdgfhngknhaaDoor.QFnTapRoot
set_option linter.unusedVariables false
set_option linter.unusedSimpArgs false
/-- A header's cells (k: the kind of its time). -/
def hdC (k : IntKind) (h : HdV) : List Value := .int .i32 h.v :: (byteC h.p ++ (byteC h.r ++ [.int k h.t, .int .u32 h.b, .int .u32 h.n]))
theorem hdC_len (k : IntKind) {h : HdV} (ho : h.ok) : (hdC k h).length = 68 := by
  unfold hdC
  simp only [List.length_cons, List.length_append, byteC_len, ho.p, ho.r, List.length_nil]
theorem hdC_one (k : IntKind) (h : HdV) (r : List Value) (hr : r.all (·.oneCell') = true) : ((hdC k h ++ r).toArray).all (·.oneCell') = true := by
  simp only [hdC, byteC]
  simp [Value.oneCell']
  simpa [Value.oneCell'] using hr
theorem hdC_p (k : IntKind) {h : HdV} (ho : h.ok) (r : List Value) (j : Nat) (hj : j < 32) : (hdC k h ++ r)[1 + j]? = some (.int .u8 (h.p.getD j 0)) := by
  unfold hdC
  rw [List.cons_append, Nat.add_comm 1 j, List.getElem?_cons_succ, List.append_assoc, List.getElem?_append_left (by rw [byteC_len, ho.p]; exact hj)]
  exact byteC_at (by rw [ho.p]; exact hj)
theorem hdC_r (k : IntKind) {h : HdV} (ho : h.ok) (r : List Value) (j : Nat) (hj : j < 32) : (hdC k h ++ r)[33 + j]? = some (.int .u8 (h.r.getD j 0)) := by
  unfold hdC
  rw [List.cons_append, show 33 + j = (32 + j) + 1 by omega, List.getElem?_cons_succ, List.append_assoc, List.getElem?_append_right (by rw [byteC_len, ho.p]; omega), byteC_len, ho.p, Nat.add_sub_cancel_left, List.append_assoc, List.getElem?_append_left (by rw [byteC_len, ho.r]; exact hj)]
  exact byteC_at (by rw [ho.r]; exact hj)
theorem hdC_tail (k : IntKind) {h : HdV} (ho : h.ok) (r : List Value) (j : Nat) : (hdC k h ++ r)[65 + j]? = ([.int k h.t, .int .u32 h.b, .int .u32 h.n] ++ r)[j]? := by
  unfold hdC
  rw [List.cons_append, show 65 + j = (64 + j) + 1 by omega, List.getElem?_cons_succ, List.append_assoc, List.getElem?_append_right (by rw [byteC_len, ho.p]; omega), byteC_len, ho.p, show 64 + j - 32 = 32 + j by omega, List.append_assoc, List.getElem?_append_right (by rw [byteC_len, ho.r]; omega), byteC_len, ho.r, Nat.add_sub_cancel_left]
theorem hdAt_of {w : World} {g : Nat} {h : HdV} {r : List Value} {T : TypeId} (ho : h.ok) (hb : w.heap[g]? = some (.cells (hdC .i64 h ++ r).toArray T (0, 0))) : HdAt w g h :=
  ⟨cell_of hb rfl, fun j hj => cell_of hb (by rw [List.getElem?_toArray]; exact hdC_p _ ho r j hj), fun j hj => cell_of hb (by rw [List.getElem?_toArray]; exact hdC_r _ ho r j hj),
   cell_of hb (by rw [List.getElem?_toArray]; exact hdC_tail _ ho r 0), cell_of hb (by rw [List.getElem?_toArray]; exact hdC_tail _ ho r 1), cell_of hb (by rw [List.getElem?_toArray]; exact hdC_tail _ ho r 2)⟩
theorem uncI {n : Nat} (h : List Int) (hl : h.length = n + 1) : ∃ a t, h = a :: t ∧ t.length = n := by
  cases h with
  | nil => simp at hl
  | cons a t => exact ⟨a, t, rfl, by simpa using hl⟩
theorem list32I (t0 : List Int) (l0 : t0.length = 32) : ∃ a0 a1 a2 a3 a4 a5 a6 a7 a8 a9 a10 a11 a12 a13 a14 a15 a16 a17 a18 a19 a20 a21 a22 a23 a24 a25 a26 a27 a28 a29 a30 a31 : Int, t0 = [a0, a1, a2, a3, a4, a5, a6, a7, a8, a9, a10, a11, a12, a13, a14, a15, a16, a17, a18, a19, a20, a21, a22, a23, a24, a25, a26, a27, a28, a29, a30, a31] := by
  obtain ⟨a0, t1, e0, l1⟩ := uncI (n := 31) t0 l0
  obtain ⟨a1, t2, e1, l2⟩ := uncI (n := 30) t1 l1
  obtain ⟨a2, t3, e2, l3⟩ := uncI (n := 29) t2 l2
  obtain ⟨a3, t4, e3, l4⟩ := uncI (n := 28) t3 l3
  obtain ⟨a4, t5, e4, l5⟩ := uncI (n := 27) t4 l4
  obtain ⟨a5, t6, e5, l6⟩ := uncI (n := 26) t5 l5
  obtain ⟨a6, t7, e6, l7⟩ := uncI (n := 25) t6 l6
  obtain ⟨a7, t8, e7, l8⟩ := uncI (n := 24) t7 l7
  obtain ⟨a8, t9, e8, l9⟩ := uncI (n := 23) t8 l8
  obtain ⟨a9, t10, e9, l10⟩ := uncI (n := 22) t9 l9
  obtain ⟨a10, t11, e10, l11⟩ := uncI (n := 21) t10 l10
  obtain ⟨a11, t12, e11, l12⟩ := uncI (n := 20) t11 l11
  obtain ⟨a12, t13, e12, l13⟩ := uncI (n := 19) t12 l12
  obtain ⟨a13, t14, e13, l14⟩ := uncI (n := 18) t13 l13
  obtain ⟨a14, t15, e14, l15⟩ := uncI (n := 17) t14 l14
  obtain ⟨a15, t16, e15, l16⟩ := uncI (n := 16) t15 l15
  obtain ⟨a16, t17, e16, l17⟩ := uncI (n := 15) t16 l16
  obtain ⟨a17, t18, e17, l18⟩ := uncI (n := 14) t17 l17
  obtain ⟨a18, t19, e18, l19⟩ := uncI (n := 13) t18 l18
  obtain ⟨a19, t20, e19, l20⟩ := uncI (n := 12) t19 l19
  obtain ⟨a20, t21, e20, l21⟩ := uncI (n := 11) t20 l20
  obtain ⟨a21, t22, e21, l22⟩ := uncI (n := 10) t21 l21
  obtain ⟨a22, t23, e22, l23⟩ := uncI (n := 9) t22 l22
  obtain ⟨a23, t24, e23, l24⟩ := uncI (n := 8) t23 l23
  obtain ⟨a24, t25, e24, l25⟩ := uncI (n := 7) t24 l24
  obtain ⟨a25, t26, e25, l26⟩ := uncI (n := 6) t25 l25
  obtain ⟨a26, t27, e26, l27⟩ := uncI (n := 5) t26 l26
  obtain ⟨a27, t28, e27, l28⟩ := uncI (n := 4) t27 l27
  obtain ⟨a28, t29, e28, l29⟩ := uncI (n := 3) t28 l28
  obtain ⟨a29, t30, e29, l30⟩ := uncI (n := 2) t29 l29
  obtain ⟨a30, t31, e30, l31⟩ := uncI (n := 1) t30 l30
  obtain ⟨a31, t32, e31, l32⟩ := uncI (n := 0) t31 l31
  have e := List.length_eq_zero_iff.1 l32
  exact ⟨_, _, _, _, _, _, _, _, _, _, _, _, _, _, _, _, _, _, _, _, _, _, _, _, _, _, _, _, _, _, _, _, by rw [e0, e1, e2, e3, e4, e5, e6, e7, e8, e9, e10, e11, e12, e13, e14, e15, e16, e17, e18, e19, e20, e21, e22, e23, e24, e25, e26, e27, e28, e29, e30, e31, e]⟩
set_option maxRecDepth 100000 in
theorem build_hd {h : HdV} (ho : h.ok) : Tryd.prog.built 53 [(0, .int .i32 h.v), (1, .agg (byteC h.p).toArray), (2, .agg (byteC h.r).toArray), (3, .agg #[.int .i64 h.t]), (4, .int .u32 h.b), (5, .int .u32 h.n)] = some (hdC .i64 h).toArray := by
  obtain ⟨v, p, r, t, b, n⟩ := h
  obtain ⟨p0, p1, p2, p3, p4, p5, p6, p7, p8, p9, p10, p11, p12, p13, p14, p15, p16, p17, p18, p19, p20, p21, p22, p23, p24, p25, p26, p27, p28, p29, p30, p31, e1⟩ := list32I p ho.p
  obtain ⟨q0, q1, q2, q3, q4, q5, q6, q7, q8, q9, q10, q11, q12, q13, q14, q15, q16, q17, q18, q19, q20, q21, q22, q23, q24, q25, q26, q27, q28, q29, q30, q31, e2⟩ := list32I r ho.r
  subst e1 e2
  kernel_rfl
theorem size_in : (Tryd.prog.info? 25).map (·.size) = some 68 := by kernel_rfl
theorem size_wh : (Tryd.prog.info? 53).map (·.size) = some 68 := by kernel_rfl
theorem size_a32 : (Tryd.prog.info? 22).map (·.size) = some 32 := by kernel_rfl
theorem cells_row {w : World} {g o : Nat} {cs : List Value} {T : TypeId} {r : List Value} (hb : w.heap[g]? = some (.cells (r).toArray T (0, 0))) (hc : ∀ j, j < cs.length → r[o + j]? = cs[j]?) : ∀ j v, cs[j]? = some v → w.cell? ((⟨g, o, none⟩ : Addr).add j) = some v := fun j v hv => by
  rw [add_any]
  exact cell_of hb (by rw [List.getElem?_toArray, hc j (List.getElem?_eq_some_iff.1 hv).1]; exact hv)
set_option maxRecDepth 100000 in
theorem timeMkC (a b : Int) (w : World) : Calls Tryd.prog 29 #[.int .i64 a, .int .i64 b] w fun e w' => e = .returned (.agg #[.int .i64 a]) ∧ Below w.heap.size w w' := by
  have hi : (Tryd.prog.info? 51).map (·.size) = some 1 := by kernel_rfl
  have HI : Aside0 ((Tryd.prog.info? 51).map (·.size) = some (#[Value.int .i64 a] : Array Value).size) := ⟨hi⟩
  clear hi
  go_enter Tryd.func29, Tryd.ntmps29
  go_upto_region 1 with fail
  have HR1 := Aside0.mk (heap_alloc_new w (.cells #[.int .i64 0] 51))
  generalize hw1 : World.alloc _ _ = w1
  have HB1 : Aside0 (Below w.heap.size w w1) := ⟨by rw [← hw1]; exact below_alloc (Below.refl _ _) _⟩
  rw [hw1] at HR1
  clear hw1
  go_wp2_with (refine wpList_store_row rfl 51 (.tmp 4) (.tmp 6) rfl w.heap.size #[.int .i64 a] rfl rfl 51 _ HR1.out HI.out rfl (by simp [Value.oneCell']) ?_)
  refine bodyPost_ret_by (results_cell_row rfl _ _ w.heap.size 51 _ (0, 0) _ (by rfl) (setRow_heap _ _ _ _ _ _ HR1.out) Tryd.underlying51 rfl HI.out) rfl ⟨rfl, HB1.out.trans ⟨rfl, rfl, rfl, Nat.le_of_eq (setRow_size _ _ _).symm, fun k hk => setRow_other _ _ _ _ (by omega)⟩⟩
set_option maxRecDepth 100000 in
set_option maxHeartbeats 4000000 in
theorem headerOfC (h : HdV) (ho : h.ok) (w : World) : Calls Tryd.prog 15 #[.agg (hdC .u32 h).toArray] w fun e w' => ∃ gh, e = .returned (.pointer (some ⟨gh, 0, none⟩)) ∧ w'.heap[gh]? = some (.cells (hdC .i64 h).toArray 53 (0, 0)) ∧ w.heap.size ≤ gh ∧ Below w.heap.size w w' := by
  have HO := Aside0.mk ho
  obtain ⟨cs, hcs⟩ : ∃ c, hdC .u32 h = c := ⟨_, rfl⟩
  have HCS := Aside0.mk hcs
  rw [hcs]
  have ht1 := ho.t0
  have ht2 := ho.t1
  have HT : Aside0 (IntKind.i64.wrap h.t = h.t) := ⟨by simp [IntKind.wrap, IntKind.signed, IntKind.bits]; omega⟩
  clear ho hcs ht1 ht2
  go_enter Tryd.func15, Tryd.ntmps15
  go_upto_region 1 with fail
  obtain ⟨g, hg⟩ : ∃ g, w.heap.size = g := ⟨_, rfl⟩
  have HG := Aside0.mk hg
  rw [hg]
  generalize hw1 : World.alloc _ _ = w1
  have HB1 : Aside0 (Below w.heap.size w w1) := ⟨by rw [← hw1]; exact below_alloc (Below.refl _ _) _⟩
  have HR1 : Aside0 (w1.drew.heap[g]? = some (.cells (hdC .u32 h).toArray 25 (0, 0))) := ⟨by rw [← hw1, ← hg, HCS.out]; exact heap_alloc_new w _⟩
  clear hw1 hg
  refine start_ (n := 17) (S := fun w' => w'.heap[g]? = some (.cells (hdC .u32 h).toArray 25 (0, 0))) (ds := [15]) #[false, false, false, false, false, false, false, false, false, false, false, false, false, false, false, false, false] (by kernel_rfl) rfl rfl HR1.out (fun hHeld => ?_)
  refine pure_ (i := 0) (N := some 3) (v := ?_) (a' := ?_) #[true, false, false, false, false, false, false, false, false, false, false, false, false, false, false, false, false] rfl rfl (by kernel_rfl) (fun _ _ _ h => h) (Or.inl ⟨by rfl, ?_⟩) ?_ ?_
  rotate_left
  · intro w'
    go_simp
    with_reducible rfl
  rotate_left
  · simp only [Act.put, List.setIfInBounds_toArray, List.set_cons_zero, List.set_cons_succ, i64_w, i32_w]
    rfl
  refine take_ (i := 1) (N := some 4) (v := ?_) (a' := ?_) #[true, true, false, false, false, false, false, false, false, false, false, false, false, false, false, false, false] rfl rfl (by kernel_rfl) (fun _ _ _ h => h) (Or.inl ⟨by rfl, ?_⟩) hHeld ?_ ?_
  rotate_left
  · rintro w' s0
    have z : w'.cell? ⟨g, 0, none⟩ = some (.int .i32 h.v) := cell_of s0 (by rw [List.getElem?_toArray]; exact rfl)
    go_simp
    with_reducible rfl
  rotate_left
  · simp only [Act.put, List.setIfInBounds_toArray, List.set_cons_zero, List.set_cons_succ, i64_w, i32_w]
    rfl
  refine pure_ (i := 2) (N := some 5) (v := ?_) (a' := ?_) #[true, true, true, false, false, false, false, false, false, false, false, false, false, false, false, false, false] rfl rfl (by kernel_rfl) (fun _ _ _ h => h) (Or.inl ⟨by rfl, ?_⟩) ?_ ?_
  rotate_left
  · intro w'
    go_simp
    with_reducible rfl
  rotate_left
  · simp only [Act.put, List.setIfInBounds_toArray, List.set_cons_zero, List.set_cons_succ, i64_w, i32_w]
    rfl
  refine take_ (i := 3) (N := some 6) (v := ?_) (a' := ?_) #[true, true, true, true, false, false, false, false, false, false, false, false, false, false, false, false, false] rfl rfl (by kernel_rfl) (fun _ _ _ h => h) (Or.inl ⟨by rfl, ?_⟩) hHeld ?_ ?_
  rotate_left
  · rintro w' s0
    refine run_load_at 22 (.tmp 5) ?_ ⟨g, 1, none⟩ ?_ (byteC h.p) _ (cells_row (o := 1) s0 (fun j hj => by rw [byteC_len, HO.out.p] at hj; have e := hdC_p .u32 HO.out [] j hj; rw [List.append_nil] at e; rw [e, byteC_at (by rw [HO.out.p]; exact hj)])) Tryd.underlying22 rfl (by rw [byteC_len, HO.out.p]; exact size_a32) <;> rfl
  rotate_left
  · simp only [Act.put, List.setIfInBounds_toArray, List.set_cons_zero, List.set_cons_succ, i64_w, i32_w]
    rfl
  refine pure_ (i := 4) (N := some 7) (v := ?_) (a' := ?_) #[true, true, true, true, true, false, false, false, false, false, false, false, false, false, false, false, false] rfl rfl (by kernel_rfl) (fun _ _ _ h => h) (Or.inl ⟨by rfl, ?_⟩) ?_ ?_
  rotate_left
  · intro w'
    go_simp
    with_reducible rfl
  rotate_left
  · simp only [Act.put, List.setIfInBounds_toArray, List.set_cons_zero, List.set_cons_succ, i64_w, i32_w]
    rfl
  refine take_ (i := 5) (N := some 8) (v := ?_) (a' := ?_) #[true, true, true, true, true, true, false, false, false, false, false, false, false, false, false, false, false] rfl rfl (by kernel_rfl) (fun _ _ _ h => h) (Or.inl ⟨by rfl, ?_⟩) hHeld ?_ ?_
  rotate_left
  · rintro w' s0
    refine run_load_at 22 (.tmp 7) ?_ ⟨g, 33, none⟩ ?_ (byteC h.r) _ (cells_row (o := 33) s0 (fun j hj => by rw [byteC_len, HO.out.r] at hj; have e := hdC_r .u32 HO.out [] j hj; rw [List.append_nil] at e; rw [e, byteC_at (by rw [HO.out.r]; exact hj)])) Tryd.underlying22 rfl (by rw [byteC_len, HO.out.r]; exact size_a32) <;> rfl
  rotate_left
  · simp only [Act.put, List.setIfInBounds_toArray, List.set_cons_zero, List.set_cons_succ, i64_w, i32_w]
    rfl
  refine pure_ (i := 6) (N := some 9) (v := ?_) (a' := ?_) #[true, true, true, true, true, true, true, false, false, false, false, false, false, false, false, false, false] rfl rfl (by kernel_rfl) (fun _ _ _ h => h) (Or.inl ⟨by rfl, ?_⟩) ?_ ?_
  rotate_left
  · intro w'
    go_simp
    with_reducible rfl
  rotate_left
  · simp only [Act.put, List.setIfInBounds_toArray, List.set_cons_zero, List.set_cons_succ, i64_w, i32_w]
    rfl
  refine take_ (i := 7) (N := some 10) (v := ?_) (a' := ?_) #[true, true, true, true, true, true, true, true, false, false, false, false, false, false, false, false, false] rfl rfl (by kernel_rfl) (fun _ _ _ h => h) (Or.inl ⟨by rfl, ?_⟩) hHeld ?_ ?_
  rotate_left
  · rintro w' s0
    have z : w'.cell? ⟨g, 65, none⟩ = some (.int .u32 h.t) := cell_of s0 (by rw [List.getElem?_toArray]; exact (by have e := hdC_tail .u32 HO.out [] 0; rw [List.append_nil] at e; exact e))
    go_simp
    with_reducible rfl
  rotate_left
  · simp only [Act.put, List.setIfInBounds_toArray, List.set_cons_zero, List.set_cons_succ, i64_w, i32_w]
    rfl
  refine pure_ (i := 10) (N := some 13) (v := ?_) (a' := ?_) #[true, true, true, true, true, true, true, true, false, false, true, false, false, false, false, false, false] rfl rfl (by kernel_rfl) (fun _ _ _ h => h) (Or.inl ⟨by rfl, ?_⟩) ?_ ?_
  rotate_left
  · intro w'
    go_simp
    with_reducible rfl
  rotate_left
  · simp only [Act.put, List.setIfInBounds_toArray, List.set_cons_zero, List.set_cons_succ, i64_w, i32_w]
    rfl
  refine take_ (i := 11) (N := some 14) (v := ?_) (a' := ?_) #[true, true, true, true, true, true, true, true, false, false, true, true, false, false, false, false, false] rfl rfl (by kernel_rfl) (fun _ _ _ h => h) (Or.inl ⟨by rfl, ?_⟩) hHeld ?_ ?_
  rotate_left
  · rintro w' s0
    have z : w'.cell? ⟨g, 66, none⟩ = some (.int .u32 h.b) := cell_of s0 (by rw [List.getElem?_toArray]; exact (by have e := hdC_tail .u32 HO.out [] 1; rw [List.append_nil] at e; exact e))
    go_simp
    with_reducible rfl
  rotate_left
  · simp only [Act.put, List.setIfInBounds_toArray, List.set_cons_zero, List.set_cons_succ, i64_w, i32_w]
    rfl
  refine pure_ (i := 12) (N := some 15) (v := ?_) (a' := ?_) #[true, true, true, true, true, true, true, true, false, false, true, true, true, false, false, false, false] rfl rfl (by kernel_rfl) (fun _ _ _ h => h) (Or.inl ⟨by rfl, ?_⟩) ?_ ?_
  rotate_left
  · intro w'
    go_simp
    with_reducible rfl
  rotate_left
  · simp only [Act.put, List.setIfInBounds_toArray, List.set_cons_zero, List.set_cons_succ, i64_w, i32_w]
    rfl
  refine take_ (i := 13) (N := some 16) (v := ?_) (a' := ?_) #[true, true, true, true, true, true, true, true, false, false, true, true, true, true, false, false, false] rfl rfl (by kernel_rfl) (fun _ _ _ h => h) (Or.inl ⟨by rfl, ?_⟩) hHeld ?_ ?_
  rotate_left
  · rintro w' s0
    have z : w'.cell? ⟨g, 67, none⟩ = some (.int .u32 h.n) := cell_of s0 (by rw [List.getElem?_toArray]; exact (by have e := hdC_tail .u32 HO.out [] 2; rw [List.append_nil] at e; exact e))
    go_simp
    with_reducible rfl
  rotate_left
  · simp only [Act.put, List.setIfInBounds_toArray, List.set_cons_zero, List.set_cons_succ, i64_w, i32_w]
    rfl
  refine pure_ (i := 8) (N := some 11) (v := ?_) (a' := ?_) #[true, true, true, true, true, true, true, true, true, false, true, true, true, true, false, false, false] rfl rfl (by kernel_rfl) (fun _ _ _ h => h) (Or.inl ⟨by rfl, ?_⟩) ?_ ?_
  rotate_left
  · intro w'
    go_simp
    exact congrArg (Value.int .i64) HT.out
  rotate_left
  · simp only [Act.put, List.setIfInBounds_toArray, List.set_cons_zero, List.set_cons_succ, i64_w, i32_w]
    rfl
  refine one_ (i := 9) (N := some 12) #[true, true, true, true, true, true, true, true, true, true, true, true, true, true, false, false, false] rfl rfl (by kernel_rfl) (by decide) (fun K hK => ?_)
  refine goes_ Tryd.func29 (by kernel_rfl) rfl #[.int .i64 h.t, .int .i64 0] (by rfl) rfl rfl (by (try simp only [List.map_toArray, List.map_cons, List.map_nil]); first | done | rfl | (simp only [List.length_drop, List.length_take]; rfl)) ?_
  with_reducible refine (timeMkC h.t 0 _).mono ?_
  rintro e w2 ⟨rfl, k1⟩
  refine ⟨_, rfl, ?_⟩
  have HB2 : Aside0 (Below w.heap.size w w2) := ⟨HB1.out.trans ⟨k1.os, k1.tape, k1.output, k1.size, fun k hk => k1.block k (Nat.lt_of_lt_of_le hk HB1.out.size)⟩⟩
  refine hK.out _ _ ((k1.block g (blk_lt' HR1.out)).trans HR1.out) (fun hHeld => ?_)
  clear hK K
  refine norm_ (a' := ?_) ?_ ?_
  rotate_left
  · show Act.put _ (some 12) _ = _
    simp only [Act.put, List.setIfInBounds_toArray, List.set_cons_zero, List.set_cons_succ, i64_w, i32_w]
    rfl
  refine pure_ (i := 14) (N := some 17) (v := ?_) (a' := ?_) #[true, true, true, true, true, true, true, true, true, true, true, true, true, true, true, false, false] rfl rfl (by kernel_rfl) (fun _ _ _ h => h) (Or.inl ⟨by rfl, ?_⟩) ?_ ?_
  rotate_left
  · intro w'
    refine run_built 53 #[(0, .tmp 4), (1, .tmp 6), (2, .tmp 8), (3, .tmp 12), (4, .tmp 14), (5, .tmp 16)] ?_ _ ?_ _ (build_hd HO.out)
    · rfl
    · simp only [List.map_toArray, List.map_cons, List.map_nil]; rfl
  rotate_left
  · simp only [Act.put, List.setIfInBounds_toArray, List.set_cons_zero, List.set_cons_succ, i64_w, i32_w]
    rfl
  refine last_ (i := 15) (N := some 18) #[true, true, true, true, true, true, true, true, true, true, true, true, true, true, true, true, false] rfl rfl (by kernel_rfl) (by decide) (fun K hK => ?_)
  refine yval_ (.pointer (some ⟨w2.heap.size, 0, none⟩)) (by rfl) rfl (run_boxed 53 (.tmp 17) (by rfl) (hdC .i64 h).toArray (by rfl)) ?_
  refine hK.out _ _ ?_
  clear hK K
  refine norm_ (a' := ?_) ?_ ?_
  rotate_left
  · show Act.put _ (some 18) _ = _
    simp only [Act.put, List.setIfInBounds_toArray, List.set_cons_zero, List.set_cons_succ, i64_w, i32_w]
    rfl
  refine pure_ (i := 16) (N := some 2) (v := ?_) (a' := ?_) #[true, true, true, true, true, true, true, true, true, true, true, true, true, true, true, true, true] rfl rfl (by kernel_rfl) (fun _ _ _ h => h) (Or.inl ⟨by rfl, ?_⟩) ?_ ?_
  rotate_left
  · intro w'
    go_simp
    with_reducible rfl
  rotate_left
  · simp only [Act.put, List.setIfInBounds_toArray, List.set_cons_zero, List.set_cons_succ, i64_w, i32_w]
    rfl
  refine done_ (by kernel_rfl) ?_
  go_wp2_with fail
  go_ret
  exact ⟨_, rfl, heap_alloc_new w2 _, by have := HB2.out.size; omega, below_alloc HB2.out _⟩
end Go.Proofs.YtigpdgfhngknhaaDoor.Snk
/-
  DERIVED: THE SHELF's CONTRACTS AT THIS DUMP, IN PLAIN WORDS (tools/lay-plain.mjs out of 'YtigpdgfhngknhaaDoorLay.lean', which tools/lay-shelf.mjs wrote): THE SAME DECLARATIONS UNDER THE SAME NAMES: 'import', 'namespace', 'open', 'def', 'theorem' AND NOTHING ELSE: no command of the shelf's: FOR A HAND-IN. Each laying: the table of numbers ('.._ren') and one theorem, a field a fact of the dump's own or the kernel's comparison; each contract: ONE APPLICATION.
-/
namespace Go.Proofs
open Go.Shelf
def Tryd.laysM252_ren : Go.Shelf.Ren := ⟨fun | 252 => 59 | 181 => 66 | 184 => 67 | 251 => 58 | 290 => 68 | 324 => 71 | n => n, fun | 130 => 47 | 3 => 3 | 4 => 4 | 0 => 0 | 93 => 41 | 131 => 109 | 37 => 26 | 75 => 43 | 91 => 39 | 20 => 20 | 5 => 5 | 80 => 135 | 9 => 9 | n => n, fun | 14 => 1 | n => n⟩
theorem Tryd.laysM252 : Go.Proofs.LaysM.n252 Tryd.prog Tryd.laysM252_ren := {
  mixed := by kernel_rfl
  f181 := Tryd.func66.trans (congrArg some (by kernel_rfl))
  f184 := Tryd.func67.trans (congrArg some (by kernel_rfl))
  f251 := Tryd.func58.trans (congrArg some (by kernel_rfl))
  f252 := Tryd.func59.trans (congrArg some (by kernel_rfl))
  f290 := Tryd.func68.trans (congrArg some (by kernel_rfl))
  f324 := Tryd.func71.trans (congrArg some (by kernel_rfl))
  t0 := Tryd.underlying0
  a0 := Tryd.isAgg0
  z0 := Tryd.sizeOf0
  v0 := Tryd.zeroValue0
  t3 := Tryd.underlying3
  a3 := Tryd.isAgg3
  z3 := Tryd.sizeOf3
  v3 := Tryd.zeroValue3
  t4 := Tryd.underlying4
  a4 := Tryd.isAgg4
  z4 := Tryd.sizeOf4
  v4 := Tryd.zeroValue4
  t20 := Tryd.underlying20
  a20 := Tryd.isAgg20
  z20 := Tryd.sizeOf20
  v20 := Tryd.zeroValue20
  t37 := Tryd.underlying26
  a37 := Tryd.isAgg26
  z37 := Tryd.sizeOf26
  v37 := Tryd.zeroValue26
  t75 := Tryd.underlying43
  a75 := Tryd.isAgg43
  z75 := Tryd.sizeOf43
  v75 := Tryd.zeroValue43
  t91 := Tryd.underlying39
  a91 := Tryd.isAgg39
  z91 := Tryd.sizeOf39
  v91 := Tryd.zeroValue39
  t93 := Tryd.underlying41
  a93 := Tryd.isAgg41
  z93 := Tryd.sizeOf41
  v93 := Tryd.zeroValue41
  t130 := Tryd.underlying47
  a130 := Tryd.isAgg47
  z130 := Tryd.sizeOf47
  v130 := Tryd.zeroValue47
  t131 := Tryd.underlying109
  a131 := Tryd.isAgg109
  z131 := Tryd.sizeOf109
  v131 := Tryd.zeroValue109
  g14 := by kernel_rfl
  t5 := Tryd.underlying5
  a5 := Tryd.isAgg5
  z5 := Tryd.sizeOf5
  v5 := Tryd.zeroValue5
  t9 := Tryd.underlying9
  a9 := Tryd.isAgg9
  z9 := Tryd.sizeOf9
  v9 := Tryd.zeroValue9
  t80 := Tryd.underlying135
  a80 := Tryd.isAgg135
  z80 := Tryd.sizeOf135
  v80 := Tryd.zeroValue135
  i0 := by kernel_rfl
  i3 := by kernel_rfl
  i4 := by kernel_rfl
  i5 := by kernel_rfl
  i9 := by kernel_rfl
  i20 := by kernel_rfl
  i37 := by kernel_rfl
  i75 := by kernel_rfl
  i80 := by kernel_rfl
  i91 := by kernel_rfl
  i93 := by kernel_rfl
  i130 := by kernel_rfl
  i131 := by kernel_rfl
  m14 := by kernel_rfl }
end Go.Proofs
