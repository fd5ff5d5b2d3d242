/- A header is written. -/
import Derived.Test.YtigpdgfhngknhaaDoorWArr
import Derived.Laws.Rows
import Derived.Deep.QuietTactic
import Derived.BigQuiet
import Derived.Deep.DeepCutAuto
import Derived.Test.YtigpdgfhngknhaaDoorH0
namespace Go.Proofs.YtigpdgfhngknhaaDoor.Snk
open Go.RowKit Go.Proofs.YtigpdgfhngknhaaDoorW.PrintWords Go.Proofs.YtigpdgfhngknhaaDoorW.PrintLast Go.Proofs.YtigpdgfhngknhaaDoorW.PrintMore
set_option linter.unusedVariables false
set_option linter.unusedSimpArgs false
theorem add_any (g o j : Nat) : (⟨g, o, none⟩ : Addr).add j = ⟨g, o + j, none⟩ := by
  unfold Addr.add
  split
  · rename_i h; rw [h]; rfl
  · rfl
/-- A header's numbers. -/
structure HdV where
  v : Int
  p : List Int
  r : List Int
  t : Int
  b : Int
  n : Int
structure HdV.ok (h : HdV) : Prop where
  v0 : -2147483648 ≤ h.v
  v1 : h.v < 2147483648
  p : h.p.length = 32
  r : h.r.length = 32
  t0 : 0 ≤ h.t
  t1 : h.t < 4294967296
  b0 : 0 ≤ h.b
  b1 : h.b < 4294967296
  n0 : 0 ≤ h.n
  n1 : h.n < 4294967296
def HdV.bytes (h : HdV) : List Int := le4 (h.v % 4294967296) ++ (h.p ++ (h.r ++ (le4 h.t ++ (le4 h.b ++ le4 h.n))))
/-- A header of the text, at the head of block g. -/
structure HdAt (w : World) (g : Nat) (h : HdV) : Prop where
  v : w.cell? ⟨g, 0, none⟩ = some (.int .i32 h.v)
  p : ∀ j, j < 32 → w.cell? ⟨g, 1 + j, none⟩ = some (.int .u8 (h.p.getD j 0))
  r : ∀ j, j < 32 → w.cell? ⟨g, 33 + j, none⟩ = some (.int .u8 (h.r.getD j 0))
  t : w.cell? ⟨g, 65, none⟩ = some (.int .i64 h.t)
  b : w.cell? ⟨g, 66, none⟩ = some (.int .u32 h.b)
  n : w.cell? ⟨g, 67, none⟩ = some (.int .u32 h.n)
theorem HdAt.below {w w1 : World} {g : Nat} {h : HdV} (k : HdAt w g h) (hb : Below w.heap.size w w1) : HdAt w1 g h :=
  ⟨pw_cell_below hb k.v, fun j hj => pw_cell_below hb (k.p j hj), fun j hj => pw_cell_below hb (k.r j hj), pw_cell_below hb k.t, pw_cell_below hb k.b, pw_cell_below hb k.n⟩
theorem HdAt.readP {w : World} {g : Nat} {h : HdV} (k : HdAt w g h) (ho : h.ok) : ReadsInt w .u8 (some ⟨g, 1, none⟩) 32 h.p := ⟨ho.p, by decide, fun _ => ⟨_, rfl, fun j hj => by rw [add_any]; exact k.p j hj⟩⟩
theorem HdAt.readR {w : World} {g : Nat} {h : HdV} (k : HdAt w g h) (ho : h.ok) : ReadsInt w .u8 (some ⟨g, 33, none⟩) 32 h.r := ⟨ho.r, by decide, fun _ => ⟨_, rfl, fun j hj => by rw [add_any]; exact k.r j hj⟩⟩
theorem HdAt.lt {w : World} {g : Nat} {h : HdV} (k : HdAt w g h) : g < w.heap.size := World.block_lt_of_cell? w _ k.v
theorem read4 {w : World} {g : Nat} {l : List Int} {t : TypeId} (h : w.heap[g]? = some (.cells (byteC l).toArray t (0, 0))) (hl : l.length = 8) : ReadsInt w .u8 (some ⟨g, 0, none⟩) 4 (l.take 4) :=
  ⟨by rw [List.length_take]; omega, by decide, fun _ => ⟨_, rfl, fun j hj => by
    rw [add_any, Nat.zero_add, row_cell h j (by omega), List.getD_eq_getElem?_getD, List.getD_eq_getElem?_getD, List.getElem?_take_of_lt hj]⟩⟩
theorem le4_len (v : Int) : (le4 v).length = 4 := rfl
set_option maxRecDepth 100000 in
theorem timeUnixC (t : Int) (w : World) : Calls Tryd.prog 33 #[.agg #[.int .i64 t]] w fun e w' => e = .returned (.int .i64 t) ∧ Below w.heap.size w w' := by
  go_enter Tryd.func33, Tryd.ntmps33
  go_wp2_with fail
  go_ret
  exact ⟨rfl, below_alloc (Below.refl _ _) _⟩
set_option maxRecDepth 100000 in
set_option maxHeartbeats 8000000 in
theorem hdrBufC {w0 : World} {T : TypeId} {v : Value} {f M : Nat} (S : Sink Tryd.prog w0 T v f M) {fn : Func} (hf : Tryd.prog.funcs[f]? = some fn) (hname : (fn.name == "runtime.NumGoroutine") = false) (hbd : fn.body.isSome = true) (g gb : Nat) (h : HdV) (ho : h.ok) (hd : HdAt w0 g h) (wE w : World) (bs l : List Int) (tb : TypeId)
    (hs : S.St w bs) (hE : Step S wE w) (hgE : wE.heap.size ≤ gb) (hg0 : w0.heap.size ≤ gb) (hno : ¬ S.own w gb) (hl : l.length = 8) (hrow : w.heap[gb]? = some (.cells (byteC l).toArray tb (0, 0))) (hM : bs.length + 80 ≤ M) :
    Calls Tryd.prog 43 #[.iface T v, .int .u32 0, .pointer (some ⟨g, 0, none⟩), .slice (some ⟨gb, 0, none⟩) 8 8] w fun e w' => e = .returned .nilIface ∧ S.St w' (bs ++ h.bytes) ∧ Step S wE w' := by
  have HF := Aside0.mk hf
  have HNM := Aside0.mk hname
  have HBD := Aside0.mk hbd
  have HO := Aside0.mk ho
  have HD := Aside0.mk hd
  have HM := Aside0.mk hM
  have HGE := Aside0.mk hgE
  have HG0 := Aside0.mk hg0
  have HS0 := Aside0.mk hs
  have HE0 := Aside0.mk hE
  have HN0 := Aside0.mk hno
  have HL0 := Aside0.mk hl
  have HR0 := Aside0.mk hrow
  have HGN : Aside0 (∀ w bs, S.St w bs → ¬ S.own w g) := ⟨fun w bs h1 h2 => absurd (S.fresh h1 h2).1 (Nat.not_le.2 hd.lt)⟩
  have ho1 : 0 ≤ h.t := ho.t0
  have ho2 : h.t < 4294967296 := ho.t1
  have HT : Aside0 (h.t % 4294967296 = h.t) := ⟨by omega⟩
  obtain ⟨bs0, hb0⟩ : ∃ b, b = bs := ⟨_, rfl⟩
  have HB0 := Aside0.mk hb0
  rw [← hb0] at HS0
  clear hf hname hbd hd hM hgE hg0 hs hE hno hl hrow hb0 ho ho1 ho2
  go_enter Tryd.func43, Tryd.ntmps43
  go_upto_region 1 with fail
  have hz0 := (show (w.drew).cell? ⟨g, 0, none⟩ = some (.int .i32 h.v) from (HD.out.below (S.below HS0.out)).v)
  have C1 : Aside0 (w.drew.cell? ⟨g, 0, none⟩ = some (.int .i32 h.v)) := ⟨hz0⟩
  have HRd1 : Aside0 ((World.drew w).heap[gb]? = _) := ⟨HR0.out⟩
  refine start_ (n := 9) (S := fun w' => w'.cell? ⟨g, 0, none⟩ = some (.int .i32 h.v)) (ds := []) #[false, false, false, false, false, false, false, false, false] (by kernel_rfl) rfl rfl C1.out (fun hHeld => ?_)
  refine take_ (i := 0) (N := some 21) (v := ?_) (a' := ?_) #[true, false, false, false, false, false, false, false, false] rfl rfl (by kernel_rfl) (fun _ _ _ h => h) (Or.inl ⟨by rfl, ?_⟩) hHeld ?_ ?_
  rotate_left
  · rintro w' s0
    go_simp
    with_reducible rfl
  rotate_left
  · simp only [Act.put, List.setIfInBounds_toArray, List.set_cons_zero, List.set_cons_succ, i64_w, i32_w]
    rfl
  refine pure_ (i := 1) (N := some 22) (v := ?_) (a' := ?_) #[true, true, false, false, false, false, false, false, false] rfl rfl (by kernel_rfl) (fun _ _ _ h => h) (Or.inl ⟨by rfl, ?_⟩) ?_ ?_
  rotate_left
  · intro w'
    go_simp
    with_reducible rfl
  rotate_left
  · simp only [Act.put, List.setIfInBounds_toArray, List.set_cons_zero, List.set_cons_succ, i64_w, i32_w]
    rfl
  refine pure_ (i := 2) (N := some 23) (v := ?_) (a' := ?_) #[true, true, true, false, false, false, false, false, false] rfl rfl (by kernel_rfl) (fun _ _ _ h => h) (Or.inl ⟨by rfl, ?_⟩) ?_ ?_
  rotate_left
  · intro w'
    go_simp
    with_reducible rfl
  rotate_left
  · simp only [Act.put, List.setIfInBounds_toArray, List.set_cons_zero, List.set_cons_succ, i64_w, i32_w]
    rfl
  refine pure_ (i := 3) (N := some 24) (v := ?_) (a' := ?_) #[true, true, true, true, false, false, false, false, false] rfl rfl (by kernel_rfl) (fun _ _ _ h => h) (Or.inl ⟨by rfl, ?_⟩) ?_ ?_
  rotate_left
  · intro w'
    go_simp
    with_reducible rfl
  rotate_left
  · simp only [Act.put, List.setIfInBounds_toArray, List.set_cons_zero, List.set_cons_succ, i64_w, i32_w]
    rfl
  refine pure_ (i := 4) (N := some 25) (v := ?_) (a' := ?_) #[true, true, true, true, true, false, false, false, false] rfl rfl (by kernel_rfl) (fun _ _ _ h => h) (Or.inl ⟨by rfl, ?_⟩) ?_ ?_
  rotate_left
  · intro w'
    go_simp
    with_reducible rfl
  rotate_left
  · simp only [Act.put, List.setIfInBounds_toArray, List.set_cons_zero, List.set_cons_succ, i64_w, i32_w]
    rfl
  refine pure_ (i := 5) (N := some 26) (v := ?_) (a' := ?_) #[true, true, true, true, true, true, false, false, false] rfl rfl (by kernel_rfl) (fun _ _ _ h => h) (Or.inl ⟨by rfl, ?_⟩) ?_ ?_
  rotate_left
  · intro w'
    go_simp
    with_reducible rfl
  rotate_left
  · simp only [Act.put, List.setIfInBounds_toArray, List.set_cons_zero, List.set_cons_succ, i64_w, i32_w]
    rfl
  refine take_ (i := 6) (N := some 27) (v := ?_) (a' := ?_) #[true, true, true, true, true, true, true, false, false] rfl rfl (by kernel_rfl) (fun _ _ _ h => h) (Or.inl ⟨by rfl, ?_⟩) hHeld ?_ ?_
  rotate_left
  · rintro w' s0
    go_simp
    with_reducible rfl
  rotate_left
  · simp only [Act.put, List.setIfInBounds_toArray, List.set_cons_zero, List.set_cons_succ, i64_w, i32_w]
    rfl
  refine pure_ (i := 7) (N := some 28) (v := ?_) (a' := ?_) #[true, true, true, true, true, true, true, true, false] rfl rfl (by kernel_rfl) (fun _ _ _ h => h) (Or.inl ⟨by rfl, ?_⟩) ?_ ?_
  rotate_left
  · intro w'
    go_simp
    with_reducible rfl
  rotate_left
  · simp only [Act.put, List.setIfInBounds_toArray, List.set_cons_zero, List.set_cons_succ, i64_w, i32_w]
    rfl
  refine one_ (i := 8) (N := some 29) #[true, true, true, true, true, true, true, true, true] rfl rfl (by kernel_rfl) (by decide) (fun K hK => ?_)
  refine goes_ Tryd.func53 (by kernel_rfl) rfl #[.agg #[], .slice (some ⟨gb, 0, none⟩) 4 8, .int .u32 (h.v % 4294967296)] (by rfl) rfl rfl (by (try simp only [List.map_toArray, List.map_cons, List.map_nil]); first | done | rfl | (simp only [List.length_drop, List.length_take]; rfl)) ?_
  with_reducible refine (lput4C gb 0 4 8 _ _ (h.v % 4294967296) (.agg #[]) _ HRd1.out (by rw [HL0.out]; decide) (by decide)).mono ?_
  rintro e v1 ⟨rfl, k1, k2⟩
  refine ⟨_, rfl, ?_⟩
  have HR1 := Aside0.mk k1
  have P1 : Aside0 (Only gb w v1) := ⟨⟨k2.os, k2.tape, k2.output, k2.size, k2.block⟩⟩
  clear k1 k2
  refine hK.out _ _ (by have := P1.out; exact this.cell (p := ⟨g, 0, none⟩) (by intro e; have h1 : g = gb := e; have h2 := HD.out.lt; have h3 := HG0.out; omega) hHeld) (fun hHeld => ?_)
  clear hK K
  refine norm_ (a' := ?_) ?_ ?_
  rotate_left
  · show Act.put _ (some 29) _ = _
    simp only [Act.put, List.setIfInBounds_toArray, List.set_cons_zero, List.set_cons_succ, i64_w, i32_w]
    rfl
  refine done_ (by kernel_rfl) ?_
  obtain ⟨hs1, he1, hn1⟩ := only_step HS0.out HE0.out HGE.out HG0.out HN0.out P1.out
  have HS1 := Aside0.mk hs1
  have HE1 := Aside0.mk he1
  have HN1 := Aside0.mk hn1
  have HL1 : Aside0 ((lput4 l 0 (h.v % 4294967296)).length = 8) := ⟨by rw [lput4_len]; exact HL0.out⟩
  clear hs1 he1 hn1 hHeld
  clear hz0
  go_upto_region 2 with fail
  obtain ⟨q2, hq2⟩ : ∃ q, q = le4 (h.v % 4294967296) := ⟨_, rfl⟩
  have HQ2 := Aside0.mk hq2
  have HW2 : Aside0 (Calls Tryd.prog f #[v, .slice (some ⟨gb, 0, none⟩) 4 8] (World.drew v1) fun e w' => e = .returned (.tuple #[.int .i64 4, .nilIface]) ∧ S.St w' (bs0 ++ q2) ∧ Step S v1 w') := ⟨by
    subst hq2
    have b0 := below_step HS1.out (show Below v1.heap.size v1 v1.drew from ⟨rfl, rfl, rfl, Nat.le_refl _, fun _ _ => rfl⟩)
    exact (S.writeC b0.1 (le4_len _) (by have h1 := HM.out; have h2 := HB0.out; have h3 := HO.out.p; have h4 := HO.out.r; subst h2; (try simp only [List.length_append, le4_len, List.length_take]); omega) (by decide) (by have := read4 (w := v1) HR1.out HL1.out; rw [lput4_take _ _ (by have := HL1.out; rw [lput4_len] at this; omega)] at this; exact this) (fun _ a e hw => by obtain rfl := Option.some.inj e; exact HN1.out (b0.2.grow gb hw |>.elim id (fun h => absurd (blk_lt' HR1.out) (Nat.not_lt.2 h))))).mono fun e w' ⟨h1, h2, h3⟩ => ⟨h1, h2, b0.2.trans h3⟩⟩
  clear hq2
  have hnl : ∀ W : World, True := fun _ => trivial
  clear hnl
  refine start_ (n := 12) (S := fun w' => True) (ds := []) #[false, false, false, false, false, false, false, false, false, false, false, false] (by kernel_rfl) rfl rfl trivial (fun hHeld => ?_)
  refine pure_ (i := 0) (N := some 31) (v := ?_) (a' := ?_) #[true, false, false, false, false, false, false, false, false, false, false, false] rfl rfl (by kernel_rfl) (fun _ _ _ h => h) (Or.inl ⟨by rfl, ?_⟩) ?_ ?_
  rotate_left
  · intro w'
    go_simp
    with_reducible rfl
  rotate_left
  · simp only [Act.put, List.setIfInBounds_toArray, List.set_cons_zero, List.set_cons_succ, i64_w, i32_w]
    rfl
  refine pure_ (i := 1) (N := some 32) (v := ?_) (a' := ?_) #[true, true, false, false, false, false, false, false, false, false, false, false] rfl rfl (by kernel_rfl) (fun _ _ _ h => h) (Or.inl ⟨by rfl, ?_⟩) ?_ ?_
  rotate_left
  · intro w'
    go_simp
    with_reducible rfl
  rotate_left
  · simp only [Act.put, List.setIfInBounds_toArray, List.set_cons_zero, List.set_cons_succ, i64_w, i32_w]
    rfl
  refine pure_ (i := 2) (N := some 33) (v := ?_) (a' := ?_) #[true, true, true, false, false, false, false, false, false, false, false, false] rfl rfl (by kernel_rfl) (fun _ _ _ h => h) (Or.inl ⟨by rfl, ?_⟩) ?_ ?_
  rotate_left
  · intro w'
    go_simp
    with_reducible rfl
  rotate_left
  · simp only [Act.put, List.setIfInBounds_toArray, List.set_cons_zero, List.set_cons_succ, i64_w, i32_w]
    rfl
  refine pure_ (i := 3) (N := some 34) (v := ?_) (a' := ?_) #[true, true, true, true, false, false, false, false, false, false, false, false] rfl rfl (by kernel_rfl) (fun _ _ _ h => h) (Or.inl ⟨by rfl, ?_⟩) ?_ ?_
  rotate_left
  · intro w'
    go_simp
    with_reducible rfl
  rotate_left
  · simp only [Act.put, List.setIfInBounds_toArray, List.set_cons_zero, List.set_cons_succ, i64_w, i32_w]
    rfl
  refine pure_ (i := 4) (N := some 35) (v := ?_) (a' := ?_) #[true, true, true, true, true, false, false, false, false, false, false, false] rfl rfl (by kernel_rfl) (fun _ _ _ h => h) (Or.inl ⟨by rfl, ?_⟩) ?_ ?_
  rotate_left
  · intro w'
    refine nil_run S.nil _ (.tmp 34) ?_ ?_ <;> rfl
  rotate_left
  · simp only [Act.put, List.setIfInBounds_toArray, List.set_cons_zero, List.set_cons_succ, i64_w, i32_w]
    rfl
  refine pure_ (i := 5) (N := some 36) (v := ?_) (a' := ?_) #[true, true, true, true, true, true, false, false, false, false, false, false] rfl rfl (by kernel_rfl) (fun _ _ _ h => h) (Or.inl ⟨by rfl, ?_⟩) ?_ ?_
  rotate_left
  · intro w'
    go_simp
    with_reducible rfl
  rotate_left
  · simp only [Act.put, List.setIfInBounds_toArray, List.set_cons_zero, List.set_cons_succ, i64_w, i32_w]
    rfl
  refine one_ (i := 6) (N := some 37) #[true, true, true, true, true, true, true, false, false, false, false, false] rfl rfl (by kernel_rfl) (by decide) (fun K hK => ?_)
  refine goesI_ (by rfl) rfl (.tmp 36) "Write" rfl T v rfl f S.meth HF.out HNM.out HBD.out #[v, .slice (some ⟨gb, 0, none⟩) 4 8] (by (try simp only [List.map_toArray, List.map_cons, List.map_nil]); first | done | rfl | (simp only [List.length_drop, List.length_take]; rfl)) ?_
  with_reducible refine HW2.out.mono ?_
  rintro e v2 ⟨rfl, k1, k2⟩
  refine ⟨_, rfl, ?_⟩
  have HS2 := Aside0.mk k1
  have X2 := Aside0.mk k2
  clear k1 k2
  refine hK.out _ _ trivial (fun hHeld => ?_)
  clear hK K
  refine norm_ (a' := ?_) ?_ ?_
  rotate_left
  · show Act.put _ (some 37) _ = _
    simp only [Act.put, List.setIfInBounds_toArray, List.set_cons_zero, List.set_cons_succ, i64_w, i32_w]
    rfl
  refine pure_ (i := 7) (N := some 30) (v := ?_) (a' := ?_) #[true, true, true, true, true, true, true, true, false, false, false, false] rfl rfl (by kernel_rfl) (fun _ _ _ h => h) (Or.inl ⟨by rfl, ?_⟩) ?_ ?_
  rotate_left
  · intro w'
    go_simp
    with_reducible rfl
  rotate_left
  · simp only [Act.put, List.setIfInBounds_toArray, List.set_cons_zero, List.set_cons_succ, i64_w, i32_w]
    rfl
  refine pure_ (i := 8) (N := some 38) (v := ?_) (a' := ?_) #[true, true, true, true, true, true, true, true, true, false, false, false] rfl rfl (by kernel_rfl) (fun _ _ _ h => h) (Or.inl ⟨by rfl, ?_⟩) ?_ ?_
  rotate_left
  · intro w'
    go_simp
    with_reducible rfl
  rotate_left
  · simp only [Act.put, List.setIfInBounds_toArray, List.set_cons_zero, List.set_cons_succ, i64_w, i32_w]
    rfl
  refine pure_ (i := 9) (N := some 39) (v := ?_) (a' := ?_) #[true, true, true, true, true, true, true, true, true, true, false, false] rfl rfl (by kernel_rfl) (fun _ _ _ h => h) (Or.inl ⟨by rfl, ?_⟩) ?_ ?_
  rotate_left
  · intro w'
    go_simp
    with_reducible rfl
  rotate_left
  · simp only [Act.put, List.setIfInBounds_toArray, List.set_cons_zero, List.set_cons_succ, i64_w, i32_w]
    rfl
  refine pure_ (i := 10) (N := some 9) (v := ?_) (a' := ?_) #[true, true, true, true, true, true, true, true, true, true, true, false] rfl rfl (by kernel_rfl) (fun _ _ _ h => h) (Or.inl ⟨by rfl, ?_⟩) ?_ ?_
  rotate_left
  · intro w'
    go_simp
    with_reducible rfl
  rotate_left
  · simp only [Act.put, List.setIfInBounds_toArray, List.set_cons_zero, List.set_cons_succ, i64_w, i32_w]
    rfl
  refine pure_ (i := 11) (N := some 10) (v := ?_) (a' := ?_) #[true, true, true, true, true, true, true, true, true, true, true, true] rfl rfl (by kernel_rfl) (fun _ _ _ h => h) (Or.inl ⟨by rfl, ?_⟩) ?_ ?_
  rotate_left
  · intro w'
    go_simp
    with_reducible rfl
  rotate_left
  · simp only [Act.put, List.setIfInBounds_toArray, List.set_cons_zero, List.set_cons_succ, i64_w, i32_w]
    rfl
  refine done_ (by kernel_rfl) ?_
  have HE2 := Aside0.mk (HE1.out.trans X2.out)
  have kr2 := X2.out.kept HN1.out HR1.out
  have HR2 := Aside0.mk kr2.1
  have HN2 := Aside0.mk kr2.2
  have HL2 := HL1
  clear kr2
  go_upto_region 5 with fail
  obtain ⟨q3, hq3⟩ : ∃ q, q = h.p := ⟨_, rfl⟩
  have HQ3 := Aside0.mk hq3
  have HW3 : Aside0 (Calls Tryd.prog f #[v, .slice (some ⟨g, 1, none⟩) 32 32] (World.drew v2) fun e w' => e = .returned (.tuple #[.int .i64 32, .nilIface]) ∧ S.St w' ((bs0 ++ q2) ++ q3) ∧ Step S v2 w') := ⟨by
    subst hq3
    have b0 := below_step HS2.out (show Below v2.heap.size v2 v2.drew from ⟨rfl, rfl, rfl, Nat.le_refl _, fun _ _ => rfl⟩)
    exact (S.writeC b0.1 HO.out.p (by have h1 := HM.out; have h2 := HB0.out; have h3 := HO.out.p; have h4 := HO.out.r; subst h2; have hq2 := congrArg List.length HQ2.out; (try simp only [le4_len] at hq2); (try simp only [List.length_append, le4_len, List.length_take]); omega) (by decide) (((HD.out.below (S.below HS2.out))).readP HO.out) (fun _ a e hw => by obtain rfl := Option.some.inj e; exact HGN.out _ _ b0.1 hw)).mono fun e w' ⟨h1, h2, h3⟩ => ⟨h1, h2, b0.2.trans h3⟩⟩
  clear hq3
  have hnl : ∀ W : World, True := fun _ => trivial
  clear hnl
  refine start_ (n := 14) (S := fun w' => True) (ds := []) #[false, false, false, false, false, false, false, false, false, false, false, false, false, false] (by kernel_rfl) rfl rfl trivial (fun hHeld => ?_)
  refine pure_ (i := 0) (N := some 44) (v := ?_) (a' := ?_) #[true, false, false, false, false, false, false, false, false, false, false, false, false, false] rfl rfl (by kernel_rfl) (fun _ _ _ h => h) (Or.inl ⟨by rfl, ?_⟩) ?_ ?_
  rotate_left
  · intro w'
    go_simp
    with_reducible rfl
  rotate_left
  · simp only [Act.put, List.setIfInBounds_toArray, List.set_cons_zero, List.set_cons_succ, i64_w, i32_w]
    rfl
  refine pure_ (i := 1) (N := some 45) (v := ?_) (a' := ?_) #[true, true, false, false, false, false, false, false, false, false, false, false, false, false] rfl rfl (by kernel_rfl) (fun _ _ _ h => h) (Or.inl ⟨by rfl, ?_⟩) ?_ ?_
  rotate_left
  · intro w'
    go_simp
    with_reducible rfl
  rotate_left
  · simp only [Act.put, List.setIfInBounds_toArray, List.set_cons_zero, List.set_cons_succ, i64_w, i32_w]
    rfl
  refine pure_ (i := 2) (N := some 46) (v := ?_) (a' := ?_) #[true, true, true, false, false, false, false, false, false, false, false, false, false, false] rfl rfl (by kernel_rfl) (fun _ _ _ h => h) (Or.inl ⟨by rfl, ?_⟩) ?_ ?_
  rotate_left
  · intro w'
    go_simp
    with_reducible rfl
  rotate_left
  · simp only [Act.put, List.setIfInBounds_toArray, List.set_cons_zero, List.set_cons_succ, i64_w, i32_w]
    rfl
  refine pure_ (i := 3) (N := some 47) (v := ?_) (a' := ?_) #[true, true, true, true, false, false, false, false, false, false, false, false, false, false] rfl rfl (by kernel_rfl) (fun _ _ _ h => h) (Or.inl ⟨by rfl, ?_⟩) ?_ ?_
  rotate_left
  · intro w'
    go_simp
    with_reducible rfl
  rotate_left
  · simp only [Act.put, List.setIfInBounds_toArray, List.set_cons_zero, List.set_cons_succ, i64_w, i32_w]
    rfl
  refine pure_ (i := 4) (N := some 48) (v := ?_) (a' := ?_) #[true, true, true, true, true, false, false, false, false, false, false, false, false, false] rfl rfl (by kernel_rfl) (fun _ _ _ h => h) (Or.inl ⟨by rfl, ?_⟩) ?_ ?_
  rotate_left
  · intro w'
    go_simp
    with_reducible rfl
  rotate_left
  · simp only [Act.put, List.setIfInBounds_toArray, List.set_cons_zero, List.set_cons_succ, i64_w, i32_w]
    rfl
  refine pure_ (i := 5) (N := some 49) (v := ?_) (a' := ?_) #[true, true, true, true, true, true, false, false, false, false, false, false, false, false] rfl rfl (by kernel_rfl) (fun _ _ _ h => h) (Or.inl ⟨by rfl, ?_⟩) ?_ ?_
  rotate_left
  · intro w'
    go_simp
    with_reducible rfl
  rotate_left
  · simp only [Act.put, List.setIfInBounds_toArray, List.set_cons_zero, List.set_cons_succ, i64_w, i32_w]
    rfl
  refine pure_ (i := 6) (N := some 50) (v := ?_) (a' := ?_) #[true, true, true, true, true, true, true, false, false, false, false, false, false, false] rfl rfl (by kernel_rfl) (fun _ _ _ h => h) (Or.inl ⟨by rfl, ?_⟩) ?_ ?_
  rotate_left
  · intro w'
    refine nil_run S.nil _ (.tmp 49) ?_ ?_ <;> rfl
  rotate_left
  · simp only [Act.put, List.setIfInBounds_toArray, List.set_cons_zero, List.set_cons_succ, i64_w, i32_w]
    rfl
  refine pure_ (i := 7) (N := some 51) (v := ?_) (a' := ?_) #[true, true, true, true, true, true, true, true, false, false, false, false, false, false] rfl rfl (by kernel_rfl) (fun _ _ _ h => h) (Or.inl ⟨by rfl, ?_⟩) ?_ ?_
  rotate_left
  · intro w'
    go_simp
    with_reducible rfl
  rotate_left
  · simp only [Act.put, List.setIfInBounds_toArray, List.set_cons_zero, List.set_cons_succ, i64_w, i32_w]
    rfl
  refine one_ (i := 8) (N := some 52) #[true, true, true, true, true, true, true, true, true, false, false, false, false, false] rfl rfl (by kernel_rfl) (by decide) (fun K hK => ?_)
  refine goesI_ (by rfl) rfl (.tmp 51) "Write" rfl T v rfl f S.meth HF.out HNM.out HBD.out #[v, .slice (some ⟨g, 1, none⟩) 32 32] (by (try simp only [List.map_toArray, List.map_cons, List.map_nil]); first | done | rfl | (simp only [List.length_drop, List.length_take]; rfl)) ?_
  with_reducible refine HW3.out.mono ?_
  rintro e v3 ⟨rfl, k1, k2⟩
  refine ⟨_, rfl, ?_⟩
  have HS3 := Aside0.mk k1
  have X3 := Aside0.mk k2
  clear k1 k2
  refine hK.out _ _ trivial (fun hHeld => ?_)
  clear hK K
  refine norm_ (a' := ?_) ?_ ?_
  rotate_left
  · show Act.put _ (some 52) _ = _
    simp only [Act.put, List.setIfInBounds_toArray, List.set_cons_zero, List.set_cons_succ, i64_w, i32_w]
    rfl
  refine pure_ (i := 9) (N := some 43) (v := ?_) (a' := ?_) #[true, true, true, true, true, true, true, true, true, true, false, false, false, false] rfl rfl (by kernel_rfl) (fun _ _ _ h => h) (Or.inl ⟨by rfl, ?_⟩) ?_ ?_
  rotate_left
  · intro w'
    go_simp
    with_reducible rfl
  rotate_left
  · simp only [Act.put, List.setIfInBounds_toArray, List.set_cons_zero, List.set_cons_succ, i64_w, i32_w]
    rfl
  refine pure_ (i := 10) (N := some 53) (v := ?_) (a' := ?_) #[true, true, true, true, true, true, true, true, true, true, true, false, false, false] rfl rfl (by kernel_rfl) (fun _ _ _ h => h) (Or.inl ⟨by rfl, ?_⟩) ?_ ?_
  rotate_left
  · intro w'
    go_simp
    with_reducible rfl
  rotate_left
  · simp only [Act.put, List.setIfInBounds_toArray, List.set_cons_zero, List.set_cons_succ, i64_w, i32_w]
    rfl
  refine pure_ (i := 11) (N := some 54) (v := ?_) (a' := ?_) #[true, true, true, true, true, true, true, true, true, true, true, true, false, false] rfl rfl (by kernel_rfl) (fun _ _ _ h => h) (Or.inl ⟨by rfl, ?_⟩) ?_ ?_
  rotate_left
  · intro w'
    go_simp
    with_reducible rfl
  rotate_left
  · simp only [Act.put, List.setIfInBounds_toArray, List.set_cons_zero, List.set_cons_succ, i64_w, i32_w]
    rfl
  refine pure_ (i := 12) (N := some 11) (v := ?_) (a' := ?_) #[true, true, true, true, true, true, true, true, true, true, true, true, true, false] rfl rfl (by kernel_rfl) (fun _ _ _ h => h) (Or.inl ⟨by rfl, ?_⟩) ?_ ?_
  rotate_left
  · intro w'
    go_simp
    with_reducible rfl
  rotate_left
  · simp only [Act.put, List.setIfInBounds_toArray, List.set_cons_zero, List.set_cons_succ, i64_w, i32_w]
    rfl
  refine pure_ (i := 13) (N := some 12) (v := ?_) (a' := ?_) #[true, true, true, true, true, true, true, true, true, true, true, true, true, true] rfl rfl (by kernel_rfl) (fun _ _ _ h => h) (Or.inl ⟨by rfl, ?_⟩) ?_ ?_
  rotate_left
  · intro w'
    go_simp
    with_reducible rfl
  rotate_left
  · simp only [Act.put, List.setIfInBounds_toArray, List.set_cons_zero, List.set_cons_succ, i64_w, i32_w]
    rfl
  refine done_ (by kernel_rfl) ?_
  have HE3 := Aside0.mk (HE2.out.trans X3.out)
  have kr3 := X3.out.kept HN2.out HR2.out
  have HR3 := Aside0.mk kr3.1
  have HN3 := Aside0.mk kr3.2
  have HL3 := HL2
  clear kr3
  go_upto_region 8 with fail
  obtain ⟨q4, hq4⟩ : ∃ q, q = h.r := ⟨_, rfl⟩
  have HQ4 := Aside0.mk hq4
  have HW4 : Aside0 (Calls Tryd.prog f #[v, .slice (some ⟨g, 33, none⟩) 32 32] (World.drew v3) fun e w' => e = .returned (.tuple #[.int .i64 32, .nilIface]) ∧ S.St w' (((bs0 ++ q2) ++ q3) ++ q4) ∧ Step S v3 w') := ⟨by
    subst hq4
    have b0 := below_step HS3.out (show Below v3.heap.size v3 v3.drew from ⟨rfl, rfl, rfl, Nat.le_refl _, fun _ _ => rfl⟩)
    exact (S.writeC b0.1 HO.out.r (by have h1 := HM.out; have h2 := HB0.out; have h3 := HO.out.p; have h4 := HO.out.r; subst h2; have hq2 := congrArg List.length HQ2.out; (try simp only [le4_len] at hq2);  have hq3 := congrArg List.length HQ3.out; (try simp only [le4_len] at hq3); (try simp only [List.length_append, le4_len, List.length_take]); omega) (by decide) (((HD.out.below (S.below HS3.out))).readR HO.out) (fun _ a e hw => by obtain rfl := Option.some.inj e; exact HGN.out _ _ b0.1 hw)).mono fun e w' ⟨h1, h2, h3⟩ => ⟨h1, h2, b0.2.trans h3⟩⟩
  clear hq4
  have hnl : ∀ W : World, True := fun _ => trivial
  clear hnl
  refine start_ (n := 14) (S := fun w' => True) (ds := []) #[false, false, false, false, false, false, false, false, false, false, false, false, false, false] (by kernel_rfl) rfl rfl trivial (fun hHeld => ?_)
  refine pure_ (i := 0) (N := some 59) (v := ?_) (a' := ?_) #[true, false, false, false, false, false, false, false, false, false, false, false, false, false] rfl rfl (by kernel_rfl) (fun _ _ _ h => h) (Or.inl ⟨by rfl, ?_⟩) ?_ ?_
  rotate_left
  · intro w'
    go_simp
    with_reducible rfl
  rotate_left
  · simp only [Act.put, List.setIfInBounds_toArray, List.set_cons_zero, List.set_cons_succ, i64_w, i32_w]
    rfl
  refine pure_ (i := 1) (N := some 60) (v := ?_) (a' := ?_) #[true, true, false, false, false, false, false, false, false, false, false, false, false, false] rfl rfl (by kernel_rfl) (fun _ _ _ h => h) (Or.inl ⟨by rfl, ?_⟩) ?_ ?_
  rotate_left
  · intro w'
    go_simp
    with_reducible rfl
  rotate_left
  · simp only [Act.put, List.setIfInBounds_toArray, List.set_cons_zero, List.set_cons_succ, i64_w, i32_w]
    rfl
  refine pure_ (i := 2) (N := some 61) (v := ?_) (a' := ?_) #[true, true, true, false, false, false, false, false, false, false, false, false, false, false] rfl rfl (by kernel_rfl) (fun _ _ _ h => h) (Or.inl ⟨by rfl, ?_⟩) ?_ ?_
  rotate_left
  · intro w'
    go_simp
    with_reducible rfl
  rotate_left
  · simp only [Act.put, List.setIfInBounds_toArray, List.set_cons_zero, List.set_cons_succ, i64_w, i32_w]
    rfl
  refine pure_ (i := 3) (N := some 62) (v := ?_) (a' := ?_) #[true, true, true, true, false, false, false, false, false, false, false, false, false, false] rfl rfl (by kernel_rfl) (fun _ _ _ h => h) (Or.inl ⟨by rfl, ?_⟩) ?_ ?_
  rotate_left
  · intro w'
    go_simp
    with_reducible rfl
  rotate_left
  · simp only [Act.put, List.setIfInBounds_toArray, List.set_cons_zero, List.set_cons_succ, i64_w, i32_w]
    rfl
  refine pure_ (i := 4) (N := some 63) (v := ?_) (a' := ?_) #[true, true, true, true, true, false, false, false, false, false, false, false, false, false] rfl rfl (by kernel_rfl) (fun _ _ _ h => h) (Or.inl ⟨by rfl, ?_⟩) ?_ ?_
  rotate_left
  · intro w'
    go_simp
    with_reducible rfl
  rotate_left
  · simp only [Act.put, List.setIfInBounds_toArray, List.set_cons_zero, List.set_cons_succ, i64_w, i32_w]
    rfl
  refine pure_ (i := 5) (N := some 64) (v := ?_) (a' := ?_) #[true, true, true, true, true, true, false, false, false, false, false, false, false, false] rfl rfl (by kernel_rfl) (fun _ _ _ h => h) (Or.inl ⟨by rfl, ?_⟩) ?_ ?_
  rotate_left
  · intro w'
    go_simp
    with_reducible rfl
  rotate_left
  · simp only [Act.put, List.setIfInBounds_toArray, List.set_cons_zero, List.set_cons_succ, i64_w, i32_w]
    rfl
  refine pure_ (i := 6) (N := some 65) (v := ?_) (a' := ?_) #[true, true, true, true, true, true, true, false, false, false, false, false, false, false] rfl rfl (by kernel_rfl) (fun _ _ _ h => h) (Or.inl ⟨by rfl, ?_⟩) ?_ ?_
  rotate_left
  · intro w'
    refine nil_run S.nil _ (.tmp 64) ?_ ?_ <;> rfl
  rotate_left
  · simp only [Act.put, List.setIfInBounds_toArray, List.set_cons_zero, List.set_cons_succ, i64_w, i32_w]
    rfl
  refine pure_ (i := 7) (N := some 66) (v := ?_) (a' := ?_) #[true, true, true, true, true, true, true, true, false, false, false, false, false, false] rfl rfl (by kernel_rfl) (fun _ _ _ h => h) (Or.inl ⟨by rfl, ?_⟩) ?_ ?_
  rotate_left
  · intro w'
    go_simp
    with_reducible rfl
  rotate_left
  · simp only [Act.put, List.setIfInBounds_toArray, List.set_cons_zero, List.set_cons_succ, i64_w, i32_w]
    rfl
  refine one_ (i := 8) (N := some 67) #[true, true, true, true, true, true, true, true, true, false, false, false, false, false] rfl rfl (by kernel_rfl) (by decide) (fun K hK => ?_)
  refine goesI_ (by rfl) rfl (.tmp 66) "Write" rfl T v rfl f S.meth HF.out HNM.out HBD.out #[v, .slice (some ⟨g, 33, none⟩) 32 32] (by (try simp only [List.map_toArray, List.map_cons, List.map_nil]); first | done | rfl | (simp only [List.length_drop, List.length_take]; rfl)) ?_
  with_reducible refine HW4.out.mono ?_
  rintro e v4 ⟨rfl, k1, k2⟩
  refine ⟨_, rfl, ?_⟩
  have HS4 := Aside0.mk k1
  have X4 := Aside0.mk k2
  clear k1 k2
  refine hK.out _ _ trivial (fun hHeld => ?_)
  clear hK K
  refine norm_ (a' := ?_) ?_ ?_
  rotate_left
  · show Act.put _ (some 67) _ = _
    simp only [Act.put, List.setIfInBounds_toArray, List.set_cons_zero, List.set_cons_succ, i64_w, i32_w]
    rfl
  refine pure_ (i := 9) (N := some 58) (v := ?_) (a' := ?_) #[true, true, true, true, true, true, true, true, true, true, false, false, false, false] rfl rfl (by kernel_rfl) (fun _ _ _ h => h) (Or.inl ⟨by rfl, ?_⟩) ?_ ?_
  rotate_left
  · intro w'
    go_simp
    with_reducible rfl
  rotate_left
  · simp only [Act.put, List.setIfInBounds_toArray, List.set_cons_zero, List.set_cons_succ, i64_w, i32_w]
    rfl
  refine pure_ (i := 10) (N := some 68) (v := ?_) (a' := ?_) #[true, true, true, true, true, true, true, true, true, true, true, false, false, false] rfl rfl (by kernel_rfl) (fun _ _ _ h => h) (Or.inl ⟨by rfl, ?_⟩) ?_ ?_
  rotate_left
  · intro w'
    go_simp
    with_reducible rfl
  rotate_left
  · simp only [Act.put, List.setIfInBounds_toArray, List.set_cons_zero, List.set_cons_succ, i64_w, i32_w]
    rfl
  refine pure_ (i := 11) (N := some 69) (v := ?_) (a' := ?_) #[true, true, true, true, true, true, true, true, true, true, true, true, false, false] rfl rfl (by kernel_rfl) (fun _ _ _ h => h) (Or.inl ⟨by rfl, ?_⟩) ?_ ?_
  rotate_left
  · intro w'
    go_simp
    with_reducible rfl
  rotate_left
  · simp only [Act.put, List.setIfInBounds_toArray, List.set_cons_zero, List.set_cons_succ, i64_w, i32_w]
    rfl
  refine pure_ (i := 12) (N := some 13) (v := ?_) (a' := ?_) #[true, true, true, true, true, true, true, true, true, true, true, true, true, false] rfl rfl (by kernel_rfl) (fun _ _ _ h => h) (Or.inl ⟨by rfl, ?_⟩) ?_ ?_
  rotate_left
  · intro w'
    go_simp
    with_reducible rfl
  rotate_left
  · simp only [Act.put, List.setIfInBounds_toArray, List.set_cons_zero, List.set_cons_succ, i64_w, i32_w]
    rfl
  refine pure_ (i := 13) (N := some 14) (v := ?_) (a' := ?_) #[true, true, true, true, true, true, true, true, true, true, true, true, true, true] rfl rfl (by kernel_rfl) (fun _ _ _ h => h) (Or.inl ⟨by rfl, ?_⟩) ?_ ?_
  rotate_left
  · intro w'
    go_simp
    with_reducible rfl
  rotate_left
  · simp only [Act.put, List.setIfInBounds_toArray, List.set_cons_zero, List.set_cons_succ, i64_w, i32_w]
    rfl
  refine done_ (by kernel_rfl) ?_
  have HE4 := Aside0.mk (HE3.out.trans X4.out)
  have kr4 := X4.out.kept HN3.out HR3.out
  have HR4 := Aside0.mk kr4.1
  have HN4 := Aside0.mk kr4.2
  have HL4 := HL3
  clear kr4
  go_upto_region 11 with fail
  have hz4 := (show (v4.drew).cell? ⟨g, 65, none⟩ = some (.int .i64 h.t) from (HD.out.below (S.below HS4.out)).t)
  have C5 : Aside0 (v4.drew.cell? ⟨g, 65, none⟩ = some (.int .i64 h.t)) := ⟨hz4⟩
  have HRd5 : Aside0 ((World.drew v4).heap[gb]? = _) := ⟨HR4.out⟩
  refine start_ (n := 10) (S := fun w' => w'.cell? ⟨g, 65, none⟩ = some (.int .i64 h.t)) (ds := []) #[false, false, false, false, false, false, false, false, false, false] (by kernel_rfl) rfl rfl C5.out (fun hHeld => ?_)
  refine take_ (i := 0) (N := some 73) (v := ?_) (a' := ?_) #[true, false, false, false, false, false, false, false, false, false] rfl rfl (by kernel_rfl) (fun _ _ _ h => h) (Or.inl ⟨by rfl, ?_⟩) hHeld ?_ ?_
  rotate_left
  · rintro w' s0
    go_simp
    with_reducible rfl
  rotate_left
  · simp only [Act.put, List.setIfInBounds_toArray, List.set_cons_zero, List.set_cons_succ, i64_w, i32_w]
    rfl
  refine pure_ (i := 1) (N := some 74) (v := ?_) (a' := ?_) #[true, true, false, false, false, false, false, false, false, false] rfl rfl (by kernel_rfl) (fun _ _ _ h => h) (Or.inl ⟨by rfl, ?_⟩) ?_ ?_
  rotate_left
  · intro w'
    go_simp
    with_reducible rfl
  rotate_left
  · simp only [Act.put, List.setIfInBounds_toArray, List.set_cons_zero, List.set_cons_succ, i64_w, i32_w]
    rfl
  refine pure_ (i := 2) (N := some 75) (v := ?_) (a' := ?_) #[true, true, true, false, false, false, false, false, false, false] rfl rfl (by kernel_rfl) (fun _ _ _ h => h) (Or.inl ⟨by rfl, ?_⟩) ?_ ?_
  rotate_left
  · intro w'
    go_simp
    with_reducible rfl
  rotate_left
  · simp only [Act.put, List.setIfInBounds_toArray, List.set_cons_zero, List.set_cons_succ, i64_w, i32_w]
    rfl
  refine pure_ (i := 3) (N := some 76) (v := ?_) (a' := ?_) #[true, true, true, true, false, false, false, false, false, false] rfl rfl (by kernel_rfl) (fun _ _ _ h => h) (Or.inl ⟨by rfl, ?_⟩) ?_ ?_
  rotate_left
  · intro w'
    go_simp
    with_reducible rfl
  rotate_left
  · simp only [Act.put, List.setIfInBounds_toArray, List.set_cons_zero, List.set_cons_succ, i64_w, i32_w]
    rfl
  refine pure_ (i := 4) (N := some 77) (v := ?_) (a' := ?_) #[true, true, true, true, true, false, false, false, false, false] rfl rfl (by kernel_rfl) (fun _ _ _ h => h) (Or.inl ⟨by rfl, ?_⟩) ?_ ?_
  rotate_left
  · intro w'
    go_simp
    with_reducible rfl
  rotate_left
  · simp only [Act.put, List.setIfInBounds_toArray, List.set_cons_zero, List.set_cons_succ, i64_w, i32_w]
    rfl
  refine pure_ (i := 5) (N := some 78) (v := ?_) (a' := ?_) #[true, true, true, true, true, true, false, false, false, false] rfl rfl (by kernel_rfl) (fun _ _ _ h => h) (Or.inl ⟨by rfl, ?_⟩) ?_ ?_
  rotate_left
  · intro w'
    go_simp
    with_reducible rfl
  rotate_left
  · simp only [Act.put, List.setIfInBounds_toArray, List.set_cons_zero, List.set_cons_succ, i64_w, i32_w]
    rfl
  refine take_ (i := 6) (N := some 79) (v := ?_) (a' := ?_) #[true, true, true, true, true, true, true, false, false, false] rfl rfl (by kernel_rfl) (fun _ _ _ h => h) (Or.inl ⟨by rfl, ?_⟩) hHeld ?_ ?_
  rotate_left
  · rintro w' s0
    go_simp
    with_reducible rfl
  rotate_left
  · simp only [Act.put, List.setIfInBounds_toArray, List.set_cons_zero, List.set_cons_succ, i64_w, i32_w]
    rfl
  refine one_ (i := 7) (N := some 80) #[true, true, true, true, true, true, true, true, false, false] rfl rfl (by kernel_rfl) (by decide) (fun K hK => ?_)
  refine goes_ Tryd.func33 (by kernel_rfl) rfl #[.agg #[.int .i64 h.t]] (by rfl) rfl rfl (by (try simp only [List.map_toArray, List.map_cons, List.map_nil]); first | done | rfl | (simp only [List.length_drop, List.length_take]; rfl)) ?_
  with_reducible refine (timeUnixC h.t _).mono ?_
  rintro e wt ⟨rfl, k1⟩
  refine ⟨_, rfl, ?_⟩
  have HRe5 := Aside0.mk ((k1.block gb (blk_lt' HRd5.out)).trans HRd5.out)
  have PT5 : Aside0 (Below v4.heap.size v4 wt) := ⟨⟨k1.os, k1.tape, k1.output, k1.size, k1.block⟩⟩
  have CT : wt.cell? ⟨g, 65, none⟩ = some (.int .i64 h.t) := pw_cell_below k1 hHeld
  clear k1
  refine hK.out _ _ CT (fun hHeld => ?_)
  clear hK K
  refine norm_ (a' := ?_) ?_ ?_
  rotate_left
  · show Act.put _ (some 80) _ = _
    simp only [Act.put, List.setIfInBounds_toArray, List.set_cons_zero, List.set_cons_succ, i64_w, i32_w]
    rfl
  refine pure_ (i := 8) (N := some 81) (v := ?_) (a' := ?_) #[true, true, true, true, true, true, true, true, true, false] rfl rfl (by kernel_rfl) (fun _ _ _ h => h) (Or.inl ⟨by rfl, ?_⟩) ?_ ?_
  rotate_left
  · intro w'
    go_simp
    with_reducible rfl
  rotate_left
  · simp only [Act.put, List.setIfInBounds_toArray, List.set_cons_zero, List.set_cons_succ, i64_w, i32_w]
    rfl
  refine one_ (i := 9) (N := some 82) #[true, true, true, true, true, true, true, true, true, true] rfl rfl (by kernel_rfl) (by decide) (fun K hK => ?_)
  refine goes_ Tryd.func53 (by kernel_rfl) rfl #[.agg #[], .slice (some ⟨gb, 0, none⟩) 4 8, .int .u32 (h.t % 4294967296)] (by rfl) rfl rfl (by (try simp only [List.map_toArray, List.map_cons, List.map_nil]); first | done | rfl | (simp only [List.length_drop, List.length_take]; rfl)) ?_
  with_reducible refine (lput4C gb 0 4 8 _ _ (h.t % 4294967296) (.agg #[]) _ HRe5.out (by rw [HL4.out]; decide) (by decide)).mono ?_
  rintro e v5 ⟨rfl, k1, k2⟩
  refine ⟨_, rfl, ?_⟩
  have HR5 := Aside0.mk k1
  have P5 : Aside0 (Only gb v4 v5) := ⟨(Only.of_below (g := gb) PT5.out).trans ⟨k2.os, k2.tape, k2.output, k2.size, k2.block⟩⟩
  have K2 := k2
  clear k1
  refine hK.out _ _ (by have := K2; exact this.cell (p := ⟨g, 65, none⟩) (by intro e; have h1 : g = gb := e; have h2 := HD.out.lt; have h3 := HG0.out; omega) hHeld) (fun hHeld => ?_)
  clear hK K
  refine norm_ (a' := ?_) ?_ ?_
  rotate_left
  · show Act.put _ (some 82) _ = _
    simp only [Act.put, List.setIfInBounds_toArray, List.set_cons_zero, List.set_cons_succ, i64_w, i32_w]
    rfl
  refine done_ (by kernel_rfl) ?_
  obtain ⟨hs5, he5, hn5⟩ := only_step HS4.out HE4.out HGE.out HG0.out HN4.out P5.out
  have HS5 := Aside0.mk hs5
  have HE5 := Aside0.mk he5
  have HN5 := Aside0.mk hn5
  have HL5 : Aside0 ((lput4 (lput4 l 0 (h.v % 4294967296)) 0 (h.t % 4294967296)).length = 8) := ⟨by rw [lput4_len]; exact HL4.out⟩
  clear K2
  clear hs5 he5 hn5 hHeld
  clear hz4
  go_upto_region 12 with fail
  obtain ⟨q6, hq6⟩ : ∃ q, q = le4 (h.t % 4294967296) := ⟨_, rfl⟩
  have HQ6 := Aside0.mk hq6
  have HW6 : Aside0 (Calls Tryd.prog f #[v, .slice (some ⟨gb, 0, none⟩) 4 8] (World.drew v5) fun e w' => e = .returned (.tuple #[.int .i64 4, .nilIface]) ∧ S.St w' ((((bs0 ++ q2) ++ q3) ++ q4) ++ q6) ∧ Step S v5 w') := ⟨by
    subst hq6
    have b0 := below_step HS5.out (show Below v5.heap.size v5 v5.drew from ⟨rfl, rfl, rfl, Nat.le_refl _, fun _ _ => rfl⟩)
    exact (S.writeC b0.1 (le4_len _) (by have h1 := HM.out; have h2 := HB0.out; have h3 := HO.out.p; have h4 := HO.out.r; subst h2; have hq2 := congrArg List.length HQ2.out; (try simp only [le4_len] at hq2);  have hq3 := congrArg List.length HQ3.out; (try simp only [le4_len] at hq3);  have hq4 := congrArg List.length HQ4.out; (try simp only [le4_len] at hq4); (try simp only [List.length_append, le4_len, List.length_take]); omega) (by decide) (by have := read4 (w := v5) HR5.out HL5.out; rw [lput4_take _ _ (by have := HL5.out; rw [lput4_len] at this; omega)] at this; exact this) (fun _ a e hw => by obtain rfl := Option.some.inj e; exact HN5.out (b0.2.grow gb hw |>.elim id (fun h => absurd (blk_lt' HR5.out) (Nat.not_lt.2 h))))).mono fun e w' ⟨h1, h2, h3⟩ => ⟨h1, h2, b0.2.trans h3⟩⟩
  clear hq6
  have hnl : ∀ W : World, True := fun _ => trivial
  clear hnl
  refine start_ (n := 12) (S := fun w' => True) (ds := []) #[false, false, false, false, false, false, false, false, false, false, false, false] (by kernel_rfl) rfl rfl trivial (fun hHeld => ?_)
  refine pure_ (i := 0) (N := some 84) (v := ?_) (a' := ?_) #[true, false, false, false, false, false, false, false, false, false, false, false] rfl rfl (by kernel_rfl) (fun _ _ _ h => h) (Or.inl ⟨by rfl, ?_⟩) ?_ ?_
  rotate_left
  · intro w'
    go_simp
    with_reducible rfl
  rotate_left
  · simp only [Act.put, List.setIfInBounds_toArray, List.set_cons_zero, List.set_cons_succ, i64_w, i32_w]
    rfl
  refine pure_ (i := 1) (N := some 85) (v := ?_) (a' := ?_) #[true, true, false, false, false, false, false, false, false, false, false, false] rfl rfl (by kernel_rfl) (fun _ _ _ h => h) (Or.inl ⟨by rfl, ?_⟩) ?_ ?_
  rotate_left
  · intro w'
    go_simp
    with_reducible rfl
  rotate_left
  · simp only [Act.put, List.setIfInBounds_toArray, List.set_cons_zero, List.set_cons_succ, i64_w, i32_w]
    rfl
  refine pure_ (i := 2) (N := some 86) (v := ?_) (a' := ?_) #[true, true, true, false, false, false, false, false, false, false, false, false] rfl rfl (by kernel_rfl) (fun _ _ _ h => h) (Or.inl ⟨by rfl, ?_⟩) ?_ ?_
  rotate_left
  · intro w'
    go_simp
    with_reducible rfl
  rotate_left
  · simp only [Act.put, List.setIfInBounds_toArray, List.set_cons_zero, List.set_cons_succ, i64_w, i32_w]
    rfl
  refine pure_ (i := 3) (N := some 87) (v := ?_) (a' := ?_) #[true, true, true, true, false, false, false, false, false, false, false, false] rfl rfl (by kernel_rfl) (fun _ _ _ h => h) (Or.inl ⟨by rfl, ?_⟩) ?_ ?_
  rotate_left
  · intro w'
    go_simp
    with_reducible rfl
  rotate_left
  · simp only [Act.put, List.setIfInBounds_toArray, List.set_cons_zero, List.set_cons_succ, i64_w, i32_w]
    rfl
  refine pure_ (i := 4) (N := some 88) (v := ?_) (a' := ?_) #[true, true, true, true, true, false, false, false, false, false, false, false] rfl rfl (by kernel_rfl) (fun _ _ _ h => h) (Or.inl ⟨by rfl, ?_⟩) ?_ ?_
  rotate_left
  · intro w'
    refine nil_run S.nil _ (.tmp 87) ?_ ?_ <;> rfl
  rotate_left
  · simp only [Act.put, List.setIfInBounds_toArray, List.set_cons_zero, List.set_cons_succ, i64_w, i32_w]
    rfl
  refine pure_ (i := 5) (N := some 89) (v := ?_) (a' := ?_) #[true, true, true, true, true, true, false, false, false, false, false, false] rfl rfl (by kernel_rfl) (fun _ _ _ h => h) (Or.inl ⟨by rfl, ?_⟩) ?_ ?_
  rotate_left
  · intro w'
    go_simp
    with_reducible rfl
  rotate_left
  · simp only [Act.put, List.setIfInBounds_toArray, List.set_cons_zero, List.set_cons_succ, i64_w, i32_w]
    rfl
  refine one_ (i := 6) (N := some 90) #[true, true, true, true, true, true, true, false, false, false, false, false] rfl rfl (by kernel_rfl) (by decide) (fun K hK => ?_)
  refine goesI_ (by rfl) rfl (.tmp 89) "Write" rfl T v rfl f S.meth HF.out HNM.out HBD.out #[v, .slice (some ⟨gb, 0, none⟩) 4 8] (by (try simp only [List.map_toArray, List.map_cons, List.map_nil]); first | done | rfl | (simp only [List.length_drop, List.length_take]; rfl)) ?_
  with_reducible refine HW6.out.mono ?_
  rintro e v6 ⟨rfl, k1, k2⟩
  refine ⟨_, rfl, ?_⟩
  have HS6 := Aside0.mk k1
  have X6 := Aside0.mk k2
  clear k1 k2
  refine hK.out _ _ trivial (fun hHeld => ?_)
  clear hK K
  refine norm_ (a' := ?_) ?_ ?_
  rotate_left
  · show Act.put _ (some 90) _ = _
    simp only [Act.put, List.setIfInBounds_toArray, List.set_cons_zero, List.set_cons_succ, i64_w, i32_w]
    rfl
  refine pure_ (i := 7) (N := some 83) (v := ?_) (a' := ?_) #[true, true, true, true, true, true, true, true, false, false, false, false] rfl rfl (by kernel_rfl) (fun _ _ _ h => h) (Or.inl ⟨by rfl, ?_⟩) ?_ ?_
  rotate_left
  · intro w'
    go_simp
    with_reducible rfl
  rotate_left
  · simp only [Act.put, List.setIfInBounds_toArray, List.set_cons_zero, List.set_cons_succ, i64_w, i32_w]
    rfl
  refine pure_ (i := 8) (N := some 91) (v := ?_) (a' := ?_) #[true, true, true, true, true, true, true, true, true, false, false, false] rfl rfl (by kernel_rfl) (fun _ _ _ h => h) (Or.inl ⟨by rfl, ?_⟩) ?_ ?_
  rotate_left
  · intro w'
    go_simp
    with_reducible rfl
  rotate_left
  · simp only [Act.put, List.setIfInBounds_toArray, List.set_cons_zero, List.set_cons_succ, i64_w, i32_w]
    rfl
  refine pure_ (i := 9) (N := some 92) (v := ?_) (a' := ?_) #[true, true, true, true, true, true, true, true, true, true, false, false] rfl rfl (by kernel_rfl) (fun _ _ _ h => h) (Or.inl ⟨by rfl, ?_⟩) ?_ ?_
  rotate_left
  · intro w'
    go_simp
    with_reducible rfl
  rotate_left
  · simp only [Act.put, List.setIfInBounds_toArray, List.set_cons_zero, List.set_cons_succ, i64_w, i32_w]
    rfl
  refine pure_ (i := 10) (N := some 15) (v := ?_) (a' := ?_) #[true, true, true, true, true, true, true, true, true, true, true, false] rfl rfl (by kernel_rfl) (fun _ _ _ h => h) (Or.inl ⟨by rfl, ?_⟩) ?_ ?_
  rotate_left
  · intro w'
    go_simp
    with_reducible rfl
  rotate_left
  · simp only [Act.put, List.setIfInBounds_toArray, List.set_cons_zero, List.set_cons_succ, i64_w, i32_w]
    rfl
  refine pure_ (i := 11) (N := some 16) (v := ?_) (a' := ?_) #[true, true, true, true, true, true, true, true, true, true, true, true] rfl rfl (by kernel_rfl) (fun _ _ _ h => h) (Or.inl ⟨by rfl, ?_⟩) ?_ ?_
  rotate_left
  · intro w'
    go_simp
    with_reducible rfl
  rotate_left
  · simp only [Act.put, List.setIfInBounds_toArray, List.set_cons_zero, List.set_cons_succ, i64_w, i32_w]
    rfl
  refine done_ (by kernel_rfl) ?_
  have HE6 := Aside0.mk (HE5.out.trans X6.out)
  have kr6 := X6.out.kept HN5.out HR5.out
  have HR6 := Aside0.mk kr6.1
  have HN6 := Aside0.mk kr6.2
  have HL6 := HL5
  clear kr6
  go_upto_region 15 with fail
  have hz6 := (show (v6.drew).cell? ⟨g, 66, none⟩ = some (.int .u32 h.b) from (HD.out.below (S.below HS6.out)).b)
  have C7 : Aside0 (v6.drew.cell? ⟨g, 66, none⟩ = some (.int .u32 h.b)) := ⟨hz6⟩
  have HRd7 : Aside0 ((World.drew v6).heap[gb]? = _) := ⟨HR6.out⟩
  refine start_ (n := 8) (S := fun w' => w'.cell? ⟨g, 66, none⟩ = some (.int .u32 h.b)) (ds := []) #[false, false, false, false, false, false, false, false] (by kernel_rfl) rfl rfl C7.out (fun hHeld => ?_)
  refine take_ (i := 0) (N := some 96) (v := ?_) (a' := ?_) #[true, false, false, false, false, false, false, false] rfl rfl (by kernel_rfl) (fun _ _ _ h => h) (Or.inl ⟨by rfl, ?_⟩) hHeld ?_ ?_
  rotate_left
  · rintro w' s0
    go_simp
    with_reducible rfl
  rotate_left
  · simp only [Act.put, List.setIfInBounds_toArray, List.set_cons_zero, List.set_cons_succ, i64_w, i32_w]
    rfl
  refine pure_ (i := 1) (N := some 97) (v := ?_) (a' := ?_) #[true, true, false, false, false, false, false, false] rfl rfl (by kernel_rfl) (fun _ _ _ h => h) (Or.inl ⟨by rfl, ?_⟩) ?_ ?_
  rotate_left
  · intro w'
    go_simp
    with_reducible rfl
  rotate_left
  · simp only [Act.put, List.setIfInBounds_toArray, List.set_cons_zero, List.set_cons_succ, i64_w, i32_w]
    rfl
  refine pure_ (i := 2) (N := some 98) (v := ?_) (a' := ?_) #[true, true, true, false, false, false, false, false] rfl rfl (by kernel_rfl) (fun _ _ _ h => h) (Or.inl ⟨by rfl, ?_⟩) ?_ ?_
  rotate_left
  · intro w'
    go_simp
    with_reducible rfl
  rotate_left
  · simp only [Act.put, List.setIfInBounds_toArray, List.set_cons_zero, List.set_cons_succ, i64_w, i32_w]
    rfl
  refine pure_ (i := 3) (N := some 99) (v := ?_) (a' := ?_) #[true, true, true, true, false, false, false, false] rfl rfl (by kernel_rfl) (fun _ _ _ h => h) (Or.inl ⟨by rfl, ?_⟩) ?_ ?_
  rotate_left
  · intro w'
    go_simp
    with_reducible rfl
  rotate_left
  · simp only [Act.put, List.setIfInBounds_toArray, List.set_cons_zero, List.set_cons_succ, i64_w, i32_w]
    rfl
  refine pure_ (i := 4) (N := some 100) (v := ?_) (a' := ?_) #[true, true, true, true, true, false, false, false] rfl rfl (by kernel_rfl) (fun _ _ _ h => h) (Or.inl ⟨by rfl, ?_⟩) ?_ ?_
  rotate_left
  · intro w'
    go_simp
    with_reducible rfl
  rotate_left
  · simp only [Act.put, List.setIfInBounds_toArray, List.set_cons_zero, List.set_cons_succ, i64_w, i32_w]
    rfl
  refine pure_ (i := 5) (N := some 101) (v := ?_) (a' := ?_) #[true, true, true, true, true, true, false, false] rfl rfl (by kernel_rfl) (fun _ _ _ h => h) (Or.inl ⟨by rfl, ?_⟩) ?_ ?_
  rotate_left
  · intro w'
    go_simp
    with_reducible rfl
  rotate_left
  · simp only [Act.put, List.setIfInBounds_toArray, List.set_cons_zero, List.set_cons_succ, i64_w, i32_w]
    rfl
  refine take_ (i := 6) (N := some 102) (v := ?_) (a' := ?_) #[true, true, true, true, true, true, true, false] rfl rfl (by kernel_rfl) (fun _ _ _ h => h) (Or.inl ⟨by rfl, ?_⟩) hHeld ?_ ?_
  rotate_left
  · rintro w' s0
    go_simp
    with_reducible rfl
  rotate_left
  · simp only [Act.put, List.setIfInBounds_toArray, List.set_cons_zero, List.set_cons_succ, i64_w, i32_w]
    rfl
  refine one_ (i := 7) (N := some 103) #[true, true, true, true, true, true, true, true] rfl rfl (by kernel_rfl) (by decide) (fun K hK => ?_)
  refine goes_ Tryd.func53 (by kernel_rfl) rfl #[.agg #[], .slice (some ⟨gb, 0, none⟩) 4 8, .int .u32 (h.b)] (by rfl) rfl rfl (by (try simp only [List.map_toArray, List.map_cons, List.map_nil]); first | done | rfl | (simp only [List.length_drop, List.length_take]; rfl)) ?_
  with_reducible refine (lput4C gb 0 4 8 _ _ (h.b) (.agg #[]) _ HRd7.out (by rw [HL6.out]; decide) (by decide)).mono ?_
  rintro e v7 ⟨rfl, k1, k2⟩
  refine ⟨_, rfl, ?_⟩
  have HR7 := Aside0.mk k1
  have P7 : Aside0 (Only gb v6 v7) := ⟨⟨k2.os, k2.tape, k2.output, k2.size, k2.block⟩⟩
  clear k1 k2
  refine hK.out _ _ (by have := P7.out; exact this.cell (p := ⟨g, 66, none⟩) (by intro e; have h1 : g = gb := e; have h2 := HD.out.lt; have h3 := HG0.out; omega) hHeld) (fun hHeld => ?_)
  clear hK K
  refine norm_ (a' := ?_) ?_ ?_
  rotate_left
  · show Act.put _ (some 103) _ = _
    simp only [Act.put, List.setIfInBounds_toArray, List.set_cons_zero, List.set_cons_succ, i64_w, i32_w]
    rfl
  refine done_ (by kernel_rfl) ?_
  obtain ⟨hs7, he7, hn7⟩ := only_step HS6.out HE6.out HGE.out HG0.out HN6.out P7.out
  have HS7 := Aside0.mk hs7
  have HE7 := Aside0.mk he7
  have HN7 := Aside0.mk hn7
  have HL7 : Aside0 ((lput4 (lput4 (lput4 l 0 (h.v % 4294967296)) 0 (h.t % 4294967296)) 0 (h.b)).length = 8) := ⟨by rw [lput4_len]; exact HL6.out⟩
  clear hs7 he7 hn7 hHeld
  clear hz6
  go_upto_region 16 with fail
  obtain ⟨q8, hq8⟩ : ∃ q, q = le4 (h.b) := ⟨_, rfl⟩
  have HQ8 := Aside0.mk hq8
  have HW8 : Aside0 (Calls Tryd.prog f #[v, .slice (some ⟨gb, 0, none⟩) 4 8] (World.drew v7) fun e w' => e = .returned (.tuple #[.int .i64 4, .nilIface]) ∧ S.St w' (((((bs0 ++ q2) ++ q3) ++ q4) ++ q6) ++ q8) ∧ Step S v7 w') := ⟨by
    subst hq8
    have b0 := below_step HS7.out (show Below v7.heap.size v7 v7.drew from ⟨rfl, rfl, rfl, Nat.le_refl _, fun _ _ => rfl⟩)
    exact (S.writeC b0.1 (le4_len _) (by have h1 := HM.out; have h2 := HB0.out; have h3 := HO.out.p; have h4 := HO.out.r; subst h2; have hq2 := congrArg List.length HQ2.out; (try simp only [le4_len] at hq2);  have hq3 := congrArg List.length HQ3.out; (try simp only [le4_len] at hq3);  have hq4 := congrArg List.length HQ4.out; (try simp only [le4_len] at hq4);  have hq6 := congrArg List.length HQ6.out; (try simp only [le4_len] at hq6); (try simp only [List.length_append, le4_len, List.length_take]); omega) (by decide) (by have := read4 (w := v7) HR7.out HL7.out; rw [lput4_take _ _ (by have := HL7.out; rw [lput4_len] at this; omega)] at this; exact this) (fun _ a e hw => by obtain rfl := Option.some.inj e; exact HN7.out (b0.2.grow gb hw |>.elim id (fun h => absurd (blk_lt' HR7.out) (Nat.not_lt.2 h))))).mono fun e w' ⟨h1, h2, h3⟩ => ⟨h1, h2, b0.2.trans h3⟩⟩
  clear hq8
  have hnl : ∀ W : World, True := fun _ => trivial
  clear hnl
  refine start_ (n := 12) (S := fun w' => True) (ds := []) #[false, false, false, false, false, false, false, false, false, false, false, false] (by kernel_rfl) rfl rfl trivial (fun hHeld => ?_)
  refine pure_ (i := 0) (N := some 105) (v := ?_) (a' := ?_) #[true, false, false, false, false, false, false, false, false, false, false, false] rfl rfl (by kernel_rfl) (fun _ _ _ h => h) (Or.inl ⟨by rfl, ?_⟩) ?_ ?_
  rotate_left
  · intro w'
    go_simp
    with_reducible rfl
  rotate_left
  · simp only [Act.put, List.setIfInBounds_toArray, List.set_cons_zero, List.set_cons_succ, i64_w, i32_w]
    rfl
  refine pure_ (i := 1) (N := some 106) (v := ?_) (a' := ?_) #[true, true, false, false, false, false, false, false, false, false, false, false] rfl rfl (by kernel_rfl) (fun _ _ _ h => h) (Or.inl ⟨by rfl, ?_⟩) ?_ ?_
  rotate_left
  · intro w'
    go_simp
    with_reducible rfl
  rotate_left
  · simp only [Act.put, List.setIfInBounds_toArray, List.set_cons_zero, List.set_cons_succ, i64_w, i32_w]
    rfl
  refine pure_ (i := 2) (N := some 107) (v := ?_) (a' := ?_) #[true, true, true, false, false, false, false, false, false, false, false, false] rfl rfl (by kernel_rfl) (fun _ _ _ h => h) (Or.inl ⟨by rfl, ?_⟩) ?_ ?_
  rotate_left
  · intro w'
    go_simp
    with_reducible rfl
  rotate_left
  · simp only [Act.put, List.setIfInBounds_toArray, List.set_cons_zero, List.set_cons_succ, i64_w, i32_w]
    rfl
  refine pure_ (i := 3) (N := some 108) (v := ?_) (a' := ?_) #[true, true, true, true, false, false, false, false, false, false, false, false] rfl rfl (by kernel_rfl) (fun _ _ _ h => h) (Or.inl ⟨by rfl, ?_⟩) ?_ ?_
  rotate_left
  · intro w'
    go_simp
    with_reducible rfl
  rotate_left
  · simp only [Act.put, List.setIfInBounds_toArray, List.set_cons_zero, List.set_cons_succ, i64_w, i32_w]
    rfl
  refine pure_ (i := 4) (N := some 109) (v := ?_) (a' := ?_) #[true, true, true, true, true, false, false, false, false, false, false, false] rfl rfl (by kernel_rfl) (fun _ _ _ h => h) (Or.inl ⟨by rfl, ?_⟩) ?_ ?_
  rotate_left
  · intro w'
    refine nil_run S.nil _ (.tmp 108) ?_ ?_ <;> rfl
  rotate_left
  · simp only [Act.put, List.setIfInBounds_toArray, List.set_cons_zero, List.set_cons_succ, i64_w, i32_w]
    rfl
  refine pure_ (i := 5) (N := some 110) (v := ?_) (a' := ?_) #[true, true, true, true, true, true, false, false, false, false, false, false] rfl rfl (by kernel_rfl) (fun _ _ _ h => h) (Or.inl ⟨by rfl, ?_⟩) ?_ ?_
  rotate_left
  · intro w'
    go_simp
    with_reducible rfl
  rotate_left
  · simp only [Act.put, List.setIfInBounds_toArray, List.set_cons_zero, List.set_cons_succ, i64_w, i32_w]
    rfl
  refine one_ (i := 6) (N := some 111) #[true, true, true, true, true, true, true, false, false, false, false, false] rfl rfl (by kernel_rfl) (by decide) (fun K hK => ?_)
  refine goesI_ (by rfl) rfl (.tmp 110) "Write" rfl T v rfl f S.meth HF.out HNM.out HBD.out #[v, .slice (some ⟨gb, 0, none⟩) 4 8] (by (try simp only [List.map_toArray, List.map_cons, List.map_nil]); first | done | rfl | (simp only [List.length_drop, List.length_take]; rfl)) ?_
  with_reducible refine HW8.out.mono ?_
  rintro e v8 ⟨rfl, k1, k2⟩
  refine ⟨_, rfl, ?_⟩
  have HS8 := Aside0.mk k1
  have X8 := Aside0.mk k2
  clear k1 k2
  refine hK.out _ _ trivial (fun hHeld => ?_)
  clear hK K
  refine norm_ (a' := ?_) ?_ ?_
  rotate_left
  · show Act.put _ (some 111) _ = _
    simp only [Act.put, List.setIfInBounds_toArray, List.set_cons_zero, List.set_cons_succ, i64_w, i32_w]
    rfl
  refine pure_ (i := 7) (N := some 104) (v := ?_) (a' := ?_) #[true, true, true, true, true, true, true, true, false, false, false, false] rfl rfl (by kernel_rfl) (fun _ _ _ h => h) (Or.inl ⟨by rfl, ?_⟩) ?_ ?_
  rotate_left
  · intro w'
    go_simp
    with_reducible rfl
  rotate_left
  · simp only [Act.put, List.setIfInBounds_toArray, List.set_cons_zero, List.set_cons_succ, i64_w, i32_w]
    rfl
  refine pure_ (i := 8) (N := some 112) (v := ?_) (a' := ?_) #[true, true, true, true, true, true, true, true, true, false, false, false] rfl rfl (by kernel_rfl) (fun _ _ _ h => h) (Or.inl ⟨by rfl, ?_⟩) ?_ ?_
  rotate_left
  · intro w'
    go_simp
    with_reducible rfl
  rotate_left
  · simp only [Act.put, List.setIfInBounds_toArray, List.set_cons_zero, List.set_cons_succ, i64_w, i32_w]
    rfl
  refine pure_ (i := 9) (N := some 113) (v := ?_) (a' := ?_) #[true, true, true, true, true, true, true, true, true, true, false, false] rfl rfl (by kernel_rfl) (fun _ _ _ h => h) (Or.inl ⟨by rfl, ?_⟩) ?_ ?_
  rotate_left
  · intro w'
    go_simp
    with_reducible rfl
  rotate_left
  · simp only [Act.put, List.setIfInBounds_toArray, List.set_cons_zero, List.set_cons_succ, i64_w, i32_w]
    rfl
  refine pure_ (i := 10) (N := some 17) (v := ?_) (a' := ?_) #[true, true, true, true, true, true, true, true, true, true, true, false] rfl rfl (by kernel_rfl) (fun _ _ _ h => h) (Or.inl ⟨by rfl, ?_⟩) ?_ ?_
  rotate_left
  · intro w'
    go_simp
    with_reducible rfl
  rotate_left
  · simp only [Act.put, List.setIfInBounds_toArray, List.set_cons_zero, List.set_cons_succ, i64_w, i32_w]
    rfl
  refine pure_ (i := 11) (N := some 18) (v := ?_) (a' := ?_) #[true, true, true, true, true, true, true, true, true, true, true, true] rfl rfl (by kernel_rfl) (fun _ _ _ h => h) (Or.inl ⟨by rfl, ?_⟩) ?_ ?_
  rotate_left
  · intro w'
    go_simp
    with_reducible rfl
  rotate_left
  · simp only [Act.put, List.setIfInBounds_toArray, List.set_cons_zero, List.set_cons_succ, i64_w, i32_w]
    rfl
  refine done_ (by kernel_rfl) ?_
  have HE8 := Aside0.mk (HE7.out.trans X8.out)
  have kr8 := X8.out.kept HN7.out HR7.out
  have HR8 := Aside0.mk kr8.1
  have HN8 := Aside0.mk kr8.2
  have HL8 := HL7
  clear kr8
  go_upto_region 19 with fail
  have hz8 := (show (v8.drew).cell? ⟨g, 67, none⟩ = some (.int .u32 h.n) from (HD.out.below (S.below HS8.out)).n)
  have C9 : Aside0 (v8.drew.cell? ⟨g, 67, none⟩ = some (.int .u32 h.n)) := ⟨hz8⟩
  have HRd9 : Aside0 ((World.drew v8).heap[gb]? = _) := ⟨HR8.out⟩
  refine start_ (n := 8) (S := fun w' => w'.cell? ⟨g, 67, none⟩ = some (.int .u32 h.n)) (ds := []) #[false, false, false, false, false, false, false, false] (by kernel_rfl) rfl rfl C9.out (fun hHeld => ?_)
  refine take_ (i := 0) (N := some 117) (v := ?_) (a' := ?_) #[true, false, false, false, false, false, false, false] rfl rfl (by kernel_rfl) (fun _ _ _ h => h) (Or.inl ⟨by rfl, ?_⟩) hHeld ?_ ?_
  rotate_left
  · rintro w' s0
    go_simp
    with_reducible rfl
  rotate_left
  · simp only [Act.put, List.setIfInBounds_toArray, List.set_cons_zero, List.set_cons_succ, i64_w, i32_w]
    rfl
  refine pure_ (i := 1) (N := some 118) (v := ?_) (a' := ?_) #[true, true, false, false, false, false, false, false] rfl rfl (by kernel_rfl) (fun _ _ _ h => h) (Or.inl ⟨by rfl, ?_⟩) ?_ ?_
  rotate_left
  · intro w'
    go_simp
    with_reducible rfl
  rotate_left
  · simp only [Act.put, List.setIfInBounds_toArray, List.set_cons_zero, List.set_cons_succ, i64_w, i32_w]
    rfl
  refine pure_ (i := 2) (N := some 119) (v := ?_) (a' := ?_) #[true, true, true, false, false, false, false, false] rfl rfl (by kernel_rfl) (fun _ _ _ h => h) (Or.inl ⟨by rfl, ?_⟩) ?_ ?_
  rotate_left
  · intro w'
    go_simp
    with_reducible rfl
  rotate_left
  · simp only [Act.put, List.setIfInBounds_toArray, List.set_cons_zero, List.set_cons_succ, i64_w, i32_w]
    rfl
  refine pure_ (i := 3) (N := some 120) (v := ?_) (a' := ?_) #[true, true, true, true, false, false, false, false] rfl rfl (by kernel_rfl) (fun _ _ _ h => h) (Or.inl ⟨by rfl, ?_⟩) ?_ ?_
  rotate_left
  · intro w'
    go_simp
    with_reducible rfl
  rotate_left
  · simp only [Act.put, List.setIfInBounds_toArray, List.set_cons_zero, List.set_cons_succ, i64_w, i32_w]
    rfl
  refine pure_ (i := 4) (N := some 121) (v := ?_) (a' := ?_) #[true, true, true, true, true, false, false, false] rfl rfl (by kernel_rfl) (fun _ _ _ h => h) (Or.inl ⟨by rfl, ?_⟩) ?_ ?_
  rotate_left
  · intro w'
    go_simp
    with_reducible rfl
  rotate_left
  · simp only [Act.put, List.setIfInBounds_toArray, List.set_cons_zero, List.set_cons_succ, i64_w, i32_w]
    rfl
  refine pure_ (i := 5) (N := some 122) (v := ?_) (a' := ?_) #[true, true, true, true, true, true, false, false] rfl rfl (by kernel_rfl) (fun _ _ _ h => h) (Or.inl ⟨by rfl, ?_⟩) ?_ ?_
  rotate_left
  · intro w'
    go_simp
    with_reducible rfl
  rotate_left
  · simp only [Act.put, List.setIfInBounds_toArray, List.set_cons_zero, List.set_cons_succ, i64_w, i32_w]
    rfl
  refine take_ (i := 6) (N := some 123) (v := ?_) (a' := ?_) #[true, true, true, true, true, true, true, false] rfl rfl (by kernel_rfl) (fun _ _ _ h => h) (Or.inl ⟨by rfl, ?_⟩) hHeld ?_ ?_
  rotate_left
  · rintro w' s0
    go_simp
    with_reducible rfl
  rotate_left
  · simp only [Act.put, List.setIfInBounds_toArray, List.set_cons_zero, List.set_cons_succ, i64_w, i32_w]
    rfl
  refine one_ (i := 7) (N := some 124) #[true, true, true, true, true, true, true, true] rfl rfl (by kernel_rfl) (by decide) (fun K hK => ?_)
  refine goes_ Tryd.func53 (by kernel_rfl) rfl #[.agg #[], .slice (some ⟨gb, 0, none⟩) 4 8, .int .u32 (h.n)] (by rfl) rfl rfl (by (try simp only [List.map_toArray, List.map_cons, List.map_nil]); first | done | rfl | (simp only [List.length_drop, List.length_take]; rfl)) ?_
  with_reducible refine (lput4C gb 0 4 8 _ _ (h.n) (.agg #[]) _ HRd9.out (by rw [HL8.out]; decide) (by decide)).mono ?_
  rintro e v9 ⟨rfl, k1, k2⟩
  refine ⟨_, rfl, ?_⟩
  have HR9 := Aside0.mk k1
  have P9 : Aside0 (Only gb v8 v9) := ⟨⟨k2.os, k2.tape, k2.output, k2.size, k2.block⟩⟩
  clear k1 k2
  refine hK.out _ _ (by have := P9.out; exact this.cell (p := ⟨g, 67, none⟩) (by intro e; have h1 : g = gb := e; have h2 := HD.out.lt; have h3 := HG0.out; omega) hHeld) (fun hHeld => ?_)
  clear hK K
  refine norm_ (a' := ?_) ?_ ?_
  rotate_left
  · show Act.put _ (some 124) _ = _
    simp only [Act.put, List.setIfInBounds_toArray, List.set_cons_zero, List.set_cons_succ, i64_w, i32_w]
    rfl
  refine done_ (by kernel_rfl) ?_
  obtain ⟨hs9, he9, hn9⟩ := only_step HS8.out HE8.out HGE.out HG0.out HN8.out P9.out
  have HS9 := Aside0.mk hs9
  have HE9 := Aside0.mk he9
  have HN9 := Aside0.mk hn9
  have HL9 : Aside0 ((lput4 (lput4 (lput4 (lput4 l 0 (h.v % 4294967296)) 0 (h.t % 4294967296)) 0 (h.b)) 0 (h.n)).length = 8) := ⟨by rw [lput4_len]; exact HL8.out⟩
  clear hs9 he9 hn9 hHeld
  clear hz8
  go_upto_region 20 with fail
  obtain ⟨q10, hq10⟩ : ∃ q, q = le4 (h.n) := ⟨_, rfl⟩
  have HQ10 := Aside0.mk hq10
  have HW10 : Aside0 (Calls Tryd.prog f #[v, .slice (some ⟨gb, 0, none⟩) 4 8] (World.drew v9) fun e w' => e = .returned (.tuple #[.int .i64 4, .nilIface]) ∧ S.St w' ((((((bs0 ++ q2) ++ q3) ++ q4) ++ q6) ++ q8) ++ q10) ∧ Step S v9 w') := ⟨by
    subst hq10
    have b0 := below_step HS9.out (show Below v9.heap.size v9 v9.drew from ⟨rfl, rfl, rfl, Nat.le_refl _, fun _ _ => rfl⟩)
    exact (S.writeC b0.1 (le4_len _) (by have h1 := HM.out; have h2 := HB0.out; have h3 := HO.out.p; have h4 := HO.out.r; subst h2; have hq2 := congrArg List.length HQ2.out; (try simp only [le4_len] at hq2);  have hq3 := congrArg List.length HQ3.out; (try simp only [le4_len] at hq3);  have hq4 := congrArg List.length HQ4.out; (try simp only [le4_len] at hq4);  have hq6 := congrArg List.length HQ6.out; (try simp only [le4_len] at hq6);  have hq8 := congrArg List.length HQ8.out; (try simp only [le4_len] at hq8); (try simp only [List.length_append, le4_len, List.length_take]); omega) (by decide) (by have := read4 (w := v9) HR9.out HL9.out; rw [lput4_take _ _ (by have := HL9.out; rw [lput4_len] at this; omega)] at this; exact this) (fun _ a e hw => by obtain rfl := Option.some.inj e; exact HN9.out (b0.2.grow gb hw |>.elim id (fun h => absurd (blk_lt' HR9.out) (Nat.not_lt.2 h))))).mono fun e w' ⟨h1, h2, h3⟩ => ⟨h1, h2, b0.2.trans h3⟩⟩
  clear hq10
  have hnl : ∀ W : World, True := fun _ => trivial
  clear hnl
  refine start_ (n := 12) (S := fun w' => True) (ds := []) #[false, false, false, false, false, false, false, false, false, false, false, false] (by kernel_rfl) rfl rfl trivial (fun hHeld => ?_)
  refine pure_ (i := 0) (N := some 126) (v := ?_) (a' := ?_) #[true, false, false, false, false, false, false, false, false, false, false, false] rfl rfl (by kernel_rfl) (fun _ _ _ h => h) (Or.inl ⟨by rfl, ?_⟩) ?_ ?_
  rotate_left
  · intro w'
    go_simp
    with_reducible rfl
  rotate_left
  · simp only [Act.put, List.setIfInBounds_toArray, List.set_cons_zero, List.set_cons_succ, i64_w, i32_w]
    rfl
  refine pure_ (i := 1) (N := some 127) (v := ?_) (a' := ?_) #[true, true, false, false, false, false, false, false, false, false, false, false] rfl rfl (by kernel_rfl) (fun _ _ _ h => h) (Or.inl ⟨by rfl, ?_⟩) ?_ ?_
  rotate_left
  · intro w'
    go_simp
    with_reducible rfl
  rotate_left
  · simp only [Act.put, List.setIfInBounds_toArray, List.set_cons_zero, List.set_cons_succ, i64_w, i32_w]
    rfl
  refine pure_ (i := 2) (N := some 128) (v := ?_) (a' := ?_) #[true, true, true, false, false, false, false, false, false, false, false, false] rfl rfl (by kernel_rfl) (fun _ _ _ h => h) (Or.inl ⟨by rfl, ?_⟩) ?_ ?_
  rotate_left
  · intro w'
    go_simp
    with_reducible rfl
  rotate_left
  · simp only [Act.put, List.setIfInBounds_toArray, List.set_cons_zero, List.set_cons_succ, i64_w, i32_w]
    rfl
  refine pure_ (i := 3) (N := some 129) (v := ?_) (a' := ?_) #[true, true, true, true, false, false, false, false, false, false, false, false] rfl rfl (by kernel_rfl) (fun _ _ _ h => h) (Or.inl ⟨by rfl, ?_⟩) ?_ ?_
  rotate_left
  · intro w'
    go_simp
    with_reducible rfl
  rotate_left
  · simp only [Act.put, List.setIfInBounds_toArray, List.set_cons_zero, List.set_cons_succ, i64_w, i32_w]
    rfl
  refine pure_ (i := 4) (N := some 130) (v := ?_) (a' := ?_) #[true, true, true, true, true, false, false, false, false, false, false, false] rfl rfl (by kernel_rfl) (fun _ _ _ h => h) (Or.inl ⟨by rfl, ?_⟩) ?_ ?_
  rotate_left
  · intro w'
    refine nil_run S.nil _ (.tmp 129) ?_ ?_ <;> rfl
  rotate_left
  · simp only [Act.put, List.setIfInBounds_toArray, List.set_cons_zero, List.set_cons_succ, i64_w, i32_w]
    rfl
  refine pure_ (i := 5) (N := some 131) (v := ?_) (a' := ?_) #[true, true, true, true, true, true, false, false, false, false, false, false] rfl rfl (by kernel_rfl) (fun _ _ _ h => h) (Or.inl ⟨by rfl, ?_⟩) ?_ ?_
  rotate_left
  · intro w'
    go_simp
    with_reducible rfl
  rotate_left
  · simp only [Act.put, List.setIfInBounds_toArray, List.set_cons_zero, List.set_cons_succ, i64_w, i32_w]
    rfl
  refine one_ (i := 6) (N := some 132) #[true, true, true, true, true, true, true, false, false, false, false, false] rfl rfl (by kernel_rfl) (by decide) (fun K hK => ?_)
  refine goesI_ (by rfl) rfl (.tmp 131) "Write" rfl T v rfl f S.meth HF.out HNM.out HBD.out #[v, .slice (some ⟨gb, 0, none⟩) 4 8] (by (try simp only [List.map_toArray, List.map_cons, List.map_nil]); first | done | rfl | (simp only [List.length_drop, List.length_take]; rfl)) ?_
  with_reducible refine HW10.out.mono ?_
  rintro e v10 ⟨rfl, k1, k2⟩
  refine ⟨_, rfl, ?_⟩
  have HS10 := Aside0.mk k1
  have X10 := Aside0.mk k2
  clear k1 k2
  refine hK.out _ _ trivial (fun hHeld => ?_)
  clear hK K
  refine norm_ (a' := ?_) ?_ ?_
  rotate_left
  · show Act.put _ (some 132) _ = _
    simp only [Act.put, List.setIfInBounds_toArray, List.set_cons_zero, List.set_cons_succ, i64_w, i32_w]
    rfl
  refine pure_ (i := 7) (N := some 125) (v := ?_) (a' := ?_) #[true, true, true, true, true, true, true, true, false, false, false, false] rfl rfl (by kernel_rfl) (fun _ _ _ h => h) (Or.inl ⟨by rfl, ?_⟩) ?_ ?_
  rotate_left
  · intro w'
    go_simp
    with_reducible rfl
  rotate_left
  · simp only [Act.put, List.setIfInBounds_toArray, List.set_cons_zero, List.set_cons_succ, i64_w, i32_w]
    rfl
  refine pure_ (i := 8) (N := some 133) (v := ?_) (a' := ?_) #[true, true, true, true, true, true, true, true, true, false, false, false] rfl rfl (by kernel_rfl) (fun _ _ _ h => h) (Or.inl ⟨by rfl, ?_⟩) ?_ ?_
  rotate_left
  · intro w'
    go_simp
    with_reducible rfl
  rotate_left
  · simp only [Act.put, List.setIfInBounds_toArray, List.set_cons_zero, List.set_cons_succ, i64_w, i32_w]
    rfl
  refine pure_ (i := 9) (N := some 134) (v := ?_) (a' := ?_) #[true, true, true, true, true, true, true, true, true, true, false, false] rfl rfl (by kernel_rfl) (fun _ _ _ h => h) (Or.inl ⟨by rfl, ?_⟩) ?_ ?_
  rotate_left
  · intro w'
    go_simp
    with_reducible rfl
  rotate_left
  · simp only [Act.put, List.setIfInBounds_toArray, List.set_cons_zero, List.set_cons_succ, i64_w, i32_w]
    rfl
  refine pure_ (i := 10) (N := some 19) (v := ?_) (a' := ?_) #[true, true, true, true, true, true, true, true, true, true, true, false] rfl rfl (by kernel_rfl) (fun _ _ _ h => h) (Or.inl ⟨by rfl, ?_⟩) ?_ ?_
  rotate_left
  · intro w'
    go_simp
    with_reducible rfl
  rotate_left
  · simp only [Act.put, List.setIfInBounds_toArray, List.set_cons_zero, List.set_cons_succ, i64_w, i32_w]
    rfl
  refine pure_ (i := 11) (N := some 20) (v := ?_) (a' := ?_) #[true, true, true, true, true, true, true, true, true, true, true, true] rfl rfl (by kernel_rfl) (fun _ _ _ h => h) (Or.inl ⟨by rfl, ?_⟩) ?_ ?_
  rotate_left
  · intro w'
    go_simp
    with_reducible rfl
  rotate_left
  · simp only [Act.put, List.setIfInBounds_toArray, List.set_cons_zero, List.set_cons_succ, i64_w, i32_w]
    rfl
  refine done_ (by kernel_rfl) ?_
  have HE10 := Aside0.mk (HE9.out.trans X10.out)
  have kr10 := X10.out.kept HN9.out HR9.out
  have HR10 := Aside0.mk kr10.1
  have HN10 := Aside0.mk kr10.2
  have HL10 := HL9
  clear kr10
  go_wp2_with fail
  go_ret
  refine ⟨rfl, ?_, HE10.out⟩
  have e0 := HB0.out
  have e2 := HQ2.out
  have e3 := HQ3.out
  have e4 := HQ4.out
  have e6 := HQ6.out
  have e8 := HQ8.out
  have e10 := HQ10.out
  have e := HS10.out
  rw [HT.out] at e6
  subst e0 e2 e3 e4 e6 e8 e10
  unfold HdV.bytes
  simpa only [List.append_assoc] using e
end Go.Proofs.YtigpdgfhngknhaaDoor.Snk
/- The hash: rotations. -/
namespace Go.Proofs.YtigpdgfhngknhaaDoor.Sha
open Go.RowKit Go.Proofs.YtigpdgfhngknhaaDoorW.PrintWords Go.Proofs.YtigpdgfhngknhaaDoorW.PrintLast Go.Proofs.YtigpdgfhngknhaaDoorW.PrintMore Go.Proofs.YtigpdgfhngknhaaDoor.QFnTapRoot
set_option linter.unusedVariables false
set_option linter.unusedSimpArgs false
/-- A word turned to the right: by as many places as d has zeros (m: the other way). -/
def rotR (x m d : Int) : Int := bits BinOp.or IntKind.u32 (x * m % 4294967296) (x / d)
set_option maxRecDepth 100000 in
theorem rot2 (x : Int) (w : World) : Calls Tryd.prog 113 #[.int .u32 x, .int .i64 (-2)] w fun e w' => e = .returned (.int .u32 (rotR x 1073741824 4)) ∧ w = w' := by
  have e : bits BinOp.and IntKind.u64 (IntKind.u64.wrap (-2)) 31 = 30 := by kernel_rfl
  go_enter Tryd.func113, Tryd.ntmps113
  go_wp2_with fail
  go_ret
  exact ⟨rfl, rfl⟩
set_option maxRecDepth 100000 in
theorem rot6 (x : Int) (w : World) : Calls Tryd.prog 113 #[.int .u32 x, .int .i64 (-6)] w fun e w' => e = .returned (.int .u32 (rotR x 67108864 64)) ∧ w = w' := by
  have e : bits BinOp.and IntKind.u64 (IntKind.u64.wrap (-6)) 31 = 26 := by kernel_rfl
  go_enter Tryd.func113, Tryd.ntmps113
  go_wp2_with fail
  go_ret
  exact ⟨rfl, rfl⟩
set_option maxRecDepth 100000 in
theorem rot7 (x : Int) (w : World) : Calls Tryd.prog 113 #[.int .u32 x, .int .i64 (-7)] w fun e w' => e = .returned (.int .u32 (rotR x 33554432 128)) ∧ w = w' := by
  have e : bits BinOp.and IntKind.u64 (IntKind.u64.wrap (-7)) 31 = 25 := by kernel_rfl
  go_enter Tryd.func113, Tryd.ntmps113
  go_wp2_with fail
  go_ret
  exact ⟨rfl, rfl⟩
set_option maxRecDepth 100000 in
theorem rot11 (x : Int) (w : World) : Calls Tryd.prog 113 #[.int .u32 x, .int .i64 (-11)] w fun e w' => e = .returned (.int .u32 (rotR x 2097152 2048)) ∧ w = w' := by
  have e : bits BinOp.and IntKind.u64 (IntKind.u64.wrap (-11)) 31 = 21 := by kernel_rfl
  go_enter Tryd.func113, Tryd.ntmps113
  go_wp2_with fail
  go_ret
  exact ⟨rfl, rfl⟩
set_option maxRecDepth 100000 in
theorem rot13 (x : Int) (w : World) : Calls Tryd.prog 113 #[.int .u32 x, .int .i64 (-13)] w fun e w' => e = .returned (.int .u32 (rotR x 524288 8192)) ∧ w = w' := by
  have e : bits BinOp.and IntKind.u64 (IntKind.u64.wrap (-13)) 31 = 19 := by kernel_rfl
  go_enter Tryd.func113, Tryd.ntmps113
  go_wp2_with fail
  go_ret
  exact ⟨rfl, rfl⟩
set_option maxRecDepth 100000 in
theorem rot17 (x : Int) (w : World) : Calls Tryd.prog 113 #[.int .u32 x, .int .i64 (-17)] w fun e w' => e = .returned (.int .u32 (rotR x 32768 131072)) ∧ w = w' := by
  have e : bits BinOp.and IntKind.u64 (IntKind.u64.wrap (-17)) 31 = 15 := by kernel_rfl
  go_enter Tryd.func113, Tryd.ntmps113
  go_wp2_with fail
  go_ret
  exact ⟨rfl, rfl⟩
set_option maxRecDepth 100000 in
theorem rot18 (x : Int) (w : World) : Calls Tryd.prog 113 #[.int .u32 x, .int .i64 (-18)] w fun e w' => e = .returned (.int .u32 (rotR x 16384 262144)) ∧ w = w' := by
  have e : bits BinOp.and IntKind.u64 (IntKind.u64.wrap (-18)) 31 = 14 := by kernel_rfl
  go_enter Tryd.func113, Tryd.ntmps113
  go_wp2_with fail
  go_ret
  exact ⟨rfl, rfl⟩
set_option maxRecDepth 100000 in
theorem rot19 (x : Int) (w : World) : Calls Tryd.prog 113 #[.int .u32 x, .int .i64 (-19)] w fun e w' => e = .returned (.int .u32 (rotR x 8192 524288)) ∧ w = w' := by
  have e : bits BinOp.and IntKind.u64 (IntKind.u64.wrap (-19)) 31 = 13 := by kernel_rfl
  go_enter Tryd.func113, Tryd.ntmps113
  go_wp2_with fail
  go_ret
  exact ⟨rfl, rfl⟩
set_option maxRecDepth 100000 in
theorem rot22 (x : Int) (w : World) : Calls Tryd.prog 113 #[.int .u32 x, .int .i64 (-22)] w fun e w' => e = .returned (.int .u32 (rotR x 1024 4194304)) ∧ w = w' := by
  have e : bits BinOp.and IntKind.u64 (IntKind.u64.wrap (-22)) 31 = 10 := by kernel_rfl
  go_enter Tryd.func113, Tryd.ntmps113
  go_wp2_with fail
  go_ret
  exact ⟨rfl, rfl⟩
set_option maxRecDepth 100000 in
theorem rot25 (x : Int) (w : World) : Calls Tryd.prog 113 #[.int .u32 x, .int .i64 (-25)] w fun e w' => e = .returned (.int .u32 (rotR x 128 33554432)) ∧ w = w' := by
  have e : bits BinOp.and IntKind.u64 (IntKind.u64.wrap (-25)) 31 = 7 := by kernel_rfl
  go_enter Tryd.func113, Tryd.ntmps113
  go_wp2_with fail
  go_ret
  exact ⟨rfl, rfl⟩
end Go.Proofs.YtigpdgfhngknhaaDoor.Sha
/- The hash: blocks. -/
namespace Go.Proofs.YtigpdgfhngknhaaDoor.Sha
open Go.RowKit Go.Proofs.YtigpdgfhngknhaaDoorW.PrintWords Go.Proofs.YtigpdgfhngknhaaDoorW.PrintLast Go.Proofs.YtigpdgfhngknhaaDoorW.PrintMore Go.Proofs.YtigpdgfhngknhaaDoor.QFnTapRoot
set_option linter.unusedVariables false
set_option linter.unusedSimpArgs false
theorem ln64 (x : Int) (h0 : 0 ≤ x) (h1 : x ≤ 9223372036854775807) : wrap64 x = x := by unfold wrap64; omega
theorem meas1 {n i gk : Nat} (h : i ≤ n ∧ n + 1 ≤ i + gk) (h2 : i < n) : gk - 1 < gk := by omega
theorem meas2 {n i gk : Nat} (h : i ≤ n ∧ n + 1 ≤ i + gk) (h2 : i < n) : i + 1 ≤ n ∧ n + 1 ≤ i + 1 + (gk - 1) := by omega
def wordC (l : List Int) : List Value := l.map (Value.int .u32)
def byteC (l : List Int) : List Value := l.map (Value.int .u8)
theorem wordC_len (l : List Int) : (wordC l).length = l.length := List.length_map _
theorem byteC_len (l : List Int) : (byteC l).length = l.length := List.length_map _
theorem wordC_at {l : List Int} {j : Nat} (h : j < l.length) : (wordC l)[j]? = some (.int .u32 (l.getD j 0)) := by
  unfold wordC
  rw [List.getElem?_map, List.getD_eq_getElem?_getD, List.getElem?_eq_getElem h]; rfl
theorem byteC_at {l : List Int} {j : Nat} (h : j < l.length) : (byteC l)[j]? = some (.int .u8 (l.getD j 0)) := by
  unfold byteC
  rw [List.getElem?_map, List.getD_eq_getElem?_getD, List.getElem?_eq_getElem h]; rfl
theorem wordC_set (l : List Int) (j : Nat) (v : Int) : (wordC l).set j (.int .u32 v) = wordC (l.set j v) := by unfold wordC; rw [List.map_set]
/-- The state of a hash in block g. -/
structure Dig (w : World) (g : Nat) (hs xs : List Int) (nx len : Int) : Prop where
  blk : w.heap[g]? = some (.cells (wordC hs ++ (byteC xs ++ [Value.int .i64 nx, Value.int .u64 len, Value.bool false])).toArray 121 (0, 0))
  h8 : hs.length = 8
  x64 : xs.length = 64
theorem Dig.below {w w1 : World} {g : Nat} {hs xs : List Int} {nx len : Int} (h : Dig w g hs xs nx len) (hb : Below w.heap.size w w1) : Dig w1 g hs xs nx len := ⟨(hb.block g (blk_lt' h.blk)).trans h.blk, h.h8, h.x64⟩
theorem Dig.hcell {w : World} {g : Nat} {hs xs : List Int} {nx len : Int} (h : Dig w g hs xs nx len) (j : Nat) (hj : j < 8) : w.cell? ⟨g, j, none⟩ = some (.int .u32 (hs.getD j 0)) := by
  refine cell_of h.blk ?_
  rw [List.getElem?_toArray, List.getElem?_append_left (by rw [wordC_len, h.h8]; exact hj)]
  exact wordC_at (by rw [h.h8]; exact hj)
/-- The table of constants, whatever it holds. -/
def KRow (w : World) (kl : List Int) : Prop := ∀ j, j < 64 → w.cell? ⟨6, j, none⟩ = some (.int .u32 (kl.getD j 0))
theorem KRow.below {w w1 : World} {kl : List Int} (h : KRow w kl) (hb : Below w.heap.size w w1) : KRow w1 kl := fun j hj => pw_cell_below hb (h j hj)
theorem byte_at {w : World} {A : Option Addr} {n : Nat} {q : List Int} (h : ReadsInt w .u8 A n q) (j : Nat) (hj : j < n) : ∃ ad, A = some ad ∧ w.cell? (ad.add j) = some (.int .u8 (q.getD j 0)) := by
  obtain ⟨ad, e, h2⟩ := ReadsOf.at_ (readsInt_of.1 h) (j : Int) (Int.natCast_nonneg _) (by omega)
  rw [Int.toNat_natCast] at h2
  exact ⟨ad, e, h2⟩
theorem below_setOld {w0 W : World} {B : Nat} (h : Below B w0 W) {g : Nat} (hg : B ≤ g) (j : Nat) (u : Value) : Below B w0 (W.setCell ⟨g, j, none⟩ u) :=
  ⟨h.os, h.tape, h.output, by simpa [World.setCell] using h.size, fun k hk => (Below.heap_setCell W ⟨g, j, none⟩ u k (show k ≠ g by omega)).trans (h.block k hk)⟩
theorem dig_set {hs : List Int} {rs : List Value} {t : TypeId} {W : World} {g : Nat} (h : W.heap[g]? = some (.cells (wordC hs ++ rs).toArray t (0, 0))) (j : Nat) (hj : j < hs.length) (v : Int) : (W.setCell ⟨g, j, none⟩ (.int .u32 v)).heap[g]? = some (.cells (wordC (hs.set j v) ++ rs).toArray t (0, 0)) := by
  rw [heap_set_same h (j := j) (.int .u32 v), List.setIfInBounds_toArray, List.set_append_left _ _ (by rw [wordC_len]; exact hj), wordC_set]
structure H8 where
  a : Int
  b : Int
  c : Int
  d : Int
  e : Int
  f : Int
  g : Int
  h : Int
def m32 (x : Int) : Int := x % 4294967296
def sigma0 (x : Int) : Int := bits BinOp.xor IntKind.u32 (bits BinOp.xor IntKind.u32 (rotR x 33554432 128) (rotR x 16384 262144)) (x / 8)
def sigma1 (x : Int) : Int := bits BinOp.xor IntKind.u32 (bits BinOp.xor IntKind.u32 (rotR x 32768 131072) (rotR x 8192 524288)) (x / 1024)
def word4 (q : List Int) (i : Nat) : Int := bits BinOp.or IntKind.u32 (bits BinOp.or IntKind.u32 (bits BinOp.or IntKind.u32 (IntKind.u32.wrap (IntKind.u32.wrap (q.getD (4 * i) 0) * 16777216)) (IntKind.u32.wrap (IntKind.u32.wrap (q.getD (4 * i + 1) 0) * 65536))) (IntKind.u32.wrap (IntKind.u32.wrap (q.getD (4 * i + 2) 0) * 256))) (IntKind.u32.wrap (q.getD (4 * i + 3) 0))
/-- The next word of a block's row. -/
def wnext (q : List Int) (l : List Int) (n : Nat) : Int :=
  if n < 16 then word4 q n else IntKind.u32.wrap (IntKind.u32.wrap (IntKind.u32.wrap (sigma1 (l.getD (n - 2) 0) + l.getD (n - 7) 0) + sigma0 (l.getD (n - 15) 0)) + l.getD (n - 16) 0)
def wl (q : List Int) : Nat → List Int
  | 0 => []
  | n + 1 => wl q n ++ [wnext q (wl q n) n]
theorem wl_len (q : List Int) : ∀ n, (wl q n).length = n
  | 0 => rfl
  | n + 1 => by rw [wl, List.length_append, wl_len q n]; rfl
theorem wl_cell {q : List Int} {i : Nat} {r : List Int} {W : World} {g : Nat} (hg : W.heap[g]? = some (.cells (wordC (wl q i ++ r)).toArray 158 (0, 0))) (j : Nat) (hj : j < i) : W.cell? ⟨g, j, none⟩ = some (.int .u32 ((wl q i).getD j 0)) := by
  refine cell_of hg (j := j) ?_
  rw [List.getElem?_toArray, wordC_at (by rw [List.length_append, wl_len]; omega), List.getD_eq_getElem?_getD, List.getElem?_append_left (by rw [wl_len]; exact hj), ← List.getD_eq_getElem?_getD]
theorem wl_store {q : List Int} {i : Nat} {r0 : Int} {r : List Int} {W : World} {g : Nat} (hg : W.heap[g]? = some (.cells (wordC (wl q i ++ r0 :: r)).toArray 158 (0, 0))) {v : Int} (hv : v = wnext q (wl q i) i) : (W.setCell ⟨g, i, none⟩ (.int .u32 v)).heap[g]? = some (.cells (wordC (wl q (i + 1) ++ r)).toArray 158 (0, 0)) := by
  rw [heap_set_same hg (j := i) (.int .u32 v), List.setIfInBounds_toArray, wordC_set, List.set_append_right _ _ (by rw [wl_len]; exact Nat.le_refl _), wl_len, Nat.sub_self, List.set_cons_zero, hv, wl, List.append_assoc]
  rfl
theorem wl_next {q : List Int} {i : Nat} {r0 : Int} {r : List Int} {W : World} {g : Nat} (hg : W.heap[g]? = some (.cells (wordC (wl q i ++ r0 :: r)).toArray 158 (0, 0))) : W.cell? ⟨g, i, none⟩ = some (.int .u32 r0) := by
  refine cell_of hg (j := i) ?_
  rw [List.getElem?_toArray, wordC_at (by rw [List.length_append, wl_len]; simp), List.getD_eq_getElem?_getD, List.getElem?_append_right (by rw [wl_len]; exact Nat.le_refl _), wl_len, Nat.sub_self]; rfl
theorem wl_last (q : List Int) (n : Nat) : (wl q (n + 1)).getD n 0 = wnext q (wl q n) n := by
  rw [wl, List.getD_eq_getElem?_getD, List.getElem?_append_right (by rw [wl_len]; exact Nat.le_refl _), wl_len, Nat.sub_self]; rfl
def t1V (t4 t5 t6 t7 kv wv : Int) : Int := IntKind.u32.wrap (IntKind.u32.wrap (IntKind.u32.wrap (IntKind.u32.wrap (t7 + bits BinOp.xor IntKind.u32 (bits BinOp.xor IntKind.u32 (rotR t4 67108864 64) (rotR t4 2097152 2048)) (rotR t4 128 33554432)) + bits BinOp.xor IntKind.u32 (bits BinOp.and IntKind.u32 t4 t5) (bits BinOp.and IntKind.u32 (bits BinOp.xor IntKind.u32 (if IntKind.u32.signed = true then -1 else IntKind.u32.max) t4) t6)) + kv) + wv)
def rnd (k v : Int) (s : H8) : H8 :=
  let t1 := t1V s.e s.f s.g s.h k v
  let t2 := m32 (bits BinOp.xor IntKind.u32 (bits BinOp.xor IntKind.u32 (rotR s.a 1073741824 4) (rotR s.a 524288 8192)) (rotR s.a 1024 4194304) + bits BinOp.xor IntKind.u32 (bits BinOp.xor IntKind.u32 (bits BinOp.and IntKind.u32 s.a s.b) (bits BinOp.and IntKind.u32 s.a s.c)) (bits BinOp.and IntKind.u32 s.b s.c))
  ⟨m32 (t1 + t2), s.a, s.b, s.c, m32 (s.d + t1), s.e, s.f, s.g⟩
def rounds (kl q : List Int) : Nat → H8 → H8
  | 0, s => s
  | n + 1, s => rnd (kl.getD n 0) (wnext q (wl q n) n) (rounds kl q n s)
def addH (s t : H8) : H8 := ⟨m32 (s.a + t.a), m32 (s.b + t.b), m32 (s.c + t.c), m32 (s.d + t.d), m32 (s.e + t.e), m32 (s.f + t.f), m32 (s.g + t.g), m32 (s.h + t.h)⟩
def blk (kl q : List Int) (s : H8) : H8 := addH s (rounds kl q 64 s)
def blks (kl p : List Int) : Nat → H8 → H8
  | 0, s => s
  | n + 1, s => blk kl (p.drop (64 * n)) (blks kl p n s)
def H8.l (s : H8) : List Int := [s.a, s.b, s.c, s.d, s.e, s.f, s.g, s.h]
/-- Pieces of a function's text, found by number. -/
def findB (n : Nat) : Code → Option Code
  | .block k c => if k = n then some (.block k c) else findB n c
  | .seq a b => (findB n a).orElse fun _ => findB n b
  | .cond _ a b => (findB n a).orElse fun _ => findB n b
  | .loop c => findB n c
  | _ => none
def findC (n : Nat) : Code → Option Code
  | .block _ c => findC n c
  | .seq a b => (findC n a).orElse fun _ => findC n b
  | .cond o a b => match o with
    | .tmp k => if k = n then some (.cond o a b) else (findC n a).orElse fun _ => findC n b
    | _ => (findC n a).orElse fun _ => findC n b
  | .loop c => findC n c
  | _ => none
def findR (n : Nat) : Code → Option Code
  | .region k ops d => if k = n then some (.region k ops d) else none
  | .block _ c => findR n c
  | .seq a b => (findR n a).orElse fun _ => findR n b
  | .cond _ a b => (findR n a).orElse fun _ => findR n b
  | .loop c => findR n c
  | _ => none
end Go.Proofs.YtigpdgfhngknhaaDoor.Sha
/- The hash: a round's word. -/
namespace Go.Proofs.YtigpdgfhngknhaaDoor.Sha
open Go.RowKit Go.Proofs.YtigpdgfhngknhaaDoorW.PrintWords Go.Proofs.YtigpdgfhngknhaaDoorW.PrintLast Go.Proofs.YtigpdgfhngknhaaDoorW.PrintMore Go.Proofs.YtigpdgfhngknhaaDoor.QFnTapRoot
set_option linter.unusedVariables false
set_option linter.unusedSimpArgs false
set_option maxRecDepth 100000 in
set_option maxHeartbeats 16000000 in
theorem choiceL (gp : Value) (A1 : Option Addr) (m c1 i : Nat) (q : List Int) (w wr : World) (Q : Exit → Act → World → Prop) (hP : ∀ c a n v w, Q (.panic c) (Act.put a n v) w → Q (.panic c) a w) (cd : Code) (hcd : Tryd.f64.body.bind (findC 84) = some cd) (y2 y3 y5 y6 y7 y8 y9 y10 y11 y12 y13 y14 y15 y16 y17 y18 y19 y20 y22 y23 y24 y25 y26 y27 y28 y29 y30 y31 y32 y33 y34 y35 y36 y37 y38 y39 y40 y41 y42 y43 y44 y45 y46 y47 y48 y49 y50 y51 y52 y53 y54 y55 y56 y57 y58 y59 y60 y61 y62 y63 y64 y65 y66 y67 y68 y69 y70 y71 y72 y73 y74 y75 y76 y77 y78 y79 y80 y81 y82 y83 y85 y86 y87 y88 y89 y90 y91 y92 y93 y94 y95 y96 y97 y98 y99 y100 y101 y102 y103 y104 y105 y106 y107 y108 y109 y110 y111 y112 y113 y114 y115 y116 y117 y118 y119 y120 y121 y122 y123 y124 y125 y126 y127 y128 y129 y130 y131 y132 y133 y134 y135 y136 y137 y138 y139 y140 y141 y142 y143 y144 y145 y146 y147 y148 y149 y150 y151 y152 y153 y154 y155 y156 y157 y158 y159 y160 y161 y162 y163 y164 y165 y166 y167 y168 y169 y170 y171 y172 y173 y174 y175 y176 y177 y178 y179 y180 y181 y182 y183 y184 y185 y186 y187 y188 y189 y190 y191 y192 y193 y194 y195 y196 y197 y198 y199 y200 y201 y202 y203 y204 y205 y206 y207 y208 y209 y210 y211 y212 y213 y214 y215 y216 y217 y218 y219 y220 y221 y222 y223 y224 y225 y226 y227 y228 y229 y230 y231 y232 y233 y234 y235 y236 y237 y238 y239 y240 y241 y242 y243 y244 y245 y246 y247 y248 y249 y250 y251 y252 y253 y254 y255 y256 y257 y258 y259 y260 y261 y262 y263 y264 y265 y266 y267 y268 y269 y270 y271 y272 y273 y274 y275 y276 y277 y278 y279 y280 y281 y282 : Value)
    (HQ : Aside0 (ReadsInt w .u8 A1 m q)) (HM64 : Aside0 (64 ≤ m)) (hi : i < 64) (HB : Aside0 (Below w.heap.size w wr)) (HW : Aside0 (∃ r, r.length + i = 64 ∧ wr.heap[w.heap.size]? = some (.cells (wordC (wl q i ++ r)).toArray 158 (0, 0))))
    (hQ : ∀ (x22 x23 x24 x25 x26 x84 x85 x86 x87 x88 x89 x90 x91 x92 x93 x94 x95 x96 x97 x98 x99 x100 x101 x102 x103 x104 x105 x106 x107 x108 x109 x110 x111 x112 x113 x114 x115 x116 x117 x118 x119 x120 x121 x122 x123 x124 x125 x126 x127 x128 x129 x130 x131 x132 x133 x134 x135 x136 x137 x138 x139 x140 x141 x142 x143 x144 x145 x146 x147 x148 x149 x150 x151 x152 x153 x154 x155 x156 : Value) (wx : World), Aside0 (Below w.heap.size w wx) → Aside0 (∃ r, r.length + (i + 1) = 64 ∧ wx.heap[w.heap.size]? = some (.cells (wordC (wl q (i + 1) ++ r)).toArray 158 (0, 0))) → Q .normal { tmps := #[gp, .slice A1 m c1, y2, y3, .pointer (some ⟨w.heap.size, 0, none⟩), y5, y6, y7, y8, y9, y10, y11, y12, y13, y14, y15, y16, y17, y18, y19, y20, .int .i64 (i : Int), x22, x23, x24, x25, x26, y27, y28, y29, y30, y31, y32, y33, y34, y35, y36, y37, y38, y39, y40, y41, y42, y43, y44, y45, y46, y47, y48, y49, y50, y51, y52, y53, y54, y55, y56, y57, y58, y59, y60, y61, y62, y63, y64, y65, y66, y67, y68, y69, y70, y71, y72, y73, y74, y75, y76, y77, y78, y79, y80, y81, y82, y83, x84, x85, x86, x87, x88, x89, x90, x91, x92, x93, x94, x95, x96, x97, x98, x99, x100, x101, x102, x103, x104, x105, x106, x107, x108, x109, x110, x111, x112, x113, x114, x115, x116, x117, x118, x119, x120, x121, x122, x123, x124, x125, x126, x127, x128, x129, x130, x131, x132, x133, x134, x135, x136, x137, x138, x139, x140, x141, x142, x143, x144, x145, x146, x147, x148, x149, x150, x151, x152, x153, x154, x155, x156, y157, y158, y159, y160, y161, y162, y163, y164, y165, y166, y167, y168, y169, y170, y171, y172, y173, y174, y175, y176, y177, y178, y179, y180, y181, y182, y183, y184, y185, y186, y187, y188, y189, y190, y191, y192, y193, y194, y195, y196, y197, y198, y199, y200, y201, y202, y203, y204, y205, y206, y207, y208, y209, y210, y211, y212, y213, y214, y215, y216, y217, y218, y219, y220, y221, y222, y223, y224, y225, y226, y227, y228, y229, y230, y231, y232, y233, y234, y235, y236, y237, y238, y239, y240, y241, y242, y243, y244, y245, y246, y247, y248, y249, y250, y251, y252, y253, y254, y255, y256, y257, y258, y259, y260, y261, y262, y263, y264, y265, y266, y267, y268, y269, y270, y271, y272, y273, y274, y275, y276, y277, y278, y279, y280, y281, y282], defers := [] } wx) :
    Code.wp Tryd.prog cd Q { tmps := #[gp, .slice A1 m c1, y2, y3, .pointer (some ⟨w.heap.size, 0, none⟩), y5, y6, y7, y8, y9, y10, y11, y12, y13, y14, y15, y16, y17, y18, y19, y20, .int .i64 (i : Int), y22, y23, y24, y25, y26, y27, y28, y29, y30, y31, y32, y33, y34, y35, y36, y37, y38, y39, y40, y41, y42, y43, y44, y45, y46, y47, y48, y49, y50, y51, y52, y53, y54, y55, y56, y57, y58, y59, y60, y61, y62, y63, y64, y65, y66, y67, y68, y69, y70, y71, y72, y73, y74, y75, y76, y77, y78, y79, y80, y81, y82, y83, .bool (decide ((i : Int) < 16)), y85, y86, y87, y88, y89, y90, y91, y92, y93, y94, y95, y96, y97, y98, y99, y100, y101, y102, y103, y104, y105, y106, y107, y108, y109, y110, y111, y112, y113, y114, y115, y116, y117, y118, y119, y120, y121, y122, y123, y124, y125, y126, y127, y128, y129, y130, y131, y132, y133, y134, y135, y136, y137, y138, y139, y140, y141, y142, y143, y144, y145, y146, y147, y148, y149, y150, y151, y152, y153, y154, y155, y156, y157, y158, y159, y160, y161, y162, y163, y164, y165, y166, y167, y168, y169, y170, y171, y172, y173, y174, y175, y176, y177, y178, y179, y180, y181, y182, y183, y184, y185, y186, y187, y188, y189, y190, y191, y192, y193, y194, y195, y196, y197, y198, y199, y200, y201, y202, y203, y204, y205, y206, y207, y208, y209, y210, y211, y212, y213, y214, y215, y216, y217, y218, y219, y220, y221, y222, y223, y224, y225, y226, y227, y228, y229, y230, y231, y232, y233, y234, y235, y236, y237, y238, y239, y240, y241, y242, y243, y244, y245, y246, y247, y248, y249, y250, y251, y252, y253, y254, y255, y256, y257, y258, y259, y260, y261, y262, y263, y264, y265, y266, y267, y268, y269, y270, y271, y272, y273, y274, y275, y276, y277, y278, y279, y280, y281, y282], defers := [] } wr := by
  have hi1 : (i : Int) < 64 := by omega
  dsimp only [Tryd.f64, Option.bind, findC, Option.orElse] at hcd
  obtain rfl := Option.some.inj hcd
  by_cases h16 : i < 16
  · have h161 : (i : Int) < 16 := by omega
    obtain ⟨ad, e1, hx0⟩ := byte_at (HQ.out.below HB.out) (4 * i) (by have := HM64.out; omega)
    obtain ⟨ad', e2, hx1⟩ := byte_at (HQ.out.below HB.out) (4 * i + 1) (by have := HM64.out; omega)
    obtain ⟨ad'', e3, hx2⟩ := byte_at (HQ.out.below HB.out) (4 * i + 2) (by have := HM64.out; omega)
    obtain ⟨ad3, e4, hx3⟩ := byte_at (HQ.out.below HB.out) (4 * i + 3) (by have := HM64.out; omega)
    subst e1
    obtain rfl := Option.some.inj e2
    obtain rfl := Option.some.inj e3
    obtain rfl := Option.some.inj e4
    obtain ⟨b0, hb0⟩ : ∃ b, q.getD (4 * i) 0 = b := ⟨_, rfl⟩
    obtain ⟨b1, hb1⟩ : ∃ b, q.getD (4 * i + 1) 0 = b := ⟨_, rfl⟩
    obtain ⟨b2, hb2⟩ : ∃ b, q.getD (4 * i + 2) 0 = b := ⟨_, rfl⟩
    obtain ⟨b3, hb3⟩ : ∃ b, q.getD (4 * i + 3) 0 = b := ⟨_, rfl⟩
    have HWN : Aside0 (wnext q (wl q i) i = bits BinOp.or IntKind.u32 (bits BinOp.or IntKind.u32 (bits BinOp.or IntKind.u32 (IntKind.u32.wrap (IntKind.u32.wrap b0 * 16777216)) (IntKind.u32.wrap (IntKind.u32.wrap b1 * 65536))) (IntKind.u32.wrap (IntKind.u32.wrap b2 * 256))) (IntKind.u32.wrap b3)) := ⟨by unfold wnext word4; rw [if_pos h16, hb0, hb1, hb2, hb3]⟩
    rw [hb0] at hx0
    rw [hb1] at hx1
    rw [hb2] at hx2
    rw [hb3] at hx3
    obtain ⟨j0, hj0⟩ : ∃ j, 4 * i = j := ⟨_, rfl⟩
    have hq0 : (i : Int) * 4 = (j0 : Int) := by omega
    rw [hj0] at hx0 hx1 hx2 hx3
    obtain ⟨j1, hj1⟩ : ∃ j, j0 + 1 = j := ⟨_, rfl⟩
    obtain ⟨j2, hj2⟩ : ∃ j, j0 + 2 = j := ⟨_, rfl⟩
    obtain ⟨j3, hj3⟩ : ∃ j, j0 + 3 = j := ⟨_, rfl⟩
    rw [hj1] at hx1
    rw [hj2] at hx2
    rw [hj3] at hx3
    have hjm : j0 < m ∧ j1 < m ∧ j2 < m ∧ j3 < m := by have := HM64.out; omega
    have l0 : (j0 : Int) < (m : Int) := by omega
    have l1 : (j1 : Int) < (m : Int) := by omega
    have l2 : (j2 : Int) < (m : Int) := by omega
    have l3 : (j3 : Int) < (m : Int) := by omega
    have HQ1 : Aside0 (IntKind.i64.wrap ((j0 : Int) + 1) = (j1 : Int)) := ⟨by rw [i64_w]; unfold wrap64; omega⟩
    have HQ2 : Aside0 (IntKind.i64.wrap ((j0 : Int) + 2) = (j2 : Int)) := ⟨by rw [i64_w]; unfold wrap64; omega⟩
    have HQ3 : Aside0 (IntKind.i64.wrap ((j0 : Int) + 3) = (j3 : Int)) := ⟨by rw [i64_w]; unfold wrap64; omega⟩
    clear hj0 hj1 hj2 hj3 hb0 hb1 hb2 hb3 hjm e2 e3 e4
    obtain ⟨r, hrl, hg⟩ := HW.out
    obtain ⟨r0, rs, rfl⟩ : ∃ r0 rs, r = r0 :: rs := by
      cases r with
      | nil => simp at hrl; omega
      | cons x xs => exact ⟨x, xs, rfl⟩
    have HG := Aside0.mk hg
    have HRL : Aside0 (rs.length + (i + 1) = 64) := ⟨by rw [List.length_cons] at hrl; omega⟩
    have hxw := wl_next hg
    have hfr := frozen_of hg i
    have HS : Aside0 (wr.drew.cell? (ad.add j0) = some (.int .u8 b0) ∧ wr.drew.cell? (ad.add j1) = some (.int .u8 b1) ∧ wr.drew.cell? (ad.add j2) = some (.int .u8 b2) ∧ wr.drew.cell? (ad.add j3) = some (.int .u8 b3) ∧ wr.drew.cell? ⟨w.heap.size, i, none⟩ = some (.int .u32 r0) ∧ wr.drew.frozen? ⟨w.heap.size, i, none⟩ = false) := ⟨hx0, hx1, hx2, hx3, hxw, hfr⟩
    clear hrl hg hx0 hx1 hx2 hx3 hxw hfr
    go_upto_region 9 with fail
    refine start_ (n := 32) (S := fun w' => w'.cell? (ad.add j0) = some (.int .u8 b0) ∧ w'.cell? (ad.add j1) = some (.int .u8 b1) ∧ w'.cell? (ad.add j2) = some (.int .u8 b2) ∧ w'.cell? (ad.add j3) = some (.int .u8 b3) ∧ w'.cell? ⟨w.heap.size, i, none⟩ = some (.int .u32 r0) ∧ w'.frozen? ⟨w.heap.size, i, none⟩ = false) (ds := [31]) #[false, false, false, false, false, false, false, false, false, false, false, false, false, false, false, false, false, false, false, false, false, false, false, false, false, false, false, false, false, false, false, false] (by kernel_rfl) rfl rfl HS.out (fun hHeld => ?_)
    refine pure_ (i := 0) (N := some 87) (v := ?_) (a' := ?_) #[true, false, false, false, false, false, false, false, false, false, false, false, false, false, false, false, false, false, false, false, false, false, false, false, false, false, false, false, false, false, false, false] rfl rfl (by kernel_rfl) (fun _ _ _ h => hP _ _ _ _ _ h) (Or.inl ⟨by rfl, ?_⟩) ?_ ?_
    rotate_left
    · intro w'
      go_simp
      with_reducible rfl
    rotate_left
    · simp only [Act.put, List.setIfInBounds_toArray, List.set_cons_zero, List.set_cons_succ, i64_w, i32_w]
      rfl
    refine pure_ (i := 1) (N := some 88) (v := ?_) (a' := ?_) #[true, true, false, false, false, false, false, false, false, false, false, false, false, false, false, false, false, false, false, false, false, false, false, false, false, false, false, false, false, false, false, false] rfl rfl (by kernel_rfl) (fun _ _ _ h => hP _ _ _ _ _ h) (Or.inl ⟨by rfl, ?_⟩) ?_ ?_
    rotate_left
    · intro w'
      go_simp
      with_reducible rfl
    rotate_left
    · simp only [Act.put, List.setIfInBounds_toArray, List.set_cons_zero, List.set_cons_succ, i64_w, i32_w]
      rfl
    refine pure_ (i := 2) (N := some 89) (v := ?_) (a' := ?_) #[true, true, true, false, false, false, false, false, false, false, false, false, false, false, false, false, false, false, false, false, false, false, false, false, false, false, false, false, false, false, false, false] rfl rfl (by kernel_rfl) (fun _ _ _ h => hP _ _ _ _ _ h) (Or.inl ⟨by rfl, ?_⟩) ?_ ?_
    rotate_left
    · intro w'
      go_simp
      with_reducible rfl
    rotate_left
    · simp only [Act.put, List.setIfInBounds_toArray, List.set_cons_zero, List.set_cons_succ, i64_w, i32_w]
      rfl
    refine pure_ (i := 3) (N := some 90) (v := ?_) (a' := ?_) #[true, true, true, true, false, false, false, false, false, false, false, false, false, false, false, false, false, false, false, false, false, false, false, false, false, false, false, false, false, false, false, false] rfl rfl (by kernel_rfl) (fun _ _ _ h => hP _ _ _ _ _ h) (Or.inl ⟨by rfl, ?_⟩) ?_ ?_
    rotate_left
    · intro w'
      go_simp
      with_reducible rfl
    rotate_left
    · simp only [Act.put, List.setIfInBounds_toArray, List.set_cons_zero, List.set_cons_succ, i64_w, i32_w]
      rfl
    refine take_ (i := 4) (N := some 91) (v := ?_) (a' := ?_) #[true, true, true, true, true, false, false, false, false, false, false, false, false, false, false, false, false, false, false, false, false, false, false, false, false, false, false, false, false, false, false, false] rfl rfl (by kernel_rfl) (fun _ _ _ h => hP _ _ _ _ _ h) (Or.inl ⟨by rfl, ?_⟩) hHeld ?_ ?_
    rotate_left
    · rintro w' ⟨s0, s1, s2, s3, s4, s5⟩
      go_simp
      with_reducible rfl
    rotate_left
    · simp only [Act.put, List.setIfInBounds_toArray, List.set_cons_zero, List.set_cons_succ, i64_w, i32_w]
      rfl
    refine pure_ (i := 5) (N := some 92) (v := ?_) (a' := ?_) #[true, true, true, true, true, true, false, false, false, false, false, false, false, false, false, false, false, false, false, false, false, false, false, false, false, false, false, false, false, false, false, false] rfl rfl (by kernel_rfl) (fun _ _ _ h => hP _ _ _ _ _ h) (Or.inl ⟨by rfl, ?_⟩) ?_ ?_
    rotate_left
    · intro w'
      go_simp
      with_reducible rfl
    rotate_left
    · simp only [Act.put, List.setIfInBounds_toArray, List.set_cons_zero, List.set_cons_succ, i64_w, i32_w]
      rfl
    refine pure_ (i := 6) (N := some 93) (v := ?_) (a' := ?_) #[true, true, true, true, true, true, true, false, false, false, false, false, false, false, false, false, false, false, false, false, false, false, false, false, false, false, false, false, false, false, false, false] rfl rfl (by kernel_rfl) (fun _ _ _ h => hP _ _ _ _ _ h) (Or.inl ⟨by rfl, ?_⟩) ?_ ?_
    rotate_left
    · intro w'
      go_simp
      with_reducible rfl
    rotate_left
    · simp only [Act.put, List.setIfInBounds_toArray, List.set_cons_zero, List.set_cons_succ, i64_w, i32_w]
      rfl
    refine pure_ (i := 7) (N := some 94) (v := ?_) (a' := ?_) #[true, true, true, true, true, true, true, true, false, false, false, false, false, false, false, false, false, false, false, false, false, false, false, false, false, false, false, false, false, false, false, false] rfl rfl (by kernel_rfl) (fun _ _ _ h => hP _ _ _ _ _ h) (Or.inl ⟨by rfl, ?_⟩) ?_ ?_
    rotate_left
    · intro w'
      go_simp
      with_reducible rfl
    rotate_left
    · simp only [Act.put, List.setIfInBounds_toArray, List.set_cons_zero, List.set_cons_succ, i64_w, i32_w]
      rfl
    refine pure_ (i := 8) (N := some 95) (v := ?_) (a' := ?_) #[true, true, true, true, true, true, true, true, true, false, false, false, false, false, false, false, false, false, false, false, false, false, false, false, false, false, false, false, false, false, false, false] rfl rfl (by kernel_rfl) (fun _ _ _ h => hP _ _ _ _ _ h) (Or.inl ⟨by rfl, ?_⟩) ?_ ?_
    rotate_left
    · intro w'
      go_simp
      with_reducible rfl
    rotate_left
    · simp only [Act.put, List.setIfInBounds_toArray, List.set_cons_zero, List.set_cons_succ, i64_w, i32_w]
      rfl
    refine pure_ (i := 9) (N := some 96) (v := ?_) (a' := ?_) #[true, true, true, true, true, true, true, true, true, true, false, false, false, false, false, false, false, false, false, false, false, false, false, false, false, false, false, false, false, false, false, false] rfl rfl (by kernel_rfl) (fun _ _ _ h => hP _ _ _ _ _ h) (Or.inl ⟨by rfl, ?_⟩) ?_ ?_
    rotate_left
    · intro w'
      exact (congrArg (fun x => Result.ok (Next.value (Value.int .i64 x)) w') HQ1.out)
    rotate_left
    · simp only [Act.put, List.setIfInBounds_toArray, List.set_cons_zero, List.set_cons_succ, i64_w, i32_w]
      rfl
    refine pure_ (i := 10) (N := some 97) (v := ?_) (a' := ?_) #[true, true, true, true, true, true, true, true, true, true, true, false, false, false, false, false, false, false, false, false, false, false, false, false, false, false, false, false, false, false, false, false] rfl rfl (by kernel_rfl) (fun _ _ _ h => hP _ _ _ _ _ h) (Or.inl ⟨by rfl, ?_⟩) ?_ ?_
    rotate_left
    · intro w'
      go_simp
      with_reducible rfl
    rotate_left
    · simp only [Act.put, List.setIfInBounds_toArray, List.set_cons_zero, List.set_cons_succ, i64_w, i32_w]
      rfl
    refine take_ (i := 11) (N := some 98) (v := ?_) (a' := ?_) #[true, true, true, true, true, true, true, true, true, true, true, true, false, false, false, false, false, false, false, false, false, false, false, false, false, false, false, false, false, false, false, false] rfl rfl (by kernel_rfl) (fun _ _ _ h => hP _ _ _ _ _ h) (Or.inl ⟨by rfl, ?_⟩) hHeld ?_ ?_
    rotate_left
    · rintro w' ⟨s0, s1, s2, s3, s4, s5⟩
      go_simp
      with_reducible rfl
    rotate_left
    · simp only [Act.put, List.setIfInBounds_toArray, List.set_cons_zero, List.set_cons_succ, i64_w, i32_w]
      rfl
    refine pure_ (i := 12) (N := some 99) (v := ?_) (a' := ?_) #[true, true, true, true, true, true, true, true, true, true, true, true, true, false, false, false, false, false, false, false, false, false, false, false, false, false, false, false, false, false, false, false] rfl rfl (by kernel_rfl) (fun _ _ _ h => hP _ _ _ _ _ h) (Or.inl ⟨by rfl, ?_⟩) ?_ ?_
    rotate_left
    · intro w'
      go_simp
      with_reducible rfl
    rotate_left
    · simp only [Act.put, List.setIfInBounds_toArray, List.set_cons_zero, List.set_cons_succ, i64_w, i32_w]
      rfl
    refine pure_ (i := 13) (N := some 100) (v := ?_) (a' := ?_) #[true, true, true, true, true, true, true, true, true, true, true, true, true, true, false, false, false, false, false, false, false, false, false, false, false, false, false, false, false, false, false, false] rfl rfl (by kernel_rfl) (fun _ _ _ h => hP _ _ _ _ _ h) (Or.inl ⟨by rfl, ?_⟩) ?_ ?_
    rotate_left
    · intro w'
      go_simp
      with_reducible rfl
    rotate_left
    · simp only [Act.put, List.setIfInBounds_toArray, List.set_cons_zero, List.set_cons_succ, i64_w, i32_w]
      rfl
    refine pure_ (i := 14) (N := some 101) (v := ?_) (a' := ?_) #[true, true, true, true, true, true, true, true, true, true, true, true, true, true, true, false, false, false, false, false, false, false, false, false, false, false, false, false, false, false, false, false] rfl rfl (by kernel_rfl) (fun _ _ _ h => hP _ _ _ _ _ h) (Or.inl ⟨by rfl, ?_⟩) ?_ ?_
    rotate_left
    · intro w'
      go_simp
      with_reducible rfl
    rotate_left
    · simp only [Act.put, List.setIfInBounds_toArray, List.set_cons_zero, List.set_cons_succ, i64_w, i32_w]
      rfl
    refine pure_ (i := 15) (N := some 102) (v := ?_) (a' := ?_) #[true, true, true, true, true, true, true, true, true, true, true, true, true, true, true, true, false, false, false, false, false, false, false, false, false, false, false, false, false, false, false, false] rfl rfl (by kernel_rfl) (fun _ _ _ h => hP _ _ _ _ _ h) (Or.inl ⟨by rfl, ?_⟩) ?_ ?_
    rotate_left
    · intro w'
      go_simp
      with_reducible rfl
    rotate_left
    · simp only [Act.put, List.setIfInBounds_toArray, List.set_cons_zero, List.set_cons_succ, i64_w, i32_w]
      rfl
    refine pure_ (i := 16) (N := some 103) (v := ?_) (a' := ?_) #[true, true, true, true, true, true, true, true, true, true, true, true, true, true, true, true, true, false, false, false, false, false, false, false, false, false, false, false, false, false, false, false] rfl rfl (by kernel_rfl) (fun _ _ _ h => hP _ _ _ _ _ h) (Or.inl ⟨by rfl, ?_⟩) ?_ ?_
    rotate_left
    · intro w'
      go_simp
      with_reducible rfl
    rotate_left
    · simp only [Act.put, List.setIfInBounds_toArray, List.set_cons_zero, List.set_cons_succ, i64_w, i32_w]
      rfl
    refine pure_ (i := 17) (N := some 104) (v := ?_) (a' := ?_) #[true, true, true, true, true, true, true, true, true, true, true, true, true, true, true, true, true, true, false, false, false, false, false, false, false, false, false, false, false, false, false, false] rfl rfl (by kernel_rfl) (fun _ _ _ h => hP _ _ _ _ _ h) (Or.inl ⟨by rfl, ?_⟩) ?_ ?_
    rotate_left
    · intro w'
      exact (congrArg (fun x => Result.ok (Next.value (Value.int .i64 x)) w') HQ2.out)
    rotate_left
    · simp only [Act.put, List.setIfInBounds_toArray, List.set_cons_zero, List.set_cons_succ, i64_w, i32_w]
      rfl
    refine pure_ (i := 18) (N := some 105) (v := ?_) (a' := ?_) #[true, true, true, true, true, true, true, true, true, true, true, true, true, true, true, true, true, true, true, false, false, false, false, false, false, false, false, false, false, false, false, false] rfl rfl (by kernel_rfl) (fun _ _ _ h => hP _ _ _ _ _ h) (Or.inl ⟨by rfl, ?_⟩) ?_ ?_
    rotate_left
    · intro w'
      go_simp
      with_reducible rfl
    rotate_left
    · simp only [Act.put, List.setIfInBounds_toArray, List.set_cons_zero, List.set_cons_succ, i64_w, i32_w]
      rfl
    refine take_ (i := 19) (N := some 106) (v := ?_) (a' := ?_) #[true, true, true, true, true, true, true, true, true, true, true, true, true, true, true, true, true, true, true, true, false, false, false, false, false, false, false, false, false, false, false, false] rfl rfl (by kernel_rfl) (fun _ _ _ h => hP _ _ _ _ _ h) (Or.inl ⟨by rfl, ?_⟩) hHeld ?_ ?_
    rotate_left
    · rintro w' ⟨s0, s1, s2, s3, s4, s5⟩
      go_simp
      with_reducible rfl
    rotate_left
    · simp only [Act.put, List.setIfInBounds_toArray, List.set_cons_zero, List.set_cons_succ, i64_w, i32_w]
      rfl
    refine pure_ (i := 20) (N := some 107) (v := ?_) (a' := ?_) #[true, true, true, true, true, true, true, true, true, true, true, true, true, true, true, true, true, true, true, true, true, false, false, false, false, false, false, false, false, false, false, false] rfl rfl (by kernel_rfl) (fun _ _ _ h => hP _ _ _ _ _ h) (Or.inl ⟨by rfl, ?_⟩) ?_ ?_
    rotate_left
    · intro w'
      go_simp
      with_reducible rfl
    rotate_left
    · simp only [Act.put, List.setIfInBounds_toArray, List.set_cons_zero, List.set_cons_succ, i64_w, i32_w]
      rfl
    refine pure_ (i := 21) (N := some 108) (v := ?_) (a' := ?_) #[true, true, true, true, true, true, true, true, true, true, true, true, true, true, true, true, true, true, true, true, true, true, false, false, false, false, false, false, false, false, false, false] rfl rfl (by kernel_rfl) (fun _ _ _ h => hP _ _ _ _ _ h) (Or.inl ⟨by rfl, ?_⟩) ?_ ?_
    rotate_left
    · intro w'
      go_simp
      with_reducible rfl
    rotate_left
    · simp only [Act.put, List.setIfInBounds_toArray, List.set_cons_zero, List.set_cons_succ, i64_w, i32_w]
      rfl
    refine pure_ (i := 22) (N := some 109) (v := ?_) (a' := ?_) #[true, true, true, true, true, true, true, true, true, true, true, true, true, true, true, true, true, true, true, true, true, true, true, false, false, false, false, false, false, false, false, false] rfl rfl (by kernel_rfl) (fun _ _ _ h => hP _ _ _ _ _ h) (Or.inl ⟨by rfl, ?_⟩) ?_ ?_
    rotate_left
    · intro w'
      go_simp
      with_reducible rfl
    rotate_left
    · simp only [Act.put, List.setIfInBounds_toArray, List.set_cons_zero, List.set_cons_succ, i64_w, i32_w]
      rfl
    refine pure_ (i := 23) (N := some 110) (v := ?_) (a' := ?_) #[true, true, true, true, true, true, true, true, true, true, true, true, true, true, true, true, true, true, true, true, true, true, true, true, false, false, false, false, false, false, false, false] rfl rfl (by kernel_rfl) (fun _ _ _ h => hP _ _ _ _ _ h) (Or.inl ⟨by rfl, ?_⟩) ?_ ?_
    rotate_left
    · intro w'
      go_simp
      with_reducible rfl
    rotate_left
    · simp only [Act.put, List.setIfInBounds_toArray, List.set_cons_zero, List.set_cons_succ, i64_w, i32_w]
      rfl
    refine pure_ (i := 24) (N := some 111) (v := ?_) (a' := ?_) #[true, true, true, true, true, true, true, true, true, true, true, true, true, true, true, true, true, true, true, true, true, true, true, true, true, false, false, false, false, false, false, false] rfl rfl (by kernel_rfl) (fun _ _ _ h => hP _ _ _ _ _ h) (Or.inl ⟨by rfl, ?_⟩) ?_ ?_
    rotate_left
    · intro w'
      go_simp
      with_reducible rfl
    rotate_left
    · simp only [Act.put, List.setIfInBounds_toArray, List.set_cons_zero, List.set_cons_succ, i64_w, i32_w]
      rfl
    refine pure_ (i := 25) (N := some 112) (v := ?_) (a' := ?_) #[true, true, true, true, true, true, true, true, true, true, true, true, true, true, true, true, true, true, true, true, true, true, true, true, true, true, false, false, false, false, false, false] rfl rfl (by kernel_rfl) (fun _ _ _ h => hP _ _ _ _ _ h) (Or.inl ⟨by rfl, ?_⟩) ?_ ?_
    rotate_left
    · intro w'
      exact (congrArg (fun x => Result.ok (Next.value (Value.int .i64 x)) w') HQ3.out)
    rotate_left
    · simp only [Act.put, List.setIfInBounds_toArray, List.set_cons_zero, List.set_cons_succ, i64_w, i32_w]
      rfl
    refine pure_ (i := 26) (N := some 113) (v := ?_) (a' := ?_) #[true, true, true, true, true, true, true, true, true, true, true, true, true, true, true, true, true, true, true, true, true, true, true, true, true, true, true, false, false, false, false, false] rfl rfl (by kernel_rfl) (fun _ _ _ h => hP _ _ _ _ _ h) (Or.inl ⟨by rfl, ?_⟩) ?_ ?_
    rotate_left
    · intro w'
      go_simp
      with_reducible rfl
    rotate_left
    · simp only [Act.put, List.setIfInBounds_toArray, List.set_cons_zero, List.set_cons_succ, i64_w, i32_w]
      rfl
    refine take_ (i := 27) (N := some 114) (v := ?_) (a' := ?_) #[true, true, true, true, true, true, true, true, true, true, true, true, true, true, true, true, true, true, true, true, true, true, true, true, true, true, true, true, false, false, false, false] rfl rfl (by kernel_rfl) (fun _ _ _ h => hP _ _ _ _ _ h) (Or.inl ⟨by rfl, ?_⟩) hHeld ?_ ?_
    rotate_left
    · rintro w' ⟨s0, s1, s2, s3, s4, s5⟩
      go_simp
      with_reducible rfl
    rotate_left
    · simp only [Act.put, List.setIfInBounds_toArray, List.set_cons_zero, List.set_cons_succ, i64_w, i32_w]
      rfl
    refine pure_ (i := 28) (N := some 115) (v := ?_) (a' := ?_) #[true, true, true, true, true, true, true, true, true, true, true, true, true, true, true, true, true, true, true, true, true, true, true, true, true, true, true, true, true, false, false, false] rfl rfl (by kernel_rfl) (fun _ _ _ h => hP _ _ _ _ _ h) (Or.inl ⟨by rfl, ?_⟩) ?_ ?_
    rotate_left
    · intro w'
      go_simp
      with_reducible rfl
    rotate_left
    · simp only [Act.put, List.setIfInBounds_toArray, List.set_cons_zero, List.set_cons_succ, i64_w, i32_w]
      rfl
    refine pure_ (i := 29) (N := some 116) (v := ?_) (a' := ?_) #[true, true, true, true, true, true, true, true, true, true, true, true, true, true, true, true, true, true, true, true, true, true, true, true, true, true, true, true, true, true, false, false] rfl rfl (by kernel_rfl) (fun _ _ _ h => hP _ _ _ _ _ h) (Or.inl ⟨by rfl, ?_⟩) ?_ ?_
    rotate_left
    · intro w'
      go_simp
      with_reducible rfl
    rotate_left
    · simp only [Act.put, List.setIfInBounds_toArray, List.set_cons_zero, List.set_cons_succ, i64_w, i32_w]
      rfl
    refine pure_ (i := 30) (N := some 117) (v := ?_) (a' := ?_) #[true, true, true, true, true, true, true, true, true, true, true, true, true, true, true, true, true, true, true, true, true, true, true, true, true, true, true, true, true, true, true, false] rfl rfl (by kernel_rfl) (fun _ _ _ h => hP _ _ _ _ _ h) (Or.inl ⟨by rfl, ?_⟩) ?_ ?_
    rotate_left
    · intro w'
      go_simp
      with_reducible rfl
    rotate_left
    · simp only [Act.put, List.setIfInBounds_toArray, List.set_cons_zero, List.set_cons_succ, i64_w, i32_w]
      rfl
    refine last_ (i := 31) (N := none) #[true, true, true, true, true, true, true, true, true, true, true, true, true, true, true, true, true, true, true, true, true, true, true, true, true, true, true, true, true, true, true, true] rfl rfl (by kernel_rfl) (by decide) (fun K hK => ?_)
    obtain ⟨g0, g1, g2, g3, g4, g5⟩ := hHeld
    refine skip_ (w1 := ?_) (by rfl) rfl ?_ ?_
    rotate_left
    · go_simp
      rfl
    refine hK.out _ _ ?_
    clear hK K
    refine norm_ (a' := ?_) ?_ ?_
    rotate_left
    · rfl
    refine done_ (by kernel_rfl) ?_
    go_wp2_with fail
    apply hQ
    · exact ⟨below_setOld (below_drew HB.out) (Nat.le_refl _) _ _⟩
    · exact ⟨rs, HRL.out, wl_store (W := wr.drew) HG.out (by rw [HWN.out])⟩
  · have h161 : ¬ (i : Int) < 16 := by omega
    have h162 : 16 ≤ (i : Int) := by omega
    obtain ⟨j2, hj2⟩ : ∃ j, i - 2 = j := ⟨_, rfl⟩
    obtain ⟨j15, hj15⟩ : ∃ j, i - 15 = j := ⟨_, rfl⟩
    obtain ⟨j7, hj7⟩ : ∃ j, i - 7 = j := ⟨_, rfl⟩
    obtain ⟨j16, hj16⟩ : ∃ j, i - 16 = j := ⟨_, rfl⟩
    obtain ⟨v2, hv2⟩ : ∃ v, (wl q i).getD j2 0 = v := ⟨_, rfl⟩
    obtain ⟨v15, hv15⟩ : ∃ v, (wl q i).getD j15 0 = v := ⟨_, rfl⟩
    obtain ⟨v7, hv7⟩ : ∃ v, (wl q i).getD j7 0 = v := ⟨_, rfl⟩
    obtain ⟨v16, hv16⟩ : ∃ v, (wl q i).getD j16 0 = v := ⟨_, rfl⟩
    have HWN : Aside0 (wnext q (wl q i) i = IntKind.u32.wrap (IntKind.u32.wrap (IntKind.u32.wrap (sigma1 v2 + v7) + sigma0 v15) + v16)) := ⟨by unfold wnext; rw [if_neg h16, hj2, hj15, hj7, hj16, hv2, hv15, hv7, hv16]⟩
    have hq2 : (i : Int) - 2 = (j2 : Int) := by omega
    have hq15 : (i : Int) - 15 = (j15 : Int) := by omega
    have HQ7 : Aside0 (IntKind.i64.wrap ((i : Int) - 7) = (j7 : Int)) := ⟨by rw [i64_w]; unfold wrap64; omega⟩
    have HQ16 : Aside0 (IntKind.i64.wrap ((i : Int) - 16) = (j16 : Int)) := ⟨by rw [i64_w]; unfold wrap64; omega⟩
    have l2 : (j2 : Int) < 64 := by omega
    have l15 : (j15 : Int) < 64 := by omega
    have l7 : (j7 : Int) < 64 := by omega
    have l16 : (j16 : Int) < 64 := by omega
    obtain ⟨r, hrl, hg⟩ := HW.out
    obtain ⟨r0, rs, rfl⟩ : ∃ r0 rs, r = r0 :: rs := by
      cases r with
      | nil => simp at hrl; omega
      | cons x xs => exact ⟨x, xs, rfl⟩
    have HG := Aside0.mk hg
    have HRL : Aside0 (rs.length + (i + 1) = 64) := ⟨by rw [List.length_cons] at hrl; omega⟩
    have hxw := wl_next hg
    have hfr := frozen_of hg i
    have hx2 := wl_cell hg j2 (by omega)
    have hx15 := wl_cell hg j15 (by omega)
    have hx7 := wl_cell hg j7 (by omega)
    have hx16 := wl_cell hg j16 (by omega)
    rw [hv2] at hx2
    rw [hv15] at hx15
    rw [hv7] at hx7
    rw [hv16] at hx16
    have HS : Aside0 (wr.drew.cell? ⟨w.heap.size, j7, none⟩ = some (.int .u32 v7) ∧ wr.drew.cell? ⟨w.heap.size, j16, none⟩ = some (.int .u32 v16) ∧ wr.drew.cell? ⟨w.heap.size, i, none⟩ = some (.int .u32 r0) ∧ wr.drew.frozen? ⟨w.heap.size, i, none⟩ = false) := ⟨hx7, hx16, hxw, hfr⟩
    clear hrl hg hx7 hx16 hxw hfr hv2 hv15 hv7 hv16 hj2 hj15 hj7 hj16
    go_upto_region 14 with (go_at_call 113; first
      | ((with_reducible refine (rot17 _ _).mono ?_); rintro e w' ⟨rfl, rfl⟩)
      | ((with_reducible refine (rot19 _ _).mono ?_); rintro e w' ⟨rfl, rfl⟩)
      | ((with_reducible refine (rot7 _ _).mono ?_); rintro e w' ⟨rfl, rfl⟩)
      | ((with_reducible refine (rot18 _ _).mono ?_); rintro e w' ⟨rfl, rfl⟩))
    refine start_ (n := 16) (S := fun w' => w'.cell? ⟨w.heap.size, j7, none⟩ = some (.int .u32 v7) ∧ w'.cell? ⟨w.heap.size, j16, none⟩ = some (.int .u32 v16) ∧ w'.cell? ⟨w.heap.size, i, none⟩ = some (.int .u32 r0) ∧ w'.frozen? ⟨w.heap.size, i, none⟩ = false) (ds := [15]) #[false, false, false, false, false, false, false, false, false, false, false, false, false, false, false, false] (by kernel_rfl) rfl rfl HS.out (fun hHeld => ?_)
    refine pure_ (i := 0) (N := some 142) (v := ?_) (a' := ?_) #[true, false, false, false, false, false, false, false, false, false, false, false, false, false, false, false] rfl rfl (by kernel_rfl) (fun _ _ _ h => hP _ _ _ _ _ h) (Or.inl ⟨by rfl, ?_⟩) ?_ ?_
    rotate_left
    · intro w'
      go_simp
      with_reducible rfl
    rotate_left
    · simp only [Act.put, List.setIfInBounds_toArray, List.set_cons_zero, List.set_cons_succ, i64_w, i32_w]
      rfl
    refine pure_ (i := 1) (N := some 143) (v := ?_) (a' := ?_) #[true, true, false, false, false, false, false, false, false, false, false, false, false, false, false, false] rfl rfl (by kernel_rfl) (fun _ _ _ h => hP _ _ _ _ _ h) (Or.inl ⟨by rfl, ?_⟩) ?_ ?_
    rotate_left
    · intro w'
      go_simp
      with_reducible rfl
    rotate_left
    · simp only [Act.put, List.setIfInBounds_toArray, List.set_cons_zero, List.set_cons_succ, i64_w, i32_w]
      rfl
    refine pure_ (i := 2) (N := some 144) (v := ?_) (a' := ?_) #[true, true, true, false, false, false, false, false, false, false, false, false, false, false, false, false] rfl rfl (by kernel_rfl) (fun _ _ _ h => hP _ _ _ _ _ h) (Or.inl ⟨by rfl, ?_⟩) ?_ ?_
    rotate_left
    · intro w'
      go_simp
      with_reducible rfl
    rotate_left
    · simp only [Act.put, List.setIfInBounds_toArray, List.set_cons_zero, List.set_cons_succ, i64_w, i32_w]
      rfl
    refine pure_ (i := 3) (N := some 145) (v := ?_) (a' := ?_) #[true, true, true, true, false, false, false, false, false, false, false, false, false, false, false, false] rfl rfl (by kernel_rfl) (fun _ _ _ h => hP _ _ _ _ _ h) (Or.inl ⟨by rfl, ?_⟩) ?_ ?_
    rotate_left
    · intro w'
      exact (congrArg (fun x => Result.ok (Next.value (Value.int .i64 x)) w') HQ7.out)
    rotate_left
    · simp only [Act.put, List.setIfInBounds_toArray, List.set_cons_zero, List.set_cons_succ, i64_w, i32_w]
      rfl
    refine pure_ (i := 4) (N := some 146) (v := ?_) (a' := ?_) #[true, true, true, true, true, false, false, false, false, false, false, false, false, false, false, false] rfl rfl (by kernel_rfl) (fun _ _ _ h => hP _ _ _ _ _ h) (Or.inl ⟨by rfl, ?_⟩) ?_ ?_
    rotate_left
    · intro w'
      go_simp
      with_reducible rfl
    rotate_left
    · simp only [Act.put, List.setIfInBounds_toArray, List.set_cons_zero, List.set_cons_succ, i64_w, i32_w]
      rfl
    refine take_ (i := 5) (N := some 147) (v := ?_) (a' := ?_) #[true, true, true, true, true, true, false, false, false, false, false, false, false, false, false, false] rfl rfl (by kernel_rfl) (fun _ _ _ h => hP _ _ _ _ _ h) (Or.inl ⟨by rfl, ?_⟩) hHeld ?_ ?_
    rotate_left
    · rintro w' ⟨s0, s1, s2, s3⟩
      go_simp
      with_reducible rfl
    rotate_left
    · simp only [Act.put, List.setIfInBounds_toArray, List.set_cons_zero, List.set_cons_succ, i64_w, i32_w]
      rfl
    refine pure_ (i := 6) (N := some 148) (v := ?_) (a' := ?_) #[true, true, true, true, true, true, true, false, false, false, false, false, false, false, false, false] rfl rfl (by kernel_rfl) (fun _ _ _ h => hP _ _ _ _ _ h) (Or.inl ⟨by rfl, ?_⟩) ?_ ?_
    rotate_left
    · intro w'
      go_simp
      with_reducible rfl
    rotate_left
    · simp only [Act.put, List.setIfInBounds_toArray, List.set_cons_zero, List.set_cons_succ, i64_w, i32_w]
      rfl
    refine pure_ (i := 7) (N := some 149) (v := ?_) (a' := ?_) #[true, true, true, true, true, true, true, true, false, false, false, false, false, false, false, false] rfl rfl (by kernel_rfl) (fun _ _ _ h => hP _ _ _ _ _ h) (Or.inl ⟨by rfl, ?_⟩) ?_ ?_
    rotate_left
    · intro w'
      go_simp
      with_reducible rfl
    rotate_left
    · simp only [Act.put, List.setIfInBounds_toArray, List.set_cons_zero, List.set_cons_succ, i64_w, i32_w]
      rfl
    refine pure_ (i := 8) (N := some 150) (v := ?_) (a' := ?_) #[true, true, true, true, true, true, true, true, true, false, false, false, false, false, false, false] rfl rfl (by kernel_rfl) (fun _ _ _ h => hP _ _ _ _ _ h) (Or.inl ⟨by rfl, ?_⟩) ?_ ?_
    rotate_left
    · intro w'
      go_simp
      with_reducible rfl
    rotate_left
    · simp only [Act.put, List.setIfInBounds_toArray, List.set_cons_zero, List.set_cons_succ, i64_w, i32_w]
      rfl
    refine pure_ (i := 9) (N := some 151) (v := ?_) (a' := ?_) #[true, true, true, true, true, true, true, true, true, true, false, false, false, false, false, false] rfl rfl (by kernel_rfl) (fun _ _ _ h => hP _ _ _ _ _ h) (Or.inl ⟨by rfl, ?_⟩) ?_ ?_
    rotate_left
    · intro w'
      go_simp
      with_reducible rfl
    rotate_left
    · simp only [Act.put, List.setIfInBounds_toArray, List.set_cons_zero, List.set_cons_succ, i64_w, i32_w]
      rfl
    refine pure_ (i := 10) (N := some 152) (v := ?_) (a' := ?_) #[true, true, true, true, true, true, true, true, true, true, true, false, false, false, false, false] rfl rfl (by kernel_rfl) (fun _ _ _ h => hP _ _ _ _ _ h) (Or.inl ⟨by rfl, ?_⟩) ?_ ?_
    rotate_left
    · intro w'
      exact (congrArg (fun x => Result.ok (Next.value (Value.int .i64 x)) w') HQ16.out)
    rotate_left
    · simp only [Act.put, List.setIfInBounds_toArray, List.set_cons_zero, List.set_cons_succ, i64_w, i32_w]
      rfl
    refine pure_ (i := 11) (N := some 153) (v := ?_) (a' := ?_) #[true, true, true, true, true, true, true, true, true, true, true, true, false, false, false, false] rfl rfl (by kernel_rfl) (fun _ _ _ h => hP _ _ _ _ _ h) (Or.inl ⟨by rfl, ?_⟩) ?_ ?_
    rotate_left
    · intro w'
      go_simp
      with_reducible rfl
    rotate_left
    · simp only [Act.put, List.setIfInBounds_toArray, List.set_cons_zero, List.set_cons_succ, i64_w, i32_w]
      rfl
    refine take_ (i := 12) (N := some 154) (v := ?_) (a' := ?_) #[true, true, true, true, true, true, true, true, true, true, true, true, true, false, false, false] rfl rfl (by kernel_rfl) (fun _ _ _ h => hP _ _ _ _ _ h) (Or.inl ⟨by rfl, ?_⟩) hHeld ?_ ?_
    rotate_left
    · rintro w' ⟨s0, s1, s2, s3⟩
      go_simp
      with_reducible rfl
    rotate_left
    · simp only [Act.put, List.setIfInBounds_toArray, List.set_cons_zero, List.set_cons_succ, i64_w, i32_w]
      rfl
    refine pure_ (i := 13) (N := some 155) (v := ?_) (a' := ?_) #[true, true, true, true, true, true, true, true, true, true, true, true, true, true, false, false] rfl rfl (by kernel_rfl) (fun _ _ _ h => hP _ _ _ _ _ h) (Or.inl ⟨by rfl, ?_⟩) ?_ ?_
    rotate_left
    · intro w'
      go_simp
      with_reducible rfl
    rotate_left
    · simp only [Act.put, List.setIfInBounds_toArray, List.set_cons_zero, List.set_cons_succ, i64_w, i32_w]
      rfl
    refine pure_ (i := 14) (N := some 156) (v := ?_) (a' := ?_) #[true, true, true, true, true, true, true, true, true, true, true, true, true, true, true, false] rfl rfl (by kernel_rfl) (fun _ _ _ h => hP _ _ _ _ _ h) (Or.inl ⟨by rfl, ?_⟩) ?_ ?_
    rotate_left
    · intro w'
      go_simp
      with_reducible rfl
    rotate_left
    · simp only [Act.put, List.setIfInBounds_toArray, List.set_cons_zero, List.set_cons_succ, i64_w, i32_w]
      rfl
    refine last_ (i := 15) (N := none) #[true, true, true, true, true, true, true, true, true, true, true, true, true, true, true, true] rfl rfl (by kernel_rfl) (by decide) (fun K hK => ?_)
    obtain ⟨g0, g1, g2, g3⟩ := hHeld
    refine skip_ (w1 := ?_) (by rfl) rfl ?_ ?_
    rotate_left
    · go_simp
      rfl
    refine hK.out _ _ ?_
    clear hK K
    refine norm_ (a' := ?_) ?_ ?_
    rotate_left
    · rfl
    refine done_ (by kernel_rfl) ?_
    go_wp2_with fail
    apply hQ
    · exact ⟨below_setOld (below_drew HB.out) (Nat.le_refl _) _ _⟩
    · exact ⟨rs, HRL.out, wl_store (W := wr.drew) HG.out (by rw [HWN.out]; unfold sigma0 sigma1; with_reducible rfl)⟩
end Go.Proofs.YtigpdgfhngknhaaDoor.Sha
/- The hash: the first sum of a round. -/
namespace Go.Proofs.YtigpdgfhngknhaaDoor.Sha
open Go.RowKit Go.Proofs.YtigpdgfhngknhaaDoorW.PrintWords Go.Proofs.YtigpdgfhngknhaaDoorW.PrintLast Go.Proofs.YtigpdgfhngknhaaDoorW.PrintMore Go.Proofs.YtigpdgfhngknhaaDoor.QFnTapRoot
set_option linter.unusedVariables false
set_option linter.unusedSimpArgs false
set_option maxRecDepth 100000 in
set_option maxHeartbeats 16000000 in
theorem sumL (i : Nat) (t4 t5 t6 t7 kv wv : Int) (w wr : World) (Q : Exit → Act → World → Prop) (hP : ∀ c a n v w, Q (.panic c) (Act.put a n v) w → Q (.panic c) a w) (cd : Code) (hcd : Tryd.f64.body.bind (findR 15) = some cd) (y0 y1 y2 y3 y5 y6 y7 y8 y9 y10 y11 y12 y13 y14 y15 y16 y22 y23 y24 y25 y26 y27 y28 y29 y30 y31 y32 y33 y34 y35 y36 y37 y38 y39 y40 y41 y42 y43 y44 y45 y46 y47 y48 y49 y50 y51 y52 y53 y54 y55 y56 y57 y58 y59 y60 y61 y62 y63 y64 y65 y66 y67 y68 y69 y70 y71 y72 y73 y74 y75 y76 y77 y78 y79 y80 y81 y82 y83 y84 y85 y86 y87 y88 y89 y90 y91 y92 y93 y94 y95 y96 y97 y98 y99 y100 y101 y102 y103 y104 y105 y106 y107 y108 y109 y110 y111 y112 y113 y114 y115 y116 y117 y118 y119 y120 y121 y122 y123 y124 y125 y126 y127 y128 y129 y130 y131 y132 y133 y134 y135 y136 y137 y138 y139 y140 y141 y142 y143 y144 y145 y146 y147 y148 y149 y150 y151 y152 y153 y154 y155 y156 y157 y158 y159 y160 y161 y162 y163 y164 y165 y166 y167 y168 y169 y170 y171 y172 y173 y174 y175 y176 y177 y178 y179 y180 y181 y182 y183 y184 y185 y186 y187 y188 y189 y190 y191 y192 y193 y194 y195 y196 y197 y198 y199 y200 y201 y202 y203 y204 y205 y206 y207 y208 y209 y210 y211 y212 y213 y214 y215 y216 y217 y218 y219 y220 y221 y222 y223 y224 y225 y226 y227 y228 y229 y230 y231 y232 y233 y234 y235 y236 y237 y238 y239 y240 y241 y242 y243 y244 y245 y246 y247 y248 y249 y250 y251 y252 y253 y254 y255 y256 y257 y258 y259 y260 y261 y262 y263 y264 y265 y266 y267 y268 y269 y270 y271 y272 y273 y274 y275 y276 y277 y278 y279 y280 y281 y282 : Value)
    (hi : i < 64) (hk : wr.cell? ⟨6, i, none⟩ = some (.int .u32 kv)) (hw : wr.cell? ⟨w.heap.size, i, none⟩ = some (.int .u32 wv))
    (hQ : ∀ (x157 x158 x159 x160 x161 x162 x163 x164 x165 x166 x167 x168 x169 x170 x171 x172 x173 x174 x175 x176 x177 x178 x179 x180 x181 x182 x183 : Value), Q .normal { tmps := #[y0, y1, y2, y3, .pointer (some ⟨w.heap.size, 0, none⟩), y5, y6, y7, y8, y9, y10, y11, y12, y13, y14, y15, y16, .int .u32 t4, .int .u32 t5, .int .u32 t6, .int .u32 t7, .int .i64 (i : Int), y22, y23, y24, y25, y26, .int .u32 (t1V t4 t5 t6 t7 kv wv), y28, y29, y30, y31, y32, y33, y34, y35, y36, y37, y38, y39, y40, y41, y42, y43, y44, y45, y46, y47, y48, y49, y50, y51, y52, y53, y54, y55, y56, y57, y58, y59, y60, y61, y62, y63, y64, y65, y66, y67, y68, y69, y70, y71, y72, y73, y74, y75, y76, y77, y78, y79, y80, y81, y82, y83, y84, y85, y86, y87, y88, y89, y90, y91, y92, y93, y94, y95, y96, y97, y98, y99, y100, y101, y102, y103, y104, y105, y106, y107, y108, y109, y110, y111, y112, y113, y114, y115, y116, y117, y118, y119, y120, y121, y122, y123, y124, y125, y126, y127, y128, y129, y130, y131, y132, y133, y134, y135, y136, y137, y138, y139, y140, y141, y142, y143, y144, y145, y146, y147, y148, y149, y150, y151, y152, y153, y154, y155, y156, x157, x158, x159, x160, x161, x162, x163, x164, x165, x166, x167, x168, x169, x170, x171, x172, x173, x174, x175, x176, x177, x178, x179, x180, x181, x182, x183, y184, y185, y186, y187, y188, y189, y190, y191, y192, y193, y194, y195, y196, y197, y198, y199, y200, y201, y202, y203, y204, y205, y206, y207, y208, y209, y210, y211, y212, y213, y214, y215, y216, y217, y218, y219, y220, y221, y222, y223, y224, y225, y226, y227, y228, y229, y230, y231, y232, y233, y234, y235, y236, y237, y238, y239, y240, y241, y242, y243, y244, y245, y246, y247, y248, y249, y250, y251, y252, y253, y254, y255, y256, y257, y258, y259, y260, y261, y262, y263, y264, y265, y266, y267, y268, y269, y270, y271, y272, y273, y274, y275, y276, y277, y278, y279, y280, y281, y282], defers := [] } wr.drew) :
    Code.wp Tryd.prog cd Q { tmps := #[y0, y1, y2, y3, .pointer (some ⟨w.heap.size, 0, none⟩), y5, y6, y7, y8, y9, y10, y11, y12, y13, y14, y15, y16, .int .u32 t4, .int .u32 t5, .int .u32 t6, .int .u32 t7, .int .i64 (i : Int), y22, y23, y24, y25, y26, y27, y28, y29, y30, y31, y32, y33, y34, y35, y36, y37, y38, y39, y40, y41, y42, y43, y44, y45, y46, y47, y48, y49, y50, y51, y52, y53, y54, y55, y56, y57, y58, y59, y60, y61, y62, y63, y64, y65, y66, y67, y68, y69, y70, y71, y72, y73, y74, y75, y76, y77, y78, y79, y80, y81, y82, y83, y84, y85, y86, y87, y88, y89, y90, y91, y92, y93, y94, y95, y96, y97, y98, y99, y100, y101, y102, y103, y104, y105, y106, y107, y108, y109, y110, y111, y112, y113, y114, y115, y116, y117, y118, y119, y120, y121, y122, y123, y124, y125, y126, y127, y128, y129, y130, y131, y132, y133, y134, y135, y136, y137, y138, y139, y140, y141, y142, y143, y144, y145, y146, y147, y148, y149, y150, y151, y152, y153, y154, y155, y156, y157, y158, y159, y160, y161, y162, y163, y164, y165, y166, y167, y168, y169, y170, y171, y172, y173, y174, y175, y176, y177, y178, y179, y180, y181, y182, y183, y184, y185, y186, y187, y188, y189, y190, y191, y192, y193, y194, y195, y196, y197, y198, y199, y200, y201, y202, y203, y204, y205, y206, y207, y208, y209, y210, y211, y212, y213, y214, y215, y216, y217, y218, y219, y220, y221, y222, y223, y224, y225, y226, y227, y228, y229, y230, y231, y232, y233, y234, y235, y236, y237, y238, y239, y240, y241, y242, y243, y244, y245, y246, y247, y248, y249, y250, y251, y252, y253, y254, y255, y256, y257, y258, y259, y260, y261, y262, y263, y264, y265, y266, y267, y268, y269, y270, y271, y272, y273, y274, y275, y276, y277, y278, y279, y280, y281, y282], defers := [] } wr := by
  have hi1 : (i : Int) < 64 := by omega
  have HS : Aside0 (wr.drew.cell? ⟨6, i, none⟩ = some (.int .u32 kv) ∧ wr.drew.cell? ⟨w.heap.size, i, none⟩ = some (.int .u32 wv)) := ⟨hk, hw⟩
  clear hk hw
  dsimp only [Tryd.f64, Option.bind, findR, Option.orElse] at hcd
  obtain rfl := Option.some.inj hcd
  refine start_ (n := 28) (S := fun w' => w'.cell? ⟨6, i, none⟩ = some (.int .u32 kv) ∧ w'.cell? ⟨w.heap.size, i, none⟩ = some (.int .u32 wv)) (ds := []) #[false, false, false, false, false, false, false, false, false, false, false, false, false, false, false, false, false, false, false, false, false, false, false, false, false, false, false, false] (by kernel_rfl) rfl rfl HS.out (fun hHeld => ?_)
  refine pure_ (i := 0) (N := some 157) (v := ?_) (a' := ?_) #[true, false, false, false, false, false, false, false, false, false, false, false, false, false, false, false, false, false, false, false, false, false, false, false, false, false, false, false] rfl rfl (by kernel_rfl) (fun _ _ _ h => hP _ _ _ _ _ h) (Or.inl ⟨by rfl, ?_⟩) ?_ ?_
  rotate_left
  · intro w'
    go_simp
    with_reducible rfl
  rotate_left
  · simp only [Act.put, List.setIfInBounds_toArray, List.set_cons_zero, List.set_cons_succ, i64_w, i32_w]
    rfl
  refine pure_ (i := 1) (N := some 158) (v := ?_) (a' := ?_) #[true, true, false, false, false, false, false, false, false, false, false, false, false, false, false, false, false, false, false, false, false, false, false, false, false, false, false, false] rfl rfl (by kernel_rfl) (fun _ _ _ h => hP _ _ _ _ _ h) (Or.inl ⟨by rfl, ?_⟩) ?_ ?_
  rotate_left
  · intro w'
    go_simp
    with_reducible rfl
  rotate_left
  · simp only [Act.put, List.setIfInBounds_toArray, List.set_cons_zero, List.set_cons_succ, i64_w, i32_w]
    rfl
  refine pure_ (i := 3) (N := some 160) (v := ?_) (a' := ?_) #[true, true, false, true, false, false, false, false, false, false, false, false, false, false, false, false, false, false, false, false, false, false, false, false, false, false, false, false] rfl rfl (by kernel_rfl) (fun _ _ _ h => hP _ _ _ _ _ h) (Or.inl ⟨by rfl, ?_⟩) ?_ ?_
  rotate_left
  · intro w'
    go_simp
    with_reducible rfl
  rotate_left
  · simp only [Act.put, List.setIfInBounds_toArray, List.set_cons_zero, List.set_cons_succ, i64_w, i32_w]
    rfl
  refine pure_ (i := 6) (N := some 163) (v := ?_) (a' := ?_) #[true, true, false, true, false, false, true, false, false, false, false, false, false, false, false, false, false, false, false, false, false, false, false, false, false, false, false, false] rfl rfl (by kernel_rfl) (fun _ _ _ h => hP _ _ _ _ _ h) (Or.inl ⟨by rfl, ?_⟩) ?_ ?_
  rotate_left
  · intro w'
    go_simp
    with_reducible rfl
  rotate_left
  · simp only [Act.put, List.setIfInBounds_toArray, List.set_cons_zero, List.set_cons_succ, i64_w, i32_w]
    rfl
  refine pure_ (i := 10) (N := some 167) (v := ?_) (a' := ?_) #[true, true, false, true, false, false, true, false, false, false, true, false, false, false, false, false, false, false, false, false, false, false, false, false, false, false, false, false] rfl rfl (by kernel_rfl) (fun _ _ _ h => hP _ _ _ _ _ h) (Or.inl ⟨by rfl, ?_⟩) ?_ ?_
  rotate_left
  · intro w'
    go_simp
    with_reducible rfl
  rotate_left
  · simp only [Act.put, List.setIfInBounds_toArray, List.set_cons_zero, List.set_cons_succ, i64_w, i32_w]
    rfl
  refine pure_ (i := 11) (N := some 168) (v := ?_) (a' := ?_) #[true, true, false, true, false, false, true, false, false, false, true, true, false, false, false, false, false, false, false, false, false, false, false, false, false, false, false, false] rfl rfl (by kernel_rfl) (fun _ _ _ h => hP _ _ _ _ _ h) (Or.inl ⟨by rfl, ?_⟩) ?_ ?_
  rotate_left
  · intro w'
    go_simp
    with_reducible rfl
  rotate_left
  · simp only [Act.put, List.setIfInBounds_toArray, List.set_cons_zero, List.set_cons_succ, i64_w, i32_w]
    rfl
  refine pure_ (i := 12) (N := some 169) (v := ?_) (a' := ?_) #[true, true, false, true, false, false, true, false, false, false, true, true, true, false, false, false, false, false, false, false, false, false, false, false, false, false, false, false] rfl rfl (by kernel_rfl) (fun _ _ _ h => hP _ _ _ _ _ h) (Or.inl ⟨by rfl, ?_⟩) ?_ ?_
  rotate_left
  · intro w'
    go_simp
    with_reducible rfl
  rotate_left
  · simp only [Act.put, List.setIfInBounds_toArray, List.set_cons_zero, List.set_cons_succ, i64_w, i32_w]
    rfl
  refine pure_ (i := 13) (N := some 170) (v := ?_) (a' := ?_) #[true, true, false, true, false, false, true, false, false, false, true, true, true, true, false, false, false, false, false, false, false, false, false, false, false, false, false, false] rfl rfl (by kernel_rfl) (fun _ _ _ h => hP _ _ _ _ _ h) (Or.inl ⟨by rfl, ?_⟩) ?_ ?_
  rotate_left
  · intro w'
    go_simp
    with_reducible rfl
  rotate_left
  · simp only [Act.put, List.setIfInBounds_toArray, List.set_cons_zero, List.set_cons_succ, i64_w, i32_w]
    rfl
  refine pure_ (i := 14) (N := some 171) (v := ?_) (a' := ?_) #[true, true, false, true, false, false, true, false, false, false, true, true, true, true, true, false, false, false, false, false, false, false, false, false, false, false, false, false] rfl rfl (by kernel_rfl) (fun _ _ _ h => hP _ _ _ _ _ h) (Or.inl ⟨by rfl, ?_⟩) ?_ ?_
  rotate_left
  · intro w'
    go_simp
    with_reducible rfl
  rotate_left
  · simp only [Act.put, List.setIfInBounds_toArray, List.set_cons_zero, List.set_cons_succ, i64_w, i32_w]
    rfl
  refine pure_ (i := 15) (N := some 172) (v := ?_) (a' := ?_) #[true, true, false, true, false, false, true, false, false, false, true, true, true, true, true, true, false, false, false, false, false, false, false, false, false, false, false, false] rfl rfl (by kernel_rfl) (fun _ _ _ h => hP _ _ _ _ _ h) (Or.inl ⟨by rfl, ?_⟩) ?_ ?_
  rotate_left
  · intro w'
    go_simp
    with_reducible rfl
  rotate_left
  · simp only [Act.put, List.setIfInBounds_toArray, List.set_cons_zero, List.set_cons_succ, i64_w, i32_w]
    rfl
  refine pure_ (i := 16) (N := some 173) (v := ?_) (a' := ?_) #[true, true, false, true, false, false, true, false, false, false, true, true, true, true, true, true, true, false, false, false, false, false, false, false, false, false, false, false] rfl rfl (by kernel_rfl) (fun _ _ _ h => hP _ _ _ _ _ h) (Or.inl ⟨by rfl, ?_⟩) ?_ ?_
  rotate_left
  · intro w'
    go_simp
    with_reducible rfl
  rotate_left
  · simp only [Act.put, List.setIfInBounds_toArray, List.set_cons_zero, List.set_cons_succ, i64_w, i32_w]
    rfl
  refine pure_ (i := 17) (N := some 174) (v := ?_) (a' := ?_) #[true, true, false, true, false, false, true, false, false, false, true, true, true, true, true, true, true, true, false, false, false, false, false, false, false, false, false, false] rfl rfl (by kernel_rfl) (fun _ _ _ h => hP _ _ _ _ _ h) (Or.inl ⟨by rfl, ?_⟩) ?_ ?_
  rotate_left
  · intro w'
    go_simp
    with_reducible rfl
  rotate_left
  · simp only [Act.put, List.setIfInBounds_toArray, List.set_cons_zero, List.set_cons_succ, i64_w, i32_w]
    rfl
  refine pure_ (i := 19) (N := some 176) (v := ?_) (a' := ?_) #[true, true, false, true, false, false, true, false, false, false, true, true, true, true, true, true, true, true, false, true, false, false, false, false, false, false, false, false] rfl rfl (by kernel_rfl) (fun _ _ _ h => hP _ _ _ _ _ h) (Or.inl ⟨by rfl, ?_⟩) ?_ ?_
  rotate_left
  · intro w'
    go_simp
    with_reducible rfl
  rotate_left
  · simp only [Act.put, List.setIfInBounds_toArray, List.set_cons_zero, List.set_cons_succ, i64_w, i32_w]
    rfl
  refine pure_ (i := 20) (N := some 177) (v := ?_) (a' := ?_) #[true, true, false, true, false, false, true, false, false, false, true, true, true, true, true, true, true, true, false, true, true, false, false, false, false, false, false, false] rfl rfl (by kernel_rfl) (fun _ _ _ h => hP _ _ _ _ _ h) (Or.inl ⟨by rfl, ?_⟩) ?_ ?_
  rotate_left
  · intro w'
    go_simp
    with_reducible rfl
  rotate_left
  · simp only [Act.put, List.setIfInBounds_toArray, List.set_cons_zero, List.set_cons_succ, i64_w, i32_w]
    rfl
  refine take_ (i := 21) (N := some 178) (v := ?_) (a' := ?_) #[true, true, false, true, false, false, true, false, false, false, true, true, true, true, true, true, true, true, false, true, true, true, false, false, false, false, false, false] rfl rfl (by kernel_rfl) (fun _ _ _ h => hP _ _ _ _ _ h) (Or.inl ⟨by rfl, ?_⟩) hHeld ?_ ?_
  rotate_left
  · rintro w' ⟨s0, s1⟩
    go_simp
    with_reducible rfl
  rotate_left
  · simp only [Act.put, List.setIfInBounds_toArray, List.set_cons_zero, List.set_cons_succ, i64_w, i32_w]
    rfl
  refine pure_ (i := 23) (N := some 180) (v := ?_) (a' := ?_) #[true, true, false, true, false, false, true, false, false, false, true, true, true, true, true, true, true, true, false, true, true, true, false, true, false, false, false, false] rfl rfl (by kernel_rfl) (fun _ _ _ h => hP _ _ _ _ _ h) (Or.inl ⟨by rfl, ?_⟩) ?_ ?_
  rotate_left
  · intro w'
    go_simp
    with_reducible rfl
  rotate_left
  · simp only [Act.put, List.setIfInBounds_toArray, List.set_cons_zero, List.set_cons_succ, i64_w, i32_w]
    rfl
  refine pure_ (i := 24) (N := some 181) (v := ?_) (a' := ?_) #[true, true, false, true, false, false, true, false, false, false, true, true, true, true, true, true, true, true, false, true, true, true, false, true, true, false, false, false] rfl rfl (by kernel_rfl) (fun _ _ _ h => hP _ _ _ _ _ h) (Or.inl ⟨by rfl, ?_⟩) ?_ ?_
  rotate_left
  · intro w'
    go_simp
    with_reducible rfl
  rotate_left
  · simp only [Act.put, List.setIfInBounds_toArray, List.set_cons_zero, List.set_cons_succ, i64_w, i32_w]
    rfl
  refine take_ (i := 25) (N := some 182) (v := ?_) (a' := ?_) #[true, true, false, true, false, false, true, false, false, false, true, true, true, true, true, true, true, true, false, true, true, true, false, true, true, true, false, false] rfl rfl (by kernel_rfl) (fun _ _ _ h => hP _ _ _ _ _ h) (Or.inl ⟨by rfl, ?_⟩) hHeld ?_ ?_
  rotate_left
  · rintro w' ⟨s0, s1⟩
    go_simp
    with_reducible rfl
  rotate_left
  · simp only [Act.put, List.setIfInBounds_toArray, List.set_cons_zero, List.set_cons_succ, i64_w, i32_w]
    rfl
  refine one_ (i := 2) (N := some 159) #[true, true, true, true, false, false, true, false, false, false, true, true, true, true, true, true, true, true, false, true, true, true, false, true, true, true, false, false] rfl rfl (by kernel_rfl) (by decide) (fun K hK => ?_)
  refine goes_ Tryd.func113 (by kernel_rfl) rfl #[.int .u32 t4, .int .i64 (-6)] (by rfl) rfl rfl (by (try simp only [List.map_toArray, List.map_cons, List.map_nil]); first | done | rfl | (simp only [List.length_drop, List.length_take]; rfl)) ?_
  with_reducible refine (rot6 t4 _).mono ?_
  rintro e w' ⟨rfl, rfl⟩
  refine ⟨_, rfl, ?_⟩
  refine hK.out _ _ hHeld (fun hHeld => ?_)
  clear hK K
  refine norm_ (a' := ?_) ?_ ?_
  rotate_left
  · show Act.put _ (some 159) _ = _
    simp only [Act.put, List.setIfInBounds_toArray, List.set_cons_zero, List.set_cons_succ, i64_w, i32_w]
    rfl
  refine one_ (i := 4) (N := some 161) #[true, true, true, true, true, false, true, false, false, false, true, true, true, true, true, true, true, true, false, true, true, true, false, true, true, true, false, false] rfl rfl (by kernel_rfl) (by decide) (fun K hK => ?_)
  refine goes_ Tryd.func113 (by kernel_rfl) rfl #[.int .u32 t4, .int .i64 (-11)] (by rfl) rfl rfl (by (try simp only [List.map_toArray, List.map_cons, List.map_nil]); first | done | rfl | (simp only [List.length_drop, List.length_take]; rfl)) ?_
  with_reducible refine (rot11 t4 _).mono ?_
  rintro e w' ⟨rfl, rfl⟩
  refine ⟨_, rfl, ?_⟩
  refine hK.out _ _ hHeld (fun hHeld => ?_)
  clear hK K
  refine norm_ (a' := ?_) ?_ ?_
  rotate_left
  · show Act.put _ (some 161) _ = _
    simp only [Act.put, List.setIfInBounds_toArray, List.set_cons_zero, List.set_cons_succ, i64_w, i32_w]
    rfl
  refine pure_ (i := 5) (N := some 162) (v := ?_) (a' := ?_) #[true, true, true, true, true, true, true, false, false, false, true, true, true, true, true, true, true, true, false, true, true, true, false, true, true, true, false, false] rfl rfl (by kernel_rfl) (fun _ _ _ h => hP _ _ _ _ _ h) (Or.inl ⟨by rfl, ?_⟩) ?_ ?_
  rotate_left
  · intro w'
    go_simp
    with_reducible rfl
  rotate_left
  · simp only [Act.put, List.setIfInBounds_toArray, List.set_cons_zero, List.set_cons_succ, i64_w, i32_w]
    rfl
  refine one_ (i := 7) (N := some 164) #[true, true, true, true, true, true, true, true, false, false, true, true, true, true, true, true, true, true, false, true, true, true, false, true, true, true, false, false] rfl rfl (by kernel_rfl) (by decide) (fun K hK => ?_)
  refine goes_ Tryd.func113 (by kernel_rfl) rfl #[.int .u32 t4, .int .i64 (-25)] (by rfl) rfl rfl (by (try simp only [List.map_toArray, List.map_cons, List.map_nil]); first | done | rfl | (simp only [List.length_drop, List.length_take]; rfl)) ?_
  with_reducible refine (rot25 t4 _).mono ?_
  rintro e w' ⟨rfl, rfl⟩
  refine ⟨_, rfl, ?_⟩
  refine hK.out _ _ hHeld (fun hHeld => ?_)
  clear hK K
  refine norm_ (a' := ?_) ?_ ?_
  rotate_left
  · show Act.put _ (some 164) _ = _
    simp only [Act.put, List.setIfInBounds_toArray, List.set_cons_zero, List.set_cons_succ, i64_w, i32_w]
    rfl
  refine pure_ (i := 8) (N := some 165) (v := ?_) (a' := ?_) #[true, true, true, true, true, true, true, true, true, false, true, true, true, true, true, true, true, true, false, true, true, true, false, true, true, true, false, false] rfl rfl (by kernel_rfl) (fun _ _ _ h => hP _ _ _ _ _ h) (Or.inl ⟨by rfl, ?_⟩) ?_ ?_
  rotate_left
  · intro w'
    go_simp
    with_reducible rfl
  rotate_left
  · simp only [Act.put, List.setIfInBounds_toArray, List.set_cons_zero, List.set_cons_succ, i64_w, i32_w]
    rfl
  refine pure_ (i := 9) (N := some 166) (v := ?_) (a' := ?_) #[true, true, true, true, true, true, true, true, true, true, true, true, true, true, true, true, true, true, false, true, true, true, false, true, true, true, false, false] rfl rfl (by kernel_rfl) (fun _ _ _ h => hP _ _ _ _ _ h) (Or.inl ⟨by rfl, ?_⟩) ?_ ?_
  rotate_left
  · intro w'
    go_simp
    with_reducible rfl
  rotate_left
  · simp only [Act.put, List.setIfInBounds_toArray, List.set_cons_zero, List.set_cons_succ, i64_w, i32_w]
    rfl
  refine pure_ (i := 18) (N := some 175) (v := ?_) (a' := ?_) #[true, true, true, true, true, true, true, true, true, true, true, true, true, true, true, true, true, true, true, true, true, true, false, true, true, true, false, false] rfl rfl (by kernel_rfl) (fun _ _ _ h => hP _ _ _ _ _ h) (Or.inl ⟨by rfl, ?_⟩) ?_ ?_
  rotate_left
  · intro w'
    go_simp
    with_reducible rfl
  rotate_left
  · simp only [Act.put, List.setIfInBounds_toArray, List.set_cons_zero, List.set_cons_succ, i64_w, i32_w]
    rfl
  refine pure_ (i := 22) (N := some 179) (v := ?_) (a' := ?_) #[true, true, true, true, true, true, true, true, true, true, true, true, true, true, true, true, true, true, true, true, true, true, true, true, true, true, false, false] rfl rfl (by kernel_rfl) (fun _ _ _ h => hP _ _ _ _ _ h) (Or.inl ⟨by rfl, ?_⟩) ?_ ?_
  rotate_left
  · intro w'
    go_simp
    with_reducible rfl
  rotate_left
  · simp only [Act.put, List.setIfInBounds_toArray, List.set_cons_zero, List.set_cons_succ, i64_w, i32_w]
    rfl
  refine pure_ (i := 26) (N := some 183) (v := ?_) (a' := ?_) #[true, true, true, true, true, true, true, true, true, true, true, true, true, true, true, true, true, true, true, true, true, true, true, true, true, true, true, false] rfl rfl (by kernel_rfl) (fun _ _ _ h => hP _ _ _ _ _ h) (Or.inl ⟨by rfl, ?_⟩) ?_ ?_
  rotate_left
  · intro w'
    go_simp
    with_reducible rfl
  rotate_left
  · simp only [Act.put, List.setIfInBounds_toArray, List.set_cons_zero, List.set_cons_succ, i64_w, i32_w]
    rfl
  refine pure_ (i := 27) (N := some 27) (v := ?_) (a' := ?_) #[true, true, true, true, true, true, true, true, true, true, true, true, true, true, true, true, true, true, true, true, true, true, true, true, true, true, true, true] rfl rfl (by kernel_rfl) (fun _ _ _ h => hP _ _ _ _ _ h) (Or.inl ⟨by rfl, ?_⟩) ?_ ?_
  rotate_left
  · intro w'
    go_simp
    with_reducible rfl
  rotate_left
  · simp only [Act.put, List.setIfInBounds_toArray, List.set_cons_zero, List.set_cons_succ, i64_w, i32_w]
    rfl
  refine done_ (by kernel_rfl) ?_
  apply hQ
end Go.Proofs.YtigpdgfhngknhaaDoor.Sha
