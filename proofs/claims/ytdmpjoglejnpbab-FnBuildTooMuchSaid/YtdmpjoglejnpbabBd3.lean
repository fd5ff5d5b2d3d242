/- The builder of scripts: other pushes, a new one, one begun anew. -/
import Derived.Test.YtdmpjoglejnpbabBd2
namespace Go.Proofs.Ytdmpjoglejnpbab.Bd
open Go.RowKit Go.Proofs.YtdmpjoglejnpbabW.PrintWords Go.Proofs.YtdmpjoglejnpbabW.PrintLast Go.Proofs.YtdmpjoglejnpbabW.PrintMore Go.Proofs.Ytdmpjoglejnpbab.QFnBuilt
set_option linter.unusedVariables false
set_option linter.unusedSimpArgs false
theorem u16w {x : Int} (h0 : 0 ≤ x) (h1 : x < 65536) : IntKind.u16.wrap x = x := by
  simp [IntKind.wrap, IntKind.signed, IntKind.bits]; omega
set_option maxRecDepth 100000 in
set_option maxHeartbeats 4000000 in
theorem putC (b c : Nat) (x y n : Int) (base : Nat) (w : World) (hr : Kd.R (Kd.int .u8) 5 w base (fun _ => True) (.slice (some ⟨b, 0, none⟩) 2 c) [x, y]) :
    Calls Try.prog 28 #[.agg #[], .slice (some ⟨b, 0, none⟩) 2 c, .int .u16 n] w fun e w' => e = .returned (.tuple #[]) ∧ Kd.R (Kd.int .u8) 5 w' base (fun _ => True) (.slice (some ⟨b, 0, none⟩) 2 c) [n % 256, n / 256 % 256] ∧ w.grownBy w' (some b) := by
  have hr0 := Kd.R_alloc hr (.cells #[] 63)
  have hg0 : w.grownBy (w.alloc (.cells #[] 63)) (some b) := World.grownBy_alloc _ _ _
  have hc1 : (w.alloc (.cells #[] 63)).cell? ⟨b, 1, none⟩ = some (.int .u8 y) := (Kd.R_celln 0 hr0 1 (by decide) (by decide)).1
  have hc0 : (w.alloc (.cells #[] 63)).cell? ⟨b, 0, none⟩ = some (.int .u8 x) := (Kd.R_celln 0 hr0 0 (by decide) (by decide)).1
  have hf0 : (w.alloc (.cells #[] 63)).frozen? ⟨b, 0, none⟩ = false := (Kd.R_celln 0 hr0 0 (by decide) (by decide)).2
  have hp := Kd.R_putg hr0 0 (n % 256)
  have hc2 : ((w.alloc (.cells #[] 63)).setCell ⟨b, 0, none⟩ (.int .u8 (n % 256))).cell? ⟨b, 1, none⟩ = some (.int .u8 y) := (Kd.R_celln 0 hp.1 1 (by decide) (by decide)).1
  have hf2 : ((w.alloc (.cells #[] 63)).setCell ⟨b, 0, none⟩ (.int .u8 (n % 256))).frozen? ⟨b, 1, none⟩ = false := (Kd.R_celln 0 hp.1 1 (by decide) (by decide)).2
  have hq := Kd.R_putg hp.1 1 (n / 256 % 256)
  have HQ := Aside0.mk hq.1
  have HG := Aside0.mk (World.grownBy.trans (World.grownBy.trans hg0 hp.2) hq.2)
  clear hr hr0 hg0 hp hq
  go_enter Try.func28, Try.ntmps28
  go_wp2
  go_end0
  exact ⟨rfl, HQ.out, HG.out⟩
theorem R_zero {w : World} {base e n c : Nat} {A : Option Addr} {s : List Int} (h : Kd.R (Kd.int .u8) e w base (fun _ => True) (.slice A n c) s) : Kd.R (Kd.int .u8) e w base (fun _ => True) (.slice A 0 c) [] := by
  have hn := (Kd.R_reads' h).1
  subst hn
  obtain ⟨_, inner, ho, _⟩ := h
  have h1 := own_take ho (Nat.zero_le _)
  rw [Nat.zero_mul, List.take_zero] at h1
  exact ⟨fun _ _ => trivial, [], h1, Reps.none _ _⟩
theorem A_zero (A : Option Addr) (c n : Nat) : (if c = n then A else A.map (fun x => x.add (0 * 1))) = A := by
  split
  · rfl
  · cases A <;> simp [Addr.add]
set_option maxRecDepth 100000 in
set_option maxHeartbeats 4000000 in
theorem resetC (g : Nat) (v err : Value) (s : List Int) (w0 w : World) (h : Bd w0 w g v err s) :
    Calls Try.prog 18 #[pt g] w fun e w' => e = .returned (pt g) ∧ ∃ v', Bd w0 w' g v' .nilIface [] := by
  obtain ⟨A, c, hv⟩ := Kd.R_slice h.row
  subst hv
  have hc := (Kd.R_reads' h.row).2.1
  have h0 := cell_of h.blk (j := 0) rfl
  have hf0 := frozen_of h.blk 0
  have hb : Bd w0 (w.setCell ⟨g, 0, none⟩ (.slice A 0 c)) g (.slice A 0 c) err [] := by
    have hz := R_zero h.row
    refine ⟨by rw [heap_set_same h.blk]; simp, Kd.R_mono (Kd.R_far (p := ⟨g, 0, none⟩) (Kd.R_far1 hz rfl (Kd.R_ne hz h.blk (by decide))) (fun k hk => hk.2) _) (fun _ _ => trivial), h.new, below_set h.low h.new⟩
  have h1 := cell_of hb.blk (j := 1) rfl
  have hf1 := frozen_of hb.blk 1
  have HB := Aside0.mk (hb.bad .nilIface)
  obtain ⟨i, hi⟩ : ∃ i, Try.prog.info? 5 = some i := ⟨_, rfl⟩
  have hsz : i.size = 1 := by have h8 := infoB; rw [hi] at h8; simp at h8; exact h8.2.1
  have hcut : ∀ W : World, (Instr.slice 23 (.slice A s.length c) (some (.int .i64 0)) (some (.int .i64 0)) none).run Try.prog W = .ok (.slice A 0 c) W := by
    intro W
    have h9 := cut_mid (P := Try.prog) 23 5 .i64 .i64 Try.underlying23 hi 1 hsz A s.length c 0 0 (by decide) (by decide) (by omega) hc W
    rw [h9]
    have e1 : (if c = (0 : Int).toNat then A else A.map (fun x => x.add ((0 : Int).toNat * 1))) = A := A_zero A c 0
    show Result.ok (Value.slice (if c = (0 : Int).toNat then A else A.map (fun x => x.add ((0 : Int).toNat * 1))) ((0 : Int).toNat - (0 : Int).toNat) (c - (0 : Int).toNat)) W = _
    rw [e1]; rfl
  clear h hb hc hi
  go_enter Try.func18, Try.ntmps18
  go_wp2
  go_ret
  exact ⟨rfl, _, HB.out⟩
set_option maxRecDepth 100000 in
set_option maxHeartbeats 4000000 in
theorem scriptC (g : Nat) (v err : Value) (s : List Int) (w0 w : World) (h : Bd w0 w g v err s) :
    Calls Try.prog 19 #[pt g] w fun e w' => e = .returned (.tuple #[v, err]) ∧ Bd w0 w' g v err s := by
  have h0 := cell_of h.blk (j := 0) rfl
  have h1 := cell_of h.blk (j := 1) rfl
  have HB := Aside0.mk h
  clear h
  go_enter Try.func19, Try.ntmps19
  go_wp2
  refine start_ (n := 10) (S := fun w' => w'.cell? ⟨g, 0, none⟩ = some v ∧ w'.cell? ⟨g, 1, none⟩ = some err) (ds := []) #[false, false, false, false, false, false, false, false, false, false] (by kernel_rfl) rfl rfl ⟨cell_of HB.out.drew.blk (j := 0) rfl, cell_of HB.out.drew.blk (j := 1) rfl⟩ (fun hHeld => ?_)
  refine pure_ (i := 0) (N := some 4) (v := ?_) (a' := ?_) #[true, false, false, false, false, false, false, false, false, false] rfl rfl (by kernel_rfl) (fun _ _ _ h => h) (Or.inl ⟨by rfl, ?_⟩) ?_ ?_
  rotate_left
  · intro w'
    go_simp
    with_reducible rfl
  rotate_left
  · simp only [Act.put, List.setIfInBounds_toArray, List.set_cons_zero, List.set_cons_succ, i64_w, i32_w]
    rfl
  refine pure_ (i := 1) (N := some 5) (v := ?_) (a' := ?_) #[true, true, false, false, false, false, false, false, false, false] rfl rfl (by kernel_rfl) (fun _ _ _ h => h) (Or.inl ⟨by rfl, ?_⟩) ?_ ?_
  rotate_left
  · intro w'
    go_simp
    with_reducible rfl
  rotate_left
  · simp only [Act.put, List.setIfInBounds_toArray, List.set_cons_zero, List.set_cons_succ, i64_w, i32_w]
    rfl
  refine pure_ (i := 2) (N := some 6) (v := ?_) (a' := ?_) #[true, true, true, false, false, false, false, false, false, false] rfl rfl (by kernel_rfl) (fun _ _ _ h => h) (Or.inl ⟨by rfl, ?_⟩) ?_ ?_
  rotate_left
  · intro w'
    go_simp
    with_reducible rfl
  rotate_left
  · simp only [Act.put, List.setIfInBounds_toArray, List.set_cons_zero, List.set_cons_succ, i64_w, i32_w]
    rfl
  refine take_ (i := 3) (N := some 7) (v := ?_) (a' := ?_) #[true, true, true, true, false, false, false, false, false, false] rfl rfl (by kernel_rfl) (fun _ _ _ h => h) (Or.inl ⟨by rfl, ?_⟩) hHeld ?_ ?_
  rotate_left
  · rintro w' ⟨s0, s1⟩
    go_simp
    with_reducible rfl
  rotate_left
  · simp only [Act.put, List.setIfInBounds_toArray, List.set_cons_zero, List.set_cons_succ, i64_w, i32_w]
    rfl
  refine pure_ (i := 4) (N := some 8) (v := ?_) (a' := ?_) #[true, true, true, true, true, false, false, false, false, false] rfl rfl (by kernel_rfl) (fun _ _ _ h => h) (Or.inl ⟨by rfl, ?_⟩) ?_ ?_
  rotate_left
  · intro w'
    go_simp
    with_reducible rfl
  rotate_left
  · simp only [Act.put, List.setIfInBounds_toArray, List.set_cons_zero, List.set_cons_succ, i64_w, i32_w]
    rfl
  refine pure_ (i := 5) (N := some 9) (v := ?_) (a' := ?_) #[true, true, true, true, true, true, false, false, false, false] rfl rfl (by kernel_rfl) (fun _ _ _ h => h) (Or.inl ⟨by rfl, ?_⟩) ?_ ?_
  rotate_left
  · intro w'
    go_simp
    with_reducible rfl
  rotate_left
  · simp only [Act.put, List.setIfInBounds_toArray, List.set_cons_zero, List.set_cons_succ, i64_w, i32_w]
    rfl
  refine pure_ (i := 6) (N := some 10) (v := ?_) (a' := ?_) #[true, true, true, true, true, true, true, false, false, false] rfl rfl (by kernel_rfl) (fun _ _ _ h => h) (Or.inl ⟨by rfl, ?_⟩) ?_ ?_
  rotate_left
  · intro w'
    go_simp
    with_reducible rfl
  rotate_left
  · simp only [Act.put, List.setIfInBounds_toArray, List.set_cons_zero, List.set_cons_succ, i64_w, i32_w]
    rfl
  refine take_ (i := 7) (N := some 11) (v := ?_) (a' := ?_) #[true, true, true, true, true, true, true, true, false, false] rfl rfl (by kernel_rfl) (fun _ _ _ h => h) (Or.inl ⟨by rfl, ?_⟩) hHeld ?_ ?_
  rotate_left
  · rintro w' ⟨s0, s1⟩
    go_simp
    with_reducible rfl
  rotate_left
  · simp only [Act.put, List.setIfInBounds_toArray, List.set_cons_zero, List.set_cons_succ, i64_w, i32_w]
    rfl
  refine pure_ (i := 8) (N := some 2) (v := ?_) (a' := ?_) #[true, true, true, true, true, true, true, true, true, false] rfl rfl (by kernel_rfl) (fun _ _ _ h => h) (Or.inl ⟨by rfl, ?_⟩) ?_ ?_
  rotate_left
  · intro w'
    go_simp
    with_reducible rfl
  rotate_left
  · simp only [Act.put, List.setIfInBounds_toArray, List.set_cons_zero, List.set_cons_succ, i64_w, i32_w]
    rfl
  refine pure_ (i := 9) (N := some 3) (v := ?_) (a' := ?_) #[true, true, true, true, true, true, true, true, true, true] rfl rfl (by kernel_rfl) (fun _ _ _ h => h) (Or.inl ⟨by rfl, ?_⟩) ?_ ?_
  rotate_left
  · intro w'
    go_simp
    with_reducible rfl
  rotate_left
  · simp only [Act.put, List.setIfInBounds_toArray, List.set_cons_zero, List.set_cons_succ, i64_w, i32_w]
    rfl
  refine done_ (by kernel_rfl) ?_
  go_wp2
  go_ret2
  exact ⟨rfl, HB.out.drew⟩
set_option maxRecDepth 100000 in
set_option maxHeartbeats 4000000 in
theorem newC (w0 w : World) (hB : Below w0.heap.size w0 w) :
    Calls Try.prog 13 #[.slice none 0 0] w fun e w' => ∃ g v, e = .returned (pt g) ∧ Bd w0 w' g v .nilIface [] := by
  go_enter Try.func13, Try.ntmps13
  go_wp2_with fail
  go_at_call 23
  refine (btcdtxscript_defaultScriptBuilderConfig.calls 500 w0 _ hB rfl).mono ?_
  rintro e w1 ⟨gc, rfl, hs, hb, _⟩
  have hc := cell_of hs.1 (j := 0) rfl
  have HB := Aside0.mk hb
  clear hB hs hb
  go_wp2_with fail
  go_loopg [9] 1 (fun kq p9 w' => p9 = .int .i64 0 ∧ w' = w1)
  case atStart => exact ⟨rfl, rfl⟩
  case round =>
    obtain ⟨rfl, rfl⟩ := hrel
    go_wp2_with ((with_reducible refine gate_dst (N := 21) rfl ?_); refine Kd.R_makecap (Kd.int .u8) (w0 := w0) w0.heap.size 5 rfl (N := 21) rfl 23 _ _ rfl 500 rfl rfl Try.underlying23 (.int .u8 0) 1 infoB rfl (by decide) (by decide) 0 (ok := fun _ => True) (okp := fun _ => True) rfl (fun _ hk => hk) trivial (by decide) (by decide) HB.out HB.out.size ?_; intro v1 w2 hr hb hg hn; (obtain ⟨A1, n1, c1, e1⟩ := row_form hr); subst e1; have HR := Aside0.mk hr; have HB2 := Aside0.mk hb; clear hr hb hg hn)
    go_ret
    exact ⟨_, _, rfl, by rw [heap_alloc_new], Kd.R_alloc HR.out _, HB2.out.size, HB2.out.alloc HB2.out.size _⟩
theorem Dt.grown {w w1 : World} {g : Nat} {v : Value} {A : Option Addr} {d : List Int} (h : Dt w g v A d) (hg : w.grownBy w1 v.ownBlock) : Kd.C (Kd.int .u8) w1 A d.length d := by
  obtain ⟨ok, hF, hok⟩ := h
  exact Kd.F_now (Kd.F_grown hF hg (fun k hk => (hok k hk).2.1))
theorem C_one {w : World} {ad : Addr} {x : Int} (h : Kd.C (Kd.int .u8) w (some ad) 1 [x]) : w.cell? ad = some (.int .u8 x) := by
  obtain ⟨_, _, h3⟩ := h
  obtain ⟨a, ha, h4⟩ := h3 (by decide)
  cases ha
  obtain ⟨c, h5, h6, h7⟩ := h4 0 x rfl
  have h8 := h7 0 (.int .u8 x) (by rw [show c = [Value.int .u8 x] from h6]; rfl)
  simpa [Addr.add] using h8
set_option maxRecDepth 100000 in
set_option maxHeartbeats 16000000 in
theorem addSmall (g : Nat) (v : Value) (s : List Int) (ad : Addr) (c0 : Nat) (x : Int) (w0 w : World) (h : Bd w0 w g v .nilIface s) (hl : s.length ≤ 10000) (hd : Dt w g v (some ad) [x]) (hx0 : ¬ x = 0) (hx1 : x ≤ 16) :
    Calls Try.prog 25 #[pt g, .slice (some ad) 1 c0] w fun e w' => e = .returned (pt g) ∧ ∃ v', Bd w0 w' g v' .nilIface (s ++ [(80 + x) % 256]) := by
  have HB := Aside0.mk h
  obtain ⟨A, c, hv⟩ := Kd.R_slice h.row
  subst hv
  have h0 := cell_of h.blk (j := 0) rfl
  have h1 := cell_of h.blk (j := 1) rfl
  have hxc := C_one hd.C
  have hxd : w.drew.cell? ad = some (.int .u8 x) := C_one (hd.below (below_drew (Below.refl _ _))).C
  have h0d := cell_of h.drew.blk (j := 0) rfl
  have HD := Aside0.mk (hd.below (below_drew (Below.refl _ _)))
  have HL := Aside0.mk hl
  clear h hl hd
  go_enter Try.func25, Try.ntmps25
  go_wp2
  refine start_ (n := 14) (S := fun w' => w'.cell? ⟨g, 0, none⟩ = some (.slice A s.length c) ∧ w'.cell? ad = some (.int .u8 x)) (ds := [13]) #[false, false, false, false, false, false, false, false, false, false, false, false, false, false] (by kernel_rfl) rfl rfl ⟨h0d, hxd⟩ (fun hHeld => ?_)
  refine pure_ (i := 0) (N := some 40) (v := ?_) (a' := ?_) #[true, false, false, false, false, false, false, false, false, false, false, false, false, false] rfl rfl (by kernel_rfl) (fun _ _ _ h => h) (Or.inl ⟨by rfl, ?_⟩) ?_ ?_
  rotate_left
  · intro w'
    go_simp
    with_reducible rfl
  rotate_left
  · simp only [Act.put, List.setIfInBounds_toArray, List.set_cons_zero, List.set_cons_succ, i64_w, i32_w]
    rfl
  refine pure_ (i := 1) (N := some 41) (v := ?_) (a' := ?_) #[true, true, false, false, false, false, false, false, false, false, false, false, false, false] rfl rfl (by kernel_rfl) (fun _ _ _ h => h) (Or.inl ⟨by rfl, ?_⟩) ?_ ?_
  rotate_left
  · intro w'
    go_simp
    with_reducible rfl
  rotate_left
  · simp only [Act.put, List.setIfInBounds_toArray, List.set_cons_zero, List.set_cons_succ, i64_w, i32_w]
    rfl
  refine pure_ (i := 2) (N := some 42) (v := ?_) (a' := ?_) #[true, true, true, false, false, false, false, false, false, false, false, false, false, false] rfl rfl (by kernel_rfl) (fun _ _ _ h => h) (Or.inl ⟨by rfl, ?_⟩) ?_ ?_
  rotate_left
  · intro w'
    go_simp
    with_reducible rfl
  rotate_left
  · simp only [Act.put, List.setIfInBounds_toArray, List.set_cons_zero, List.set_cons_succ, i64_w, i32_w]
    rfl
  refine pure_ (i := 3) (N := some 43) (v := ?_) (a' := ?_) #[true, true, true, true, false, false, false, false, false, false, false, false, false, false] rfl rfl (by kernel_rfl) (fun _ _ _ h => h) (Or.inl ⟨by rfl, ?_⟩) ?_ ?_
  rotate_left
  · intro w'
    go_simp
    with_reducible rfl
  rotate_left
  · simp only [Act.put, List.setIfInBounds_toArray, List.set_cons_zero, List.set_cons_succ, i64_w, i32_w]
    rfl
  refine take_ (i := 4) (N := some 44) (v := ?_) (a' := ?_) #[true, true, true, true, true, false, false, false, false, false, false, false, false, false] rfl rfl (by kernel_rfl) (fun _ _ _ h => h) (Or.inl ⟨by rfl, ?_⟩) hHeld ?_ ?_
  rotate_left
  · rintro w' ⟨s0, s1⟩
    go_simp
    with_reducible rfl
  rotate_left
  · simp only [Act.put, List.setIfInBounds_toArray, List.set_cons_zero, List.set_cons_succ, i64_w, i32_w]
    rfl
  refine pure_ (i := 5) (N := some 45) (v := ?_) (a' := ?_) #[true, true, true, true, true, true, false, false, false, false, false, false, false, false] rfl rfl (by kernel_rfl) (fun _ _ _ h => h) (Or.inl ⟨by rfl, ?_⟩) ?_ ?_
  rotate_left
  · intro w'
    go_simp
    with_reducible rfl
  rotate_left
  · simp only [Act.put, List.setIfInBounds_toArray, List.set_cons_zero, List.set_cons_succ, i64_w, i32_w]
    rfl
  refine pure_ (i := 6) (N := some 46) (v := ?_) (a' := ?_) #[true, true, true, true, true, true, true, false, false, false, false, false, false, false] rfl rfl (by kernel_rfl) (fun _ _ _ h => h) (Or.inl ⟨by rfl, ?_⟩) ?_ ?_
  rotate_left
  · intro w'
    go_simp
    with_reducible rfl
  rotate_left
  · simp only [Act.put, List.setIfInBounds_toArray, List.set_cons_zero, List.set_cons_succ, i64_w, i32_w]
    rfl
  refine take_ (i := 7) (N := some 47) (v := ?_) (a' := ?_) #[true, true, true, true, true, true, true, true, false, false, false, false, false, false] rfl rfl (by kernel_rfl) (fun _ _ _ h => h) (Or.inl ⟨by rfl, ?_⟩) hHeld ?_ ?_
  rotate_left
  · rintro w' ⟨s0, s1⟩
    go_simp
    with_reducible rfl
  rotate_left
  · simp only [Act.put, List.setIfInBounds_toArray, List.set_cons_zero, List.set_cons_succ, i64_w, i32_w]
    rfl
  refine pure_ (i := 8) (N := some 48) (v := ?_) (a' := ?_) #[true, true, true, true, true, true, true, true, true, false, false, false, false, false] rfl rfl (by kernel_rfl) (fun _ _ _ h => h) (Or.inl ⟨by rfl, ?_⟩) ?_ ?_
  rotate_left
  · intro w'
    go_simp
    with_reducible rfl
  rotate_left
  · simp only [Act.put, List.setIfInBounds_toArray, List.set_cons_zero, List.set_cons_succ, i64_w, i32_w]
    rfl
  refine one_ (i := 9) (N := some 49) #[true, true, true, true, true, true, true, true, true, true, false, false, false, false] rfl rfl (by kernel_rfl) (by decide) (fun K hK => ?_)
  refine event_step (v := .slice (some ⟨w.drew.heap.size, 0, none⟩) 1 1) (w1 := w.drew.alloc (.cells #[.int .u8 (IntKind.u8.wrap (80 + x))] 5)) (by rfl) ?hr9 ?_
  case hr9 => first | (go_simp; done) | (go_simp; exact ⟨rfl, rfl⟩) | (go_simp; rfl)
  refine hK.out _ _ ⟨cell_of (HB.out.drew.alloc _).blk (j := 0) rfl, C_one (HD.out.alloc _).C⟩ (fun hHeld => ?_)
  clear hK K
  refine norm_ (a' := ?_) ?_ ?_
  rotate_left
  · show Act.put _ (some 49) _ = _
    simp only [Act.put, List.setIfInBounds_toArray, List.set_cons_zero, List.set_cons_succ, i64_w, i32_w]
    rfl
  refine one_ (i := 10) (N := some 50) #[true, true, true, true, true, true, true, true, true, true, true, false, false, false] rfl rfl (by kernel_rfl) (by decide) (fun K hK => ?_)
  refine Kd.R_append_step (Kd.int .u8) (w0 := w0) w0.heap.size (by rfl) (.tmp 44) (.tmp 49) 23 5 (.int .u8 0) 1 rfl Try.underlying23 infoB rfl (by decide) (by decide) (.slice A s.length c) s _ [.int .u8 _] (fun _ => True) (fun _ => False) rfl rfl rfl (fun _ hk => hk.elim) (fun _ _ => trivial) HB.out.drew.row HB.out.drew.low HB.out.drew.low.size ?aL ?_
  case aL => have := HL.out; omega
  intro v1 w1 ho hb hg hat
  obtain ⟨A1, n1, c1, e1⟩ := row_form ho
  subst e1
  have hg1 := cell_of (HB.out.drew.grown hg) (j := 0) rfl
  have hf1 := frozen_of (HB.out.drew.grown hg) 0
  have hx1 := C_one (HD.out.grown hg)
  have HB1 := Aside0.mk (HB.out.drew.put ho hb hg)
  clear ho hb hg hat
  refine hK.out _ _ ⟨hg1, hx1⟩ (fun hHeld => ?_)
  clear hK K
  refine norm_ (a' := ?_) ?_ ?_
  rotate_left
  · show Act.put _ (some 50) _ = _
    simp only [Act.put, List.setIfInBounds_toArray, List.set_cons_zero, List.set_cons_succ, i64_w, i32_w]
    rfl
  refine pure_ (i := 11) (N := some 51) (v := ?_) (a' := ?_) #[true, true, true, true, true, true, true, true, true, true, true, true, false, false] rfl rfl (by kernel_rfl) (fun _ _ _ h => h) (Or.inl ⟨by rfl, ?_⟩) ?_ ?_
  rotate_left
  · intro w'
    go_simp
    with_reducible rfl
  rotate_left
  · simp only [Act.put, List.setIfInBounds_toArray, List.set_cons_zero, List.set_cons_succ, i64_w, i32_w]
    rfl
  refine pure_ (i := 12) (N := some 52) (v := ?_) (a' := ?_) #[true, true, true, true, true, true, true, true, true, true, true, true, true, false] rfl rfl (by kernel_rfl) (fun _ _ _ h => h) (Or.inl ⟨by rfl, ?_⟩) ?_ ?_
  rotate_left
  · intro w'
    go_simp
    with_reducible rfl
  rotate_left
  · simp only [Act.put, List.setIfInBounds_toArray, List.set_cons_zero, List.set_cons_succ, i64_w, i32_w]
    rfl
  refine last_ (i := 13) (N := none) #[true, true, true, true, true, true, true, true, true, true, true, true, true, true] rfl rfl (by kernel_rfl) (by decide) (fun K hK => ?_)
  refine skip_ (w1 := ?_) (by rfl) rfl ?_ ?_
  rotate_left
  · go_simp
    rfl
  refine hK.out _ _ ?_
  clear hK K
  refine norm_ (a' := ?_) ?_ ?_
  rotate_left
  · rfl
  refine done_ (by kernel_rfl) ?_
  go_wp2
  go_ret
  exact ⟨rfl, _, HB1.out⟩
set_option maxRecDepth 100000 in
set_option maxHeartbeats 8000000 in
theorem addMid1 (g : Nat) (v : Value) (s : List Int) (ad : Addr) (x : Int) (c0 : Nat) (w0 w : World) (h : Bd w0 w g v .nilIface s) (hd : Dt w g v (some ad) [x]) (hl : s.length ≤ 10000) (h0 : ¬ x = 0) (h1 : ¬ x ≤ 16) (h2 : ¬ x = 129) :
    Calls Try.prog 25 #[pt g, .slice (some ad) 1 c0] w fun e w' => e = .returned (pt g) ∧ ∃ v', Bd w0 w' g v' .nilIface (s ++ ([1, x])) := by
  have HD := Aside0.mk hd
  have HB := Aside0.mk h
  obtain ⟨A, c, hv⟩ := Kd.R_slice h.row
  subst hv
  have hz0 := cell_of h.blk (j := 0) rfl
  have hz1 := cell_of h.blk (j := 1) rfl
  have HL : Aside0 (s.length ≤ 10000) := ⟨hl⟩
  have hxc := C_one hd.C
  clear h hl hd
  go_enter Try.func25, Try.ntmps25
  go_wp2_with (first | ((with_reducible refine gate_builtin (b := .append) (xs := #[.tmp 78, .tmp 82]) rfl ?_); at_builtin; refine Kd.R_append (Kd.int .u8) (w0 := w0) w0.heap.size rfl (.tmp 78) (.tmp 82) 23 5 (.int .u8 0) 1 rfl Try.underlying23 infoB rfl (by decide) (by decide) (.slice A s.length c) s _ [.int .u8 _] (fun _ => True) (fun _ => False) rfl rfl rfl (fun _ hk => hk.elim) (fun _ _ => trivial) HB.out.row HB.out.low HB.out.low.size ?aL ?_; (case aL => have := HL.out; (try simp only [List.length_append, List.length_cons, List.length_nil]); omega); intro v1 w1 ho hb hg hat; (obtain ⟨A1, n1, c1, e1⟩ := row_form ho); subst e1; have hg1 := cell_of (HB.out.grown hg) (j := 0) rfl; have hf1 := frozen_of (HB.out.grown hg) 0; have HD1 := Aside0.mk (HD.out.put hg hat); have HB1 := Aside0.mk (HB.out.put ho hb hg); clear ho hb hg hat) | ((with_reducible refine gate_builtin (b := .append) (xs := #[.tmp 153, .tmp 154]) rfl ?_); at_builtin; refine Kd.R_append_rows (Kd.int .u8) (w0 := w0) w0.heap.size rfl (.tmp 153) (.tmp 154) 23 5 (.int .u8 0) 1 rfl Try.underlying23 infoB rfl (by decide) (by decide) _ _ [x] _ _ _ (fun _ => True) (fun _ => False) rfl rfl HB1.out.row HD1.out.C (fun _ _ h => h) (fun _ h => h.elim) (fun _ _ => trivial) HB1.out.low HB1.out.low.size ?aL ?_; (case aL => have := HL.out; (try simp only [List.length_append, List.length_cons, List.length_nil]); omega); intro v2 w2 ho hb hg hat; (obtain ⟨A2, n2, c2, e2⟩ := row_form ho); subst e2; have hg2 := cell_of (HB1.out.grown hg) (j := 0) rfl; have hf2 := frozen_of (HB1.out.grown hg) 0; have HB2 := Aside0.mk (HB1.out.put ho hb hg); clear ho hb hg hat))
  go_ret
  exact ⟨rfl, _, by have h := HB2.out; rw [List.append_assoc] at h; exact h⟩
set_option maxRecDepth 100000 in
set_option maxHeartbeats 16000000 in
theorem addHuge (g : Nat) (v : Value) (s d : List Int) (A0 : Option Addr) (c0 : Nat) (w0 w : World) (h : Bd w0 w g v .nilIface s) (hd : Dt w g v A0 d) (hl : s.length ≤ 10000) (h2 : 255 < d.length) (h7 : d.length ≤ 520) :
    Calls Try.prog 25 #[pt g, .slice A0 d.length c0] w fun e w' => e = .returned (pt g) ∧ ∃ v', Bd w0 w' g v' .nilIface (s ++ (77 :: (d.length : Int) % 256 :: (d.length : Int) / 256 % 256 :: d)) := by
  have HD := Aside0.mk hd
  have HB := Aside0.mk h
  obtain ⟨A, c, hv⟩ := Kd.R_slice h.row
  subst hv
  have h0 := cell_of h.blk (j := 0) rfl
  have h1 := cell_of h.blk (j := 1) rfl
  have HL : Aside0 (s.length ≤ 10000 ∧ d.length ≤ 520) := ⟨by omega⟩
  have e0 : ¬ (d.length : Int) = 0 := by omega
  have e1 : ¬ (d.length : Int) = 1 := by omega
  have e2 : ¬ (d.length : Int) < 76 := by omega
  have e3 : ¬ (d.length : Int) ≤ 255 := by omega
  have e3' : (d.length : Int) ≤ 65535 := by omega
  have e4 : ¬ d = [] := fun e => by rw [e] at h2; simp at h2
  have e5 : ¬ d.length = 1 := by omega
  have e6 : ¬ d.length < 76 := by omega
  have e7 : ¬ d.length ≤ 255 := by omega
  have e8 : ¬ d.length = 0 := by omega
  have e9 : d.length ≤ 65535 := by omega
  clear h hl hd
  go_enter Try.func25, Try.ntmps25
  go_wp2_with ((with_reducible refine gate_dst (N := 101) rfl ?_); refine Kd.R_make (Kd.int .u8) _ 5 rfl (N := 101) rfl 23 _ _ rfl 2 rfl rfl Try.underlying23 (.int .u8 0) 1 infoB rfl (by decide) (by decide) 0 (ok := fun _ => True) (okp := fun _ => True) rfl (fun _ hk => hk) trivial (by decide) (by decide) (Below.refl _ _) (Nat.le_refl _) ?_; intro v1 w1 hr hb hg hn; (obtain ⟨b, cb, e1, hbb, _, _⟩ := Kd.R_form hr (by decide)); subst e1; have HR1 := Aside0.mk hr; have HW1 := Aside0.mk hb; have HBB := Aside0.mk hbb; clear hr hb hg hn hbb)
  go_at_call 28
  refine (putC b cb 0 0 _ _ _ HR1.out).mono ?_
  rintro e w2 ⟨rfl, hr2, hg2⟩
  have hlow := HW1.out.grown hg2 HW1.out.size (fun k hk => by injection hk with hk; rw [← hk]; exact HBB.out)
  have HB2 := Aside0.mk (HB.out.below hlow)
  have HD2 := Aside0.mk (HD.out.below hlow)
  have HE2 := Aside0.mk (Dt.fresh (d := [_, _]) HB.out hr2)
  have hz := cell_of HB2.out.blk (j := 0) rfl
  clear hr2 hg2 hlow h0 h1
  go_wp2_with (first | ((with_reducible refine gate_builtin (b := .append) (xs := #[.tmp 111, .tmp 112]) rfl ?_); at_builtin; refine Kd.R_append (Kd.int .u8) (w0 := w0) w0.heap.size rfl (.tmp 111) (.tmp 112) 23 5 (.int .u8 0) 1 rfl Try.underlying23 infoB rfl (by decide) (by decide) (.slice A s.length c) s 77 [.int .u8 77] (fun _ => True) (fun _ => False) rfl rfl rfl (fun _ hk => hk.elim) (fun _ _ => trivial) HB2.out.row HB2.out.low HB2.out.low.size ?aL ?_; (case aL => have := HL.out; (try simp only [List.length_append, List.length_cons, List.length_nil]); omega); intro v3 w3 ho hb hg hat; (obtain ⟨A3, n3, c3, e3⟩ := row_form ho); subst e3; have hg3 := cell_of (HB2.out.grown hg) (j := 0) rfl; have hf3 := frozen_of (HB2.out.grown hg) 0; have HD3 := Aside0.mk (HD2.out.put hg hat); have HE3 := Aside0.mk (HE2.out.put hg hat); have HB3 := Aside0.mk (HB2.out.put ho hb hg); clear ho hb hg hat) | ((with_reducible refine gate_builtin (b := .append) (xs := #[.tmp 120, .tmp 121]) rfl ?_); at_builtin; refine Kd.R_append_rows (Kd.int .u8) (w0 := w0) w0.heap.size rfl (.tmp 120) (.tmp 121) 23 5 (.int .u8 0) 1 rfl Try.underlying23 infoB rfl (by decide) (by decide) _ _ _ _ _ _ (fun _ => True) (fun _ => False) rfl rfl HB3.out.row HE3.out.C (fun _ _ h => h) (fun _ h => h.elim) (fun _ _ => trivial) HB3.out.low HB3.out.low.size ?aL ?_; (case aL => have := HL.out; (try simp only [List.length_append, List.length_cons, List.length_nil]); omega); intro v4 w4 ho hb hg hat; (obtain ⟨A4, n4, c4, e4⟩ := row_form ho); subst e4; have hg4 := cell_of (HB3.out.grown hg) (j := 0) rfl; have hf4 := frozen_of (HB3.out.grown hg) 0; have HD4 := Aside0.mk (HD3.out.put hg hat); have HB4 := Aside0.mk (HB3.out.put ho hb hg); clear ho hb hg hat) | ((with_reducible refine gate_builtin (b := .append) (xs := #[.tmp 153, .tmp 154]) rfl ?_); at_builtin; refine Kd.R_append_rows (Kd.int .u8) (w0 := w0) w0.heap.size rfl (.tmp 153) (.tmp 154) 23 5 (.int .u8 0) 1 rfl Try.underlying23 infoB rfl (by decide) (by decide) _ _ d _ _ _ (fun _ => True) (fun _ => False) rfl rfl HB4.out.row HD4.out.C (fun _ _ h => h) (fun _ h => h.elim) (fun _ _ => trivial) HB4.out.low HB4.out.low.size ?aL ?_; (case aL => have := HL.out; (try simp only [List.length_append, List.length_cons, List.length_nil]); omega); intro v5 w5 ho hb hg hat; (obtain ⟨A5, n5, c5, e5⟩ := row_form ho); subst e5; have hg5 := cell_of (HB4.out.grown hg) (j := 0) rfl; have hf5 := frozen_of (HB4.out.grown hg) 0; have HB5 := Aside0.mk (HB4.out.put ho hb hg); clear ho hb hg hat))
  go_ret
  exact ⟨rfl, _, by have h := HB5.out; rw [List.append_assoc, List.append_assoc] at h; exact h⟩
end Go.Proofs.Ytdmpjoglejnpbab.Bd
