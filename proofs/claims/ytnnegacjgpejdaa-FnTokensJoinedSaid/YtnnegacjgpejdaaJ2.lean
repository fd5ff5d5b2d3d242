/- What impl.Tokens gives: the tokens, and whether the script is whole. -/
import Derived.Test.YtnnegacjgpejdaaJ1
namespace Go.Proofs.Ytnnegacjgpejdaa.Tok
open Go.RowKit Go.Proofs.YtnnegacjgpejdaaW.PrintWords Go.Proofs.YtnnegacjgpejdaaW.PrintLast Go.Proofs.YtnnegacjgpejdaaW.PrintMore Go.Proofs.Ytnnegacjgpejdaa.QFnTokensJoined
set_option linter.unusedVariables false
set_option linter.unusedSimpArgs false
theorem infoInt : (Try.prog.info? 3).map (fun i => (i.zero, i.size, i.bytes)) = some (some (.int .i64 0), 1, 8) := by kernel_rfl
theorem infoBytes : (Try.prog.info? 22).map (fun i => (i.zero, i.size, i.bytes)) = some (some (.slice none 0 0), 1, 24) := by kernel_rfl
theorem own_lt {α : Type} {d : Kd α} {e : Nat} {W : World} {base b : Nat} {ok : Nat → Prop} {v : Value} {xs : List α} (h : Kd.N d e W base ok v xs) (hb : v.ownBlock = some b) : b < W.heap.size := by
  obtain ⟨_, rows, _, hR, _⟩ := h
  obtain ⟨cap, _, _, _, h2, _⟩ := Kd.R_first_ hR hb
  exact h2
def okA (base g : Nat) (u v : Value) : Nat → Prop := fun k => ((base ≤ k ∧ k ≠ g) ∧ some k ≠ u.ownBlock) ∧ some k ≠ v.ownBlock
/-- Three rows of the call's own, each apart from the others. -/
structure Three (W : World) (base g : Nat) (v1 v2 v3 : Value) (xs : List Int) (ys : List (List Int)) (zs : List Int) : Prop where
  a : Kd.N (Kd.int .i64) 3 W base (okA base g v2 v3) v1 xs
  b : Kd.N (Kd.slice 5 (Kd.int .u8)) 22 W base (okA base g v1 v3) v2 ys
  c : Kd.N (Kd.int .i64) 3 W base (okA base g v1 v2) v3 zs
section
variable {W w1 : World} {base g : Nat} {v1 v2 v3 v1' : Value} {xs zs xs' : List Int} {ys ys' : List (List Int)}
theorem Three.only (h : Three W base g v1 v2 v3 xs ys zs) (ho : Only g W w1) : Three w1 base g v1 v2 v3 xs ys zs :=
  ⟨Kd.N_keep h.a ho.keep (fun k hk => hk.1.1.2), Kd.N_keep h.b ho.keep (fun k hk => hk.1.1.2), Kd.N_keep h.c ho.keep (fun k hk => hk.1.1.2)⟩
theorem Three.below (h : Three W base g v1 v2 v3 xs ys zs) (hb : Below W.heap.size W w1) : Three w1 base g v1 v2 v3 xs ys zs := ⟨Kd.N_below h.a hb, Kd.N_below h.b hb, Kd.N_below h.c hb⟩
theorem Three.app1 (h : Three W base g v1 v2 v3 xs ys zs) (ha : Kd.N (Kd.int .i64) 3 w1 base (okA base g v2 v3) v1' xs') (hg : W.grownBy w1 v1.ownBlock) (hat : v1'.ownBlock = v1.ownBlock ∨ ∃ b, v1'.ownBlock = some b ∧ W.heap.size ≤ b) : Three w1 base g v1' v2 v3 xs' ys zs :=
  ⟨ha, Kd.N_mono (Kd.N_afterv (ok := fun k => (base ≤ k ∧ k ≠ g) ∧ some k ≠ v3.ownBlock) (Kd.N_mono h.b (fun k hk => ⟨⟨hk.1.1, hk.2⟩, hk.1.2⟩)) hg hat) (fun k hk => ⟨⟨hk.1.1, hk.2⟩, hk.1.2⟩),
    Kd.N_mono (Kd.N_afterv (ok := fun k => (base ≤ k ∧ k ≠ g) ∧ some k ≠ v2.ownBlock) (Kd.N_mono h.c (fun k hk => ⟨⟨hk.1.1, hk.2⟩, hk.1.2⟩)) hg hat) (fun k hk => ⟨⟨hk.1.1, hk.2⟩, hk.1.2⟩)⟩
theorem Three.app2 (h : Three W base g v1 v2 v3 xs ys zs) (ha : Kd.N (Kd.slice 5 (Kd.int .u8)) 22 w1 base (okA base g v1 v3) v1' ys') (hg : W.grownBy w1 v2.ownBlock) (hat : v1'.ownBlock = v2.ownBlock ∨ ∃ b, v1'.ownBlock = some b ∧ W.heap.size ≤ b) : Three w1 base g v1 v1' v3 xs ys' zs :=
  ⟨Kd.N_mono (Kd.N_afterv (ok := fun k => (base ≤ k ∧ k ≠ g) ∧ some k ≠ v3.ownBlock) (Kd.N_mono h.a (fun k hk => ⟨⟨hk.1.1, hk.2⟩, hk.1.2⟩)) hg hat) (fun k hk => ⟨⟨hk.1.1, hk.2⟩, hk.1.2⟩), ha,
    Kd.N_afterv (ok := fun k => (base ≤ k ∧ k ≠ g) ∧ some k ≠ v1.ownBlock) h.c hg hat⟩
theorem Three.app3 (h : Three W base g v1 v2 v3 xs ys zs) (ha : Kd.N (Kd.int .i64) 3 w1 base (okA base g v1 v2) v1' xs') (hg : W.grownBy w1 v3.ownBlock) (hat : v1'.ownBlock = v3.ownBlock ∨ ∃ b, v1'.ownBlock = some b ∧ W.heap.size ≤ b) : Three w1 base g v1 v2 v1' xs ys xs' :=
  ⟨Kd.N_afterv (ok := fun k => (base ≤ k ∧ k ≠ g) ∧ some k ≠ v2.ownBlock) h.a hg hat, Kd.N_afterv (ok := fun k => (base ≤ k ∧ k ≠ g) ∧ some k ≠ v1.ownBlock) h.b hg hat, ha⟩
theorem okFresh {u v : Value} {n : Nat} (hu : ∀ b, u.ownBlock = some b → b < n) (hv : ∀ b, v.ownBlock = some b → b < n) (hg : g < n) (hb : base ≤ n) : ∀ k, n ≤ k → okA base g u v k := by
  intro k hk
  refine ⟨⟨⟨Nat.le_trans hb hk, by omega⟩, fun e => ?_⟩, fun e => ?_⟩
  · have := hu k e.symm; omega
  · have := hv k e.symm; omega
end
/-- What holds on the way through a script: the tokenizer, the bytes, what stands below. -/
structure Way (w w5 : World) (g : Nat) (A : Option Addr) (s : List Int) (c : Nat) (oks : Nat → Prop) (base : Nat) (off pos : Int) (op data : Value) : Prop where
  t : Tk w5 g A s.length c off pos op data .nilIface
  v : Kd.V (Kd.int .u8) 5 w5 base oks (.slice A s.length c) s
  b : Below w.heap.size w w5
theorem Way.below {w w5 w6 : World} {g : Nat} {A : Option Addr} {s : List Int} {c : Nat} {oks : Nat → Prop} {base : Nat} {off pos : Int} {op data : Value} (h : Way w w5 g A s c oks base off pos op data) (hb : Below w5.heap.size w5 w6) : Way w w6 g A s c oks base off pos op data :=
  ⟨Tk.below h.t hb, Kd.V_below h.v hb, h.b.trans (hb.mono h.b.size)⟩
theorem Way.grown {w w5 w6 : World} {g : Nat} {A : Option Addr} {s : List Int} {c : Nat} {oks : Nat → Prop} {base : Nat} {off pos : Int} {op data : Value} {row : Option Nat} (h : Way w w5 g A s c oks base off pos op data) (hb : Below w.heap.size w w6) (hg : w5.grownBy w6 row) (hne : some g ≠ row) (hok : ∀ k, oks k → some k ≠ row) : Way w w6 g A s c oks base off pos op data :=
  ⟨(hg.block g (blk_lt' h.t) hne).trans h.t, Kd.V_grown h.v hg hok, hb⟩
theorem i64w {x : Int} (h0 : 0 ≤ x) (h1 : x ≤ 9223372036854775807) : IntKind.i64.wrap x = x := by
  rw [i64_w]; unfold wrap64; omega
theorem byteIndexC (g : Nat) (A : Option Addr) (n c : Nat) (off pos : Int) (op data err : Value) (w : World) (h : Tk w g A n c off pos op data err) :
    Calls Try.prog 12 #[.pointer (some ⟨g, 0, none⟩)] w fun e w' => e = .returned (.int .i32 off) ∧ w' = w := by
  have h1 := cell_of h (j := 2) (v := .int .i32 off) rfl
  go_enter Try.func12, Try.ntmps12
  go_wp2
  go_ret
  exact ⟨rfl, rfl⟩
theorem dataC (g : Nat) (A : Option Addr) (n c : Nat) (off pos : Int) (op data err : Value) (w : World) (h : Tk w g A n c off pos op data err) :
    Calls Try.prog 11 #[.pointer (some ⟨g, 0, none⟩)] w fun e w' => e = .returned data ∧ w' = w := by
  have h1 := cell_of h (j := 5) (v := data) rfl
  go_enter Try.func11, Try.ntmps11
  go_wp2
  go_ret
  exact ⟨rfl, rfl⟩
theorem kindNil (w : World) :
    Calls Try.prog 13 #[.nilIface] w fun e w' => e = .returned (.int .i64 0) ∧ Below w.heap.size w w' := by
  go_enter Try.func13, Try.ntmps13
  go_wp2
  go_ret
  exact ⟨rfl, Below.refl _ _⟩
theorem as_err (v : Value) (w : World) : (Instr.typeAssert (.iface 44 v) 32 44 true).run Try.prog w = .ok (.tuple #[v, .bool true]) w := by kernel_rfl
theorem kindErr (str : ByteArray) (w : World) :
    Calls Try.prog 13 #[.iface 44 (.agg #[.int .i64 27, .string str])] w fun e w' => e = .returned (.int .i64 28) ∧ Below w.heap.size w w' := by
  have h9 := as_err
  go_enter Try.func13, Try.ntmps13
  go_wp2
  go_ret
  exact ⟨by first | rfl | simp, (Below.refl _ _).alloc (Nat.le_refl _) _⟩
theorem copied_any (l : List Int) (hl : l.length ≤ 1000000) : impl_copied.f l = some l := by
  unfold impl_copied.f
  simp; omega
theorem results_tmp4 {fn : Func} {t u v x : Tmp} (h : fn.results = #[.tmp t, .tmp u, .tmp v, .tmp x]) (tmps : Array Value) (P : Program) (w : World) :
    (results fn tmps).run P w = .ok (.tuple #[tmps.getD t undef, tmps.getD u undef, tmps.getD v undef, tmps.getD x undef]) w := by
  simp [results, h]
/-- What impl.Tokens hands back. -/
def Given (w : World) (l : List (Int × List Int)) (b : Bool) (e : Ending) (w' : World) : Prop :=
  ∃ v1 v2 v3, e = .returned (.tuple #[v1, v2, v3, .int .i64 (if b = true then 0 else 28)]) ∧ Kd.V (Kd.int .i64) 3 w' w.heap.size (fun k => w.heap.size ≤ k) v1 (l.map Prod.fst) ∧ Kd.V (Kd.slice 5 (Kd.int .u8)) 22 w' w.heap.size (fun k => w.heap.size ≤ k) v2 (l.map Prod.snd) ∧ Below w.heap.size w w'
set_option maxRecDepth 100000 in
set_option maxHeartbeats 16000000 in
theorem implTokens (A : Option Addr) (s : List Int) (c : Nat) (oks : Nat → Prop) (base : Nat) (w : World) (l : List (Int × List Int)) (b : Bool)
    (hok : ∀ k, oks k → k < w.heap.size) (hV : Kd.V (Kd.int .u8) 5 w base oks (.slice A s.length c) s) (hn : s.length ≤ 1000000) (hB : ByteL s) (hl : Tks s 0 l b) :
    Calls Try.prog 5 #[.slice A s.length c] w (Given w l b) := by
  have HV := Aside0.mk hV
  have HOK := Aside0.mk hok
  have HB := Aside0.mk hB
  have HL := Aside0.mk hl
  clear hV hok hB hl
  go_enter Try.func5, Try.ntmps5
  go_wp2_with (go_at_call 7; refine (makeC A s.length c _).mono ?_; rintro e w1 ⟨rfl, hb⟩; have HB1 := Aside0.mk hb; clear hb)
  obtain ⟨g, hg⟩ : ∃ g, w1.heap.size = g := ⟨_, rfl⟩
  obtain ⟨w2, hw2⟩ : ∃ w2, w1.alloc (.cells #[.slice A s.length c, .int .u16 0, .int .i32 0, .int .i32 (-1), .pointer none, .slice none 0 0, .nilIface] 34) = w2 := ⟨_, rfl⟩
  have HT2 : Aside0 (Way w w2 g A s c oks base ((0 : Nat) : Int) (-1) (.pointer none) (.slice none 0 0)) := ⟨⟨by rw [← hw2, ← hg]; exact heap_alloc_new w1 _, by rw [← hw2]; exact Kd.V_alloc (Kd.V_step HV.out (fun k hk hlt => HB1.out.block k hlt)) _, by rw [← hw2]; exact HB1.out.alloc HB1.out.size _⟩⟩
  have HG : Aside0 (w.heap.size ≤ g) := ⟨by rw [← hg]; exact HB1.out.size⟩
  have HOK2 : Aside0 (∀ k, oks k → k ≠ g) := ⟨fun k hk => by have := HOK.out k hk; have := HG.out; omega⟩
  rw [hg, hw2]
  clear hg hw2 HB1 HV
  go_loopg [2, 3, 4] (s.length + 1) (fun kq p2 p3 p4 w' => ∃ (i : Nat) (pos : Int) (op data : Value) (pre l' : List (Int × List Int)) (es : List Int), Aside0 (s.length + 1 ≤ i + kq) ∧ Aside0 (Tks s i l' b) ∧ Aside0 (pre ++ l' = l) ∧ Aside0 (es.length = pre.length ∧ pre.length ≤ i) ∧ Aside0 (Three w' w.heap.size g p2 p3 p4 (pre.map Prod.fst) (pre.map Prod.snd) es) ∧ Aside0 (Way w w' g A s c oks base i pos op data))
  case atStart => exact ⟨0, -1, .pointer none, .slice none 0 0, [], l, [], ⟨by omega⟩, HL, ⟨rfl⟩, ⟨rfl, Nat.le_refl _⟩, ⟨Kd.N_nil _ _ _ _ _, Kd.N_nil _ _ _ _ _, Kd.N_nil _ _ _ _ _⟩, HT2⟩
  case round =>
    clear HT2 HL
    obtain ⟨i, pos, op, data, pre, l', es, HK, HR, HE, HP, H3, HT⟩ := hrel
    go_wp2_with fail
    go_at_call 8
    refine (nextAny g A s c i pos op data oks base _ HOK2.out HT.out.v HT.out.t hn HB.out).mono ?_
    rintro e w5 (⟨h1, rfl, h2, h3⟩ | ⟨hi, (⟨a, d, hd, rfl, pos', o, dv, nm, ol, r1, r2, r3, r4, r5⟩ | ⟨hd, rfl, pos', op', data', x, r1, r2⟩)⟩)
    · have HT5 := Aside0.mk h2
      have HB5 := Aside0.mk (h3.below HT.out.b HG.out HT.out.b.size)
      have H35 := Aside0.mk (H3.out.only h3)
      have HZ : Aside0 (pre = l ∧ b = true) := ⟨by obtain ⟨e1, e2⟩ := tks_end h1 HR.out; have h4 := HE.out; rw [e1, List.append_nil] at h4; exact ⟨h4, e2⟩⟩
      clear h1 h2 h3 HT HR HE H3
      go_wp2_with fail
      go_at_call 14
      refine (getErrC g A s.length c _ _ _ _ _ _ HT5.out).mono ?_
      rintro e w6 ⟨rfl, rfl⟩
      go_wp2_with fail
      go_at_call 13
      refine (kindNil _).mono ?_
      rintro e w7 ⟨rfl, hb⟩
      have H37 := Aside0.mk (H35.out.below hb)
      have HB7 := Aside0.mk (HB5.out.trans (hb.mono HB5.out.size))
      clear hb
      go_wp2_with fail
      (try simp only [Exit.inBlock, Exit.then]); refine bodyPost_ret (results_tmp4 rfl _ _ _) rfl ?_
      exact ⟨_, _, _, by rw [HZ.out.2]; rfl, by rw [← HZ.out.1]; exact Kd.V_mono (Kd.N_V H37.out.a) (fun k hk => hk.1.1.1), by rw [← HZ.out.1]; exact Kd.V_mono (Kd.N_V H37.out.b) (fun k hk => hk.1.1.1), HB7.out⟩
    · obtain ⟨lr, hlr, htr⟩ := tks_inv hi hd HR.out
      obtain ⟨g1, g2⟩ := dat_le hi hd
      obtain ⟨v, hgv⟩ : ∃ v, s.getD i 0 = v := ⟨_, rfl⟩
      obtain ⟨Ad, cd, ed⟩ := Kd.V_slice r4
      subst ed
      have hdl : ((s.drop a).take d).length = d := by rw [List.length_take, List.length_drop]; omega
      obtain ⟨ys, hys⟩ : ∃ ys, (s.drop a).take d = ys := ⟨_, rfl⟩
      rw [hys] at r4 r1 hlr hdl
      rw [hgv] at r2 hlr
      have hvr := HB.out.at i
      rw [hgv] at hvr
      have qv : IntKind.i64.wrap v = v := i64w (by omega) (by omega)
      obtain ⟨n1, hn1⟩ : ∃ n1 : Int, ((a + d : Nat) : Int) = n1 := ⟨_, rfl⟩
      have qn : IntKind.i64.wrap n1 = n1 := i64w (by omega) (by omega)
      have HO5 := Aside0.mk r2
      have HT5 : Aside0 (Way w w5 g A s c oks base n1 pos' (.pointer (some ⟨o, 0, none⟩)) (.slice Ad ys.length cd)) := ⟨⟨by rw [← hn1]; exact r1, Kd.V_only HT.out.v r5 HOK2.out, r5.below HT.out.b HG.out HT.out.b.size⟩⟩
      have HD5 := Aside0.mk r4
      have H35 := Aside0.mk (H3.out.only r5)
      have HE5 : Aside0 ((pre ++ [(v, ys)]) ++ lr = l) := ⟨by have h4 := HE.out; rw [hlr] at h4; rw [← h4]; simp⟩
      have HR5 := Aside0.mk htr
      have HK5 : Aside0 (s.length + 1 ≤ a + d + (gk - 1) ∧ 0 < gk) := ⟨by have := HK.out; omega⟩
      have HPL : Aside0 (es.length = pre.length ∧ pre.length ≤ 1000000 ∧ pre.length + 1 ≤ a + d) := ⟨by have := HP.out; omega⟩
      have HYL : Aside0 (impl_copied.f ys = some ys) := ⟨copied_any ys (by omega)⟩
      have HN1 := Aside0.mk hn1
      clear r1 r2 r3 r4 r5 HT HR HE HK HP H3 hlr htr hd g1 g2 hi hys hgv hvr hdl hn1
      go_wp2_with fail
      go_at_call 9
      refine (opC g o A s.length c _ _ _ _ nm _ _ _ HT5.out.t HO5.out).mono ?_
      rintro e w5' ⟨rfl, rfl⟩
      go_wp2_with ((with_reducible refine gate_builtin (b := .append) (xs := #[.tmp 10, .tmp 13]) rfl ?_); (try (refine gate_guard (by rfl) ?_; dsimp only)); at_builtin; refine Kd.N_append (Kd.int .i64) (w0 := w) w.heap.size rfl (.tmp 10) (.tmp 13) 24 3 (.int .i64 0) 8 rfl Try.underlying24 infoInt rfl (by decide) (by decide) u2 (pre.map Prod.fst) v [.int .i64 v] (okA w.heap.size g u3 u4) (fun _ => False) rfl rfl (fun _ _ => rfl) (fun _ hk => hk.elim) ?aF (H35.out.a) (HT5.out.b) (HT5.out.b.size) ?aL ?_; (case aF => exact okFresh (fun b hb => own_lt H35.out.b hb) (fun b hb => own_lt H35.out.c hb) (blk_lt' HT5.out.t) HT5.out.b.size); (case aL => have := HPL.out; rw [List.length_map]; omega); intro q2 w6 ho hb hg hat; have HT6 := Aside0.mk (HT5.out.grown hb hg (fun e => (H35.out.a.1 g e.symm).1.1.2 rfl) (fun k hk e => Nat.lt_irrefl k (Nat.lt_of_lt_of_le (HOK.out k hk) (H35.out.a.1 k e.symm).1.1.1))); have HD6 := Aside0.mk (Kd.V_grown HD5.out hg (fun k hk e => Nat.lt_irrefl k (Nat.lt_of_lt_of_le (HOK.out k hk) (H35.out.a.1 k e.symm).1.1.1))); have H36 := Aside0.mk (H35.out.app1 ho hg hat); clear ho hb hg hat HT5 H35 HD5 HO5)
      go_at_call 11
      refine (dataC g A s.length c _ _ _ _ _ _ HT6.out.t).mono ?_
      rintro e w6' ⟨rfl, rfl⟩
      go_wp2_with fail
      go_at_call 10
      refine (impl_copied.calls Ad cd ys ys _ (Kd.F_now (Kd.V_at HD6.out).2.2) (Kd.V_at HD6.out).2.1 HYL.out).mono ?_
      rintro e w7 ⟨vc, rfl, hr7, hb⟩
      obtain ⟨Ac, cc, ec⟩ := Kd.R_slice hr7
      subst ec
      obtain ⟨n6, hn6⟩ : ∃ n6, w6'.heap.size = n6 := ⟨_, rfl⟩
      have HFR : Aside0 (∀ k, n6 ≤ k → okA w.heap.size g q2 u4 k ∧ some k ≠ u3.ownBlock) := ⟨fun k hk => ⟨okFresh (fun b hb => own_lt H36.out.a hb) (fun b hb => own_lt H36.out.c hb) (blk_lt' HT6.out.t) HT6.out.b.size k (by rw [hn6]; exact hk), fun e => by have := own_lt H36.out.b e.symm; omega⟩⟩
      have HT7 := Aside0.mk (HT6.out.below hb)
      have H37 := Aside0.mk (H36.out.below hb)
      rw [hn6] at hr7
      have HR7 := Aside0.mk hr7
      clear hr7 hb hn6 HT6 H36 HD6
      go_wp2_with ((with_reducible refine gate_builtin (b := .append) (xs := #[.tmp 15, .tmp 18]) rfl ?_); (try (refine gate_guard (by rfl) ?_; dsimp only)); at_builtin; refine Kd.N_append (Kd.slice 5 (Kd.int .u8)) (w0 := w) w.heap.size rfl (.tmp 15) (.tmp 18) 25 22 (.slice none 0 0) 24 rfl Try.underlying25 infoBytes rfl (by decide) (by decide) u3 (pre.map Prod.snd) ys [.slice Ac ys.length cc] (okA w.heap.size g q2 u4) (fun k => n6 ≤ k) rfl rfl ?aP ?aK ?aF (H37.out.b) (HT7.out.b) (HT7.out.b.size) ?aL ?_; (case aP => exact Kd.FK_slice_mk (Kd.R_reads' HR7.out).2.1 (Kd.R_F (Kd.R_mono (Kd.R_bound HR7.out) (fun k hk => hk.2.1)))); (case aK => exact fun k hk => HFR.out k hk); (case aF => exact okFresh (fun b hb => own_lt H37.out.a hb) (fun b hb => own_lt H37.out.c hb) (blk_lt' HT7.out.t) HT7.out.b.size); (case aL => have := HPL.out; rw [List.length_map]; omega); intro q3 w8 ho hb hg hat; have HT8 := Aside0.mk (HT7.out.grown hb hg (fun e => (H37.out.b.1 g e.symm).1.1.2 rfl) (fun k hk e => Nat.lt_irrefl k (Nat.lt_of_lt_of_le (HOK.out k hk) (H37.out.b.1 k e.symm).1.1.1))); have H38 := Aside0.mk (H37.out.app2 ho hg hat); clear ho hb hg hat HT7 H37 HR7 HFR)
      go_at_call 12
      refine (byteIndexC g A s.length c _ _ _ _ _ _ HT8.out.t).mono ?_
      rintro e w8' ⟨rfl, rfl⟩
      go_wp2_with ((with_reducible refine gate_builtin (b := .append) (xs := #[.tmp 20, .tmp 23]) rfl ?_); (try (refine gate_guard (by rfl) ?_; dsimp only)); at_builtin; refine Kd.N_append (Kd.int .i64) (w0 := w) w.heap.size rfl (.tmp 20) (.tmp 23) 24 3 (.int .i64 0) 8 rfl Try.underlying24 infoInt rfl (by decide) (by decide) u4 es n1 [.int .i64 n1] (okA w.heap.size g q2 q3) (fun _ => False) rfl rfl (fun _ _ => rfl) (fun _ hk => hk.elim) ?aF (H38.out.c) (HT8.out.b) (HT8.out.b.size) ?aL ?_; (case aF => exact okFresh (fun b hb => own_lt H38.out.a hb) (fun b hb => own_lt H38.out.b hb) (blk_lt' HT8.out.t) HT8.out.b.size); (case aL => have := HPL.out; omega); intro q4 w9 ho hb hg hat; have HT9 := Aside0.mk (HT8.out.grown hb hg (fun e => (H38.out.c.1 g e.symm).1.1.2 rfl) (fun k hk e => Nat.lt_irrefl k (Nat.lt_of_lt_of_le (HOK.out k hk) (H38.out.c.1 k e.symm).1.1.1))); have H39 := Aside0.mk (H38.out.app3 ho hg hat); clear ho hb hg hat HT8 H38)
      go_roundg (gk - 1)
      case measure => have := HK5.out; omega
      case rel => exact ⟨a + d, pos', _, _, pre ++ [(v, ys)], lr, es ++ [n1], ⟨HK5.out.1⟩, HR5, HE5, ⟨by have := HPL.out; simp only [List.length_append, List.length_singleton]; omega⟩, ⟨by rw [List.map_append, List.map_append]; exact H39.out⟩, ⟨by rw [HN1.out]; exact HT9.out⟩⟩
    · have HT5 := Aside0.mk r1
      have HB5 := Aside0.mk (r2.below HT.out.b HG.out HT.out.b.size)
      have H35 := Aside0.mk (H3.out.only r2)
      have HZ : Aside0 (pre = l ∧ b = false) := ⟨by obtain ⟨e1, e2⟩ := tks_halt hi hd HR.out; have h4 := HE.out; rw [e1, List.append_nil] at h4; exact ⟨h4, e2⟩⟩
      clear r1 r2 hi hd HT HR HE H3
      go_wp2_with fail
      go_at_call 14
      refine (getErrC g A s.length c _ _ _ _ _ _ HT5.out).mono ?_
      rintro e w6 ⟨rfl, rfl⟩
      go_wp2_with fail
      go_at_call 13
      refine (kindErr _ _).mono ?_
      rintro e w7 ⟨rfl, hb⟩
      have H37 := Aside0.mk (H35.out.below hb)
      have HB7 := Aside0.mk (HB5.out.trans (hb.mono HB5.out.size))
      clear hb
      go_wp2_with fail
      (try simp only [Exit.inBlock, Exit.then]); refine bodyPost_ret (results_tmp4 rfl _ _ _) rfl ?_
      exact ⟨_, _, _, by rw [HZ.out.2]; rfl, by rw [← HZ.out.1]; exact Kd.V_mono (Kd.N_V H37.out.a) (fun k hk => hk.1.1.1), by rw [← HZ.out.1]; exact Kd.V_mono (Kd.N_V H37.out.b) (fun k hk => hk.1.1.1), HB7.out⟩
end Go.Proofs.Ytnnegacjgpejdaa.Tok
