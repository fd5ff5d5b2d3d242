/- Programs: the walk of the package's question. -/
import Derived.Test.YtfbkjkihcajmdabProg1
namespace Go.Proofs.Ytfbkjkihcajmdab.Tok
open Go.RowKit Go.Proofs.YtfbkjkihcajmdabW.PrintWords Go.Proofs.YtfbkjkihcajmdabW.PrintLast Go.Proofs.YtfbkjkihcajmdabW.PrintMore Go.Proofs.Ytfbkjkihcajmdab.QFnProgram
set_option linter.unusedVariables false
set_option linter.unusedSimpArgs false
theorem dataC (g : Nat) (A : Option Addr) (n c : Nat) (off pos : Int) (op data err : Value) (w : World) (h : Tk w g A n c off pos op data err) :
    Calls Try.prog 36 #[.pointer (some ⟨g, 0, none⟩)] w fun e w' => e = .returned data ∧ w' = w := by
  have h1 := cell_of h (j := 5) (v := data) rfl
  go_enter Try.func36, Try.ntmps36
  go_wp2
  go_ret
  exact ⟨rfl, rfl⟩
theorem isSmall_t {v : Int} (h : Small v) : btcdtxscript_IsSmallInt.f v = some true := by
  unfold Small at h
  unfold btcdtxscript_IsSmallInt.f
  by_cases h0 : v = 0
  · rw [if_pos h0]
  · rw [if_neg h0, if_pos (by omega), decide_eq_true (by omega)]
theorem isSmall_f {v : Int} (h : ¬ Small v) : btcdtxscript_IsSmallInt.f v = some false := by
  unfold Small at h
  unfold btcdtxscript_IsSmallInt.f
  rw [if_neg (by omega)]
  by_cases h1 : v ≥ 81
  · rw [if_pos h1, decide_eq_false (by omega)]
  · rw [if_neg h1]
theorem asSmall {v : Int} (h : Small v) : btcdtxscript_AsSmallInt.f v = some (smallNum v) := by
  unfold Small at h
  unfold btcdtxscript_AsSmallInt.f smallNum
  by_cases h0 : v = 0
  · rw [if_pos h0, if_pos h0]
  · rw [if_neg h0, if_neg h0]; congr 1; omega
/-- Behind a small number: a push that is as short as can be and fills the script. -/
theorem canon_prog {s : List Int} (hl : 4 ≤ s.length) (hl2 : s.length ≤ 42) (hB : ByteL s) (h0 : Small (s.getD 0 0)) {a d : Nat} (hd : dat s 1 = some (a, d)) (r : Bool) (hlen : ((s.drop a).take d).length = d)
    (h1 : 2 ≤ ((s.drop a).take d).length → s.getD 1 0 < 76 → r = true) (h2 : s.getD 1 0 = 76 → ((s.drop a).take d).length < 76 → r = false) (h3 : s.getD 1 0 = 77 → ((s.drop a).take d).length ≤ 255 → r = false) (h4 : s.getD 1 0 = 78 → ((s.drop a).take d).length ≤ 65535 → r = false) :
    (r && decide ((s.length : Int) ≤ ((a + d : Nat) : Int))) = decide (IsProg s) ∧ (IsProg s → (s.drop a).take d = s.drop 2) := by
  rw [hlen] at h1 h2 h3 h4
  obtain ⟨v0, v1⟩ := hB.at 1
  obtain ⟨g1, g2⟩ := dat_le (show 1 < s.length by omega) hd
  have hprog : IsProg s ↔ (r = true ∧ s.length = a + d) := by
    constructor
    · rintro ⟨_, p2, p3, p4⟩
      have e := dat_push (s := s) (i := 1) (by omega) (by omega)
      rw [hd, if_pos (by omega)] at e
      injection e with e; injection e with e1 e2
      exact ⟨h1 (by omega) (by omega), by omega⟩
    · rintro ⟨hr, he⟩
      have n76 : s.getD 1 0 ≠ 76 := fun h => by rw [h2 h (by omega)] at hr; cases hr
      have n77 : s.getD 1 0 ≠ 77 := fun h => by rw [h3 h (by omega)] at hr; cases hr
      have n78 : s.getD 1 0 ≠ 78 := fun h => by rw [h4 h (by omega)] at hr; cases hr
      by_cases hm : 1 ≤ s.getD 1 0 ∧ s.getD 1 0 < 76
      · have e := dat_push (s := s) (i := 1) hm.1 hm.2
        rw [hd] at e
        split at e
        · injection e with e; injection e with e1 e2
          exact ⟨h0, by omega, by omega, by omega⟩
        · cases e
      · unfold dat at hd
        rw [if_neg n76, if_neg n77, if_neg n78, if_neg hm] at hd
        injection hd with hd; injection hd with e1 e2
        omega
  constructor
  · by_cases hp : IsProg s
    · obtain ⟨q1, q2⟩ := hprog.1 hp
      rw [decide_eq_true hp, q1, decide_eq_true (by omega)]; rfl
    · rw [decide_eq_false hp]
      by_cases hr : r = true
      · rw [decide_eq_false (fun hh => hp (hprog.2 ⟨hr, by omega⟩)), Bool.and_false]
      · rw [Bool.eq_false_iff.2 hr]; rfl
  · intro hp
    obtain ⟨_, p2, p3, p4⟩ := hp
    have e := dat_push (s := s) (i := 1) (by omega) (by omega)
    rw [hd, if_pos (by omega)] at e
    injection e with e; injection e with e1 e2
    subst e1; subst e2
    rw [List.take_of_length_le (by rw [List.length_drop]; omega)]
theorem prog_dat {s : List Int} (hp : IsProg s) : dat s (0 + 1 + 0) = some (2, (s.getD 1 0).toNat) := by
  obtain ⟨_, p2, p3, p4⟩ := hp
  have e := dat_push (s := s) (i := 1) (by omega) (by omega)
  rw [if_pos (by omega)] at e
  exact e
theorem heapN_ (w : World) (m : Nat) : (w.drewN m).heap = w.heap := by
  first | rfl | (induction m with | zero => rfl | succ m ih => simpa using ih)
theorem heapN {w : World} {o : Nat} {x : Obj} (h : w.heap[o]? = some x) (m : Nat) : (w.drewN m).heap[o]? = some x := by rw [heapN_]; exact h
theorem Tk.drewN {w : World} {g : Nat} {A : Option Addr} {n c : Nat} {off pos : Int} {op data err : Value} (h : Tk w g A n c off pos op data err) (m : Nat) : Tk (w.drewN m) g A n c off pos op data err := heapN h m
/-- What is given back. -/
def Extr (s : List Int) (oks : Nat → Prop) (base : Nat) (w : World) (e : Ending) (w' : World) : Prop :=
  ∃ ver dv, e = .returned (.tuple #[.int .i64 ver, dv, .bool (decide (IsProg s))]) ∧ (IsProg s → ver = smallNum (s.getD 0 0) ∧ Kd.V (Kd.int .u8) 5 w' base oks dv (s.drop 2)) ∧ Below w.heap.size w w'
set_option maxRecDepth 100000 in
set_option maxHeartbeats 4000000 in
theorem extractShort (A : Option Addr) (s : List Int) (c : Nat) (oks : Nat → Prop) (base : Nat) (w : World) (hl : s.length < 4 ∨ 42 < s.length) :
    Calls Try.prog 22 #[.slice A s.length c] w (Extr s oks base w) := by
  have hp : ¬ IsProg s := fun h => by have := isProg_len h; omega
  have HP := Aside0.mk hp
  clear hp
  go_enter Try.func22, Try.ntmps22
  by_cases h4 : s.length < 4
  · have b1 : decide ((s.length : Int) < 4) = true := decide_eq_true (by omega)
    have b2 : decide (s.length < 4) = true := decide_eq_true (by omega)
    go_wp2
    go_ret3
    exact ⟨0, _, by rw [decide_eq_false HP.out]; rfl, fun h => absurd h HP.out, Below.refl _ _⟩
  · have b1 : decide ((s.length : Int) < 4) = false := decide_eq_false (by omega)
    have b2 : decide (s.length < 4) = false := decide_eq_false (by omega)
    have b3 : decide ((42 : Int) < s.length) = true := decide_eq_true (by omega)
    have b4 : decide (42 < s.length) = true := decide_eq_true (by omega)
    go_wp2
    go_ret3
    exact ⟨0, _, by rw [decide_eq_false HP.out]; rfl, fun h => absurd h HP.out, Below.refl _ _⟩
/-- What holds on the way through a script: the tokenizer, the bytes, what stands below. -/
structure Way (w w5 : World) (g : Nat) (A : Option Addr) (s : List Int) (c : Nat) (oks : Nat → Prop) (base : Nat) (off pos : Int) (op data : Value) : Prop where
  t : Tk w5 g A s.length c off pos op data .nilIface
  v : Kd.V (Kd.int .u8) 5 w5 base oks (.slice A s.length c) s
  b : Below w.heap.size w w5
theorem Way.drewN {w w5 : World} {g : Nat} {A : Option Addr} {s : List Int} {c : Nat} {oks : Nat → Prop} {base : Nat} {off pos : Int} {op data : Value} (h : Way w w5 g A s c oks base off pos op data) (m : Nat) : Way w (w5.drewN m) g A s c oks base off pos op data :=
  ⟨h.t.drewN m, Kd.V_drewN h.v m, pw_below_drewN h.b m⟩
set_option maxRecDepth 100000 in
set_option maxHeartbeats 8000000 in
theorem extractLong (A : Option Addr) (s : List Int) (c : Nat) (oks : Nat → Prop) (base : Nat) (w : World)
    (hok : ∀ k, oks k → k < w.heap.size) (hV : Kd.V (Kd.int .u8) 5 w base oks (.slice A s.length c) s) (hl : 4 ≤ s.length) (hl2 : s.length ≤ 42) (hB : ByteL s) :
    Calls Try.prog 22 #[.slice A s.length c] w (Extr s oks base w) := by
  have HV := Aside0.mk hV
  have HOK := Aside0.mk hok
  have HB := Aside0.mk hB
  have hn : s.length ≤ 1000000 := by omega
  have b1 : decide ((s.length : Int) < 4) = false := decide_eq_false (by omega)
  have b2 : decide (s.length < 4) = false := decide_eq_false (by omega)
  have b3 : decide ((42 : Int) < s.length) = false := decide_eq_false (by omega)
  have b4 : decide (42 < s.length) = false := decide_eq_false (by omega)
  clear hV hok hB
  go_enter Try.func22, Try.ntmps22
  go_wp2_with (go_at_call 30; refine (makeC A s.length c _).mono ?_; rintro e w1 ⟨rfl, hb⟩; have HB1 := Aside0.mk hb; clear hb)
  obtain ⟨g, hg⟩ : ∃ g, w1.heap.size = g := ⟨_, rfl⟩
  obtain ⟨w2, hw2⟩ : ∃ w2, w1.alloc (.cells #[.slice A s.length c, .int .u16 0, .int .i32 0, .int .i32 (-1), .pointer none, .slice none 0 0, .nilIface] 57) = w2 := ⟨_, rfl⟩
  have HT2 : Aside0 (Way w w2 g A s c oks base ((0 : Nat) : Int) (-1) (.pointer none) (.slice none 0 0)) := ⟨⟨by rw [← hw2, ← hg]; exact heap_alloc_new w1 _, by rw [← hw2]; exact Kd.V_alloc (Kd.V_step HV.out (fun k hk hlt => HB1.out.block k hlt)) _, by rw [← hw2]; exact HB1.out.alloc HB1.out.size _⟩⟩
  have HG : Aside0 (w.heap.size ≤ g) := ⟨by rw [← hg]; exact HB1.out.size⟩
  have HOK2 : Aside0 (∀ k, oks k → k ≠ g) := ⟨fun k hk => by have := HOK.out k hk; have := HG.out; omega⟩
  rw [hg, hw2]
  clear hg hw2 HB1 HV HOK
  go_wp2_with fail
  go_at_call 31
  refine (nextAny g A s c 0 (-1) (.pointer none) (.slice none 0 0) oks base _ HOK2.out HT2.out.v HT2.out.t hn HB.out).mono ?_
  rintro e w5 (⟨h1, rfl, h2, h3⟩ | ⟨hi, (⟨a, d, hd, rfl, pos', o, dv, nm, ol, r1, r2, r3, r4, r5⟩ | ⟨hd, rfl, pos', op', data', x, r1, r2⟩)⟩)
  · exfalso; omega
  · obtain ⟨v, hgv⟩ : ∃ v, s.getD 0 0 = v := ⟨_, rfl⟩
    rw [hgv] at r2
    have HGV := Aside0.mk hgv
    have HO5 := Aside0.mk r2
    have HT5 : Aside0 (Way w w5 g A s c oks base ((a + d : Nat) : Int) pos' (.pointer (some ⟨o, 0, none⟩)) dv) := ⟨⟨r1, Kd.V_only HT2.out.v r5 HOK2.out, r5.below HT2.out.b HG.out HT2.out.b.size⟩⟩
    clear r1 r2 r3 r4 r5 HT2
    rcases Classical.em (Small v) with hs | hs
    · obtain ⟨rfl, rfl⟩ := dat_small (by rw [hgv]; exact hs) hd
      have HSV := Aside0.mk hs
      clear hs hd hi hgv
      go_wp2_with fail
      go_at_call 33
      refine (opC g o A s.length c _ _ _ _ nm _ _ _ HT5.out.t HO5.out).mono ?_
      rintro e w6 ⟨rfl, rfl⟩
      go_wp2_with fail
      go_at_call 32
      refine (btcdtxscript_IsSmallInt.calls _ true _ (isSmall_t HSV.out)).mono ?_
      rintro e w7 ⟨rfl, ⟨nd, rfl⟩⟩
      have HT6 := Aside0.mk (HT5.out.drewN nd)
      have HO6 := Aside0.mk (heapN HO5.out nd)
      clear HT5 HO5
      generalize w6.drewN nd = w7 at HT6 HO6 ⊢
      go_wp2_with fail
      go_at_call 33
      refine (opC g o A s.length c _ _ _ _ nm _ _ _ HT6.out.t HO6.out).mono ?_
      rintro e w8 ⟨rfl, rfl⟩
      go_wp2_with fail
      go_at_call 34
      refine (btcdtxscript_AsSmallInt.calls _ _ _ (asSmall HSV.out)).mono ?_
      rintro e w9 ⟨rfl, ⟨nd2, rfl⟩⟩
      have HT7 := Aside0.mk (HT6.out.drewN nd2)
      clear HT6 HO6
      generalize w8.drewN nd2 = w9 at HT7 ⊢
      go_wp2_with fail
      go_at_call 31
      refine (nextAny g A s c (0 + 1 + 0) _ _ _ oks base _ HOK2.out HT7.out.v HT7.out.t hn HB.out).mono ?_
      rintro e w10 (⟨h1, rfl, h2, h3⟩ | ⟨hi, (⟨a2, d2, hd, rfl, pos2, o2, dv2, nm2, ol2, r1, r2, r3, r4, r5⟩ | ⟨hd, rfl, pos2, op2, data2, x2, r1, r2⟩)⟩)
      · exfalso; omega
      · obtain ⟨Ad, cd, ed⟩ := Kd.V_slice r4
        subst ed
        obtain ⟨h42, h43⟩ := dat_le hi hd
        have hdl : ((s.drop a2).take d2).length = d2 := by rw [List.length_take, List.length_drop]; omega
        obtain ⟨r, hr, c1, c2, c3, c4⟩ := ev_canon (s.getD 1 0) ((s.drop a2).take d2)
        obtain ⟨k, hk⟩ := hr.rounds
        obtain ⟨v2, hgv2⟩ : ∃ v2, s.getD (0 + 1 + 0) 0 = v2 := ⟨_, rfl⟩
        have hCP := canon_prog hl hl2 HB.out (by rw [HGV.out]; exact HSV.out) (hd := hd) r hdl c1 c2 c3 c4
        obtain ⟨xs, hxs⟩ : ∃ xs, (s.drop a2).take d2 = xs := ⟨_, rfl⟩
        rw [hxs] at hCP hk r4 r1
        have HCP := Aside0.mk hCP
        rw [hgv2] at r2
        rw [show s.getD 1 0 = v2 from hgv2] at hk
        have HK := Aside0.mk hk
        have HO8 := Aside0.mk r2
        have HV8 := Aside0.mk r4
        have HT8 : Aside0 (Way w w10 g A s c oks base ((a2 + d2 : Nat) : Int) pos2 (.pointer (some ⟨o2, 0, none⟩)) (.slice Ad xs.length cd)) := ⟨⟨r1, Kd.V_only HT7.out.v r5 HOK2.out, r5.below HT7.out.b HG.out HT7.out.b.size⟩⟩
        have HM : Aside0 (s.length ≤ 42 ∧ d2 ≤ 42) := ⟨by omega⟩
        clear r1 r2 r3 r4 r5 HT7 hk hr hxs c1 c2 c3 c4 hgv2 hd hi h42 h43 hdl hCP
        go_wp2_with fail
        go_at_call 33
        refine (opC g o2 A s.length c _ _ _ _ nm2 _ _ _ HT8.out.t HO8.out).mono ?_
        rintro e w11 ⟨rfl, rfl⟩
        go_wp2_with fail
        go_at_call 36
        refine (dataC g A s.length c _ _ _ _ _ _ HT8.out.t).mono ?_
        rintro e w12 ⟨rfl, rfl⟩
        go_wp2_with fail
        go_at_call 35
        refine (btcdtxscript_isCanonicalPush.calls k v2 Ad cd xs r _ (Kd.F_now (Kd.V_at HV8.out).2.2) (Kd.V_at HV8.out).2.1 HK.out).mono ?_
        rintro e w13 ⟨rfl, ⟨nd3, rfl⟩⟩
        have HT9 := Aside0.mk (HT8.out.drewN nd3)
        have HV9 := Aside0.mk (Kd.V_drewN HV8.out nd3)
        clear HT8 HO8 HV8 HK
        generalize w12.drewN nd3 = w13 at HT9 HV9 ⊢
        cases r
        · have HNP : Aside0 (¬ IsProg s) := ⟨fun hp => by have h := HCP.out.1; rw [decide_eq_true hp, Bool.false_and] at h; cases h⟩
          clear HCP
          go_wp2_with fail
          go_ret3
          exact ⟨_, _, by rw [decide_eq_false HNP.out]; rfl, fun h => absurd h HNP.out, HT9.out.b⟩
        · go_wp2_with fail
          go_at_call 36
          refine (dataC g A s.length c _ _ _ _ _ _ HT9.out.t).mono ?_
          rintro e w14 ⟨rfl, rfl⟩
          go_wp2_with fail
          go_at_call 37
          refine (doneC g A s.length c _ _ _ _ _ (by have := HM.out; omega) HT9.out.t).mono ?_
          rintro e w15 ⟨rfl, hb⟩
          have HT10 := Aside0.mk (Tk.below HT9.out.t hb)
          have HV10 := Aside0.mk (Kd.V_below HV9.out hb)
          have HB10 := Aside0.mk (HT9.out.b.trans (hb.mono HT9.out.b.size))
          clear hb HT9 HV9
          have hcp := HCP.out.1
          rw [Bool.true_and] at hcp
          rw [hcp]
          by_cases hp : IsProg s
          · have HP := Aside0.mk hp
            rw [decide_eq_true hp]
            clear hcp hp
            go_wp2_with fail
            go_at_call 38
            refine (getErrC g A s.length c _ _ _ _ _ _ HT10.out).mono ?_
            rintro e w16 ⟨rfl, rfl⟩
            go_wp2_with fail
            go_ret3
            exact ⟨_, _, by rw [decide_eq_true HP.out]; rfl, fun _ => ⟨by rw [HGV.out], by rw [← HCP.out.2 HP.out]; exact HV10.out⟩, HB10.out⟩
          · have HNP := Aside0.mk hp
            rw [decide_eq_false hp]
            clear hcp hp HCP
            go_wp2_with fail
            go_ret3
            exact ⟨_, _, by rw [decide_eq_false HNP.out]; rfl, fun h => absurd h HNP.out, HB10.out⟩
      · have HB8 := Aside0.mk (r2.below HT7.out.b HG.out HT7.out.b.size)
        have HNP : Aside0 (¬ IsProg s) := ⟨fun hp => by rw [prog_dat hp] at hd; cases hd⟩
        clear r1 r2 hd hi HT7
        go_wp2_with fail
        go_ret3
        exact ⟨_, _, by rw [decide_eq_false HNP.out]; rfl, fun h => absurd h HNP.out, HB8.out⟩
    · have HNP : Aside0 (¬ IsProg s) := ⟨fun hp => hs (by rw [← HGV.out]; exact hp.1)⟩
      have HNV := Aside0.mk hs
      clear hs hd hi hgv
      go_wp2_with fail
      go_at_call 33
      refine (opC g o A s.length c _ _ _ _ nm _ _ _ HT5.out.t HO5.out).mono ?_
      rintro e w6 ⟨rfl, rfl⟩
      go_wp2_with fail
      go_at_call 32
      refine (btcdtxscript_IsSmallInt.calls _ false _ (isSmall_f HNV.out)).mono ?_
      rintro e w7 ⟨rfl, ⟨nd, rfl⟩⟩
      have HB6 := Aside0.mk (HT5.out.drewN nd).b
      clear HT5 HO5
      generalize w6.drewN nd = w7 at HB6 ⊢
      go_wp2_with fail
      go_ret3
      exact ⟨_, _, by rw [decide_eq_false HNP.out]; rfl, fun h => absurd h HNP.out, HB6.out⟩
  · have HB5 := Aside0.mk (r2.below HT2.out.b HG.out HT2.out.b.size)
    have HNP : Aside0 (¬ IsProg s) := ⟨fun hp => by rw [dat_small_some hp.1] at hd; cases hd⟩
    clear r1 r2 hd hi HT2
    go_wp2_with fail
    go_ret3
    exact ⟨_, _, by rw [decide_eq_false HNP.out]; rfl, fun h => absurd h HNP.out, HB5.out⟩
end Go.Proofs.Ytfbkjkihcajmdab.Tok
