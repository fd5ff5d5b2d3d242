/- Scripts of many signatures: what the package's function says of them. -/
import Derived.Test.YtfbkjkihcajmdacCls4
namespace Go.Proofs.Ytfbkjkihcajmdac.Tok
open Go.RowKit Go.Proofs.YtfbkjkihcajmdacW.PrintWords Go.Proofs.YtfbkjkihcajmdacW.PrintLast Go.Proofs.YtfbkjkihcajmdacW.PrintMore Go.Proofs.Ytfbkjkihcajmdac.QFnClasses
set_option linter.unusedVariables false
set_option linter.unusedSimpArgs false
/-- From i on, k tokens that are no small numbers, and one that is, at j. -/
inductive Keys (s : List Int) : Nat → Nat → Nat → Prop
  | stop {i : Nat} : i < s.length → Small (s.getD i 0) → Keys s i 0 i
  | step {i a d k j : Nat} : i < s.length → dat s i = some (a, d) → ¬ Small (s.getD i 0) → Keys s (a + d) k j → Keys s i (k + 1) j
/-- A script of many signatures. -/
def MultiP (s : List Int) : Prop := 3 ≤ s.length ∧ s.getD (s.length - 1) 0 = 174 ∧ Small (s.getD 0 0) ∧ ∃ k j, Keys s 1 k j ∧ j + 2 = s.length ∧ smallNum (s.getD j 0) = k
/-- The state on the way: the tokenizer, the bytes, the result's block, what stands below. -/
structure WayM (w w5 : World) (g : Nat) (A : Option Addr) (s : List Int) (c : Nat) (oks : Nat → Prop) (base : Nat) (off pos : Int) (op data : Value) : Prop where
  t : Tk w5 g A s.length c off pos op data .nilIface
  v : Kd.V (Kd.int .u8) 5 w5 base oks (.slice A s.length c) s
  b : Below w.heap.size w w5
  r : w5.heap[w.heap.size]? = some (.cells #[.int .i64 0, .int .i64 0, .slice none 0 0, .bool false] 53 (0, 0))
theorem WayM.drewN {w w5 : World} {g : Nat} {A : Option Addr} {s : List Int} {c : Nat} {oks : Nat → Prop} {base : Nat} {off pos : Int} {op data : Value} (h : WayM w w5 g A s c oks base off pos op data) (m : Nat) : WayM w (w5.drewN m) g A s c oks base off pos op data :=
  ⟨h.t.drewN m, Kd.V_drewN h.v m, pw_below_drewN h.b m, heapN h.r m⟩
theorem WayM.next {w w5 w6 : World} {g : Nat} {A : Option Addr} {s : List Int} {c : Nat} {oks : Nat → Prop} {base : Nat} {off pos off' pos' : Int} {op data op' data' : Value} (h : WayM w w5 g A s c oks base off pos op data) (ho : Only g w5 w6) (hg : w.heap.size < g) (hok : ∀ k, oks k → k ≠ g) (ht : Tk w6 g A s.length c off' pos' op' data' .nilIface) : WayM w w6 g A s c oks base off' pos' op' data' :=
  ⟨ht, Kd.V_only h.v ho hok, ho.below h.b (Nat.le_of_lt hg) h.b.size, (ho.block _ (blk_lt' h.r) (Nat.ne_of_lt hg)).trans h.r⟩
theorem keys_end {s : List Int} {i k j : Nat} (h : Keys s i k j) (hi : s.length ≤ i) : False := by
  cases h with
  | stop h1 _ => omega
  | step h1 _ _ _ => omega
theorem keys_halt {s : List Int} {i k j : Nat} (h : Keys s i k j) (hd : dat s i = none) : False := by
  cases h with
  | stop h1 h2 => rw [dat_small_some h2] at hd; cases hd
  | step h1 h2 _ _ => rw [h2] at hd; cases hd
theorem keys_stop {s : List Int} {i k j : Nat} (h : Keys s i k j) (hs : Small (s.getD i 0)) : k = 0 ∧ j = i := by
  cases h with
  | stop h1 h2 => exact ⟨rfl, rfl⟩
  | step h1 h2 h3 _ => exact absurd hs h3
theorem keys_step {s : List Int} {i k j a d : Nat} (h : Keys s i k j) (hd : dat s i = some (a, d)) (hs : ¬ Small (s.getD i 0)) : ∃ k', k = k' + 1 ∧ Keys s (a + d) k' j := by
  cases h with
  | stop h1 h2 => exact absurd h2 hs
  | step h1 h2 h3 h4 => rw [hd] at h2; injection h2 with h2; injection h2 with h5 h6; subst h5; subst h6; exact ⟨_, rfl, h4⟩
theorem ev_strict (x : List Int) : ∃ r, Ev (fun k => btcdtxscript_isStrictPubKeyEncoding.f k x) r := by
  have key : ∀ b, ∃ r, Ev (fun k => btcdtxscript_isStrictPubKeyEncoding.j0 k x b) r := by
    intro b
    by_cases h0 : b = true
    · exact ⟨true, Ev.step (f := fun _ => some true) (fun k => by rw [btcdtxscript_isStrictPubKeyEncoding.j0, if_pos h0]) (Ev.now _)⟩
    by_cases h1 : (x.length : Int) = 65
    · by_cases h2 : rd x 0 = 4
      · exact ⟨true, Ev.step (f := fun _ => some true) (fun k => by rw [btcdtxscript_isStrictPubKeyEncoding.j0, if_neg h0, if_pos h1, if_pos (by omega), if_pos h2]) (Ev.now _)⟩
      by_cases h3 : rd x 0 = 6
      · exact ⟨true, Ev.step (f := fun _ => some true) (fun k => by rw [btcdtxscript_isStrictPubKeyEncoding.j0, if_neg h0, if_pos h1, if_pos (by omega), if_neg h2, if_pos h3]) (Ev.now _)⟩
      by_cases h4 : rd x 0 = 7
      · exact ⟨true, Ev.step (f := fun _ => some true) (fun k => by rw [btcdtxscript_isStrictPubKeyEncoding.j0, if_neg h0, if_pos h1, if_pos (by omega), if_neg h2, if_neg h3, if_pos h4]) (Ev.now _)⟩
      · exact ⟨false, Ev.step (f := fun _ => some false) (fun k => by rw [btcdtxscript_isStrictPubKeyEncoding.j0, if_neg h0, if_pos h1, if_pos (by omega), if_neg h2, if_neg h3, if_neg h4]) (Ev.now _)⟩
    · exact ⟨false, Ev.step (f := fun _ => some false) (fun k => by rw [btcdtxscript_isStrictPubKeyEncoding.j0, if_neg h0, if_neg h1]) (Ev.now _)⟩
  by_cases h1 : (x.length : Int) = 33
  · by_cases h2 : rd x 0 = 2
    · obtain ⟨r, hr⟩ := key true
      exact ⟨r, Ev.congr (fun k => by unfold btcdtxscript_isStrictPubKeyEncoding.f; rw [if_pos h1, if_pos (by omega), if_pos h2]) hr⟩
    · obtain ⟨r, hr⟩ := key (rd x 0 == 3)
      exact ⟨r, Ev.congr (fun k => by unfold btcdtxscript_isStrictPubKeyEncoding.f; rw [if_pos h1, if_pos (by omega), if_neg h2]) hr⟩
  · obtain ⟨r, hr⟩ := key false
    exact ⟨r, Ev.congr (fun k => by unfold btcdtxscript_isStrictPubKeyEncoding.f; rw [if_neg h1]) hr⟩
/-- What a call of the details says: whether the script is one of many signatures. -/
def Told (s : List Int) (w : World) (e : Ending) (w' : World) : Prop := ∃ sigs keys b, e = .returned (.agg #[.int .i64 sigs, .int .i64 keys, .slice none 0 0, .bool b]) ∧ (b = true ↔ MultiP s) ∧ Below w.heap.size w w'
set_option maxRecDepth 100000 in
set_option maxHeartbeats 8000000 in
theorem multiC (A : Option Addr) (s : List Int) (c : Nat) (oks : Nat → Prop) (base : Nat) (w : World)
    (hok : ∀ k, oks k → k < w.heap.size) (hV : Kd.V (Kd.int .u8) 5 w base oks (.slice A s.length c) s) (hn : s.length ≤ 1000000) (hB : ByteL s) :
    Calls Try.prog 47 #[.int .u16 0, .slice A s.length c, .bool false] w (Told s w) := by
  have HV := Aside0.mk hV
  have HOK := Aside0.mk hok
  have HB := Aside0.mk hB
  clear hV hok hB
  by_cases h3 : s.length < 3
  · have HNP : Aside0 (¬ MultiP s) := ⟨fun h => by have := h.1; omega⟩
    have b1 : decide ((s.length : Int) < 3) = true := decide_eq_true (by omega)
    have b2 : decide (s.length < 3) = true := decide_eq_true h3
    go_enter Try.func47, Try.ntmps47
    go_wp2
    refine ⟨rfl, _, results_cell_row rfl _ _ w.heap.size 53 _ (0, 0) _ rfl (heap_alloc_new w _) Try.underlying53 rfl (by kernel_rfl), 0, 0, false, rfl, ⟨fun h => (by cases h), fun h => absurd h HNP.out⟩, (Below.refl _ _).alloc (Nat.le_refl _) _⟩
  obtain ⟨ad, rfl, _⟩ := Kd.at_int (Kd.F_now (Kd.V_at HV.out).2.2) (0 : Int) (by omega) (by omega)
  obtain ⟨m, hm⟩ : ∃ m, m + 1 = s.length := ⟨s.length - 1, by omega⟩
  obtain ⟨vl, hvl⟩ : ∃ v, s.getD m 0 = v := ⟨_, rfl⟩
  have k1 : (w.alloc (.cells #[.int .i64 0, .int .i64 0, .slice none 0 0, .bool false] 53)).cell? (ad.add m) = some (.int .u8 vl) := by
    have h := scriptCell (Kd.V_alloc HV.out (.cells #[.int .i64 0, .int .i64 0, .slice none 0 0, .bool false] 53)) m (by omega) hvl
    exact h
  have q1 : IntKind.i64.wrap ((s.length : Int) - 1) = (m : Int) := by rw [i64w (by omega) (by omega)]; omega
  have b1 : decide ((s.length : Int) < 3) = false := decide_eq_false (by omega)
  have b2 : decide (s.length < 3) = false := decide_eq_false h3
  have b3 : m < s.length := by omega
  have HM : Aside0 (m + 1 = s.length ∧ s.getD (s.length - 1) 0 = vl ∧ 3 ≤ s.length) := ⟨by rw [← hm]; exact ⟨rfl, hvl, by omega⟩⟩
  clear hm hvl
  by_cases hl : vl = 174
  rotate_left
  · have HNP : Aside0 (¬ MultiP s) := ⟨fun h => hl (by rw [← HM.out.2.1]; exact h.2.1)⟩
    have b4 : decide (vl = 174) = false := decide_eq_false hl
    go_enter Try.func47, Try.ntmps47
    go_wp2
    refine ⟨rfl, _, results_cell_row rfl _ _ w.heap.size 53 _ (0, 0) _ rfl (heap_alloc_new w _) Try.underlying53 rfl (by kernel_rfl), 0, 0, false, rfl, ⟨fun h => (by cases h), fun h => absurd h HNP.out⟩, (Below.refl _ _).alloc (Nat.le_refl _) _⟩
  subst hl
  go_enter Try.func47, Try.ntmps47
  go_wp2_with fail
  go_at_call 48
  refine (makeC (some ad) s.length c _).mono ?_
  rintro e w1 ⟨rfl, hb⟩
  have HB0 := Aside0.mk (show Below w.heap.size w (w.alloc (.cells #[.int .i64 0, .int .i64 0, .slice none 0 0, .bool false] 53)) from (Below.refl _ _).alloc (Nat.le_refl _) _)
  have HV1 := Aside0.mk (Kd.V_below (Kd.V_alloc HV.out (.cells #[.int .i64 0, .int .i64 0, .slice none 0 0, .bool false] 53)) hb)
  have HB1 := Aside0.mk (HB0.out.trans (hb.mono HB0.out.size))
  have HR1 : Aside0 (w1.heap[w.heap.size]? = some (.cells #[.int .i64 0, .int .i64 0, .slice none 0 0, .bool false] 53 (0, 0))) := ⟨(hb.block w.heap.size (blk_lt' (heap_alloc_new w _))).trans (heap_alloc_new w _)⟩
  have HG : Aside0 (w.heap.size < w1.heap.size) := ⟨blk_lt' HR1.out⟩
  clear hb HB0 HV k1
  go_wp2_with fail
  have HT2 : Aside0 (WayM w (w1.alloc (.cells #[.slice (some ad) s.length c, .int .u16 0, .int .i32 0, .int .i32 (-1), .pointer none, .slice none 0 0, .nilIface] 57)) w1.heap.size (some ad) s c oks base ((0 : Nat) : Int) (-1) (.pointer none) (.slice none 0 0)) := ⟨⟨heap_alloc_new w1 _, Kd.V_alloc HV1.out _, HB1.out.alloc HB1.out.size _, heap_alloc_lt HR1.out _⟩⟩
  have HOK2 : Aside0 (∀ k, oks k → k ≠ w1.heap.size) := ⟨fun k hk => by have := HOK.out k hk; have := HG.out; omega⟩
  obtain ⟨g, hg⟩ : ∃ g, w1.heap.size = g := ⟨_, rfl⟩
  rw [hg] at HT2 HG HOK2
  rw [hg]
  generalize w1.alloc (.cells #[.slice (some ad) s.length c, .int .u16 0, .int .i32 0, .int .i32 (-1), .pointer none, .slice none 0 0, .nilIface] 57) = w2 at HT2 ⊢
  clear hg HB1 HV1 HR1 HOK
  go_at_call 49
  refine (nextAny g (some ad) s c 0 (-1) (.pointer none) (.slice none 0 0) oks base _ HOK2.out HT2.out.v HT2.out.t hn HB.out).mono ?_
  rintro e w5 (⟨h1, rfl, h2, h3⟩ | ⟨hi, (⟨a, d, hd, rfl, pos', o, dv, nm, ol, r1, r2, r3, r4, r5⟩ | ⟨hd, rfl, pos', op', data', x, r1, r2⟩)⟩)
  · exfalso; omega
  · obtain ⟨v0, hgv⟩ : ∃ v, s.getD 0 0 = v := ⟨_, rfl⟩
    rw [hgv] at r2
    have HGV0 := Aside0.mk hgv
    have HO5 := Aside0.mk r2
    have HT5 := Aside0.mk (HT2.out.next r5 HG.out HOK2.out r1)
    clear r1 r2 r3 r4 r5 HT2
    by_cases hs : Small v0
    rotate_left
    · have HNP : Aside0 (¬ MultiP s) := ⟨fun h => hs (by rw [← HGV0.out]; exact h.2.2.1)⟩
      have HSV0 := Aside0.mk hs
      clear hs hd hi hgv
      go_wp2_with fail
      go_at_call 52
      refine (opC g o (some ad) s.length c _ _ _ _ nm _ _ _ HT5.out.t HO5.out).mono ?_
      rintro e w6 ⟨rfl, rfl⟩
      go_wp2_with fail
      go_at_call 51
      refine (btcdtxscript_IsSmallInt.calls _ false _ (isSmall_f HSV0.out)).mono ?_
      rintro e w7 ⟨rfl, ⟨nd, rfl⟩⟩
      have n1_ := Aside0.mk (HT5.out.drewN nd)
      clear HT5
      have HT5 := n1_
      clear n1_
      generalize w6.drewN nd = w6g at HT5 ⊢
      have HR5 := Aside0.mk HT5.out.r
      have HB5 := Aside0.mk HT5.out.b
      have S0 := HR5.out
      have e0_ := cell_of S0 (j := 0) (v := .int .i64 0) rfl
      have f0_ := frozen_of S0 0
      have S1 := heap_set_same S0 (j := 0) (.int .i64 0)
      have e1_ := cell_of S1 (j := 1) (v := .int .i64 0) rfl
      have f1_ := frozen_of S1 1
      have S2 := heap_set_same S1 (j := 1) (.int .i64 0)
      have e2_ := cell_of S2 (j := 2) (v := .slice none 0 0) rfl
      have f2_ := frozen_of S2 2
      have S3 := heap_set_same S2 (j := 2) (.slice none 0 0)
      have e3_ := cell_of S3 (j := 3) (v := .bool false) rfl
      have f3_ := frozen_of S3 3
      have S4 := heap_set_same S3 (j := 3) (.bool false)
      have HS4 := Aside0.mk S4
      have HBF := Aside0.mk ((((HB5.out.setCell (p := ⟨w.heap.size, 0, none⟩) (Nat.le_refl _) (.int .i64 0)).setCell (p := ⟨w.heap.size, 1, none⟩) (Nat.le_refl _) (.int .i64 0)).setCell (p := ⟨w.heap.size, 2, none⟩) (Nat.le_refl _) (.slice none 0 0)).setCell (p := ⟨w.heap.size, 3, none⟩) (Nat.le_refl _) (.bool false))
      clear S0 S1 S2 S3 S4
      go_wp2_with fail
      exact ⟨rfl, _, results_cell_row rfl _ _ w.heap.size 53 _ (0, 0) _ rfl HS4.out Try.underlying53 rfl (by kernel_rfl), 0, 0, false, rfl, ⟨fun h => (by cases h), fun h => absurd h HNP.out⟩, HBF.out⟩
    obtain ⟨rfl, rfl⟩ := dat_small (by rw [hgv]; exact hs) hd
    have HSV0 := Aside0.mk hs
    clear hs hd hi hgv
    go_wp2_with fail
    go_at_call 52
    refine (opC g o (some ad) s.length c _ _ _ _ nm _ _ _ HT5.out.t HO5.out).mono ?_
    rintro e w6 ⟨rfl, rfl⟩
    go_wp2_with fail
    go_at_call 51
    refine (btcdtxscript_IsSmallInt.calls _ true _ (isSmall_t HSV0.out)).mono ?_
    rintro e w7 ⟨rfl, ⟨nd, rfl⟩⟩
    have n1_ := Aside0.mk (HT5.out.drewN nd)
    have n2_ := Aside0.mk (heapN HO5.out nd)
    clear HT5 HO5
    have HT5 := n1_
    have HO5 := n2_
    clear n1_ n2_
    generalize w6.drewN nd = w6g at HT5 HO5 ⊢
    go_wp2_with fail
    go_at_call 52
    refine (opC g o (some ad) s.length c _ _ _ _ nm _ _ _ HT5.out.t HO5.out).mono ?_
    rintro e w8 ⟨rfl, rfl⟩
    go_wp2_with fail
    go_at_call 62
    refine (btcdtxscript_AsSmallInt.calls _ _ _ (asSmall HSV0.out)).mono ?_
    rintro e w9 ⟨rfl, ⟨nd2, rfl⟩⟩
    have HT9 : Aside0 (WayM w _ g (some ad) s c oks base ((1 : Nat) : Int) pos' (.pointer (some ⟨o, 0, none⟩)) dv) := Aside0.mk (HT5.out.drewN nd2)
    clear HT5 HO5
    generalize w8.drewN nd2 = w9 at HT9 ⊢
    go_wp2_with fail
    go_loopg [9, 10, 11] (s.length + 1) (fun kq p9 p10 p11 w' => ∃ (i k : Nat) (pos : Int) (op data : Value), p9 = .int .i64 (k : Int) ∧ p10 = .slice none 0 0 ∧ Aside0 (s.length + 1 ≤ i + kq) ∧ Aside0 (k ≤ i) ∧ Aside0 ((∀ k' j, Keys s i k' j → Keys s 1 (k + k') j) ∧ (∀ m j, Keys s 1 m j → ∃ k', m = k + k' ∧ Keys s i k' j)) ∧ Aside0 (WayM w w' g (some ad) s c oks base i pos op data))
    case atStart => exact ⟨1, 0, _, _, _, rfl, rfl, ⟨by omega⟩, ⟨by omega⟩, ⟨fun k' j h => (by rw [Nat.zero_add]; exact h), fun m j h => ⟨m, by omega, h⟩⟩, HT9⟩
    case round =>
      clear HT9
      obtain ⟨i, k, pos, op, data, rfl, rfl, HK, HKI, HR, HT⟩ := hrel
      go_wp2_with fail
      go_at_call 49
      refine (nextAny g (some ad) s c i pos op data oks base _ HOK2.out HT.out.v HT.out.t hn HB.out).mono ?_
      rintro e w5 (⟨h1, rfl, h2, h3⟩ | ⟨hi, (⟨a, d, hd, rfl, pos', o, dv, nm, ol, r1, r2, r3, r4, r5⟩ | ⟨hd, rfl, pos', op', data', x, r1, r2⟩)⟩)
      · have HNP : Aside0 (¬ MultiP s) := ⟨fun h => by obtain ⟨_, _, _, m, j, hk, _⟩ := h; obtain ⟨k', _, hk'⟩ := HR.out.2 m j hk; exact keys_end hk' h1⟩
        have HT5 := Aside0.mk (HT.out.next h3 HG.out HOK2.out h2)
        have HD5 : Aside0 (s.length ≤ i) := ⟨h1⟩
        clear h1 h2 h3 HT HR HK HKI
        go_wp2_with fail
        go_at_call 50
        refine (doneC g (some ad) s.length c _ _ _ _ _ (by omega) HT5.out.t).mono ?_
        rintro e w6 ⟨rfl, hb⟩
        rw [decide_eq_true (show ((s.length : Nat) : Int) ≤ ((i : Nat) : Int) by have := HD5.out; omega)]
        have HR6 := Aside0.mk ((hb.block _ (blk_lt' HT5.out.r)).trans HT5.out.r)
        have HB6 := Aside0.mk (HT5.out.b.trans (hb.mono HT5.out.b.size))
        clear hb HT5
        have S0 := HR6.out
        have e0_ := cell_of S0 (j := 0) (v := .int .i64 0) rfl
        have f0_ := frozen_of S0 0
        have S1 := heap_set_same S0 (j := 0) (.int .i64 0)
        have e1_ := cell_of S1 (j := 1) (v := .int .i64 0) rfl
        have f1_ := frozen_of S1 1
        have S2 := heap_set_same S1 (j := 1) (.int .i64 0)
        have e2_ := cell_of S2 (j := 2) (v := .slice none 0 0) rfl
        have f2_ := frozen_of S2 2
        have S3 := heap_set_same S2 (j := 2) (.slice none 0 0)
        have e3_ := cell_of S3 (j := 3) (v := .bool false) rfl
        have f3_ := frozen_of S3 3
        have S4 := heap_set_same S3 (j := 3) (.bool false)
        have HS4 := Aside0.mk S4
        have HBF := Aside0.mk ((((HB6.out.setCell (p := ⟨w.heap.size, 0, none⟩) (Nat.le_refl _) (.int .i64 0)).setCell (p := ⟨w.heap.size, 1, none⟩) (Nat.le_refl _) (.int .i64 0)).setCell (p := ⟨w.heap.size, 2, none⟩) (Nat.le_refl _) (.slice none 0 0)).setCell (p := ⟨w.heap.size, 3, none⟩) (Nat.le_refl _) (.bool false))
        clear S0 S1 S2 S3 S4
        go_wp2_with fail
        exact ⟨rfl, _, results_cell_row rfl _ _ w.heap.size 53 _ (0, 0) _ rfl HS4.out Try.underlying53 rfl (by kernel_rfl), 0, 0, false, rfl, ⟨fun h => (by cases h), fun h => absurd h HNP.out⟩, HBF.out⟩
      · obtain ⟨v, hgv⟩ : ∃ v, s.getD i 0 = v := ⟨_, rfl⟩
        obtain ⟨ge1, ge2⟩ := dat_le hi hd
        rw [hgv] at r2
        have HGV := Aside0.mk hgv
        have HO5 := Aside0.mk r2
        have HI := Aside0.mk hi
        have HT5 := Aside0.mk (HT.out.next r5 HG.out HOK2.out r1)
        obtain ⟨Ad, cd, ed⟩ := Kd.V_slice r4
        subst ed
        have hdl : ((s.drop a).take d).length = d := by rw [List.length_take, List.length_drop]; omega
        obtain ⟨ys, hys⟩ : ∃ ys, (s.drop a).take d = ys := ⟨_, rfl⟩
        rw [hys] at r4 HT5
        have HY5 := Aside0.mk r4
        have HK5 : Aside0 (s.length + 1 ≤ a + d + (gk - 1) ∧ 0 < gk ∧ k + 1 ≤ a + d) := ⟨by have := HK.out; have := HKI.out; omega⟩
        clear r1 r2 r3 r4 r5 HT HK hys hdl ge1 ge2
        by_cases hs : Small v
        · obtain ⟨rfl, rfl⟩ := dat_small (by rw [hgv]; exact hs) hd
          have HSV := Aside0.mk hs
          have HKS : Aside0 (∀ m j, Keys s 1 m j → m = k ∧ j = i) := ⟨fun m j h => by obtain ⟨k', e1, h2⟩ := HR.out.2 m j h; obtain ⟨e2, e3⟩ := keys_stop h2 (by rw [hgv]; exact hs); exact ⟨by omega, e3⟩⟩
          have HKT : Aside0 (Keys s 1 k i) := ⟨by have h := HR.out.1 0 i (.stop hi (by rw [hgv]; exact hs)); exact h⟩
          obtain ⟨n1, hn1⟩ : ∃ n1, i + 1 + 0 = n1 := ⟨_, rfl⟩
          rw [hn1] at HT5
          have HN1 : Aside0 (i + 1 = n1) := ⟨hn1⟩
          clear hs hd hgv hi hn1 HR HY5
          go_wp2_with fail
          go_at_call 52
          refine (opC g o (some ad) s.length c _ _ _ _ nm _ _ _ HT5.out.t HO5.out).mono ?_
          rintro e w6 ⟨rfl, rfl⟩
          go_wp2_with fail
          go_at_call 51
          refine (btcdtxscript_IsSmallInt.calls _ true _ (isSmall_t HSV.out)).mono ?_
          rintro e w7 ⟨rfl, ⟨nd, rfl⟩⟩
          have n1_ := Aside0.mk (HT5.out.drewN nd)
          have n2_ := Aside0.mk (heapN HO5.out nd)
          clear HT5 HO5
          have HT5 := n1_
          have HO5 := n2_
          clear n1_ n2_
          generalize w6.drewN nd = w6g at HT5 HO5 ⊢
          go_wp2_with fail
          go_at_call 50
          refine (doneC g (some ad) s.length c _ _ _ _ _ (by omega) HT5.out.t).mono ?_
          rintro e w8 ⟨rfl, hb⟩
          have HT6 : Aside0 (WayM w w8 g (some ad) s c oks base (n1 : Int) pos' (.pointer (some ⟨o, 0, none⟩)) (.slice Ad ys.length cd)) := ⟨⟨Tk.below HT5.out.t hb, Kd.V_below HT5.out.v hb, HT5.out.b.trans (hb.mono HT5.out.b.size), (hb.block _ (blk_lt' HT5.out.r)).trans HT5.out.r⟩⟩
          have HO6 : Aside0 (w8.heap[o]? = some (.cells #[.int .u8 v, .string nm, .int .i64 ol] 72 (0, 0))) := ⟨(hb.block o (blk_lt' HO5.out)).trans HO5.out⟩
          have HR6 := Aside0.mk HT6.out.r
          have HB6 := Aside0.mk HT6.out.b
          clear hb HT5 HO5
          by_cases hend : s.length ≤ n1
          · rw [decide_eq_true (show ((s.length : Nat) : Int) ≤ ((n1 : Nat) : Int) by omega)]
            have HNP : Aside0 (¬ MultiP s) := ⟨fun h => by obtain ⟨_, _, _, m, j, hk, h4, _⟩ := h; have h5 := HKS.out m j hk; have := HN1.out; omega⟩
            have S0 := HR6.out
            have e0_ := cell_of S0 (j := 0) (v := .int .i64 0) rfl
            have f0_ := frozen_of S0 0
            have S1 := heap_set_same S0 (j := 0) (.int .i64 0)
            have e1_ := cell_of S1 (j := 1) (v := .int .i64 0) rfl
            have f1_ := frozen_of S1 1
            have S2 := heap_set_same S1 (j := 1) (.int .i64 0)
            have e2_ := cell_of S2 (j := 2) (v := .slice none 0 0) rfl
            have f2_ := frozen_of S2 2
            have S3 := heap_set_same S2 (j := 2) (.slice none 0 0)
            have e3_ := cell_of S3 (j := 3) (v := .bool false) rfl
            have f3_ := frozen_of S3 3
            have S4 := heap_set_same S3 (j := 3) (.bool false)
            have HS4 := Aside0.mk S4
            have HBF := Aside0.mk ((((HB6.out.setCell (p := ⟨w.heap.size, 0, none⟩) (Nat.le_refl _) (.int .i64 0)).setCell (p := ⟨w.heap.size, 1, none⟩) (Nat.le_refl _) (.int .i64 0)).setCell (p := ⟨w.heap.size, 2, none⟩) (Nat.le_refl _) (.slice none 0 0)).setCell (p := ⟨w.heap.size, 3, none⟩) (Nat.le_refl _) (.bool false))
            clear S0 S1 S2 S3 S4
            go_wp2_with fail
            exact ⟨rfl, _, results_cell_row rfl _ _ w.heap.size 53 _ (0, 0) _ rfl HS4.out Try.underlying53 rfl (by kernel_rfl), 0, 0, false, rfl, ⟨fun h => (by cases h), fun h => absurd h HNP.out⟩, HBF.out⟩
          rw [decide_eq_false (show ¬ ((s.length : Nat) : Int) ≤ ((n1 : Nat) : Int) by omega)]
          go_wp2_with fail
          go_at_call 52
          refine (opC g o (some ad) s.length c _ _ _ _ nm _ _ _ HT6.out.t HO6.out).mono ?_
          rintro e w9 ⟨rfl, rfl⟩
          go_wp2_with fail
          go_at_call 51
          refine (btcdtxscript_IsSmallInt.calls _ true _ (isSmall_t HSV.out)).mono ?_
          rintro e w10 ⟨rfl, ⟨nd, rfl⟩⟩
          have n1_ := Aside0.mk (HT6.out.drewN nd)
          have n2_ := Aside0.mk (heapN HO6.out nd)
          clear HT6 HO6
          have HT6 := n1_
          have HO6 := n2_
          clear n1_ n2_
          generalize w9.drewN nd = w9g at HT6 HO6 ⊢
          go_wp2_with fail
          go_at_call 62
          refine (btcdtxscript_AsSmallInt.calls _ _ _ (asSmall HSV.out)).mono ?_
          rintro e w11 ⟨rfl, ⟨nd4, rfl⟩⟩
          have HT7 := Aside0.mk (HT6.out.drewN nd4)
          clear HT6 HO6 HR6 HB6
          generalize w9g.drewN nd4 = w11 at HT7 ⊢
          have HR7 := Aside0.mk HT7.out.r
          have HB7 := Aside0.mk HT7.out.b
          obtain ⟨sn, hsn⟩ : ∃ x, smallNum v = x := ⟨_, rfl⟩
          rw [hsn]
          have HSN := Aside0.mk hsn
          clear hsn
          by_cases hq : sn = (k : Int)
          rotate_left
          · have HNP : Aside0 (¬ MultiP s) := ⟨fun h => by obtain ⟨_, _, _, m, j, hk, _, h5⟩ := h; obtain ⟨rfl, rfl⟩ := HKS.out m j hk; rw [HGV.out, HSN.out] at h5; exact hq h5⟩
            have d1 : decide (sn = (k : Int)) = false := decide_eq_false hq
            have d2 : (sn == (k : Int)) = false := by simpa using hq
            have d3 : (sn != (k : Int)) = true := by simpa using hq
            have S0 := HR7.out
            have e0_ := cell_of S0 (j := 0) (v := .int .i64 0) rfl
            have f0_ := frozen_of S0 0
            have S1 := heap_set_same S0 (j := 0) (.int .i64 0)
            have e1_ := cell_of S1 (j := 1) (v := .int .i64 0) rfl
            have f1_ := frozen_of S1 1
            have S2 := heap_set_same S1 (j := 1) (.int .i64 0)
            have e2_ := cell_of S2 (j := 2) (v := .slice none 0 0) rfl
            have f2_ := frozen_of S2 2
            have S3 := heap_set_same S2 (j := 2) (.slice none 0 0)
            have e3_ := cell_of S3 (j := 3) (v := .bool false) rfl
            have f3_ := frozen_of S3 3
            have S4 := heap_set_same S3 (j := 3) (.bool false)
            have HS4 := Aside0.mk S4
            have HBF := Aside0.mk ((((HB7.out.setCell (p := ⟨w.heap.size, 0, none⟩) (Nat.le_refl _) (.int .i64 0)).setCell (p := ⟨w.heap.size, 1, none⟩) (Nat.le_refl _) (.int .i64 0)).setCell (p := ⟨w.heap.size, 2, none⟩) (Nat.le_refl _) (.slice none 0 0)).setCell (p := ⟨w.heap.size, 3, none⟩) (Nat.le_refl _) (.bool false))
            clear S0 S1 S2 S3 S4
            go_wp2_with fail
            exact ⟨rfl, _, results_cell_row rfl _ _ w.heap.size 53 _ (0, 0) _ rfl HS4.out Try.underlying53 rfl (by kernel_rfl), 0, 0, false, rfl, ⟨fun h => (by cases h), fun h => absurd h HNP.out⟩, HBF.out⟩
          subst hq
          go_wp2_with fail
          go_at_call 64
          refine (scriptC g (some ad) s.length c _ _ _ _ _ _ HT7.out.t).mono ?_
          rintro e w12 ⟨rfl, rfl⟩
          go_wp2_with fail
          go_at_call 65
          refine (byteIndexC g (some ad) s.length c _ _ _ _ _ _ HT7.out.t).mono ?_
          rintro e w13 ⟨rfl, rfl⟩
          have q5 : IntKind.i32.wrap (s.length : Int) = (s.length : Int) := i32w (by omega) (by omega)
          by_cases hx : n1 + 1 = s.length
          · have HYES : Aside0 (MultiP s) := ⟨⟨HM.out.2.2, HM.out.2.1, by rw [HGV0.out]; exact HSV0.out, k, i, HKT.out, by have := HN1.out; omega, by rw [HGV.out]; exact HSN.out⟩⟩
            have q6 : IntKind.i32.wrap ((s.length : Int) - (n1 : Int)) = 1 := by rw [show (s.length : Int) - (n1 : Int) = 1 by omega]; exact i32w (by omega) (by omega)
            have S0 := HR7.out
            have e0_ := cell_of S0 (j := 0) (v := .int .i64 0) rfl
            have f0_ := frozen_of S0 0
            have S1 := heap_set_same S0 (j := 0) (.int .i64 (smallNum v0))
            have e1_ := cell_of S1 (j := 1) (v := .int .i64 0) rfl
            have f1_ := frozen_of S1 1
            have S2 := heap_set_same S1 (j := 1) (.int .i64 (k : Int))
            have e2_ := cell_of S2 (j := 2) (v := .slice none 0 0) rfl
            have f2_ := frozen_of S2 2
            have S3 := heap_set_same S2 (j := 2) (.slice none 0 0)
            have e3_ := cell_of S3 (j := 3) (v := .bool false) rfl
            have f3_ := frozen_of S3 3
            have S4 := heap_set_same S3 (j := 3) (.bool true)
            have HS4 := Aside0.mk S4
            have HBF := Aside0.mk ((((HB7.out.setCell (p := ⟨w.heap.size, 0, none⟩) (Nat.le_refl _) (.int .i64 (smallNum v0))).setCell (p := ⟨w.heap.size, 1, none⟩) (Nat.le_refl _) (.int .i64 (k : Int))).setCell (p := ⟨w.heap.size, 2, none⟩) (Nat.le_refl _) (.slice none 0 0)).setCell (p := ⟨w.heap.size, 3, none⟩) (Nat.le_refl _) (.bool true))
            clear S0 S1 S2 S3 S4
            go_wp2_with fail
            exact ⟨rfl, _, results_cell_row rfl _ _ w.heap.size 53 _ (0, 0) _ rfl HS4.out Try.underlying53 rfl (by kernel_rfl), smallNum v0, k, true, rfl, ⟨fun _ => HYES.out, fun _ => rfl⟩, HBF.out⟩
          · have HNP : Aside0 (¬ MultiP s) := ⟨fun h => by obtain ⟨_, _, _, m, j, hk, h4, _⟩ := h; have h5 := HKS.out m j hk; have := HN1.out; omega⟩
            obtain ⟨D, hD⟩ : ∃ D, (s.length : Int) - (n1 : Int) = D := ⟨_, rfl⟩
            have q6 : IntKind.i32.wrap ((s.length : Int) - (n1 : Int)) = D := by rw [hD]; exact i32w (by omega) (by omega)
            have q7 : ¬ D = 1 := by omega
            have q8 : decide (D = 1) = false := decide_eq_false q7
            clear hD
            have S0 := HR7.out
            have e0_ := cell_of S0 (j := 0) (v := .int .i64 0) rfl
            have f0_ := frozen_of S0 0
            have S1 := heap_set_same S0 (j := 0) (.int .i64 0)
            have e1_ := cell_of S1 (j := 1) (v := .int .i64 0) rfl
            have f1_ := frozen_of S1 1
            have S2 := heap_set_same S1 (j := 1) (.int .i64 0)
            have e2_ := cell_of S2 (j := 2) (v := .slice none 0 0) rfl
            have f2_ := frozen_of S2 2
            have S3 := heap_set_same S2 (j := 2) (.slice none 0 0)
            have e3_ := cell_of S3 (j := 3) (v := .bool false) rfl
            have f3_ := frozen_of S3 3
            have S4 := heap_set_same S3 (j := 3) (.bool false)
            have HS4 := Aside0.mk S4
            have HBF := Aside0.mk ((((HB7.out.setCell (p := ⟨w.heap.size, 0, none⟩) (Nat.le_refl _) (.int .i64 0)).setCell (p := ⟨w.heap.size, 1, none⟩) (Nat.le_refl _) (.int .i64 0)).setCell (p := ⟨w.heap.size, 2, none⟩) (Nat.le_refl _) (.slice none 0 0)).setCell (p := ⟨w.heap.size, 3, none⟩) (Nat.le_refl _) (.bool false))
            clear S0 S1 S2 S3 S4
            go_wp2_with fail
            exact ⟨rfl, _, results_cell_row rfl _ _ w.heap.size 53 _ (0, 0) _ rfl HS4.out Try.underlying53 rfl (by kernel_rfl), 0, 0, false, rfl, ⟨fun h => (by cases h), fun h => absurd h HNP.out⟩, HBF.out⟩
        · have HSV := Aside0.mk hs
          obtain ⟨rb, hrb⟩ := ev_strict ys
          obtain ⟨kr, hkr⟩ := hrb.rounds
          have HKR := Aside0.mk hkr
          have HR5 : Aside0 ((∀ k' j, Keys s (a + d) k' j → Keys s 1 (k + 1 + k') j) ∧ (∀ m j, Keys s 1 m j → ∃ k', m = k + 1 + k' ∧ Keys s (a + d) k' j)) := ⟨⟨fun k' j h => (by have h2 := HR.out.1 (k' + 1) j (.step hi hd (by rw [hgv]; exact hs) h); rw [show k + 1 + k' = k + (k' + 1) by omega]; exact h2), fun m j h => (by obtain ⟨k', e1, h2⟩ := HR.out.2 m j h; obtain ⟨k'', e2, h3⟩ := keys_step h2 hd (by rw [hgv]; exact hs); exact ⟨k'', by omega, h3⟩)⟩⟩
          have q9 : IntKind.i64.wrap ((k : Int) + 1) = ((k + 1 : Nat) : Int) := by rw [i64w (by omega) (by have := HKI.out; omega)]; rfl
          clear hs hd hgv hi HR hrb hkr
          go_wp2_with fail
          go_at_call 52
          refine (opC g o (some ad) s.length c _ _ _ _ nm _ _ _ HT5.out.t HO5.out).mono ?_
          rintro e w6 ⟨rfl, rfl⟩
          go_wp2_with fail
          go_at_call 51
          refine (btcdtxscript_IsSmallInt.calls _ false _ (isSmall_f HSV.out)).mono ?_
          rintro e w7 ⟨rfl, ⟨nd, rfl⟩⟩
          have n1_ := Aside0.mk (HT5.out.drewN nd)
          have n2_ := Aside0.mk (Kd.V_drewN HY5.out nd)
          clear HT5 HO5 HY5
          have HT5 := n1_
          have HY5 := n2_
          clear n1_ n2_
          generalize w6.drewN nd = w6g at HT5 HY5 ⊢
          go_wp2_with fail
          go_at_call 53
          refine (dataC g (some ad) s.length c _ _ _ _ _ _ HT5.out.t).mono ?_
          rintro e w8 ⟨rfl, rfl⟩
          go_wp2_with fail
          go_at_call 63
          refine (btcdtxscript_isStrictPubKeyEncoding.calls kr Ad cd ys rb _ (Kd.F_now (Kd.V_at HY5.out).2.2) (Kd.V_at HY5.out).2.1 HKR.out).mono ?_
          rintro e w9 ⟨rfl, ⟨nd2, rfl⟩⟩
          have HT6 := Aside0.mk (HT5.out.drewN nd2)
          clear HT5 HY5
          generalize w8.drewN nd2 = w9 at HT6 ⊢
          cases rb
          · go_wp2_with fail
            go_roundg (gk - 1)
            case measure => have := HK5.out; omega
            case rel => exact ⟨a + d, k + 1, _, _, _, by first | rfl | (rw [q9]; done) | (rw [q9]; rfl), rfl, ⟨HK5.out.1⟩, ⟨HK5.out.2.2⟩, HR5, HT6⟩
          · go_wp2_with fail
            go_roundg (gk - 1)
            case measure => have := HK5.out; omega
            case rel => exact ⟨a + d, k + 1, _, _, _, by first | rfl | (rw [q9]; done) | (rw [q9]; rfl), rfl, ⟨HK5.out.1⟩, ⟨HK5.out.2.2⟩, HR5, HT6⟩
      · have HNP : Aside0 (¬ MultiP s) := ⟨fun h => by obtain ⟨_, _, _, m, j, hk, _⟩ := h; obtain ⟨k', _, hk'⟩ := HR.out.2 m j hk; exact keys_halt hk' hd⟩
        have HR5 := Aside0.mk ((r2.block _ (blk_lt' HT.out.r) (Nat.ne_of_lt HG.out)).trans HT.out.r)
        have HB5 := Aside0.mk (r2.below HT.out.b (Nat.le_of_lt HG.out) HT.out.b.size)
        have HT5 := Aside0.mk r1
        clear r1 r2 hd hi HT HR HK HKI
        go_wp2_with fail
        go_at_call 50
        refine (doneErrC g (some ad) s.length c _ _ _ _ _ _ HT5.out).mono ?_
        rintro e w6 ⟨rfl, hb⟩
        have HR6 := Aside0.mk ((hb.block _ (blk_lt' HR5.out)).trans HR5.out)
        have HB6 := Aside0.mk (HB5.out.trans (hb.mono HB5.out.size))
        clear hb HT5 HR5 HB5
        have S0 := HR6.out
        have e0_ := cell_of S0 (j := 0) (v := .int .i64 0) rfl
        have f0_ := frozen_of S0 0
        have S1 := heap_set_same S0 (j := 0) (.int .i64 0)
        have e1_ := cell_of S1 (j := 1) (v := .int .i64 0) rfl
        have f1_ := frozen_of S1 1
        have S2 := heap_set_same S1 (j := 1) (.int .i64 0)
        have e2_ := cell_of S2 (j := 2) (v := .slice none 0 0) rfl
        have f2_ := frozen_of S2 2
        have S3 := heap_set_same S2 (j := 2) (.slice none 0 0)
        have e3_ := cell_of S3 (j := 3) (v := .bool false) rfl
        have f3_ := frozen_of S3 3
        have S4 := heap_set_same S3 (j := 3) (.bool false)
        have HS4 := Aside0.mk S4
        have HBF := Aside0.mk ((((HB6.out.setCell (p := ⟨w.heap.size, 0, none⟩) (Nat.le_refl _) (.int .i64 0)).setCell (p := ⟨w.heap.size, 1, none⟩) (Nat.le_refl _) (.int .i64 0)).setCell (p := ⟨w.heap.size, 2, none⟩) (Nat.le_refl _) (.slice none 0 0)).setCell (p := ⟨w.heap.size, 3, none⟩) (Nat.le_refl _) (.bool false))
        clear S0 S1 S2 S3 S4
        go_wp2_with fail
        exact ⟨rfl, _, results_cell_row rfl _ _ w.heap.size 53 _ (0, 0) _ rfl HS4.out Try.underlying53 rfl (by kernel_rfl), 0, 0, false, rfl, ⟨fun h => (by cases h), fun h => absurd h HNP.out⟩, HBF.out⟩
  · have HNP : Aside0 (¬ MultiP s) := ⟨fun h => by rw [dat_small_some h.2.2.1] at hd; cases hd⟩
    have HR5 := Aside0.mk ((r2.block _ (blk_lt' HT2.out.r) (Nat.ne_of_lt HG.out)).trans HT2.out.r)
    have HB5 := Aside0.mk (r2.below HT2.out.b (Nat.le_of_lt HG.out) HT2.out.b.size)
    clear r1 r2 hd hi HT2
    have S0 := HR5.out
    have e0_ := cell_of S0 (j := 0) (v := .int .i64 0) rfl
    have f0_ := frozen_of S0 0
    have S1 := heap_set_same S0 (j := 0) (.int .i64 0)
    have e1_ := cell_of S1 (j := 1) (v := .int .i64 0) rfl
    have f1_ := frozen_of S1 1
    have S2 := heap_set_same S1 (j := 1) (.int .i64 0)
    have e2_ := cell_of S2 (j := 2) (v := .slice none 0 0) rfl
    have f2_ := frozen_of S2 2
    have S3 := heap_set_same S2 (j := 2) (.slice none 0 0)
    have e3_ := cell_of S3 (j := 3) (v := .bool false) rfl
    have f3_ := frozen_of S3 3
    have S4 := heap_set_same S3 (j := 3) (.bool false)
    have HS4 := Aside0.mk S4
    have HBF := Aside0.mk ((((HB5.out.setCell (p := ⟨w.heap.size, 0, none⟩) (Nat.le_refl _) (.int .i64 0)).setCell (p := ⟨w.heap.size, 1, none⟩) (Nat.le_refl _) (.int .i64 0)).setCell (p := ⟨w.heap.size, 2, none⟩) (Nat.le_refl _) (.slice none 0 0)).setCell (p := ⟨w.heap.size, 3, none⟩) (Nat.le_refl _) (.bool false))
    clear S0 S1 S2 S3 S4
    go_wp2_with fail
    exact ⟨rfl, _, results_cell_row rfl _ _ w.heap.size 53 _ (0, 0) _ rfl HS4.out Try.underlying53 rfl (by kernel_rfl), 0, 0, false, rfl, ⟨fun h => (by cases h), fun h => absurd h HNP.out⟩, HBF.out⟩
end Go.Proofs.Ytfbkjkihcajmdac.Tok
