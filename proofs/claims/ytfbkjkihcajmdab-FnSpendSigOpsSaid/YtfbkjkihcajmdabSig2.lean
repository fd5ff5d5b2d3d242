/- Checks of signatures: what the package counts. -/
import Derived.Test.YtfbkjkihcajmdabSig1
namespace Go.Proofs.Ytfbkjkihcajmdab.Tok
open Go.RowKit Go.Proofs.YtfbkjkihcajmdabW.PrintWords Go.Proofs.YtfbkjkihcajmdabW.PrintLast Go.Proofs.YtfbkjkihcajmdabW.PrintMore Go.Proofs.Ytfbkjkihcajmdab.QFnSpendSigOps
set_option linter.unusedVariables false
set_option linter.unusedSimpArgs false
/-- What holds on the way through a script: the tokenizer, the bytes, what stands below. -/
structure Way (w w5 : World) (g : Nat) (A : Option Addr) (s : List Int) (c : Nat) (oks : Nat → Prop) (base : Nat) (off pos : Int) (op data : Value) : Prop where
  t : Tk w5 g A s.length c off pos op data .nilIface
  v : Kd.V (Kd.int .u8) 5 w5 base oks (.slice A s.length c) s
  b : Below w.heap.size w w5
theorem Tk.drewN {w : World} {g : Nat} {A : Option Addr} {n c : Nat} {off pos : Int} {op data err : Value} (h : Tk w g A n c off pos op data err) (m : Nat) : Tk (w.drewN m) g A n c off pos op data err := by
  have e : (w.drewN m).heap = w.heap := by first | rfl | (induction m with | zero => rfl | succ m ih => simpa using ih)
  unfold Tk; rw [e]; exact h
theorem heapN {w : World} {o : Nat} {x : Obj} (h : w.heap[o]? = some x) (m : Nat) : (w.drewN m).heap[o]? = some x := by
  have e : (w.drewN m).heap = w.heap := by first | rfl | (induction m with | zero => rfl | succ m ih => simpa using ih)
  rw [e]; exact h
theorem Way.drewN {w w5 : World} {g : Nat} {A : Option Addr} {s : List Int} {c : Nat} {oks : Nat → Prop} {base : Nat} {off pos : Int} {op data : Value} (h : Way w w5 g A s c oks base off pos op data) (m : Nat) : Way w (w5.drewN m) g A s c oks base off pos op data :=
  ⟨h.t.drewN m, Kd.V_drewN h.v m, pw_below_drewN h.b m⟩
theorem toks_inv {s : List Int} {i a d : Nat} {l : List S34} {b : Int} (hi : i < s.length) (hd : dat s i = some (a, d)) (h : Toks s i l b) : ∃ l', l = ⟨s.getD i 0, (s.drop a).take d, i⟩ :: l' ∧ Toks s (a + d) l' b := by
  cases h with
  | done _ => omega
  | bad _ h2 => rw [hd] at h2; cases h2
  | step _ h2 h3 => rw [hd] at h2; injection h2 with h2; injection h2 with h5 h6; subst h5; subst h6; exact ⟨_, rfl, h3⟩
theorem toks_end {s : List Int} {i : Nat} {l : List S34} {b : Int} (hi : s.length ≤ i) (h : Toks s i l b) : l = [] ∧ b = -1 := by
  cases h with
  | done _ => exact ⟨rfl, rfl⟩
  | bad h1 _ => omega
  | step h1 _ _ => omega
theorem toks_halt {s : List Int} {i : Nat} {l : List S34} {b : Int} (hi : i < s.length) (hd : dat s i = none) (h : Toks s i l b) : l = [] ∧ b = i := by
  cases h with
  | done _ => omega
  | bad _ _ => exact ⟨rfl, rfl⟩
  | step _ h2 _ => rw [hd] at h2; cases h2
theorem i64w {x : Int} (h0 : 0 ≤ x) (h1 : x ≤ 9223372036854775807) : IntKind.i64.wrap x = x := by
  rw [i64_w]; exact tokW64 h0 h1
theorem sig_small {v : Int} (h0 : 81 ≤ v) (h1 : v ≤ 96) : btcdtxscript_AsSmallInt.f v = some (v - 80) := by
  unfold btcdtxscript_AsSmallInt.f
  rw [if_neg (by omega)]; congr 1; omega
theorem dataC (g : Nat) (A : Option Addr) (n c : Nat) (off pos : Int) (op data err : Value) (w : World) (h : Tk w g A n c off pos op data err) :
    Calls Try.prog 36 #[.pointer (some ⟨g, 0, none⟩)] w fun e w' => e = .returned data ∧ w' = w := by
  have h1 := cell_of h (j := 5) (v := data) rfl
  go_enter Try.func36, Try.ntmps36
  go_wp2
  go_ret
  exact ⟨rfl, rfl⟩
set_option maxRecDepth 100000 in
set_option maxHeartbeats 8000000 in
theorem countC (A : Option Addr) (s : List Int) (c : Nat) (oks : Nat → Prop) (base : Nat) (w : World) (l : List S34) (b : Int)
    (hok : ∀ k, oks k → k < w.heap.size) (hV : Kd.V (Kd.int .u8) 5 w base oks (.slice A s.length c) s) (hn : s.length ≤ 1000000) (hB : ByteL s) (hl : Toks s 0 l b) :
    Calls Try.prog 26 #[.slice A s.length c, .bool true] w fun e w' => e = .returned (.int .i64 (cnt 255 l)) ∧ Below w.heap.size w w' := by
  have HV := Aside0.mk hV
  have HOK := Aside0.mk hok
  have HB := Aside0.mk hB
  have HL := Aside0.mk hl
  clear hV hok hB hl
  go_enter Try.func26, Try.ntmps26
  go_wp2_with (go_at_call 30; refine (makeC A s.length c _).mono ?_; rintro e w1 ⟨rfl, hb⟩; have HB1 := Aside0.mk hb; clear hb)
  obtain ⟨g, hg⟩ : ∃ g, w1.heap.size = g := ⟨_, rfl⟩
  obtain ⟨w2, hw2⟩ : ∃ w2, w1.alloc (.cells #[.slice A s.length c, .int .u16 0, .int .i32 0, .int .i32 (-1), .pointer none, .slice none 0 0, .nilIface] 57) = w2 := ⟨_, rfl⟩
  have HT2 : Aside0 (Way w w2 g A s c oks base ((0 : Nat) : Int) (-1) (.pointer none) (.slice none 0 0)) := ⟨⟨by rw [← hw2, ← hg]; exact heap_alloc_new w1 _, by rw [← hw2]; exact Kd.V_alloc (Kd.V_step HV.out (fun k hk hlt => HB1.out.block k hlt)) _, by rw [← hw2]; exact HB1.out.alloc HB1.out.size _⟩⟩
  have HG : Aside0 (w.heap.size ≤ g) := ⟨by rw [← hg]; exact HB1.out.size⟩
  have HOK2 : Aside0 (∀ k, oks k → k ≠ g) := ⟨fun k hk => by have := HOK.out k hk; have := HG.out; omega⟩
  rw [hg, hw2]
  clear hg hw2 HB1 HV HOK
  go_loopg [5, 7] (s.length + 1) (fun kq p5 p7 w' => ∃ (i : Nat) (pos : Int) (op data : Value) (acc p : Int) (l' : List S34) (b' : Int), p5 = .int .i64 acc ∧ p7 = .int .u8 p ∧ Aside0 (s.length + 1 ≤ i + kq) ∧ Aside0 (Toks s i l' b') ∧ Aside0 (acc + cnt p l' = cnt 255 l) ∧ Aside0 (0 ≤ acc ∧ acc ≤ 20 * i) ∧ Aside0 (Way w w' g A s c oks base i pos op data))
  case atStart => exact ⟨0, -1, .pointer none, .slice none 0 0, 0, 255, l, b, rfl, rfl, ⟨by omega⟩, HL, ⟨by rw [Int.zero_add]⟩, ⟨by omega⟩, HT2⟩
  case round =>
    clear HT2 HL
    obtain ⟨i, pos, op, data, acc, p, l', b', rfl, rfl, HK, HR, HE, HA, HT⟩ := hrel
    go_wp2_with fail
    go_at_call 31
    refine (nextAny g A s c i pos op data oks base _ HOK2.out HT.out.v HT.out.t hn HB.out).mono ?_
    rintro e w5 (⟨h1, rfl, h2, h3⟩ | ⟨hi, (⟨a, d, hd, rfl, pos', o, dv, nm, ol, r1, r2, r3, r4, r5⟩ | ⟨hd, rfl, pos', op', data', x, r1, r2⟩)⟩)
    · have HB5 := Aside0.mk (h3.below HT.out.b HG.out HT.out.b.size)
      have HZ : Aside0 (acc = cnt 255 l) := ⟨by have h4 := HE.out; rw [(toks_end h1 HR.out).1] at h4; simpa [cnt] using h4⟩
      clear h1 h2 h3 HT HR HE
      go_wp2
      go_ret
      exact ⟨by rw [HZ.out]; rfl, HB5.out⟩
    · obtain ⟨lr, hlr, htr⟩ := toks_inv hi hd HR.out
      obtain ⟨g1, g2⟩ := dat_le hi hd
      obtain ⟨v, hgv⟩ : ∃ v, s.getD i 0 = v := ⟨_, rfl⟩
      rw [hgv] at r2 hlr
      have HO5 := Aside0.mk r2
      have HT5 : Aside0 (Way w w5 g A s c oks base ((a + d : Nat) : Int) pos' (.pointer (some ⟨o, 0, none⟩)) dv) := ⟨⟨r1, Kd.V_only HT.out.v r5 HOK2.out, r5.below HT.out.b HG.out HT.out.b.size⟩⟩
      have HE5 : Aside0 (acc + wt p v + cnt v lr = cnt 255 l) := ⟨by have h4 := HE.out; rw [hlr] at h4; simp only [cnt] at h4; omega⟩
      have HR5 := Aside0.mk htr
      have HA5 : Aside0 (0 ≤ acc + wt p v ∧ acc + wt p v ≤ 20 * ((a + d : Nat) : Int)) := ⟨by have h4 := HA.out; have h5 := wt_range p v; omega⟩
      have HK5 : Aside0 (s.length + 1 ≤ a + d + (gk - 1) ∧ 0 < gk) := ⟨by have := HK.out; omega⟩
      have HN5 : Aside0 (i < s.length) := ⟨hi⟩
      clear r1 r2 r3 r4 r5 HT HR HE HK hlr htr hgv hd g1 g2
      have q1 : wt p v = 1 → IntKind.i64.wrap (acc + 1) = acc + wt p v := fun h => by have h4 := HA.out; have h5 := HN5.out; rw [h]; exact i64w (by omega) (by omega)
      have q2 : wt p v = 20 → IntKind.i64.wrap (acc + 20) = acc + wt p v := fun h => by have h4 := HA.out; have h5 := HN5.out; rw [h]; exact i64w (by omega) (by omega)
      have q3 : wt p v = p - 80 → 81 ≤ p → p ≤ 96 → IntKind.i64.wrap (acc + (p - 80)) = acc + wt p v := fun h _ _ => by have h4 := HA.out; have h5 := HN5.out; rw [h]; exact i64w (by omega) (by omega)
      have q4 : wt p v = 0 → acc = acc + wt p v := fun h => by rw [h, Int.add_zero]
      clear hi
      by_cases c1 : v = 172
      · subst c1
        have hw : wt p 172 = 1 := by unfold wt; rw [if_pos (Or.inl rfl)]
        have q := q1 hw
        clear q1 q2 q3 q4 hw
        go_wp2_with (first | (go_at_call 33; refine (opC g o A s.length c _ _ _ _ nm _ _ _ HT5.out.t HO5.out).mono ?_; rintro e w6 ⟨rfl, rfl⟩))
        go_roundg (gk - 1)
        case measure => have := HK5.out; omega
        case rel => exact ⟨a + d, pos', _, dv, acc + wt p 172, _, lr, _, by first | rfl | (rw [q]; done) | (rw [q]; rfl), rfl, ⟨HK5.out.1⟩, HR5, HE5, HA5, HT5⟩
      by_cases c1' : v = 173
      · subst c1'
        have hw : wt p 173 = 1 := by unfold wt; rw [if_pos (Or.inr rfl)]
        have q := q1 hw
        clear q1 q2 q3 q4 hw
        go_wp2_with (first | (go_at_call 33; refine (opC g o A s.length c _ _ _ _ nm _ _ _ HT5.out.t HO5.out).mono ?_; rintro e w6 ⟨rfl, rfl⟩))
        go_roundg (gk - 1)
        case measure => have := HK5.out; omega
        case rel => exact ⟨a + d, pos', _, dv, acc + wt p 173, _, lr, _, by first | rfl | (rw [q]; done) | (rw [q]; rfl), rfl, ⟨HK5.out.1⟩, HR5, HE5, HA5, HT5⟩
      by_cases c2 : v = 174
      · subst c2
        by_cases c3 : 81 ≤ p
        · by_cases c4 : p ≤ 96
          · have hw : wt p 174 = p - 80 := by unfold wt; rw [if_neg (by decide), if_pos (Or.inl rfl), if_pos ⟨c3, c4⟩]
            have q := q3 hw c3 c4
            clear q1 q2 q3 q4 hw
            go_wp2_with (first | (go_at_call 33; refine (opC g o A s.length c _ _ _ _ nm _ _ _ HT5.out.t HO5.out).mono ?_; rintro e w6 ⟨rfl, rfl⟩) | (go_at_call 34; refine (btcdtxscript_AsSmallInt.calls _ _ _ (sig_small c3 c4)).mono ?_; rintro e w6 ⟨rfl, ⟨nd, rfl⟩⟩; have n1_ := Aside0.mk (HT5.out.drewN nd); have n2_ := Aside0.mk (heapN HO5.out nd); clear HT5 HO5; have HT5 := n1_; have HO5 := n2_; clear n1_ n2_))
            go_roundg (gk - 1)
            case measure => have := HK5.out; omega
            case rel => exact ⟨a + d, pos', _, dv, acc + wt p 174, _, lr, _, by first | rfl | (rw [q]; done) | (rw [q]; rfl), rfl, ⟨HK5.out.1⟩, HR5, HE5, HA5, HT5⟩
          · have hw : wt p 174 = 20 := by unfold wt; rw [if_neg (by decide), if_pos (Or.inl rfl), if_neg (fun h => c4 h.2)]
            have q := q2 hw
            have c5 : decide (p ≤ 96) = false := decide_eq_false c4
            clear q1 q2 q3 q4 hw
            go_wp2_with (first | (go_at_call 33; refine (opC g o A s.length c _ _ _ _ nm _ _ _ HT5.out.t HO5.out).mono ?_; rintro e w6 ⟨rfl, rfl⟩))
            go_roundg (gk - 1)
            case measure => have := HK5.out; omega
            case rel => exact ⟨a + d, pos', _, dv, acc + wt p 174, _, lr, _, by first | rfl | (rw [q]; done) | (rw [q]; rfl), rfl, ⟨HK5.out.1⟩, HR5, HE5, HA5, HT5⟩
        · have hw : wt p 174 = 20 := by unfold wt; rw [if_neg (by decide), if_pos (Or.inl rfl), if_neg (fun h => c3 h.1)]
          have q := q2 hw
          have c5 : decide (81 ≤ p) = false := decide_eq_false c3
          clear q1 q2 q3 q4 hw
          go_wp2_with (first | (go_at_call 33; refine (opC g o A s.length c _ _ _ _ nm _ _ _ HT5.out.t HO5.out).mono ?_; rintro e w6 ⟨rfl, rfl⟩))
          go_roundg (gk - 1)
          case measure => have := HK5.out; omega
          case rel => exact ⟨a + d, pos', _, dv, acc + wt p 174, _, lr, _, by first | rfl | (rw [q]; done) | (rw [q]; rfl), rfl, ⟨HK5.out.1⟩, HR5, HE5, HA5, HT5⟩
      by_cases c2 : v = 175
      · subst c2
        by_cases c3 : 81 ≤ p
        · by_cases c4 : p ≤ 96
          · have hw : wt p 175 = p - 80 := by unfold wt; rw [if_neg (by decide), if_pos (Or.inr rfl), if_pos ⟨c3, c4⟩]
            have q := q3 hw c3 c4
            clear q1 q2 q3 q4 hw
            go_wp2_with (first | (go_at_call 33; refine (opC g o A s.length c _ _ _ _ nm _ _ _ HT5.out.t HO5.out).mono ?_; rintro e w6 ⟨rfl, rfl⟩) | (go_at_call 34; refine (btcdtxscript_AsSmallInt.calls _ _ _ (sig_small c3 c4)).mono ?_; rintro e w6 ⟨rfl, ⟨nd, rfl⟩⟩; have n1_ := Aside0.mk (HT5.out.drewN nd); have n2_ := Aside0.mk (heapN HO5.out nd); clear HT5 HO5; have HT5 := n1_; have HO5 := n2_; clear n1_ n2_))
            go_roundg (gk - 1)
            case measure => have := HK5.out; omega
            case rel => exact ⟨a + d, pos', _, dv, acc + wt p 175, _, lr, _, by first | rfl | (rw [q]; done) | (rw [q]; rfl), rfl, ⟨HK5.out.1⟩, HR5, HE5, HA5, HT5⟩
          · have hw : wt p 175 = 20 := by unfold wt; rw [if_neg (by decide), if_pos (Or.inr rfl), if_neg (fun h => c4 h.2)]
            have q := q2 hw
            have c5 : decide (p ≤ 96) = false := decide_eq_false c4
            clear q1 q2 q3 q4 hw
            go_wp2_with (first | (go_at_call 33; refine (opC g o A s.length c _ _ _ _ nm _ _ _ HT5.out.t HO5.out).mono ?_; rintro e w6 ⟨rfl, rfl⟩))
            go_roundg (gk - 1)
            case measure => have := HK5.out; omega
            case rel => exact ⟨a + d, pos', _, dv, acc + wt p 175, _, lr, _, by first | rfl | (rw [q]; done) | (rw [q]; rfl), rfl, ⟨HK5.out.1⟩, HR5, HE5, HA5, HT5⟩
        · have hw : wt p 175 = 20 := by unfold wt; rw [if_neg (by decide), if_pos (Or.inr rfl), if_neg (fun h => c3 h.1)]
          have q := q2 hw
          have c5 : decide (81 ≤ p) = false := decide_eq_false c3
          clear q1 q2 q3 q4 hw
          go_wp2_with (first | (go_at_call 33; refine (opC g o A s.length c _ _ _ _ nm _ _ _ HT5.out.t HO5.out).mono ?_; rintro e w6 ⟨rfl, rfl⟩))
          go_roundg (gk - 1)
          case measure => have := HK5.out; omega
          case rel => exact ⟨a + d, pos', _, dv, acc + wt p 175, _, lr, _, by first | rfl | (rw [q]; done) | (rw [q]; rfl), rfl, ⟨HK5.out.1⟩, HR5, HE5, HA5, HT5⟩
      have hw : wt p v = 0 := by unfold wt; rw [if_neg (fun h => h.elim c1 c1'), if_neg (by omega)]
      have HQ := Aside0.mk (q4 hw)
      have d1 : decide (v = 172) = false := decide_eq_false c1
      have d2 : decide (v = 173) = false := decide_eq_false c1'
      have d3 : decide (v = 174) = false := decide_eq_false (by omega)
      have d4 : decide (v = 175) = false := decide_eq_false (by omega)
      clear q1 q2 q3 q4 hw
      go_wp2_with (first | (go_at_call 33; refine (opC g o A s.length c _ _ _ _ nm _ _ _ HT5.out.t HO5.out).mono ?_; rintro e w6 ⟨rfl, rfl⟩))
      go_roundg (gk - 1)
      case measure => have := HK5.out; omega
      case rel => exact ⟨a + d, pos', _, dv, acc + wt p v, _, lr, _, by first | rfl | (rw [← HQ.out]; done) | (rw [← HQ.out]; rfl), rfl, ⟨HK5.out.1⟩, HR5, HE5, HA5, HT5⟩
    · have HB5 := Aside0.mk (r2.below HT.out.b HG.out HT.out.b.size)
      have HZ : Aside0 (acc = cnt 255 l) := ⟨by have h4 := HE.out; rw [(toks_halt hi hd HR.out).1] at h4; simpa [cnt] using h4⟩
      clear r1 r2 hi hd HT HR HE
      go_wp2
      go_ret
      exact ⟨by rw [HZ.out]; rfl, HB5.out⟩
/-- What is pushed last, or x where nothing is pushed. -/
def lastFrom (x : List Int) : List S34 → List Int
  | [] => x
  | t :: l => lastFrom t.f1 l
theorem lastFrom_getD : ∀ (l : List S34) (x : List Int), l ≠ [] → lastFrom x l = (l.getD (l.length - 1) z34).f1
  | [], _, h => absurd rfl h
  | [t], _, _ => rfl
  | t :: t2 :: l, x, _ => by
    show lastFrom t.f1 (t2 :: l) = _
    rw [lastFrom_getD (t2 :: l) t.f1 (by simp)]
    simp
theorem toks_data {s : List Int} (hB : ByteL s) : ∀ {i : Nat} {l : List S34} {b : Int}, Toks s i l b → ∀ t ∈ l, ByteL t.f1 ∧ t.f1.length ≤ s.length := by
  intro i l b h
  induction h with
  | done _ => simp
  | bad _ _ => simp
  | step h1 h2 h3 ih =>
    intro t ht
    rcases List.mem_cons.1 ht with rfl | ht
    · refine ⟨fun d hd => hB d (List.mem_of_mem_drop (List.mem_of_mem_take hd)), ?_⟩
      show (List.take _ (List.drop _ s)).length ≤ _
      rw [List.length_take, List.length_drop]; omega
    · exact ih t ht
theorem last_data {s : List Int} (hB : ByteL s) {l : List S34} {b : Int} {i : Nat} (h : Toks s i l b) : ByteL (lastFrom [] l) ∧ (lastFrom [] l).length ≤ s.length := by
  by_cases h0 : l = []
  · subst h0; exact ⟨fun d hd => by simp [lastFrom] at hd, by simp [lastFrom]⟩
  · rw [lastFrom_getD l [] h0]
    have hp : 0 < l.length := List.length_pos_iff.2 h0
    have hm : l.getD (l.length - 1) z34 ∈ l := by
      rw [List.getD_eq_getElem?_getD, List.getElem?_eq_getElem (by omega)]
      exact List.getElem_mem _
    exact toks_data hB h _ hm
set_option maxRecDepth 100000 in
set_option maxHeartbeats 8000000 in
theorem finalC (A : Option Addr) (s : List Int) (c : Nat) (oks : Nat → Prop) (base : Nat) (w : World) (l : List S34) (b : Int)
    (hok : ∀ k, oks k → k < w.heap.size) (hV : Kd.V (Kd.int .u8) 5 w base oks (.slice A s.length c) s) (hn : s.length ≤ 1000000) (hB : ByteL s) (hl : Toks s 0 l b) (hb0 : b < 0) (h0 : 0 < s.length) :
    Calls Try.prog 28 #[.int .u16 0, .slice A s.length c] w fun e w' => ∃ v, e = .returned v ∧ Kd.V (Kd.int .u8) 5 w' base oks v (lastFrom [] l) ∧ Below w.heap.size w w' := by
  have HV := Aside0.mk hV
  have HOK := Aside0.mk hok
  have HB := Aside0.mk hB
  have HL := Aside0.mk hl
  clear hV hok hB hl
  have d1 : decide ((s.length : Int) = 0) = false := decide_eq_false (by omega)
  have d2 : decide (s.length = 0) = false := decide_eq_false (by omega)
  go_enter Try.func28, Try.ntmps28
  go_wp2_with (go_at_call 30; refine (makeC A s.length c _).mono ?_; rintro e w1 ⟨rfl, hb⟩; have HB1 := Aside0.mk hb; clear hb)
  obtain ⟨g, hg⟩ : ∃ g, w1.heap.size = g := ⟨_, rfl⟩
  obtain ⟨w2, hw2⟩ : ∃ w2, w1.alloc (.cells #[.slice A s.length c, .int .u16 0, .int .i32 0, .int .i32 (-1), .pointer none, .slice none 0 0, .nilIface] 57) = w2 := ⟨_, rfl⟩
  have HT2 : Aside0 (Way w w2 g A s c oks base ((0 : Nat) : Int) (-1) (.pointer none) (.slice none 0 0)) := ⟨⟨by rw [← hw2, ← hg]; exact heap_alloc_new w1 _, by rw [← hw2]; exact Kd.V_alloc (Kd.V_step HV.out (fun k hk hlt => HB1.out.block k hlt)) _, by rw [← hw2]; exact HB1.out.alloc HB1.out.size _⟩⟩
  have HG : Aside0 (w.heap.size ≤ g) := ⟨by rw [← hg]; exact HB1.out.size⟩
  have HOK2 : Aside0 (∀ k, oks k → k ≠ g) := ⟨fun k hk => by have := HOK.out k hk; have := HG.out; omega⟩
  rw [hg, hw2]
  clear hg hw2 HB1 HV HOK
  go_loopg [5] (s.length + 1) (fun kq p5 w' => ∃ (i : Nat) (pos : Int) (op data : Value) (x : List Int) (l' : List S34), Aside0 (Kd.V (Kd.int .u8) 5 w' base oks p5 x) ∧ Aside0 (s.length + 1 ≤ i + kq) ∧ Aside0 (Toks s i l' b) ∧ Aside0 (lastFrom x l' = lastFrom [] l) ∧ Aside0 (Way w w' g A s c oks base i pos op data))
  case atStart => exact ⟨0, -1, .pointer none, .slice none 0 0, [], l, ⟨Kd.V_nil _ _ _ _ _⟩, ⟨by omega⟩, HL, ⟨rfl⟩, HT2⟩
  case round =>
    clear HT2 HL
    obtain ⟨i, pos, op, data, x, l', HX, HK, HR, HE, HT⟩ := hrel
    go_wp2_with fail
    go_at_call 31
    refine (nextAny g A s c i pos op data oks base _ HOK2.out HT.out.v HT.out.t hn HB.out).mono ?_
    rintro e w5 (⟨h1, rfl, h2, h3⟩ | ⟨hi, (⟨a, d, hd, rfl, pos', o, dv, nm, ol, r1, r2, r3, r4, r5⟩ | ⟨hd, rfl, pos', op', data', x, r1, r2⟩)⟩)
    · have HB5 := Aside0.mk (h3.below HT.out.b HG.out HT.out.b.size)
      have HX5 := Aside0.mk (Kd.V_only HX.out h3 HOK2.out)
      have HZ : Aside0 (x = lastFrom [] l) := ⟨by have h4 := HE.out; rw [(toks_end h1 HR.out).1] at h4; exact h4⟩
      have HT5 := Aside0.mk h2
      clear h1 h2 h3 HT HR HE HX
      go_wp2_with fail
      go_at_call 38
      refine (getErrC g A s.length c _ _ _ _ _ _ HT5.out).mono ?_
      rintro e w6 ⟨rfl, rfl⟩
      go_wp2_with fail
      go_ret
      exact ⟨_, rfl, by rw [← HZ.out]; exact HX5.out, HB5.out⟩
    · obtain ⟨lr, hlr, htr⟩ := toks_inv hi hd HR.out
      obtain ⟨g1, g2⟩ := dat_le hi hd
      have HX5 := Aside0.mk r4
      have HT5 : Aside0 (Way w w5 g A s c oks base ((a + d : Nat) : Int) pos' (.pointer (some ⟨o, 0, none⟩)) dv) := ⟨⟨r1, Kd.V_only HT.out.v r5 HOK2.out, r5.below HT.out.b HG.out HT.out.b.size⟩⟩
      have HE5 : Aside0 (lastFrom ((s.drop a).take d) lr = lastFrom [] l) := ⟨by have h4 := HE.out; rw [hlr] at h4; exact h4⟩
      have HR5 := Aside0.mk htr
      have HK5 : Aside0 (s.length + 1 ≤ a + d + (gk - 1) ∧ 0 < gk) := ⟨by have := HK.out; omega⟩
      clear r1 r2 r3 r4 r5 HT HR HE HK hlr htr hd g1 g2 hi HX
      go_wp2_with fail
      go_at_call 36
      refine (dataC g A s.length c _ _ _ _ _ _ HT5.out.t).mono ?_
      rintro e w6 ⟨rfl, rfl⟩
      go_wp2_with fail
      go_roundg (gk - 1)
      case measure => have := HK5.out; omega
      case rel => exact ⟨a + d, pos', _, dv, _, lr, HX5, ⟨HK5.out.1⟩, HR5, HE5, HT5⟩
    · exfalso
      have h4 := (toks_halt hi hd HR.out).2
      omega
/-- A script that pays the hash of a script. -/
def P2SH (s : List Int) : Prop := s.length = 23 ∧ s.getD 0 0 = 169 ∧ s.getD 1 0 = 20 ∧ s.getD 22 0 = 135
instance (s : List Int) : Decidable (P2SH s) := by unfold P2SH; infer_instance
theorem pays_f (s : List Int) : spec_PaysScript.f s = some (decide (P2SH s)) := by
  unfold spec_PaysScript.f
  have e0 : rd s 0 = s.getD 0 0 := rd_nat s 0
  have e1 : rd s 1 = s.getD 1 0 := rd_nat s 1
  have e2 : rd s 22 = s.getD 22 0 := rd_nat s 22
  rw [e0, e1, e2]
  by_cases h1 : (s.length : Int) = 23
  · have h1' : s.length = 23 := by omega
    rw [if_pos h1, if_pos (by omega)]
    by_cases h2 : s.getD 0 0 = 169
    · rw [if_pos h2, if_pos (by omega)]
      by_cases h3 : s.getD 1 0 = 20
      · rw [if_pos h3, if_pos (by omega)]
        congr 1
        by_cases h4 : s.getD 22 0 = 135
        · rw [decide_eq_true (p := P2SH s) ⟨h1', h2, h3, h4⟩]; simpa using h4
        · rw [decide_eq_false (p := P2SH s) (fun h => h4 h.2.2.2)]; simpa using h4
      · rw [if_neg h3, decide_eq_false (p := P2SH s) (fun h => h3 h.2.2.1)]
    · rw [if_neg h2, decide_eq_false (p := P2SH s) (fun h => h2 h.2.1)]
  · rw [if_neg h1, decide_eq_false (p := P2SH s) (fun h => h1 (by have := h.1; omega))]
set_option maxRecDepth 100000 in
set_option maxHeartbeats 8000000 in
theorem xhashC (A : Option Addr) (s : List Int) (c : Nat) (w : World) (hC : Kd.C (Kd.int .u8) w A s.length s) (hc : s.length ≤ c) :
    Calls Try.prog 39 #[.slice A s.length c] w fun e w' => (P2SH s → ∃ ad n c', e = .returned (.slice (some ad) n c')) ∧ (¬ P2SH s → e = .returned (.slice none 0 0)) ∧ w' = w := by
  obtain ⟨i05, hi05, _, hsz5, _⟩ := info_parts info5
  by_cases h1 : s.length = 23
  · obtain ⟨A1, hcut, hA1, _⟩ := print_mid_of (P := Try.prog) (Value.int .u8) 0 22 5 .i64 .i64 Try.underlying22 hi05 hsz5 A c s 2 22 (by omega) (by omega) (by omega) hc
    obtain ⟨a1, ea1, -⟩ := (hA1 w (Kd.reads_of_C hC)).2.2 (by simp; omega)
    subst ea1
    obtain ⟨ad, rfl, k0⟩ := Kd.at_int hC (0 : Int) (by omega) (by omega)
    obtain ⟨_, e1, k1⟩ := Kd.at_int hC (1 : Int) (by omega) (by omega)
    injection e1 with e1; subst e1
    obtain ⟨_, e1, k2⟩ := Kd.at_int hC (22 : Int) (by omega) (by omega)
    injection e1 with e1; subst e1
    rw [show rd s 0 = s.getD 0 0 from rd_nat s 0] at k0
    rw [show rd s 1 = s.getD 1 0 from rd_nat s 1] at k1
    rw [show rd s 22 = s.getD 22 0 from rd_nat s 22] at k2
    obtain ⟨v0, hv0⟩ : ∃ v, s.getD 0 0 = v := ⟨_, rfl⟩
    obtain ⟨v1, hv1⟩ : ∃ v, s.getD 1 0 = v := ⟨_, rfl⟩
    obtain ⟨v2, hv2⟩ : ∃ v, s.getD 22 0 = v := ⟨_, rfl⟩
    have HPS : Aside0 (P2SH s ↔ (v0 = 169 ∧ v1 = 20 ∧ v2 = 135)) := ⟨by unfold P2SH; rw [hv0, hv1, hv2]; exact ⟨fun h => h.2, fun h => ⟨h1, h⟩⟩⟩
    rw [hv0] at k0
    rw [hv1] at k1
    rw [hv2] at k2
    rw [h1] at hcut ⊢
    have k0 : w.cell? ad = some (.int .u8 v0) := by have h := k0; rwa [show ad.add (Int.toNat 0) = ad from add_zero_ ad] at h
    have k1 : w.cell? { block := ad.block, off := ad.off + 1 } = some (.int .u8 v1) := k1
    have k2 : w.cell? { block := ad.block, off := ad.off + 22 } = some (.int .u8 v2) := k2
    obtain ⟨m, hm⟩ : ∃ m, ((s.take (22 : Int).toNat).drop (2 : Int).toNat).length = m := ⟨_, rfl⟩
    rw [hm] at hcut
    clear hv0 hv1 hv2 hm hA1 hC
    go_enter Try.func39, Try.ntmps39
    by_cases q0 : v0 = 169
    · subst q0
      by_cases q1 : v1 = 20
      · subst q1
        by_cases q2 : v2 = 135
        · subst q2
          go_wp2
          go_ret
          exact ⟨fun _ => ⟨_, _, _, rfl⟩, fun h => absurd (HPS.out.2 (by simp)) h, rfl⟩
        · have d1 : decide (v2 = 135) = false := decide_eq_false q2
          go_wp2
          go_ret
          exact ⟨fun h => absurd (HPS.out.1 h).2.2 q2, fun _ => rfl, rfl⟩
      · have d1 : decide (v1 = 20) = false := decide_eq_false q1
        go_wp2
        go_ret
        exact ⟨fun h => absurd (HPS.out.1 h).2.1 q1, fun _ => rfl, rfl⟩
    · have d1 : decide (v0 = 169) = false := decide_eq_false q0
      go_wp2
      go_ret
      exact ⟨fun h => absurd (HPS.out.1 h).1 q0, fun _ => rfl, rfl⟩
  · have HN : Aside0 (¬ P2SH s) := ⟨fun h => h1 h.1⟩
    have d1 : decide ((s.length : Int) = 23) = false := decide_eq_false (by omega)
    have d2 : decide (s.length = 23) = false := decide_eq_false h1
    have d3 : ¬ (s.length : Int) = 23 := by omega
    go_enter Try.func39, Try.ntmps39
    go_wp2
    go_ret
    exact ⟨fun h => absurd h HN.out, fun _ => rfl, rfl⟩
set_option maxRecDepth 100000 in
set_option maxHeartbeats 4000000 in
theorem ishashC (A : Option Addr) (s : List Int) (c : Nat) (w : World) (hC : Kd.C (Kd.int .u8) w A s.length s) (hc : s.length ≤ c) :
    Calls Try.prog 25 #[.slice A s.length c] w fun e w' => e = .returned (.bool (decide (P2SH s))) ∧ w' = w := by
  have H := xhashC A s c w hC hc
  by_cases hp : P2SH s
  · rw [decide_eq_true hp]
    have H := Aside0.mk H
    have HP := Aside0.mk hp
    clear hp hC hc
    go_enter Try.func25, Try.ntmps25
    go_wp2_with fail
    go_at_call 39
    refine H.out.mono ?_
    rintro e w1 ⟨h1, h2, rfl⟩
    obtain ⟨ad, n, c', rfl⟩ := h1 HP.out
    clear h1 h2
    go_wp2_with fail
    go_ret
    exact ⟨rfl, rfl⟩
  · rw [decide_eq_false hp]
    have H := Aside0.mk H
    have HP := Aside0.mk hp
    clear hp hC hc
    go_enter Try.func25, Try.ntmps25
    go_wp2_with fail
    go_at_call 39
    refine H.out.mono ?_
    rintro e w1 ⟨h1, h2, rfl⟩
    obtain rfl := h2 HP.out
    clear h1 h2
    go_wp2_with fail
    go_ret
    exact ⟨rfl, rfl⟩
end Go.Proofs.Ytfbkjkihcajmdab.Tok
