/- The builder of scripts: what each step makes of it; impl.Build. -/
import Derived.Test.YtdmpjoglejnpbabBd4
namespace Go.Proofs.Ytdmpjoglejnpbab.Bd
open Go.RowKit Go.Proofs.YtdmpjoglejnpbabW.PrintWords Go.Proofs.YtdmpjoglejnpbabW.PrintLast Go.Proofs.YtdmpjoglejnpbabW.PrintMore Go.Proofs.Ytdmpjoglejnpbab.QFnBuilt
set_option linter.unusedVariables false
set_option linter.unusedSimpArgs false
/-- Some bytes more, if there is room. -/
def addB (st : List Int × Bool) (m : List Int) : List Int × Bool := if st.2 = true then st else if st.1.length + m.length ≤ 10000 then (st.1 ++ m, false) else (st.1, true)
def dataB (st : List Int × Bool) (d : List Int) : List Int × Bool := if d.length ≤ 520 then addB st (pushD d) else (st.1, true)
theorem addB_le {st : List Int × Bool} {m : List Int} (h : st.1.length ≤ 10000) : (addB st m).1.length ≤ 10000 := by
  unfold addB
  split
  · exact h
  · split
    · simp; omega
    · exact h
theorem addB_bad (s m : List Int) : addB (s, true) m = (s, true) := rfl
theorem addB_ok {s m : List Int} (h : s.length + m.length ≤ 10000) : addB (s, false) m = (s ++ m, false) := by
  unfold addB; rw [if_neg (by simp)]; exact if_pos h
theorem addB_no {s m : List Int} (h : ¬ s.length + m.length ≤ 10000) : addB (s, false) m = (s, true) := by
  unfold addB; rw [if_neg (by simp)]; exact if_neg h
theorem dataB_le {st : List Int × Bool} {m : List Int} (h : st.1.length ≤ 10000) : (dataB st m).1.length ≤ 10000 := by
  unfold dataB
  split
  · exact addB_le h
  · exact h
def StB (w0 w : World) (g : Nat) (st : List Int × Bool) : Prop := St w0 w g st.1 st.2
theorem StB.below {w0 w w1 : World} {g : Nat} {st : List Int × Bool} (h : StB w0 w g st) (hb : Below w.heap.size w w1) : StB w0 w1 g st := by
  obtain ⟨v, err, h1, h2, h3⟩ := h
  exact ⟨v, err, h1.below hb, h2, h3⟩
theorem StB.low {w0 w : World} {g : Nat} {st : List Int × Bool} (h : StB w0 w g st) : Below w0.heap.size w0 w := by
  obtain ⟨v, err, h1, h2, h3⟩ := h
  exact h1.low
/-- Bytes of an elder world. -/
def Old (w0 : World) (A : Option Addr) (d : List Int) : Prop := Kd.C (Kd.int .u8) w0 A d.length d
theorem Old.dt {w0 w : World} {g : Nat} {v err : Value} {s : List Int} {A : Option Addr} {d : List Int} (hd : Old w0 A d) (h : Bd w0 w g v err s) : Dt w g v A d :=
  Dt.old h (Kd.C_F (Kd.heap_int .u8) hd) (fun k hk => hk)
theorem stepOp (g : Nat) (op : Int) (st : List Int × Bool) (w0 w : World) (h : StB w0 w g st) (hl : st.1.length ≤ 10000)  :
    Calls Try.prog 14 #[pt g, .int .u8 op] w fun e w' => e = .returned (pt g) ∧ StB w0 w' g (addB st [op]) := by
  obtain ⟨s, b⟩ := st
  obtain ⟨v, err, h1, h2, h3⟩ := h
  cases b with
  | true =>
    obtain ⟨x, rfl⟩ := h3 rfl
    refine (addOpBad g op v x s w0 w h1).mono ?_
    rintro e w' ⟨r1, r2⟩
    exact ⟨r1, St.bad r2⟩
  | false =>
    obtain rfl := h2 rfl
    dsimp only at hl
    by_cases hx : s.length < 10000
    · refine (addOpC g op v s w0 w h1 hx).mono ?_
      rintro e w' ⟨r1, v', r2⟩
      rw [addB_ok (by simp; omega)]
      exact ⟨r1, St.ok r2⟩
    · refine (addOpLong g op v s w0 w h1 (by omega)).mono ?_
      rintro e w' ⟨r1, x, r2⟩
      rw [addB_no (by simp; omega)]
      exact ⟨r1, St.bad r2⟩
theorem stepOps (g : Nat) (d : List Int) (A0 : Option Addr) (c0 : Nat) (st : List Int × Bool) (w0 w : World) (h : StB w0 w g st) (hl : st.1.length ≤ 10000) (hd : Old w0 A0 d) (hdl : d.length ≤ 2147483647) :
    Calls Try.prog 17 #[pt g, .slice A0 d.length c0] w fun e w' => e = .returned (pt g) ∧ StB w0 w' g (addB st d) := by
  obtain ⟨s, b⟩ := st
  obtain ⟨v, err, h1, h2, h3⟩ := h
  cases b with
  | true =>
    obtain ⟨x, rfl⟩ := h3 rfl
    refine (addOpsBad g v x s d A0 c0 w0 w h1).mono ?_
    rintro e w' ⟨r1, r2⟩
    exact ⟨r1, St.bad r2⟩
  | false =>
    obtain rfl := h2 rfl
    dsimp only at hl
    by_cases hx : s.length + d.length ≤ 10000
    · refine (addOpsC g v s d A0 c0 w0 w h1 (hd.dt h1) hx).mono ?_
      rintro e w' ⟨r1, v', r2⟩
      rw [addB_ok hx]
      exact ⟨r1, St.ok r2⟩
    · refine (addOpsLong g v s d A0 c0 w0 w h1 hl hdl (by omega)).mono ?_
      rintro e w' ⟨r1, x, r2⟩
      rw [addB_no hx]
      exact ⟨r1, St.bad r2⟩
theorem stepData (g : Nat) (d : List Int) (A0 : Option Addr) (c0 : Nat) (st : List Int × Bool) (w0 w : World) (h : StB w0 w g st) (hl : st.1.length ≤ 10000) (hd : Old w0 A0 d) (hc : d.length ≤ c0) (hdl : d.length ≤ 2147483647) :
    Calls Try.prog 15 #[pt g, .slice A0 d.length c0] w fun e w' => e = .returned (pt g) ∧ StB w0 w' g (dataB st d) := by
  obtain ⟨s, b⟩ := st
  obtain ⟨v, err, h1, h2, h3⟩ := h
  cases b with
  | true =>
    obtain ⟨x, rfl⟩ := h3 rfl
    refine (topBad g v x s d A0 c0 w0 w h1).mono ?_
    rintro e w' ⟨r1, r2⟩
    have e : dataB (s, true) d = (s, true) := by unfold dataB; split <;> rfl
    rw [e]
    exact ⟨r1, St.bad r2⟩
  | false =>
    obtain rfl := h2 rfl
    dsimp only at hl
    obtain ⟨m, m1, m2, m3, m4⟩ := sized d hdl
    by_cases hy : d.length ≤ 520
    · have e9 := m2 hy
      by_cases hx : s.length + (pushD d).length ≤ 10000
      · refine (topC g v s d A0 c0 w0 w h1 (hd.dt h1) hc hl m m1 m3 m4 hdl (by omega) hy).mono ?_
        rintro e w' ⟨r1, v', r2⟩
        unfold dataB
        rw [if_pos hy, addB_ok hx]
        exact ⟨r1, St.ok r2⟩
      · refine (topLong g v s d A0 c0 w0 w h1 (hd.dt h1) hc hl m m1 m3 m4 hdl (by omega)).mono ?_
        rintro e w' ⟨r1, x, r2⟩
        unfold dataB
        rw [if_pos hy, addB_no hx]
        exact ⟨r1, St.bad r2⟩
    · have e : dataB (s, false) d = (s, true) := by unfold dataB; rw [if_neg hy]
      rw [e]
      by_cases hx : (s.length : Int) + m ≤ 10000
      · refine (topWide g v s d A0 c0 w0 w h1 (hd.dt h1) hc hl m m1 m3 m4 hdl hx (by omega)).mono ?_
        rintro e w' ⟨r1, x, r2⟩
        exact ⟨r1, St.bad r2⟩
      · refine (topLong g v s d A0 c0 w0 w h1 (hd.dt h1) hc hl m m1 m3 m4 hdl (by omega)).mono ?_
        rintro e w' ⟨r1, x, r2⟩
        exact ⟨r1, St.bad r2⟩
theorem pushD_pos (d : List Int) : 1 ≤ (pushD d).length := by
  unfold pushD
  repeat' split
  all_goals simp
/-- What the bytes of small numbers are. -/
structure Num (n : Int) (r : List Int) : Prop where
  len : r.length ≤ 9
  zero : n = 0 → r = []
  minus : n = -1 → r = [129]
  small : 1 ≤ n → n ≤ 16 → r = [n]
theorem stepInt (g : Nat) (n : Int) (k : Nat) (r : List Int) (st : List Int × Bool) (w0 w : World) (h : StB w0 w g st) (hl : st.1.length ≤ 10000) (hr : btcdtxscript_scriptNum_Bytes.f k n = some r) (hn : Num n r) :
    Calls Try.prog 16 #[pt g, .int .i64 n] w fun e w' => e = .returned (pt g) ∧ StB w0 w' g (addB st (pushD r)) := by
  obtain ⟨s, b⟩ := st
  obtain ⟨v, err, h1, h2, h3⟩ := h
  cases b with
  | true =>
    obtain ⟨x, rfl⟩ := h3 rfl
    refine (intBad g n v x s w0 w h1).mono ?_
    rintro e w' ⟨r1, r2⟩
    exact ⟨r1, St.bad r2⟩
  | false =>
    obtain rfl := h2 rfl
    dsimp only at hl
    have hp := pushD_pos r
    by_cases hx : s.length < 10000
    · obtain ⟨m, m1, m2, m3, m4⟩ := sized r (Nat.le_trans hn.len (by decide))
      have e9 := m2 (Nat.le_trans hn.len (by decide))
      have h9 := hn.len
      by_cases c0 : n = 0
      · subst c0
        refine (intZero g v s w0 w h1 hx).mono ?_
        rintro e w' ⟨r1, v', r2⟩
        rw [hn.zero rfl, addB_ok (by show s.length + 1 ≤ 10000; omega)]
        exact ⟨r1, St.ok r2⟩
      by_cases c1 : n = -1
      · subst c1
        refine (intMinus g v s w0 w h1 hx).mono ?_
        rintro e w' ⟨r1, v', r2⟩
        rw [hn.minus rfl, addB_ok (by show s.length + 1 ≤ 10000; omega)]
        exact ⟨r1, St.ok r2⟩
      by_cases c2 : 1 ≤ n ∧ n ≤ 16
      · refine (intSmall g n v s w0 w h1 hx c2.1 c2.2).mono ?_
        rintro e w' ⟨r1, v', r2⟩
        have e : pushD [n] = [80 + n] := by
          have h7 : (80 + n) % 256 = 80 + n := by omega
          unfold pushD; simp [c0, c2.2, h7]
        rw [hn.small c2.1 c2.2, e, addB_ok (by show s.length + 1 ≤ 10000; omega)]
        exact ⟨r1, St.ok r2⟩
      by_cases c3 : 16 < n
      · refine (intBigP g n k r m v s w0 w h1 hx hr (by omega) m1 m3 m4 (by omega)).mono ?_
        rintro e w' ⟨r1, r2, r3⟩
        by_cases hz : s.length + (pushD r).length ≤ 10000
        · obtain ⟨v', r4⟩ := r2 (by omega)
          rw [addB_ok hz]
          exact ⟨r1, St.ok r4⟩
        · obtain ⟨v', x, r4⟩ := r3 (by omega)
          rw [addB_no hz]
          exact ⟨r1, St.bad r4⟩
      · refine (intBigM g n k r m v s w0 w h1 hx hr (by omega) m1 m3 m4 (by omega)).mono ?_
        rintro e w' ⟨r1, r2, r3⟩
        by_cases hz : s.length + (pushD r).length ≤ 10000
        · obtain ⟨v', r4⟩ := r2 (by omega)
          rw [addB_ok hz]
          exact ⟨r1, St.ok r4⟩
        · obtain ⟨v', x, r4⟩ := r3 (by omega)
          rw [addB_no hz]
          exact ⟨r1, St.bad r4⟩
    · refine (intLong g n v s w0 w h1 (by omega)).mono ?_
      rintro e w' ⟨r1, x, r2⟩
      rw [addB_no (by omega)]
      exact ⟨r1, St.bad r2⟩
theorem stepReset (g : Nat) (st : List Int × Bool) (w0 w : World) (h : StB w0 w g st) :
    Calls Try.prog 18 #[pt g] w fun e w' => e = .returned (pt g) ∧ StB w0 w' g ([], false) := by
  obtain ⟨v, err, h1, h2, h3⟩ := h
  refine (resetC g v err _ w0 w h1).mono ?_
  rintro e w' ⟨r1, v', r2⟩
  exact ⟨r1, St.ok r2⟩
/-- What one step makes of a builder. -/
def stepB (nb : Int → List Int) (st : List Int × Bool) (x : S27) : List Int × Bool :=
  if x.f0 = 0 then addB st [x.f1 % 256] else if x.f0 = 1 then dataB st x.f2 else if x.f0 = 2 then addB st (pushD (nb x.f1)) else if x.f0 = 3 then addB st x.f2 else ([], false)
theorem stepB_le (nb : Int → List Int) {st : List Int × Bool} {x : S27} (h : st.1.length ≤ 10000) : (stepB nb st x).1.length ≤ 10000 := by
  unfold stepB
  split
  · exact addB_le h
  split
  · exact dataB_le h
  split
  · exact addB_le h
  split
  · exact addB_le h
  · simp
def runB (nb : Int → List Int) (l : List S27) : List Int × Bool := l.foldl (stepB nb) ([], false)
theorem runB_take (nb : Int → List Int) (l : List S27) (i : Nat) (h : i < l.length) : runB nb (l.take (i + 1)) = stepB nb (runB nb (l.take i)) (rd_T27 l (i : Int)) := by
  unfold runB
  have e : rd_T27 l (i : Int) = l[i] := by
    show l.getD (i : Int).toNat _ = _
    rw [Int.toNat_natCast, List.getD_eq_getElem?_getD, List.getElem?_eq_getElem h]; rfl
  rw [List.take_succ_eq_append_getElem h, List.foldl_append, e]; rfl
theorem foldB_le (nb : Int → List Int) : ∀ (l : List S27) (st : List Int × Bool), st.1.length ≤ 10000 → (l.foldl (stepB nb) st).1.length ≤ 10000
  | [], st, h => h
  | x :: l, st, h => foldB_le nb l _ (stepB_le nb h)
theorem runB_le (nb : Int → List Int) (l : List S27) : (runB nb l).1.length ≤ 10000 := foldB_le nb l _ (by simp)
theorem copied_any (l : List Int) (hl : l.length ≤ 1000000) : impl_copied.f l = some l := by
  unfold impl_copied.f
  simp; omega
theorem eq_errB (x : ByteArray) : True := trivial
set_option maxRecDepth 100000 in
set_option maxHeartbeats 16000000 in
theorem buildC (nb : Int → List Int) (k : Nat) (A : Option Addr) (steps : List S27) (c : Nat) (w : World) (hr : Kd.C k27 w A steps.length steps) (hc : steps.length ≤ c) (hn : steps.length ≤ 1000000)
    (hN : ∀ i, i < steps.length → (rd_T27 steps (i : Int)).f2.length ≤ 2147483647 ∧ ((rd_T27 steps (i : Int)).f0 = 2 → btcdtxscript_scriptNum_Bytes.f k (rd_T27 steps (i : Int)).f1 = some (nb (rd_T27 steps (i : Int)).f1) ∧ Num (rd_T27 steps (i : Int)).f1 (nb (rd_T27 steps (i : Int)).f1))) :
    Calls Try.prog 7 #[.slice A steps.length c] w fun e w' => ∃ v0, e = .returned (.tuple #[v0, .bool (!(runB nb steps).2)]) ∧ Kd.R (Kd.int .u8) 5 w' w.heap.size (fun _ => True) v0 (runB nb steps).1 ∧ Below w.heap.size w w' := by
  have HR := Aside0.mk hr
  have HN := Aside0.mk hN
  have HNL := Aside0.mk hn
  clear hr hN hn hc
  go_enter Try.func7, Try.ntmps7
  go_wp2_with fail
  go_at_call 13
  refine (newC w w (Below.refl _ _)).mono ?_
  rintro e w1 ⟨g, v, rfl, hb⟩
  have HS1 : Aside0 (StB w w1 g (runB nb (steps.take 0))) := ⟨St.ok hb⟩
  clear hb
  go_wp2_with fail
  go_loopg [5] (steps.length + 1) (fun kq p5 w' => ∃ i : Nat, p5 = .int .i64 (i : Int) ∧ Aside0 (i ≤ steps.length ∧ steps.length + 1 ≤ i + kq) ∧ Aside0 (StB w w' g (runB nb (steps.take i))))
  case atStart => exact ⟨0, by rfl, ⟨by omega⟩, HS1⟩
  case round =>
    clear HS1
    obtain ⟨i, rfl, HK, HS⟩ := hrel
    have HL : Aside0 ((runB nb (steps.take i)).1.length ≤ 10000) := ⟨runB_le nb _⟩
    by_cases hi : i < steps.length
    · have hi1 : (i : Int) < (steps.length : Int) := by omega
      have hw1 : wrap64 ((i : Int) + 1) = ((i + 1 : Nat) : Int) := by have := HNL.out; unfold wrap64; omega
      have hw2 : IntKind.i64.wrap ((i : Int) + 1) = ((i + 1 : Nat) : Int) := (i64_w _).trans hw1
      obtain ⟨ad, A2, c2, e2, hx0, hx1, hx2, hl2, hi2⟩ := at_T27 HR.out (i : Int) (by omega) hi1
      obtain ⟨hnl, hnb⟩ := HN.out i hi
      obtain ⟨x, hx⟩ : ∃ x, rd_T27 steps (i : Int) = x := ⟨_, rfl⟩
      rw [hx] at hx0 hx1 hx2 hl2 hi2 hnl hnb
      subst e2
      have HO := Aside0.mk (show Old w A2 x.f2 from hi2)
      have HNB := Aside0.mk hnb
      have HNL2 := Aside0.mk (And.intro hl2 hnl)
      obtain ⟨st, hst⟩ : ∃ st, runB nb (steps.take i) = st := ⟨_, rfl⟩
      rw [hst] at HS HL
      have q0 := (HS.out.low.cell (World.block_lt_of_cell? w _ hx0)).trans hx0
      have q1 := (HS.out.low.cell (World.block_lt_of_cell? w _ hx1)).trans hx1
      have q2 := (HS.out.low.cell (World.block_lt_of_cell? w _ hx2)).trans hx2
      simp only [Int.toNat_natCast] at q0 q1 q2
      have HX := Aside0.mk hx
      have HST := Aside0.mk hst
      clear hx0 hx1 hx2 hl2 hi2 hnl hnb hx hst hi
      obtain ⟨f0, f1, f2⟩ := x
      dsimp only at q0 q1 q2 HO HNB HNL2
      by_cases b0 : f0 = 0
      · subst b0
        go_wp2_with (first | ((with_reducible refine gate_dst (N := 6) rfl ?_); refine box_event ?hg (N := 6) ?hd (cs := #[.int .i64 0, .int .i64 0, .slice none 0 0]) (t := 27) ?hr ?_; (case hd => rfl); (case hg => rfl); (case hr => first | (go_simp; done) | (go_simp; rfl)); intro gb hg w8 hbox hb; have HW8 := Aside0.mk hb; have GE := Aside0.mk (Nat.le_of_eq hg.symm); have hcz0 : w8.cell? ⟨gb, 0, none⟩ = some (.int .i64 0) := (blk_cell hbox 0).trans rfl; have hcz1 : w8.cell? ⟨gb, 1, none⟩ = some (.int .i64 0) := (blk_cell hbox 1).trans rfl; have hcz2 : w8.cell? ⟨gb, 2, none⟩ = some (.slice none 0 0) := (blk_cell hbox 2).trans rfl; have hfz0 := blk_frozen hbox 0; have hfz1 := blk_frozen hbox 1; have hfz2 := blk_frozen hbox 2; clear hg hbox hb))
        go_at_call 14
        refine (stepOp g _ st w _ (HS.out.below (by repeat (first | exact HW8.out | refine below_set ?_ GE.out))) HL.out).mono ?_
        rintro e w9 ⟨rfl, hst⟩
        have HS9 := Aside0.mk hst
        clear hst
        go_wp2_with fail
        go_roundg (gk - 1)
        case measure => have := HK.out; omega
        case rel => exact ⟨i + 1, by rfl, ⟨by have := HK.out; omega⟩, ⟨by rw [runB_take nb steps i (by have := HK.out; omega), HST.out, HX.out]; unfold stepB; rw [if_pos rfl]; exact HS9.out⟩⟩
      by_cases b1 : f0 = 1
      · subst b1
        go_wp2_with (first | ((with_reducible refine gate_dst (N := 6) rfl ?_); refine box_event ?hg (N := 6) ?hd (cs := #[.int .i64 0, .int .i64 0, .slice none 0 0]) (t := 27) ?hr ?_; (case hd => rfl); (case hg => rfl); (case hr => first | (go_simp; done) | (go_simp; rfl)); intro gb hg w8 hbox hb; have HW8 := Aside0.mk hb; have GE := Aside0.mk (Nat.le_of_eq hg.symm); have hcz0 : w8.cell? ⟨gb, 0, none⟩ = some (.int .i64 0) := (blk_cell hbox 0).trans rfl; have hcz1 : w8.cell? ⟨gb, 1, none⟩ = some (.int .i64 0) := (blk_cell hbox 1).trans rfl; have hcz2 : w8.cell? ⟨gb, 2, none⟩ = some (.slice none 0 0) := (blk_cell hbox 2).trans rfl; have hfz0 := blk_frozen hbox 0; have hfz1 := blk_frozen hbox 1; have hfz2 := blk_frozen hbox 2; clear hg hbox hb))
        go_at_call 15
        refine (stepData g f2 A2 c2 st w _ (HS.out.below (by repeat (first | exact HW8.out | refine below_set ?_ GE.out))) HL.out HO.out HNL2.out.1 HNL2.out.2).mono ?_
        rintro e w9 ⟨rfl, hst⟩
        have HS9 := Aside0.mk hst
        clear hst
        go_wp2_with fail
        go_roundg (gk - 1)
        case measure => have := HK.out; omega
        case rel => exact ⟨i + 1, by rfl, ⟨by have := HK.out; omega⟩, ⟨by rw [runB_take nb steps i (by have := HK.out; omega), HST.out, HX.out]; unfold stepB; rw [if_neg (by simp), if_pos rfl]; exact HS9.out⟩⟩
      by_cases b2 : f0 = 2
      · subst b2
        go_wp2_with (first | ((with_reducible refine gate_dst (N := 6) rfl ?_); refine box_event ?hg (N := 6) ?hd (cs := #[.int .i64 0, .int .i64 0, .slice none 0 0]) (t := 27) ?hr ?_; (case hd => rfl); (case hg => rfl); (case hr => first | (go_simp; done) | (go_simp; rfl)); intro gb hg w8 hbox hb; have HW8 := Aside0.mk hb; have GE := Aside0.mk (Nat.le_of_eq hg.symm); have hcz0 : w8.cell? ⟨gb, 0, none⟩ = some (.int .i64 0) := (blk_cell hbox 0).trans rfl; have hcz1 : w8.cell? ⟨gb, 1, none⟩ = some (.int .i64 0) := (blk_cell hbox 1).trans rfl; have hcz2 : w8.cell? ⟨gb, 2, none⟩ = some (.slice none 0 0) := (blk_cell hbox 2).trans rfl; have hfz0 := blk_frozen hbox 0; have hfz1 := blk_frozen hbox 1; have hfz2 := blk_frozen hbox 2; clear hg hbox hb))
        go_at_call 16
        refine (stepInt g f1 k (nb f1) st w _ (HS.out.below (by repeat (first | exact HW8.out | refine below_set ?_ GE.out))) HL.out (by first | exact (HNB.out rfl).1 | exact (HNB.out trivial).1) (by first | exact (HNB.out rfl).2 | exact (HNB.out trivial).2)).mono ?_
        rintro e w9 ⟨rfl, hst⟩
        have HS9 := Aside0.mk hst
        clear hst
        go_wp2_with fail
        go_roundg (gk - 1)
        case measure => have := HK.out; omega
        case rel => exact ⟨i + 1, by rfl, ⟨by have := HK.out; omega⟩, ⟨by rw [runB_take nb steps i (by have := HK.out; omega), HST.out, HX.out]; unfold stepB; rw [if_neg (by simp), if_neg (by simp), if_pos rfl]; exact HS9.out⟩⟩
      by_cases b3 : f0 = 3
      · subst b3
        go_wp2_with (first | ((with_reducible refine gate_dst (N := 6) rfl ?_); refine box_event ?hg (N := 6) ?hd (cs := #[.int .i64 0, .int .i64 0, .slice none 0 0]) (t := 27) ?hr ?_; (case hd => rfl); (case hg => rfl); (case hr => first | (go_simp; done) | (go_simp; rfl)); intro gb hg w8 hbox hb; have HW8 := Aside0.mk hb; have GE := Aside0.mk (Nat.le_of_eq hg.symm); have hcz0 : w8.cell? ⟨gb, 0, none⟩ = some (.int .i64 0) := (blk_cell hbox 0).trans rfl; have hcz1 : w8.cell? ⟨gb, 1, none⟩ = some (.int .i64 0) := (blk_cell hbox 1).trans rfl; have hcz2 : w8.cell? ⟨gb, 2, none⟩ = some (.slice none 0 0) := (blk_cell hbox 2).trans rfl; have hfz0 := blk_frozen hbox 0; have hfz1 := blk_frozen hbox 1; have hfz2 := blk_frozen hbox 2; clear hg hbox hb))
        go_at_call 17
        refine (stepOps g f2 A2 c2 st w _ (HS.out.below (by repeat (first | exact HW8.out | refine below_set ?_ GE.out))) HL.out HO.out HNL2.out.2).mono ?_
        rintro e w9 ⟨rfl, hst⟩
        have HS9 := Aside0.mk hst
        clear hst
        go_wp2_with fail
        go_roundg (gk - 1)
        case measure => have := HK.out; omega
        case rel => exact ⟨i + 1, by rfl, ⟨by have := HK.out; omega⟩, ⟨by rw [runB_take nb steps i (by have := HK.out; omega), HST.out, HX.out]; unfold stepB; rw [if_neg (by simp), if_neg (by simp), if_neg (by simp), if_pos rfl]; exact HS9.out⟩⟩
      · go_wp2_with (first | ((with_reducible refine gate_dst (N := 6) rfl ?_); refine box_event ?hg (N := 6) ?hd (cs := #[.int .i64 0, .int .i64 0, .slice none 0 0]) (t := 27) ?hr ?_; (case hd => rfl); (case hg => rfl); (case hr => first | (go_simp; done) | (go_simp; rfl)); intro gb hg w8 hbox hb; have HW8 := Aside0.mk hb; have GE := Aside0.mk (Nat.le_of_eq hg.symm); have hcz0 : w8.cell? ⟨gb, 0, none⟩ = some (.int .i64 0) := (blk_cell hbox 0).trans rfl; have hcz1 : w8.cell? ⟨gb, 1, none⟩ = some (.int .i64 0) := (blk_cell hbox 1).trans rfl; have hcz2 : w8.cell? ⟨gb, 2, none⟩ = some (.slice none 0 0) := (blk_cell hbox 2).trans rfl; have hfz0 := blk_frozen hbox 0; have hfz1 := blk_frozen hbox 1; have hfz2 := blk_frozen hbox 2; clear hg hbox hb))
        go_at_call 18
        refine (stepReset g st w _ (HS.out.below (by repeat (first | exact HW8.out | refine below_set ?_ GE.out)))).mono ?_
        rintro e w9 ⟨rfl, hst⟩
        have HS9 := Aside0.mk hst
        clear hst
        go_wp2_with fail
        go_roundg (gk - 1)
        case measure => have := HK.out; omega
        case rel => exact ⟨i + 1, by rfl, ⟨by have := HK.out; omega⟩, ⟨by rw [runB_take nb steps i (by have := HK.out; omega), HST.out, HX.out]; unfold stepB; rw [if_neg b0, if_neg b1, if_neg b2, if_neg b3]; exact HS9.out⟩⟩
    · have hi1 : ¬ (i : Int) < (steps.length : Int) := by omega
      have HS2 : Aside0 (StB w wr g (runB nb steps)) := ⟨by have h := HS.out; rw [List.take_of_length_le (by omega)] at h; exact h⟩
      clear HS HK
      obtain ⟨st, hst⟩ : ∃ st, runB nb steps = st := ⟨_, rfl⟩
      have HLE : Aside0 (st.1.length ≤ 10000) := ⟨by rw [← hst]; exact runB_le nb steps⟩
      rw [hst] at HS2
      have HST := Aside0.mk hst
      clear hst
      obtain ⟨s, b⟩ := st
      obtain ⟨v, err, hbd, hb0, hb1⟩ := HS2.out
      dsimp only at hbd hb0 hb1 HLE
      clear HS2
      go_wp2_with fail
      go_at_call 19
      refine (scriptC g v err s w _ hbd).mono ?_
      rintro e w5 ⟨rfl, hbd5⟩
      obtain ⟨Au, cu, eu⟩ := Kd.R_slice hbd5.row
      subst eu
      have HCc := Aside0.mk (Kd.R_reads' hbd5.row).2.1
      have HCu := Aside0.mk (Kd.C_below (Kd.R_reads' hbd5.row).2.2 (below_drew (Below.refl _ _)))
      have HCl : Aside0 (impl_copied.f s = some s) := ⟨copied_any s (by have := HLE.out; omega)⟩
      have HLW := Aside0.mk hbd5.low
      clear hbd hbd5
      cases b with
      | false =>
        obtain rfl := hb0 rfl
        clear hb0 hb1
        go_wp2_with fail
        refine start_ (n := 6) (S := fun w' => True) (ds := []) #[false, false, false, false, false, false] (by kernel_rfl) rfl rfl trivial (fun hHeld => ?_)
        refine pure_ (i := 0) (N := some 54) (v := ?_) (a' := ?_) #[true, false, false, false, false, false] rfl rfl (by kernel_rfl) (fun _ _ _ h => h) (Or.inl ⟨by rfl, ?_⟩) ?_ ?_
        rotate_left
        · intro w'
          go_simp
          with_reducible rfl
        rotate_left
        · simp only [Act.put, List.setIfInBounds_toArray, List.set_cons_zero, List.set_cons_succ, i64_w, i32_w]
          rfl
        refine pure_ (i := 2) (N := some 56) (v := ?_) (a' := ?_) #[true, false, true, false, false, false] rfl rfl (by kernel_rfl) (fun _ _ _ h => h) (Or.inl ⟨by rfl, ?_⟩) ?_ ?_
        rotate_left
        · intro w'
          go_simp
          with_reducible rfl
        rotate_left
        · simp only [Act.put, List.setIfInBounds_toArray, List.set_cons_zero, List.set_cons_succ, i64_w, i32_w]
          rfl
        refine pure_ (i := 3) (N := some 57) (v := ?_) (a' := ?_) #[true, false, true, true, false, false] rfl rfl (by kernel_rfl) (fun _ _ _ h => h) (Or.inl ⟨by rfl, ?_⟩) ?_ ?_
        rotate_left
        · intro w'
          go_simp
          with_reducible rfl
        rotate_left
        · simp only [Act.put, List.setIfInBounds_toArray, List.set_cons_zero, List.set_cons_succ, i64_w, i32_w]
          rfl
        refine one_ (i := 1) (N := some 55) #[true, true, true, true, false, false] rfl rfl (by kernel_rfl) (by decide) (fun K hK => ?_)
        refine goes_ Try.func20 (by kernel_rfl) rfl #[.slice Au s.length cu] (by rfl) rfl rfl (by (try simp only [List.map_toArray, List.map_cons, List.map_nil]); first | done | rfl | (simp only [List.length_drop, List.length_take]; rfl)) ?_
        with_reducible refine (impl_copied.calls Au cu s s _ HCu.out HCc.out HCl.out).mono ?_
        rintro e w5 ⟨vc, rfl, hr5, hb5⟩
        have HR5 := Aside0.mk hr5
        have HB5 := Aside0.mk hb5
        clear hr5 hb5
        refine ⟨_, rfl, ?_⟩
        refine hK.out _ _ trivial (fun hHeld => ?_)
        clear hK K
        refine norm_ (a' := ?_) ?_ ?_
        rotate_left
        · show Act.put _ (some 55) _ = _
          simp only [Act.put, List.setIfInBounds_toArray, List.set_cons_zero, List.set_cons_succ, i64_w, i32_w]
          rfl
        refine pure_ (i := 4) (N := some 2) (v := ?_) (a' := ?_) #[true, true, true, true, true, false] rfl rfl (by kernel_rfl) (fun _ _ _ h => h) (Or.inl ⟨by rfl, ?_⟩) ?_ ?_
        rotate_left
        · intro w'
          go_simp
          with_reducible rfl
        rotate_left
        · simp only [Act.put, List.setIfInBounds_toArray, List.set_cons_zero, List.set_cons_succ, i64_w, i32_w]
          rfl
        refine pure_ (i := 5) (N := some 3) (v := ?_) (a' := ?_) #[true, true, true, true, true, true] rfl rfl (by kernel_rfl) (fun _ _ _ h => h) (Or.inl ⟨by rfl, ?_⟩) ?_ ?_
        rotate_left
        · intro w'
          go_simp
          with_reducible rfl
        rotate_left
        · simp only [Act.put, List.setIfInBounds_toArray, List.set_cons_zero, List.set_cons_succ, i64_w, i32_w]
          rfl
        refine done_ (by kernel_rfl) ?_
        go_wp2
        go_ret2
        exact ⟨_, by rw [HST.out]; rfl, by rw [HST.out]; exact Kd.R_lower HR5.out HLW.out.size, HLW.out.drew.trans (HB5.out.mono HLW.out.size)⟩
      | true =>
        obtain ⟨xe, rfl⟩ := hb1 rfl
        clear hb0 hb1
        unfold errB
        go_wp2_with fail
        refine start_ (n := 6) (S := fun w' => True) (ds := []) #[false, false, false, false, false, false] (by kernel_rfl) rfl rfl trivial (fun hHeld => ?_)
        refine pure_ (i := 0) (N := some 54) (v := ?_) (a' := ?_) #[true, false, false, false, false, false] rfl rfl (by kernel_rfl) (fun _ _ _ h => h) (Or.inl ⟨by rfl, ?_⟩) ?_ ?_
        rotate_left
        · intro w'
          go_simp
          with_reducible rfl
        rotate_left
        · simp only [Act.put, List.setIfInBounds_toArray, List.set_cons_zero, List.set_cons_succ, i64_w, i32_w]
          rfl
        refine pure_ (i := 2) (N := some 56) (v := ?_) (a' := ?_) #[true, false, true, false, false, false] rfl rfl (by kernel_rfl) (fun _ _ _ h => h) (Or.inl ⟨by rfl, ?_⟩) ?_ ?_
        rotate_left
        · intro w'
          go_simp
          with_reducible rfl
        rotate_left
        · simp only [Act.put, List.setIfInBounds_toArray, List.set_cons_zero, List.set_cons_succ, i64_w, i32_w]
          rfl
        refine pure_ (i := 3) (N := some 57) (v := ?_) (a' := ?_) #[true, false, true, true, false, false] rfl rfl (by kernel_rfl) (fun _ _ _ h => h) (Or.inl ⟨by rfl, ?_⟩) ?_ ?_
        rotate_left
        · intro w'
          go_simp
          with_reducible rfl
        rotate_left
        · simp only [Act.put, List.setIfInBounds_toArray, List.set_cons_zero, List.set_cons_succ, i64_w, i32_w]
          rfl
        refine one_ (i := 1) (N := some 55) #[true, true, true, true, false, false] rfl rfl (by kernel_rfl) (by decide) (fun K hK => ?_)
        refine goes_ Try.func20 (by kernel_rfl) rfl #[.slice Au s.length cu] (by rfl) rfl rfl (by (try simp only [List.map_toArray, List.map_cons, List.map_nil]); first | done | rfl | (simp only [List.length_drop, List.length_take]; rfl)) ?_
        with_reducible refine (impl_copied.calls Au cu s s _ HCu.out HCc.out HCl.out).mono ?_
        rintro e w5 ⟨vc, rfl, hr5, hb5⟩
        have HR5 := Aside0.mk hr5
        have HB5 := Aside0.mk hb5
        clear hr5 hb5
        refine ⟨_, rfl, ?_⟩
        refine hK.out _ _ trivial (fun hHeld => ?_)
        clear hK K
        refine norm_ (a' := ?_) ?_ ?_
        rotate_left
        · show Act.put _ (some 55) _ = _
          simp only [Act.put, List.setIfInBounds_toArray, List.set_cons_zero, List.set_cons_succ, i64_w, i32_w]
          rfl
        refine pure_ (i := 4) (N := some 2) (v := ?_) (a' := ?_) #[true, true, true, true, true, false] rfl rfl (by kernel_rfl) (fun _ _ _ h => h) (Or.inl ⟨by rfl, ?_⟩) ?_ ?_
        rotate_left
        · intro w'
          go_simp
          with_reducible rfl
        rotate_left
        · simp only [Act.put, List.setIfInBounds_toArray, List.set_cons_zero, List.set_cons_succ, i64_w, i32_w]
          rfl
        refine pure_ (i := 5) (N := some 3) (v := ?_) (a' := ?_) #[true, true, true, true, true, true] rfl rfl (by kernel_rfl) (fun _ _ _ h => h) (Or.inl ⟨by rfl, ?_⟩) ?_ ?_
        rotate_left
        · intro w'
          go_simp
          with_reducible rfl
        rotate_left
        · simp only [Act.put, List.setIfInBounds_toArray, List.set_cons_zero, List.set_cons_succ, i64_w, i32_w]
          rfl
        refine done_ (by kernel_rfl) ?_
        go_wp2
        go_ret2
        exact ⟨_, by rw [HST.out]; rfl, by rw [HST.out]; exact Kd.R_lower HR5.out HLW.out.size, HLW.out.drew.trans (HB5.out.mono HLW.out.size)⟩
end Go.Proofs.Ytdmpjoglejnpbab.Bd
