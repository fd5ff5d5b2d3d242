/- The builder of scripts: data, and numbers. -/
import Derived.Test.YtdmpjoglejnpbabBd3
namespace Go.Proofs.Ytdmpjoglejnpbab.Bd
open Go.RowKit Go.Proofs.YtdmpjoglejnpbabW.PrintWords Go.Proofs.YtdmpjoglejnpbabW.PrintLast Go.Proofs.YtdmpjoglejnpbabW.PrintMore Go.Proofs.Ytdmpjoglejnpbab.QFnBuilt
set_option linter.unusedVariables false
set_option linter.unusedSimpArgs false
/-- The bytes that push some bytes. -/
def pushD (d : List Int) : List Int :=
  if d.length = 0 then [0] else if d.length = 1 then (if d.getD 0 0 = 0 then [0] else if d.getD 0 0 ≤ 16 then [(80 + d.getD 0 0) % 256] else if d.getD 0 0 = 129 then [79] else [1, d.getD 0 0]) else if d.length < 76 then (d.length : Int) :: d else if d.length ≤ 255 then 76 :: (d.length : Int) :: d else 77 :: (d.length : Int) % 256 :: (d.length : Int) / 256 % 256 :: d
theorem sized (d : List Int) (hl : d.length ≤ 2147483647) : ∃ m : Int, btcdtxscript_canonicalDataSize.f 5 d = some m ∧ (d.length ≤ 520 → m = ((pushD d).length : Int)) ∧ 1 ≤ m ∧ m ≤ 3000000000 := by
  unfold btcdtxscript_canonicalDataSize.f pushD
  by_cases c0 : d.length = 0
  · refine ⟨1, by rw [if_pos (by omega)], fun _ => by rw [if_pos c0]; rfl, by decide, by decide⟩
  rw [if_neg (show ¬ (d.length : Int) = 0 by omega), if_neg c0]
  by_cases c1 : d.length = 1
  · rw [if_pos (show (d.length : Int) = 1 by omega), if_pos (show 0 < (d.length : Int) by omega), if_pos c1]
    have e : rd d 0 = d.getD 0 0 := rfl
    rw [e]
    simp only [btcdtxscript_canonicalDataSize.j0]
    by_cases c2 : d.getD 0 0 ≤ 16
    · refine ⟨1, by rw [if_pos (decide_eq_true c2)], fun _ => ?_, by decide, by decide⟩
      rw [if_pos c2]
      split <;> rfl
    · rw [if_neg (by simpa using c2), if_pos (show (d.length : Int) = 1 by omega), if_pos (show 0 < (d.length : Int) by omega), e]
      by_cases c3 : d.getD 0 0 = 129
      · refine ⟨1, by rw [if_pos c3], fun _ => ?_, by decide, by decide⟩
        rw [if_neg (by omega), if_neg c2, if_pos c3]; rfl
      · refine ⟨2, ?_, fun _ => ?_, by decide, by decide⟩
        · rw [if_neg c3]
          simp only [btcdtxscript_canonicalDataSize.j1]
          rw [if_pos (by omega)]; congr 1; unfold wrap64; omega
        · rw [if_neg c2, if_neg c3]
          split
          · omega
          · rfl
  · rw [if_neg (show ¬ (d.length : Int) = 1 by omega), if_neg c1]
    simp only [btcdtxscript_canonicalDataSize.j0]
    rw [if_neg (by decide), if_neg (show ¬ (d.length : Int) = 1 by omega)]
    simp only [btcdtxscript_canonicalDataSize.j1]
    by_cases c2 : d.length < 76
    · refine ⟨1 + d.length, by rw [if_pos (by omega)]; congr 1; unfold wrap64; omega, fun _ => ?_, by omega, by omega⟩
      rw [if_pos c2]; simp; omega
    rw [if_neg (by omega), if_neg c2]
    by_cases c3 : d.length ≤ 255
    · refine ⟨2 + d.length, by rw [if_pos (by omega)]; congr 1; unfold wrap64; omega, fun _ => ?_, by omega, by omega⟩
      rw [if_pos c3]; simp; omega
    rw [if_neg (by omega), if_neg c3]
    by_cases c4 : d.length ≤ 65535
    · refine ⟨3 + d.length, by rw [if_pos (by omega)]; congr 1; unfold wrap64; omega, fun _ => ?_, by omega, by omega⟩
      simp; omega
    · refine ⟨5 + d.length, by rw [if_neg (by omega)]; congr 1; unfold wrap64; omega, fun h => by omega, by omega, by omega⟩
theorem addDataAll (g : Nat) (v : Value) (s d : List Int) (A0 : Option Addr) (c0 : Nat) (w0 w : World) (h : Bd w0 w g v .nilIface s) (hd : Dt w g v A0 d) (hl : s.length ≤ 10000) (h7 : d.length ≤ 520) :
    Calls Try.prog 25 #[pt g, .slice A0 d.length c0] w fun e w' => e = .returned (pt g) ∧ ∃ v', Bd w0 w' g v' .nilIface (s ++ pushD d) := by
  match d, hd, h7 with
  | [], hd, h7 => exact addEmpty g v s A0 c0 w0 w h hl
  | [x], hd, h7 =>
    obtain ⟨ad, e⟩ : ∃ ad, A0 = some ad := by
      obtain ⟨_, _, h3⟩ := hd.C
      obtain ⟨a, ha, _⟩ := h3 (by simp)
      exact ⟨a, ha⟩
    subst e
    by_cases c0' : x = 0
    · subst c0'
      exact addZero g v s ad c0 w0 w h hl (C_one hd.C)
    by_cases c1 : x ≤ 16
    · refine (addSmall g v s ad c0 x w0 w h hl hd c0' c1).mono ?_
      rintro e w' ⟨h1, v', h2⟩
      refine ⟨h1, v', ?_⟩
      have e : pushD [x] = [(80 + x) % 256] := by unfold pushD; simp [c0', c1]
      rw [e]; exact h2
    by_cases c2 : x = 129
    · subst c2
      exact addMinus g v s ad c0 w0 w h hl (C_one hd.C)
    · refine (addMid1 g v s ad x c0 w0 w h hd hl c0' c1 c2).mono ?_
      rintro e w' ⟨h1, v', h2⟩
      refine ⟨h1, v', ?_⟩
      have e : pushD [x] = [1, x] := by unfold pushD; simp [c0', c1, c2]
      rw [e]; exact h2
  | x :: y :: r, hd, h7 =>
    have n2 : 2 ≤ (x :: y :: r).length := by simp
    obtain ⟨d, hdd⟩ : ∃ d, x :: y :: r = d := ⟨_, rfl⟩
    rw [hdd] at hd h7 n2 ⊢
    by_cases c1 : d.length < 76
    · refine (addMid g v s d A0 c0 w0 w h hd hl n2 c1).mono ?_
      rintro e w' ⟨h1, v', h2⟩
      refine ⟨h1, v', ?_⟩
      have e : pushD d = (d.length : Int) :: d := by unfold pushD; rw [if_neg (by omega), if_neg (by omega), if_pos c1]
      rw [e]; exact h2
    by_cases c2 : d.length ≤ 255
    · refine (addLong g v s d A0 c0 w0 w h hd hl (by omega) c2).mono ?_
      rintro e w' ⟨h1, v', h2⟩
      refine ⟨h1, v', ?_⟩
      have e : pushD d = 76 :: (d.length : Int) :: d := by unfold pushD; rw [if_neg (by omega), if_neg (by omega), if_neg c1, if_pos c2]
      rw [e]; exact h2
    · refine (addHuge g v s d A0 c0 w0 w h hd hl (by omega) h7).mono ?_
      rintro e w' ⟨h1, v', h2⟩
      refine ⟨h1, v', ?_⟩
      have e : pushD d = 77 :: (d.length : Int) % 256 :: (d.length : Int) / 256 % 256 :: d := by unfold pushD; rw [if_neg (by omega), if_neg (by omega), if_neg c1, if_neg c2]
      rw [e]; exact h2
theorem topBad (g : Nat) (v : Value) (x : ByteArray) (s d : List Int) (A0 : Option Addr) (c0 : Nat) (w0 w : World) (h : Bd w0 w g v (errB x) s) :
    Calls Try.prog 15 #[pt g, .slice A0 d.length c0] w fun e w' => e = .returned (pt g) ∧ Bd w0 w' g v (errB x) s := by
  have h1 := cell_of h.blk (j := 1) (v := errB x) rfl
  unfold errB at h1
  go_enter Try.func15, Try.ntmps15
  go_wp2
  go_ret
  exact ⟨rfl, h⟩
set_option maxRecDepth 100000 in
set_option maxHeartbeats 8000000 in
theorem topLong (g : Nat) (v : Value) (s d : List Int) (A0 : Option Addr) (c0 : Nat) (w0 w : World) (h : Bd w0 w g v .nilIface s) (hd : Dt w g v A0 d) (hc : d.length ≤ c0) (hl : s.length ≤ 10000) (m : Int) (hm : btcdtxscript_canonicalDataSize.f 5 d = some m) (m0 : 1 ≤ m) (m1 : m ≤ 3000000000) (hdl : d.length ≤ 2147483647) (hx : 10000 < (s.length : Int) + m) :
    Calls Try.prog 15 #[pt g, .slice A0 d.length c0] w fun e w' => e = .returned (pt g) ∧ ∃ x, Bd w0 w' g v (errB x) s := by
  have HD := Aside0.mk hd
  have HB := Aside0.mk h
  obtain ⟨A, c, hv⟩ := Kd.R_slice h.row
  subst hv
  have h0 := cell_of h.blk (j := 0) rfl
  have h1 := cell_of h.blk (j := 1) rfl
  have HL := Aside0.mk hl
  obtain ⟨m2, hm2⟩ : ∃ m2 : Int, m2 = (s.length : Int) + m := ⟨_, rfl⟩
  have h5 : wrap64 ((s.length : Int) + m) = m2 := by unfold wrap64; omega
  have h6 : IntKind.i64.wrap ((s.length : Int) + m) = m2 := (i64_w _).trans h5
  have q1 : decide (10000 < m2) = true := decide_eq_true (by omega)
  have q2 : ¬ m2 ≤ 10000 := by omega
  have q3 : 10000 < m2 := by omega
  clear hx
  have HM := Aside0.mk hm
  have HC := Aside0.mk hc
  clear h hl hd hm hm2 m0 m1 hdl hc
  go_enter Try.func15, Try.ntmps15
  go_wp2_with fail
  go_at_call 24
  refine (btcdtxscript_canonicalDataSize.calls 5 A0 c0 d m _ HD.out.C HC.out HM.out).mono ?_
  rintro e w1 ⟨rfl, hdr⟩
  have HB1 := Aside0.mk (HB.out.below hdr.below)
  have HD1 := Aside0.mk (HD.out.below hdr.below)
  have k0 := cell_of HB1.out.blk (j := 0) rfl
  have k1 := frozen_of HB1.out.blk 1
  have k2 := cell_of HB1.out.blk (j := 1) rfl
  clear hdr h0 h1
  go_wp2
  go_ret
  exact ⟨rfl, _, HB1.out.bad _⟩
set_option maxRecDepth 100000 in
set_option maxHeartbeats 8000000 in
theorem topWide (g : Nat) (v : Value) (s d : List Int) (A0 : Option Addr) (c0 : Nat) (w0 w : World) (h : Bd w0 w g v .nilIface s) (hd : Dt w g v A0 d) (hc : d.length ≤ c0) (hl : s.length ≤ 10000) (m : Int) (hm : btcdtxscript_canonicalDataSize.f 5 d = some m) (m0 : 1 ≤ m) (m1 : m ≤ 3000000000) (hdl : d.length ≤ 2147483647) (hx : (s.length : Int) + m ≤ 10000) (hy : 520 < d.length) :
    Calls Try.prog 15 #[pt g, .slice A0 d.length c0] w fun e w' => e = .returned (pt g) ∧ ∃ x, Bd w0 w' g v (errB x) s := by
  have HD := Aside0.mk hd
  have HB := Aside0.mk h
  obtain ⟨A, c, hv⟩ := Kd.R_slice h.row
  subst hv
  have h0 := cell_of h.blk (j := 0) rfl
  have h1 := cell_of h.blk (j := 1) rfl
  have HL := Aside0.mk hl
  obtain ⟨m2, hm2⟩ : ∃ m2 : Int, m2 = (s.length : Int) + m := ⟨_, rfl⟩
  have h5 : wrap64 ((s.length : Int) + m) = m2 := by unfold wrap64; omega
  have h6 : IntKind.i64.wrap ((s.length : Int) + m) = m2 := (i64_w _).trans h5
  have q1 : ¬ 10000 < m2 := by omega
  have q2 : m2 ≤ 10000 := by omega
  have q3 : 520 < d.length := hy
  have q4 : (520 : Int) < (d.length : Int) := by omega
  clear hx hy
  have HM := Aside0.mk hm
  have HC := Aside0.mk hc
  clear h hl hd hm hm2 m0 m1 hdl hc
  go_enter Try.func15, Try.ntmps15
  go_wp2_with fail
  go_at_call 24
  refine (btcdtxscript_canonicalDataSize.calls 5 A0 c0 d m _ HD.out.C HC.out HM.out).mono ?_
  rintro e w1 ⟨rfl, hdr⟩
  have HB1 := Aside0.mk (HB.out.below hdr.below)
  have HD1 := Aside0.mk (HD.out.below hdr.below)
  have k0 := cell_of HB1.out.blk (j := 0) rfl
  have k1 := frozen_of HB1.out.blk 1
  have k2 := cell_of HB1.out.blk (j := 1) rfl
  clear hdr h0 h1
  go_wp2
  go_ret
  exact ⟨rfl, _, HB1.out.bad _⟩
set_option maxRecDepth 100000 in
set_option maxHeartbeats 8000000 in
theorem topC (g : Nat) (v : Value) (s d : List Int) (A0 : Option Addr) (c0 : Nat) (w0 w : World) (h : Bd w0 w g v .nilIface s) (hd : Dt w g v A0 d) (hc : d.length ≤ c0) (hl : s.length ≤ 10000) (m : Int) (hm : btcdtxscript_canonicalDataSize.f 5 d = some m) (m0 : 1 ≤ m) (m1 : m ≤ 3000000000) (hdl : d.length ≤ 2147483647) (hx : (s.length : Int) + m ≤ 10000) (hy : d.length ≤ 520) :
    Calls Try.prog 15 #[pt g, .slice A0 d.length c0] w fun e w' => e = .returned (pt g) ∧ ∃ v', Bd w0 w' g v' .nilIface (s ++ pushD d) := by
  have HD := Aside0.mk hd
  have HB := Aside0.mk h
  obtain ⟨A, c, hv⟩ := Kd.R_slice h.row
  subst hv
  have h0 := cell_of h.blk (j := 0) rfl
  have h1 := cell_of h.blk (j := 1) rfl
  have HL := Aside0.mk hl
  obtain ⟨m2, hm2⟩ : ∃ m2 : Int, m2 = (s.length : Int) + m := ⟨_, rfl⟩
  have h5 : wrap64 ((s.length : Int) + m) = m2 := by unfold wrap64; omega
  have h6 : IntKind.i64.wrap ((s.length : Int) + m) = m2 := (i64_w _).trans h5
  have q1 : ¬ 10000 < m2 := by omega
  have q2 : m2 ≤ 10000 := by omega
  have q3 : ¬ 520 < d.length := by omega
  have q4 : ¬ (520 : Int) < (d.length : Int) := by omega
  have HY := Aside0.mk hy
  clear hx hy
  have HM := Aside0.mk hm
  have HC := Aside0.mk hc
  clear h hl hd hm hm2 m0 m1 hdl hc
  go_enter Try.func15, Try.ntmps15
  go_wp2_with fail
  go_at_call 24
  refine (btcdtxscript_canonicalDataSize.calls 5 A0 c0 d m _ HD.out.C HC.out HM.out).mono ?_
  rintro e w1 ⟨rfl, hdr⟩
  have HB1 := Aside0.mk (HB.out.below hdr.below)
  have HD1 := Aside0.mk (HD.out.below hdr.below)
  have k0 := cell_of HB1.out.blk (j := 0) rfl
  have k1 := frozen_of HB1.out.blk 1
  have k2 := cell_of HB1.out.blk (j := 1) rfl
  clear hdr h0 h1
  go_wp2_with fail
  go_at_call 25
  refine (addDataAll g _ s d A0 c0 w0 _ HB1.out HD1.out HL.out HY.out).mono ?_
  rintro e w2 ⟨rfl, v', hb⟩
  have HB2 := Aside0.mk hb
  clear hb
  go_wp2_with fail
  go_ret
  exact ⟨rfl, _, HB2.out⟩
theorem intBad (g : Nat) (n : Int) (v : Value) (x : ByteArray) (s : List Int) (w0 w : World) (h : Bd w0 w g v (errB x) s) :
    Calls Try.prog 16 #[pt g, .int .i64 n] w fun e w' => e = .returned (pt g) ∧ Bd w0 w' g v (errB x) s := by
  have h1 := cell_of h.blk (j := 1) (v := errB x) rfl
  unfold errB at h1
  go_enter Try.func16, Try.ntmps16
  go_wp2
  go_ret
  exact ⟨rfl, h⟩
set_option maxHeartbeats 4000000 in
theorem intLong (g : Nat) (n : Int) (v : Value) (s : List Int) (w0 w : World) (h : Bd w0 w g v .nilIface s) (hl : s.length = 10000) :
    Calls Try.prog 16 #[pt g, .int .i64 n] w fun e w' => e = .returned (pt g) ∧ ∃ x, Bd w0 w' g v (errB x) s := by
  have HB := Aside0.mk h
  obtain ⟨A, c, hv⟩ := Kd.R_slice h.row
  subst hv
  rw [hl] at h
  have h0 := cell_of h.blk (j := 0) rfl
  have h1 := cell_of h.blk (j := 1) rfl
  have h2 := frozen_of h.blk 1
  clear h hl
  go_enter Try.func16, Try.ntmps16
  go_wp2
  go_ret
  exact ⟨rfl, _, HB.out.bad _⟩
set_option maxRecDepth 100000 in
set_option maxHeartbeats 8000000 in
theorem intZero (g : Nat) (v : Value) (s : List Int) (w0 w : World) (h : Bd w0 w g v .nilIface s) (hl : s.length < 10000)  :
    Calls Try.prog 16 #[pt g, .int .i64 0] w fun e w' => e = .returned (pt g) ∧ ∃ v', Bd w0 w' g v' .nilIface (s ++ [0]) := by
  have HB := Aside0.mk h
  obtain ⟨A, c, hv⟩ := Kd.R_slice h.row
  subst hv
  have h0 := cell_of h.blk (j := 0) rfl
  have h1 := cell_of h.blk (j := 1) rfl
  have HL := Aside0.mk hl
  obtain ⟨m, hm⟩ : ∃ m : Int, m = (s.length : Int) + 1 := ⟨_, rfl⟩
  have h4 : ¬ 10000 < m := by omega
  have h5 : wrap64 ((s.length : Int) + 1) = m := by unfold wrap64; omega
  have h6 : IntKind.i64.wrap ((s.length : Int) + 1) = m := (i64_w _).trans h5
  clear h hl hm
  go_enter Try.func16, Try.ntmps16
  go_wp2_with ((with_reducible refine gate_builtin (b := .append) (xs := #[.tmp 31, .tmp 32]) rfl ?_); at_builtin; refine Kd.R_append (Kd.int .u8) (w0 := w0) w0.heap.size rfl (.tmp 31) (.tmp 32) 23 5 (.int .u8 0) 1 rfl Try.underlying23 infoB rfl (by decide) (by decide) (.slice A s.length c) s 0 [.int .u8 0] (fun _ => True) (fun _ => False) rfl rfl rfl (fun _ hk => hk.elim) (fun _ _ => trivial) HB.out.row HB.out.low HB.out.low.size ?aL ?_; (case aL => have := HL.out; (try simp only [List.length_append, List.length_cons, List.length_nil]); omega); intro v1 w1 ho hb hg hat; (obtain ⟨A1, n1, c1, e1⟩ := row_form ho); subst e1; have hg1 := cell_of (HB.out.grown hg) (j := 0) rfl; have hf1 := frozen_of (HB.out.grown hg) 0; have HB1 := Aside0.mk (HB.out.put ho hb hg); clear ho hb hg hat)
  go_ret
  exact ⟨rfl, _, HB1.out⟩
set_option maxRecDepth 100000 in
set_option maxHeartbeats 8000000 in
theorem intMinus (g : Nat) (v : Value) (s : List Int) (w0 w : World) (h : Bd w0 w g v .nilIface s) (hl : s.length < 10000)  :
    Calls Try.prog 16 #[pt g, .int .i64 (-1)] w fun e w' => e = .returned (pt g) ∧ ∃ v', Bd w0 w' g v' .nilIface (s ++ [79]) := by
  have HB := Aside0.mk h
  obtain ⟨A, c, hv⟩ := Kd.R_slice h.row
  subst hv
  have h0 := cell_of h.blk (j := 0) rfl
  have h1 := cell_of h.blk (j := 1) rfl
  have HL := Aside0.mk hl
  obtain ⟨m, hm⟩ : ∃ m : Int, m = (s.length : Int) + 1 := ⟨_, rfl⟩
  have h4 : ¬ 10000 < m := by omega
  have h5 : wrap64 ((s.length : Int) + 1) = m := by unfold wrap64; omega
  have h6 : IntKind.i64.wrap ((s.length : Int) + 1) = m := (i64_w _).trans h5
  clear h hl hm
  go_enter Try.func16, Try.ntmps16
  go_wp2_with ((with_reducible refine gate_builtin (b := .append) (xs := #[.tmp 51, .tmp 55]) rfl ?_); at_builtin; refine Kd.R_append (Kd.int .u8) (w0 := w0) w0.heap.size rfl (.tmp 51) (.tmp 55) 23 5 (.int .u8 0) 1 rfl Try.underlying23 infoB rfl (by decide) (by decide) (.slice A s.length c) s _ [.int .u8 _] (fun _ => True) (fun _ => False) rfl rfl rfl (fun _ hk => hk.elim) (fun _ _ => trivial) HB.out.row HB.out.low HB.out.low.size ?aL ?_; (case aL => have := HL.out; (try simp only [List.length_append, List.length_cons, List.length_nil]); omega); intro v1 w1 ho hb hg hat; (obtain ⟨A1, n1, c1, e1⟩ := row_form ho); subst e1; have hg1 := cell_of (HB.out.grown hg) (j := 0) rfl; have hf1 := frozen_of (HB.out.grown hg) 0; have HB1 := Aside0.mk (HB.out.put ho hb hg); clear ho hb hg hat)
  go_ret
  exact ⟨rfl, _, HB1.out⟩
set_option maxRecDepth 100000 in
set_option maxHeartbeats 8000000 in
theorem intSmall (g : Nat) (n : Int) (v : Value) (s : List Int) (w0 w : World) (h : Bd w0 w g v .nilIface s) (hl : s.length < 10000) (n1 : 1 ≤ n) (n2 : n ≤ 16) :
    Calls Try.prog 16 #[pt g, .int .i64 n] w fun e w' => e = .returned (pt g) ∧ ∃ v', Bd w0 w' g v' .nilIface (s ++ [80 + n]) := by
  have HB := Aside0.mk h
  obtain ⟨A, c, hv⟩ := Kd.R_slice h.row
  subst hv
  have h0 := cell_of h.blk (j := 0) rfl
  have h1 := cell_of h.blk (j := 1) rfl
  have HL := Aside0.mk hl
  obtain ⟨m, hm⟩ : ∃ m : Int, m = (s.length : Int) + 1 := ⟨_, rfl⟩
  have h4 : ¬ 10000 < m := by omega
  have h5 : wrap64 ((s.length : Int) + 1) = m := by unfold wrap64; omega
  have h6 : IntKind.i64.wrap ((s.length : Int) + 1) = m := (i64_w _).trans h5
  have n3 : ¬ n = 0 := by omega
  have n4 : ¬ n = -1 := by omega
  have n5 : wrap64 (80 + n) = 80 + n := by unfold wrap64; omega
  have n6 : IntKind.i64.wrap (80 + n) = 80 + n := (i64_w _).trans n5
  clear h hl hm
  go_enter Try.func16, Try.ntmps16
  go_wp2_with ((with_reducible refine gate_builtin (b := .append) (xs := #[.tmp 51, .tmp 55]) rfl ?_); at_builtin; refine Kd.R_append (Kd.int .u8) (w0 := w0) w0.heap.size rfl (.tmp 51) (.tmp 55) 23 5 (.int .u8 0) 1 rfl Try.underlying23 infoB rfl (by decide) (by decide) (.slice A s.length c) s _ [.int .u8 _] (fun _ => True) (fun _ => False) rfl rfl rfl (fun _ hk => hk.elim) (fun _ _ => trivial) HB.out.row HB.out.low HB.out.low.size ?aL ?_; (case aL => have := HL.out; (try simp only [List.length_append, List.length_cons, List.length_nil]); omega); intro v1 w1 ho hb hg hat; (obtain ⟨A1, n1, c1, e1⟩ := row_form ho); subst e1; have hg1 := cell_of (HB.out.grown hg) (j := 0) rfl; have hf1 := frozen_of (HB.out.grown hg) 0; have HB1 := Aside0.mk (HB.out.put ho hb hg); clear ho hb hg hat)
  go_ret
  exact ⟨rfl, _, HB1.out⟩
set_option maxRecDepth 100000 in
set_option maxHeartbeats 8000000 in
theorem intBigP (g : Nat) (n : Int) (k : Nat) (r : List Int) (m9 : Int) (v : Value) (s : List Int) (w0 w : World) (h : Bd w0 w g v .nilIface s) (hl : s.length < 10000) (hr : btcdtxscript_scriptNum_Bytes.f k n = some r) (hrl : r.length ≤ 520) (hm9 : btcdtxscript_canonicalDataSize.f 5 r = some m9) (m90 : 1 ≤ m9) (m91 : m9 ≤ 3000000000) (hn : 16 < n) :
    Calls Try.prog 16 #[pt g, .int .i64 n] w fun e w' => e = .returned (pt g) ∧ ((s.length : Int) + m9 ≤ 10000 → ∃ v', Bd w0 w' g v' .nilIface (s ++ pushD r)) ∧ (10000 < (s.length : Int) + m9 → ∃ v' x, Bd w0 w' g v' (errB x) s) := by
  have HB := Aside0.mk h
  obtain ⟨A, c, hv⟩ := Kd.R_slice h.row
  subst hv
  have h0 := cell_of h.blk (j := 0) rfl
  have h1 := cell_of h.blk (j := 1) rfl
  have HL := Aside0.mk hl
  obtain ⟨m, hm⟩ : ∃ m : Int, m = (s.length : Int) + 1 := ⟨_, rfl⟩
  have h4 : ¬ 10000 < m := by omega
  have h5 : wrap64 ((s.length : Int) + 1) = m := by unfold wrap64; omega
  have h6 : IntKind.i64.wrap ((s.length : Int) + 1) = m := (i64_w _).trans h5
  have n3 : ¬ n = 0 := by omega
  have n4 : ¬ n = -1 := by omega
  have n5 : 1 ≤ n := by omega
  have n6 : ¬ n ≤ 16 := by omega
  have HR := Aside0.mk hr
  have HRL := Aside0.mk hrl
  have HM := Aside0.mk (And.intro hm9 (And.intro m90 m91))
  clear hr hrl hm9 m90 m91 hn
  clear h hl hm
  go_enter Try.func16, Try.ntmps16
  go_wp2_with fail
  go_at_call 26
  refine (btcdtxscript_scriptNum_Bytes.calls k n r _ HR.out).mono ?_
  rintro e w1 ⟨u, rfl, hr, hb⟩
  obtain ⟨Au, cu, eu⟩ := Kd.R_slice hr
  subst eu
  have HC := Aside0.mk (Kd.R_reads' hr).2.1
  have HD1 := Aside0.mk (Dt.fresh HB.out hr)
  have HB1 := Aside0.mk (HB.out.below hb)
  clear hr hb h0 h1
  go_wp2_with fail
  go_at_call 15
  by_cases hh : (s.length : Int) + m9 ≤ 10000
  · refine (topC g _ s r Au cu w0 _ HB1.out HD1.out HC.out (Nat.le_of_lt HL.out) m9 HM.out.1 HM.out.2.1 HM.out.2.2 (Nat.le_trans HRL.out (by decide)) hh HRL.out).mono ?_
    rintro e w2 ⟨rfl, v', hb⟩
    have HB2 := Aside0.mk hb
    clear hb
    go_wp2_with fail
    go_ret
    exact ⟨rfl, fun _ => ⟨_, HB2.out⟩, fun h => absurd hh (by omega)⟩
  · refine (topLong g _ s r Au cu w0 _ HB1.out HD1.out HC.out (Nat.le_of_lt HL.out) m9 HM.out.1 HM.out.2.1 HM.out.2.2 (Nat.le_trans HRL.out (by decide)) (by omega)).mono ?_
    rintro e w2 ⟨rfl, x, hb⟩
    have HB2 := Aside0.mk hb
    clear hb
    go_wp2_with fail
    go_ret
    exact ⟨rfl, fun h => absurd h (by omega), fun _ => ⟨_, _, HB2.out⟩⟩
set_option maxRecDepth 100000 in
set_option maxHeartbeats 8000000 in
theorem intBigM (g : Nat) (n : Int) (k : Nat) (r : List Int) (m9 : Int) (v : Value) (s : List Int) (w0 w : World) (h : Bd w0 w g v .nilIface s) (hl : s.length < 10000) (hr : btcdtxscript_scriptNum_Bytes.f k n = some r) (hrl : r.length ≤ 520) (hm9 : btcdtxscript_canonicalDataSize.f 5 r = some m9) (m90 : 1 ≤ m9) (m91 : m9 ≤ 3000000000) (hn : n < -1) :
    Calls Try.prog 16 #[pt g, .int .i64 n] w fun e w' => e = .returned (pt g) ∧ ((s.length : Int) + m9 ≤ 10000 → ∃ v', Bd w0 w' g v' .nilIface (s ++ pushD r)) ∧ (10000 < (s.length : Int) + m9 → ∃ v' x, Bd w0 w' g v' (errB x) s) := by
  have HB := Aside0.mk h
  obtain ⟨A, c, hv⟩ := Kd.R_slice h.row
  subst hv
  have h0 := cell_of h.blk (j := 0) rfl
  have h1 := cell_of h.blk (j := 1) rfl
  have HL := Aside0.mk hl
  obtain ⟨m, hm⟩ : ∃ m : Int, m = (s.length : Int) + 1 := ⟨_, rfl⟩
  have h4 : ¬ 10000 < m := by omega
  have h5 : wrap64 ((s.length : Int) + 1) = m := by unfold wrap64; omega
  have h6 : IntKind.i64.wrap ((s.length : Int) + 1) = m := (i64_w _).trans h5
  have n3 : ¬ n = 0 := by omega
  have n4 : ¬ n = -1 := by omega
  have n5 : ¬ 1 ≤ n := by omega
  have HR := Aside0.mk hr
  have HRL := Aside0.mk hrl
  have HM := Aside0.mk (And.intro hm9 (And.intro m90 m91))
  clear hr hrl hm9 m90 m91 hn
  clear h hl hm
  go_enter Try.func16, Try.ntmps16
  go_wp2_with fail
  go_at_call 26
  refine (btcdtxscript_scriptNum_Bytes.calls k n r _ HR.out).mono ?_
  rintro e w1 ⟨u, rfl, hr, hb⟩
  obtain ⟨Au, cu, eu⟩ := Kd.R_slice hr
  subst eu
  have HC := Aside0.mk (Kd.R_reads' hr).2.1
  have HD1 := Aside0.mk (Dt.fresh HB.out hr)
  have HB1 := Aside0.mk (HB.out.below hb)
  clear hr hb h0 h1
  go_wp2_with fail
  go_at_call 15
  by_cases hh : (s.length : Int) + m9 ≤ 10000
  · refine (topC g _ s r Au cu w0 _ HB1.out HD1.out HC.out (Nat.le_of_lt HL.out) m9 HM.out.1 HM.out.2.1 HM.out.2.2 (Nat.le_trans HRL.out (by decide)) hh HRL.out).mono ?_
    rintro e w2 ⟨rfl, v', hb⟩
    have HB2 := Aside0.mk hb
    clear hb
    go_wp2_with fail
    go_ret
    exact ⟨rfl, fun _ => ⟨_, HB2.out⟩, fun h => absurd hh (by omega)⟩
  · refine (topLong g _ s r Au cu w0 _ HB1.out HD1.out HC.out (Nat.le_of_lt HL.out) m9 HM.out.1 HM.out.2.1 HM.out.2.2 (Nat.le_trans HRL.out (by decide)) (by omega)).mono ?_
    rintro e w2 ⟨rfl, x, hb⟩
    have HB2 := Aside0.mk hb
    clear hb
    go_wp2_with fail
    go_ret
    exact ⟨rfl, fun h => absurd h (by omega), fun _ => ⟨_, _, HB2.out⟩⟩
end Go.Proofs.Ytdmpjoglejnpbab.Bd
