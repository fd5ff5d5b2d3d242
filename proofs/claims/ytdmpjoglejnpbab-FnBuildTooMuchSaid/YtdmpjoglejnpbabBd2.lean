/- The builder of scripts: data behind what there is, a new one, one begun anew. -/
import Derived.Test.YtdmpjoglejnpbabBd1
namespace Go.Proofs.Ytdmpjoglejnpbab.Bd
open Go.RowKit Go.Proofs.YtdmpjoglejnpbabW.PrintWords Go.Proofs.YtdmpjoglejnpbabW.PrintLast Go.Proofs.YtdmpjoglejnpbabW.PrintMore Go.Proofs.Ytdmpjoglejnpbab.QFnBuilt
set_option linter.unusedVariables false
set_option linter.unusedSimpArgs false
theorem row_form {α : Type} {d : Kd α} {e base : Nat} {ok : Nat → Prop} {w : World} {v : Value} {xs : List α} (h : d.R e w base ok v xs) : ∃ A n c, v = .slice A n c := by
  obtain ⟨A, c, e⟩ := Kd.R_slice h
  exact ⟨_, _, _, e⟩
/-- Bytes that stand apart from the builder. -/
def Dt (w : World) (g : Nat) (v : Value) (A : Option Addr) (d : List Int) : Prop := ∃ ok, Kd.F (Kd.int .u8) w ok A d.length d ∧ ∀ k, ok k → k ≠ g ∧ some k ≠ v.ownBlock ∧ k < w.heap.size
namespace Dt
variable {w w1 : World} {g : Nat} {v v1 : Value} {A : Option Addr} {d : List Int}
theorem C (h : Dt w g v A d) : Kd.C (Kd.int .u8) w A d.length d := by
  obtain ⟨ok, hF, _⟩ := h
  exact Kd.F_now hF
theorem put (h : Dt w g v A d) (hg : w.grownBy w1 v.ownBlock) (hat : v1.ownBlock = v.ownBlock ∨ ∃ b, v1.ownBlock = some b ∧ w.heap.size ≤ b) : Dt (w1.setCell ⟨g, 0, none⟩ v1) g v1 A d := by
  obtain ⟨ok, hF, hok⟩ := h
  refine ⟨ok, Kd.F_far (p := ⟨g, 0, none⟩) (Kd.F_grown hF hg (fun k hk => (hok k hk).2.1)) (fun k hk => (hok k hk).1) v1, fun k hk => ⟨(hok k hk).1, ?_, ?_⟩⟩
  · rcases hat with hat | ⟨b, hb, hle⟩
    · rw [hat]; exact (hok k hk).2.1
    · rw [hb]; intro e; injection e with e; have := (hok k hk).2.2; omega
  · have h1 := (hok k hk).2.2
    have h2 := hg.size
    simp only [World.setCell]
    simp; omega
theorem below (h : Dt w g v A d) (hb : Below w.heap.size w w1) : Dt w1 g v A d := by
  obtain ⟨ok, hF, hok⟩ := h
  exact ⟨ok, Kd.F_below hF hb, fun k hk => ⟨(hok k hk).1, (hok k hk).2.1, Nat.lt_of_lt_of_le (hok k hk).2.2 hb.size⟩⟩
theorem alloc (h : Dt w g v A d) (o : Obj) : Dt (w.alloc o) g v A d := h.below (below_alloc (Below.refl _ _) o)
end Dt
theorem Dt.old {w0 w : World} {g : Nat} {v err : Value} {s : List Int} {ok : Nat → Prop} {A : Option Addr} {d : List Int} (h : Bd w0 w g v err s) (hF : Kd.F (Kd.int .u8) w0 ok A d.length d) (hok : ∀ k, ok k → k < w0.heap.size) : Dt w g v A d := by
  refine ⟨ok, Kd.F_step hF (fun k hk hlt => h.low.block k hlt), fun k hk => ?_⟩
  have h1 := hok k hk
  have h2 := h.new
  refine ⟨by omega, fun e => ?_, Nat.lt_of_lt_of_le h1 h.low.size⟩
  have h3 := (Kd.R_bound h.row).1 k e.symm
  have := h3.2.1
  omega
theorem Dt.fresh {w0 w w1 : World} {g : Nat} {v err : Value} {s d : List Int} {A : Option Addr} {c : Nat} (h : Bd w0 w g v err s) (hr : Kd.R (Kd.int .u8) 5 w1 w.heap.size (fun _ => True) (.slice A d.length c) d) : Dt w1 g v A d := by
  refine ⟨_, Kd.R_F (Kd.R_bound hr), fun k hk => ?_⟩
  have h1 := hk.2.1
  have h2 := blk_lt' h.blk
  refine ⟨by omega, fun e => ?_, hk.2.2.1⟩
  have h3 := ((Kd.R_bound h.row).1 k e.symm).2.2.1
  omega
theorem C_two (w : World) (a b : Int) : Kd.C (Kd.int .u8) (w.alloc (.cells #[.int .u8 a, .int .u8 b] 5)) (some ⟨w.heap.size, 0, none⟩) 2 [a, b] := by
  refine ⟨rfl, by decide, fun _ => ⟨_, rfl, fun j p hj => ?_⟩⟩
  have hh := heap_alloc_new w (.cells #[.int .u8 a, .int .u8 b] 5)
  match j, hj with
  | 0, hj => exact ⟨[.int .u8 a], rfl, by simp at hj; subst hj; rfl, fun i u hi => by match i, hi with | 0, hi => simp at hi; subst hi; exact cell_of hh (j := 0) rfl⟩
  | 1, hj => exact ⟨[.int .u8 b], rfl, by simp at hj; subst hj; rfl, fun i u hi => by match i, hi with | 0, hi => simp at hi; subst hi; exact cell_of hh (j := 1) rfl⟩
theorem addOpsBad (g : Nat) (v : Value) (x : ByteArray) (s d : List Int) (A0 : Option Addr) (c0 : Nat) (w0 w : World) (h : Bd w0 w g v (errB x) s) :
    Calls Try.prog 17 #[pt g, .slice A0 d.length c0] w fun e w' => e = .returned (pt g) ∧ Bd w0 w' g v (errB x) s := by
  have h1 := cell_of h.blk (j := 1) (v := errB x) rfl
  unfold errB at h1
  go_enter Try.func17, Try.ntmps17
  go_wp2
  go_ret
  exact ⟨rfl, h⟩
set_option maxHeartbeats 4000000 in
theorem addOpsLong (g : Nat) (v : Value) (s d : List Int) (A0 : Option Addr) (c0 : Nat) (w0 w : World) (h : Bd w0 w g v .nilIface s) (hs : s.length ≤ 10000) (hd : d.length ≤ 2147483647) (hl : 10000 < s.length + d.length) :
    Calls Try.prog 17 #[pt g, .slice A0 d.length c0] w fun e w' => e = .returned (pt g) ∧ ∃ x, Bd w0 w' g v (errB x) s := by
  have HB := Aside0.mk h
  obtain ⟨A, c, hv⟩ := Kd.R_slice h.row
  subst hv
  have h0 := cell_of h.blk (j := 0) rfl
  have h1 := cell_of h.blk (j := 1) rfl
  have h2 := frozen_of h.blk 1
  obtain ⟨m, hm⟩ : ∃ m : Int, m = (s.length : Int) + (d.length : Int) := ⟨_, rfl⟩
  have h4' : 10000 < m := by omega
  have h4 : decide (10000 < m) = true := decide_eq_true h4'
  have h7 : ¬ m ≤ 10000 := by omega
  have h5 : wrap64 ((s.length : Int) + (d.length : Int)) = m := by unfold wrap64; omega
  have h6 : IntKind.i64.wrap ((s.length : Int) + (d.length : Int)) = m := (i64_w _).trans h5
  clear h hs hl hd hm
  go_enter Try.func17, Try.ntmps17
  go_wp2
  go_ret
  exact ⟨rfl, _, HB.out.bad _⟩
set_option maxHeartbeats 4000000 in
theorem addOpsC (g : Nat) (v : Value) (s d : List Int) (A0 : Option Addr) (c0 : Nat) (w0 w : World) (h : Bd w0 w g v .nilIface s) (hd : Dt w g v A0 d) (hl : s.length + d.length ≤ 10000) :
    Calls Try.prog 17 #[pt g, .slice A0 d.length c0] w fun e w' => e = .returned (pt g) ∧ ∃ v', Bd w0 w' g v' .nilIface (s ++ d) := by
  have HD := Aside0.mk hd
  have HB := Aside0.mk h
  obtain ⟨A, c, hv⟩ := Kd.R_slice h.row
  subst hv
  have h0 := cell_of h.blk (j := 0) rfl
  have h1 := cell_of h.blk (j := 1) rfl
  obtain ⟨m, hm⟩ : ∃ m : Int, m = (s.length : Int) + (d.length : Int) := ⟨_, rfl⟩
  have h4 : ¬ 10000 < m := by omega
  have h5 : wrap64 ((s.length : Int) + (d.length : Int)) = m := by unfold wrap64; omega
  have h6 : IntKind.i64.wrap ((s.length : Int) + (d.length : Int)) = m := (i64_w _).trans h5
  have HL := Aside0.mk hl
  clear h hl hd hm
  go_enter Try.func17, Try.ntmps17
  go_wp2_with ((with_reducible refine gate_builtin (b := .append) (xs := #[.tmp 31, .tmp 32]) rfl ?_); at_builtin; refine Kd.R_append_rows (Kd.int .u8) (w0 := w0) w0.heap.size rfl (.tmp 31) (.tmp 32) 23 5 (.int .u8 0) 1 rfl Try.underlying23 infoB rfl (by decide) (by decide) (.slice A s.length c) s d _ _ _ (fun _ => True) (fun _ => False) rfl rfl HB.out.row HD.out.C (fun _ _ h => h) (fun _ h => h.elim) (fun _ _ => trivial) HB.out.low HB.out.low.size ?aL ?_; (case aL => have := HL.out; (try simp only [List.length_append, List.length_cons, List.length_nil]); omega); intro v1 w1 ho hb hg hat; (obtain ⟨A1, n1, c1, e1⟩ := row_form ho); subst e1; have hg1 := cell_of (HB.out.grown hg) (j := 0) rfl; have hf1 := frozen_of (HB.out.grown hg) 0; have HB1 := Aside0.mk (HB.out.put ho hb hg); clear ho hb hg hat)
  go_ret
  exact ⟨rfl, _, HB1.out⟩
set_option maxRecDepth 100000 in
set_option maxHeartbeats 4000000 in
theorem addEmpty (g : Nat) (v : Value) (s : List Int) (A0 : Option Addr) (c0 : Nat) (w0 w : World) (h : Bd w0 w g v .nilIface s) (hl : s.length ≤ 10000)  :
    Calls Try.prog 25 #[pt g, .slice A0 0 c0] w fun e w' => e = .returned (pt g) ∧ ∃ v', Bd w0 w' g v' .nilIface (s ++ [0]) := by
  have HB := Aside0.mk h
  obtain ⟨A, c, hv⟩ := Kd.R_slice h.row
  subst hv
  have h0 := cell_of h.blk (j := 0) rfl
  have h1 := cell_of h.blk (j := 1) rfl
  have HL := Aside0.mk hl
  clear h hl
  go_enter Try.func25, Try.ntmps25
  go_wp2_with ((with_reducible refine gate_builtin (b := .append) (xs := #[.tmp 26, .tmp 27]) rfl ?_); at_builtin; refine Kd.R_append (Kd.int .u8) (w0 := w0) w0.heap.size rfl (.tmp 26) (.tmp 27) 23 5 (.int .u8 0) 1 rfl Try.underlying23 infoB rfl (by decide) (by decide) (.slice A s.length c) s 0 [.int .u8 0] (fun _ => True) (fun _ => False) rfl rfl rfl (fun _ hk => hk.elim) (fun _ _ => trivial) HB.out.row HB.out.low HB.out.low.size ?aL ?_; (case aL => have := HL.out; (try simp only [List.length_append, List.length_cons, List.length_nil]); omega); intro v1 w1 ho hb hg hat; (obtain ⟨A1, n1, c1, e1⟩ := row_form ho); subst e1; have hg1 := cell_of (HB.out.grown hg) (j := 0) rfl; have hf1 := frozen_of (HB.out.grown hg) 0; have HB1 := Aside0.mk (HB.out.put ho hb hg); clear ho hb hg hat)
  go_ret
  exact ⟨rfl, _, HB1.out⟩
set_option maxRecDepth 100000 in
set_option maxHeartbeats 4000000 in
theorem addZero (g : Nat) (v : Value) (s : List Int) (ad : Addr) (c0 : Nat) (w0 w : World) (h : Bd w0 w g v .nilIface s) (hl : s.length ≤ 10000) (hx : w.cell? ad = some (.int .u8 0)) :
    Calls Try.prog 25 #[pt g, .slice (some ad) 1 c0] w fun e w' => e = .returned (pt g) ∧ ∃ v', Bd w0 w' g v' .nilIface (s ++ [0]) := by
  have HB := Aside0.mk h
  obtain ⟨A, c, hv⟩ := Kd.R_slice h.row
  subst hv
  have h0 := cell_of h.blk (j := 0) rfl
  have h1 := cell_of h.blk (j := 1) rfl
  have HL := Aside0.mk hl
  clear h hl
  go_enter Try.func25, Try.ntmps25
  go_wp2_with ((with_reducible refine gate_builtin (b := .append) (xs := #[.tmp 26, .tmp 27]) rfl ?_); at_builtin; refine Kd.R_append (Kd.int .u8) (w0 := w0) w0.heap.size rfl (.tmp 26) (.tmp 27) 23 5 (.int .u8 0) 1 rfl Try.underlying23 infoB rfl (by decide) (by decide) (.slice A s.length c) s 0 [.int .u8 0] (fun _ => True) (fun _ => False) rfl rfl rfl (fun _ hk => hk.elim) (fun _ _ => trivial) HB.out.row HB.out.low HB.out.low.size ?aL ?_; (case aL => have := HL.out; (try simp only [List.length_append, List.length_cons, List.length_nil]); omega); intro v1 w1 ho hb hg hat; (obtain ⟨A1, n1, c1, e1⟩ := row_form ho); subst e1; have hg1 := cell_of (HB.out.grown hg) (j := 0) rfl; have hf1 := frozen_of (HB.out.grown hg) 0; have HB1 := Aside0.mk (HB.out.put ho hb hg); clear ho hb hg hat)
  go_ret
  exact ⟨rfl, _, HB1.out⟩
set_option maxRecDepth 100000 in
set_option maxHeartbeats 4000000 in
theorem addMinus (g : Nat) (v : Value) (s : List Int) (ad : Addr) (c0 : Nat) (w0 w : World) (h : Bd w0 w g v .nilIface s) (hl : s.length ≤ 10000) (hx : w.cell? ad = some (.int .u8 129)) :
    Calls Try.prog 25 #[pt g, .slice (some ad) 1 c0] w fun e w' => e = .returned (pt g) ∧ ∃ v', Bd w0 w' g v' .nilIface (s ++ [79]) := by
  have HB := Aside0.mk h
  obtain ⟨A, c, hv⟩ := Kd.R_slice h.row
  subst hv
  have h0 := cell_of h.blk (j := 0) rfl
  have h1 := cell_of h.blk (j := 1) rfl
  have HL := Aside0.mk hl
  clear h hl
  go_enter Try.func25, Try.ntmps25
  go_wp2_with ((with_reducible refine gate_builtin (b := .append) (xs := #[.tmp 66, .tmp 67]) rfl ?_); at_builtin; refine Kd.R_append (Kd.int .u8) (w0 := w0) w0.heap.size rfl (.tmp 66) (.tmp 67) 23 5 (.int .u8 0) 1 rfl Try.underlying23 infoB rfl (by decide) (by decide) (.slice A s.length c) s 79 [.int .u8 79] (fun _ => True) (fun _ => False) rfl rfl rfl (fun _ hk => hk.elim) (fun _ _ => trivial) HB.out.row HB.out.low HB.out.low.size ?aL ?_; (case aL => have := HL.out; (try simp only [List.length_append, List.length_cons, List.length_nil]); omega); intro v1 w1 ho hb hg hat; (obtain ⟨A1, n1, c1, e1⟩ := row_form ho); subst e1; have hg1 := cell_of (HB.out.grown hg) (j := 0) rfl; have hf1 := frozen_of (HB.out.grown hg) 0; have HB1 := Aside0.mk (HB.out.put ho hb hg); clear ho hb hg hat)
  go_ret
  exact ⟨rfl, _, HB1.out⟩
set_option maxRecDepth 100000 in
set_option maxHeartbeats 8000000 in
theorem addMid (g : Nat) (v : Value) (s d : List Int) (A0 : Option Addr) (c0 : Nat) (w0 w : World) (h : Bd w0 w g v .nilIface s) (hd : Dt w g v A0 d) (hl : s.length ≤ 10000) (h2 : 2 ≤ d.length) (h7 : d.length < 76) :
    Calls Try.prog 25 #[pt g, .slice A0 d.length c0] w fun e w' => e = .returned (pt g) ∧ ∃ v', Bd w0 w' g v' .nilIface (s ++ ((d.length : Int) :: d)) := by
  have HD := Aside0.mk hd
  have HB := Aside0.mk h
  obtain ⟨A, c, hv⟩ := Kd.R_slice h.row
  subst hv
  have h0 := cell_of h.blk (j := 0) rfl
  have h1 := cell_of h.blk (j := 1) rfl
  have HL : Aside0 (s.length ≤ 10000 ∧ d.length ≤ 520) := ⟨by omega⟩
  have e0 : ¬ (d.length : Int) = 0 := by omega
  have e1 : ¬ (d.length : Int) = 1 := by omega
  have e2 : (d.length : Int) < 76 := by omega
  have e3 : ¬ d = [] := fun e => by rw [e] at h2; simp at h2
  have e4 : ¬ d.length = 1 := by omega
  have e5 : d.length < 76 := h7
  have e6 : ¬ d.length = 0 := by omega
  clear h hl hd
  go_enter Try.func25, Try.ntmps25
  go_wp2_with (first | ((with_reducible refine gate_builtin (b := .append) (xs := #[.tmp 78, .tmp 82]) rfl ?_); at_builtin; refine Kd.R_append (Kd.int .u8) (w0 := w0) w0.heap.size rfl (.tmp 78) (.tmp 82) 23 5 (.int .u8 0) 1 rfl Try.underlying23 infoB rfl (by decide) (by decide) (.slice A s.length c) s _ [.int .u8 _] (fun _ => True) (fun _ => False) rfl rfl rfl (fun _ hk => hk.elim) (fun _ _ => trivial) HB.out.row HB.out.low HB.out.low.size ?aL ?_; (case aL => have := HL.out; (try simp only [List.length_append, List.length_cons, List.length_nil]); omega); intro v1 w1 ho hb hg hat; (obtain ⟨A1, n1, c1, e1⟩ := row_form ho); subst e1; have hg1 := cell_of (HB.out.grown hg) (j := 0) rfl; have hf1 := frozen_of (HB.out.grown hg) 0; have HD1 := Aside0.mk (HD.out.put hg hat); have HB1 := Aside0.mk (HB.out.put ho hb hg); clear ho hb hg hat) | ((with_reducible refine gate_builtin (b := .append) (xs := #[.tmp 153, .tmp 154]) rfl ?_); at_builtin; refine Kd.R_append_rows (Kd.int .u8) (w0 := w0) w0.heap.size rfl (.tmp 153) (.tmp 154) 23 5 (.int .u8 0) 1 rfl Try.underlying23 infoB rfl (by decide) (by decide) _ _ d _ _ _ (fun _ => True) (fun _ => False) rfl rfl HB1.out.row HD1.out.C (fun _ _ h => h) (fun _ h => h.elim) (fun _ _ => trivial) HB1.out.low HB1.out.low.size ?aL ?_; (case aL => have := HL.out; (try simp only [List.length_append, List.length_cons, List.length_nil]); omega); intro v2 w2 ho hb hg hat; (obtain ⟨A2, n2, c2, e2⟩ := row_form ho); subst e2; have hg2 := cell_of (HB1.out.grown hg) (j := 0) rfl; have hf2 := frozen_of (HB1.out.grown hg) 0; have HB2 := Aside0.mk (HB1.out.put ho hb hg); clear ho hb hg hat))
  go_ret
  exact ⟨rfl, _, by have h := HB2.out; rw [List.append_assoc] at h; exact h⟩
set_option maxRecDepth 100000 in
set_option maxHeartbeats 8000000 in
theorem addLong (g : Nat) (v : Value) (s d : List Int) (A0 : Option Addr) (c0 : Nat) (w0 w : World) (h : Bd w0 w g v .nilIface s) (hd : Dt w g v A0 d) (hl : s.length ≤ 10000) (h2 : 76 ≤ d.length) (h7 : d.length ≤ 255) :
    Calls Try.prog 25 #[pt g, .slice A0 d.length c0] w fun e w' => e = .returned (pt g) ∧ ∃ v', Bd w0 w' g v' .nilIface (s ++ (76 :: (d.length : Int) :: d)) := by
  have HD := Aside0.mk hd
  have HB := Aside0.mk h
  obtain ⟨A, c, hv⟩ := Kd.R_slice h.row
  subst hv
  have h0 := cell_of h.blk (j := 0) rfl
  have h1 := cell_of h.blk (j := 1) rfl
  have HL : Aside0 (s.length ≤ 10000 ∧ d.length ≤ 520) := ⟨by omega⟩
  have e0 : ¬ (d.length : Int) = 0 := by omega
  have e1 : ¬ (d.length : Int) = 1 := by omega
  have e2 : ¬ (d.length : Int) < 76 := by omega
  have e3 : (d.length : Int) ≤ 255 := by omega
  have e4 : ¬ d = [] := fun e => by rw [e] at h2; simp at h2
  have e5 : ¬ d.length = 1 := by omega
  have e6 : ¬ d.length < 76 := by omega
  have e7 : d.length ≤ 255 := h7
  have e8 : ¬ d.length = 0 := by omega
  clear h hl hd
  go_enter Try.func25, Try.ntmps25
  go_wp2_with (first | ((with_reducible refine gate_builtin (b := .append) (xs := #[.tmp 92, .tmp 95]) rfl ?_); at_builtin; refine Kd.R_append_rows (Kd.int .u8) (w0 := w0) w0.heap.size rfl (.tmp 92) (.tmp 95) 23 5 (.int .u8 0) 1 rfl Try.underlying23 infoB rfl (by decide) (by decide) (.slice A s.length c) s [76, _] _ _ _ (fun _ => True) (fun _ => False) rfl rfl (HB.out.alloc _).row (C_two _ _ _) (fun _ _ h => h) (fun _ h => h.elim) (fun _ _ => trivial) (HB.out.alloc _).low (HB.out.alloc _).low.size ?aL ?_; (case aL => have := HL.out; (try simp only [List.length_append, List.length_cons, List.length_nil]); omega); intro v1 w1 ho hb hg hat; (obtain ⟨A1, n1, c1, e1⟩ := row_form ho); subst e1; have hg1 := cell_of ((HB.out.alloc _).grown hg) (j := 0) rfl; have hf1 := frozen_of ((HB.out.alloc _).grown hg) 0; have HD1 := Aside0.mk ((HD.out.alloc _).put hg hat); have HB1 := Aside0.mk ((HB.out.alloc _).put ho hb hg); clear ho hb hg hat) | ((with_reducible refine gate_builtin (b := .append) (xs := #[.tmp 153, .tmp 154]) rfl ?_); at_builtin; refine Kd.R_append_rows (Kd.int .u8) (w0 := w0) w0.heap.size rfl (.tmp 153) (.tmp 154) 23 5 (.int .u8 0) 1 rfl Try.underlying23 infoB rfl (by decide) (by decide) _ _ d _ _ _ (fun _ => True) (fun _ => False) rfl rfl HB1.out.row HD1.out.C (fun _ _ h => h) (fun _ h => h.elim) (fun _ _ => trivial) HB1.out.low HB1.out.low.size ?aL ?_; (case aL => have := HL.out; (try simp only [List.length_append, List.length_cons, List.length_nil]); omega); intro v2 w2 ho hb hg hat; (obtain ⟨A2, n2, c2, e2⟩ := row_form ho); subst e2; have hg2 := cell_of (HB1.out.grown hg) (j := 0) rfl; have hf2 := frozen_of (HB1.out.grown hg) 0; have HB2 := Aside0.mk (HB1.out.put ho hb hg); clear ho hb hg hat))
  go_ret
  exact ⟨rfl, _, by have h := HB2.out; rw [List.append_assoc] at h; exact h⟩
end Go.Proofs.Ytdmpjoglejnpbab.Bd
