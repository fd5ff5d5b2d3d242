/- Bytes of numbers, of bytes with their number ahead, of an input. -/
import Derived.Test.YtdheoajaaofmbaaTx2
import Derived.Test.YtdheoajaaofmbaaLittle
namespace Go.Proofs.Ytdheoajaaofmbaa.QFnScriptPlaces
open Go.RowKit Go.Proofs.YtdheoajaaofmbaaW.PrintWords Go.Proofs.YtdheoajaaofmbaaW.PrintLast Go.Proofs.YtdheoajaaofmbaaW.PrintMore
set_option linter.unusedVariables false
set_option linter.unusedSimpArgs false
/-- A number of variable length. -/
def varI (n : Int) : List Int := if n < 253 then [n] else if n < 65536 then 253 :: leB 2 n else if n < 4294967296 then 254 :: leB 4 n else 255 :: leB 8 n
def varL (n : Int) : Int := if n < 253 then 1 else if n < 65536 then 3 else if n < 4294967296 then 5 else 9
theorem varI_len (n : Int) : ((varI n).length : Int) = varL n := by
  unfold varI varL
  repeat' split
  all_goals (first | rfl | (simp [leB_len]))
theorem varL_range (n : Int) : 1 ≤ varL n ∧ varL n ≤ 9 := by
  unfold varL
  repeat' split
  all_goals decide
theorem ev_varI (n : Int) (h0 : 0 ≤ n) (h1 : n < 18446744073709551616) : Ev (fun k => spec_VarInt.f k n) (varI n) := by
  unfold varI
  by_cases c1 : n < 253
  · rw [if_pos c1]
    exact Ev.congr (fun k => by unfold spec_VarInt.f; rw [if_pos c1, Int.emod_eq_of_lt h0 (by omega)]) (Ev.now _)
  rw [if_neg c1]
  have fin : ∀ (b : Int) (m : Nat), m ≤ 8 → Ev (fun k => (some (([b] : List Int) : List Int)).bind fun y => ((spec_little.f k n (m : Int)).bind fun t => (if y.length + t.length < 140737488355328 then (some (y ++ t)) else (none)))) (b :: leB m n) := by
    intro b m hm
    refine Ev.congr (f := fun k => (spec_little.f k n (m : Int)).bind fun t => (if ([b] : List Int).length + t.length < 140737488355328 then (some ([b] ++ t)) else (none))) (fun k => rfl) (Ev.bind (ev_little n m h0 h1 (by omega)) ?_)
    rw [if_pos (by rw [leB_len]; simp; omega)]
    exact Ev.now _
  by_cases c2 : n < 65536
  · rw [if_pos c2]
    exact Ev.congr (fun k => by unfold spec_VarInt.f; rw [if_neg c1, if_pos c2]; rfl) (fin 253 2 (by decide))
  rw [if_neg c2]
  by_cases c3 : n < 4294967296
  · rw [if_pos c3]
    exact Ev.congr (fun k => by unfold spec_VarInt.f; rw [if_neg c1, if_neg c2, if_pos c3]; rfl) (fin 254 4 (by decide))
  · rw [if_neg c3]
    exact Ev.congr (fun k => by unfold spec_VarInt.f; rw [if_neg c1, if_neg c2, if_neg c3]; rfl) (fin 255 8 (by decide))
/-- Bytes with their number ahead. -/
def varB (l : List Int) : List Int := varI (l.length : Int) ++ l
theorem varB_len (l : List Int) : ((varB l).length : Int) = varL (l.length : Int) + l.length := by
  unfold varB
  rw [List.length_append, Int.natCast_add, varI_len]
theorem varB_le (l : List Int) : (varB l).length ≤ l.length + 9 := by have := varB_len l; have := (varL_range (l.length : Int)).2; omega
theorem ev_varB (l : List Int) (hl : l.length ≤ 2147483647) : Ev (fun k => spec_VarBytes.f k l) (varB l) := by
  have e : IntKind.u64.wrap ((l.length : Int)) = (l.length : Int) := u64wr (by omega) (by omega)
  have hv : (varI (l.length : Int)).length ≤ 9 := by have := varI_len (l.length : Int); have := (varL_range (l.length : Int)).2; omega
  refine Ev.congr (f := fun k => (spec_VarInt.f k (l.length : Int)).bind fun t => (if t.length + l.length < 140737488355328 then (some (t ++ l)) else (none))) (fun k => by unfold spec_VarBytes.f; rw [e]) (Ev.bind (ev_varI _ (by omega) (by omega)) ?_)
  rw [if_pos (by omega)]
  exact Ev.now _
/-- An input's bytes. -/
def inB (x : S35) : List Int := x.f0.f0 ++ leB 4 x.f0.f1 ++ varB x.f1 ++ leB 4 x.f3
def InOk (x : S35) : Prop := x.f1.length ≤ 2147483647 ∧ (0 ≤ x.f0.f1 ∧ x.f0.f1 < 4294967296) ∧ (0 ≤ x.f3 ∧ x.f3 < 4294967296) ∧ x.f0.f0.length = 32
instance (x : S35) : Decidable (InOk x) := inferInstanceAs (Decidable (_ ∧ (_ ∧ _) ∧ (_ ∧ _) ∧ _))
theorem inB_len {x : S35} (h : InOk x) : ((inB x).length : Int) = 40 + varL (x.f1.length : Int) + x.f1.length := by
  have := varB_len x.f1
  have := h.2.2.2
  unfold inB
  simp only [List.length_append, leB_len]
  omega
def spec_inBytes.f (l : List S35) (i : Int) : Option (List Int) := if InOk (rd_T35 l i) then some (inB (rd_T35 l i)) else none
/-- Bytes of an array that lies at the head of a block. -/
theorem C_head {w : World} {g : Nat} {cs : List Value} {t : Nat} {fr : Nat × Nat} {xs : List Int} (h : w.heap[g]? = some (.cells cs.toArray t fr)) (hx : ∀ j, j < xs.length → cs[j]? = some (.int .u8 (xs.getD j 0))) (hl : xs.length ≤ 1000000) : Kd.C (Kd.int .u8) w (some ⟨g, 0, none⟩) xs.length xs := by
  refine ⟨rfl, by omega, fun _ => ⟨_, rfl, fun j p hj => ⟨[.int .u8 p], rfl, rfl, fun i u hi => ?_⟩⟩⟩
  have hjl := (List.getElem?_eq_some_iff.1 hj).1
  match i, hi with
  | 0, hi =>
    simp at hi
    subst hi
    have h2 := hx j hjl
    rw [List.getD_eq_getElem?_getD, hj] at h2
    have e : (⟨g, 0, none⟩ : Addr).add (j * (Kd.int .u8).sz + 0) = ⟨g, j, none⟩ := by
      show (⟨g, 0, none⟩ : Addr).add (j * 1 + 0) = _
      rw [add_plain]; congr 1; omega
    rw [e]
    exact cell_of h (j := j) (by rw [List.getElem?_toArray]; exact h2)
set_option maxRecDepth 100000 in
set_option maxHeartbeats 8000000 in
theorem spec_inBytes.calls (l0 : List S35) (a1 : Int) (cs : List Value) (A1 : Option Addr) (c1 : Nat) (A2 : Option Addr) (c2 : Nat) (r : List Int) (w : World) (hI : InCells w (rd_T35 l0 a1) cs A1 c1 A2 c2) (h : spec_inBytes.f l0 a1 = some r) :
    Calls Try.prog 28 #[.agg cs.toArray] w fun e w' => ∃ v0_ : Value, e = .returned (v0_) ∧ Kd.R (Kd.int .u8) 5 w' w.heap.size (fun _ => True) v0_ r ∧ Below w.heap.size w w' := by
  obtain ⟨x, hx⟩ : ∃ x, rd_T35 l0 a1 = x := ⟨_, rfl⟩
  unfold spec_inBytes.f at h
  rw [hx] at h hI
  split at h
  case isFalse => cases h
  rename_i hok
  injection h with h
  have hw0 := heap_alloc_new w (.cells cs.toArray 35)
  have k0 := cell_of hw0 (j := 32) (by rw [List.getElem?_toArray]; exact hI.idx)
  have k1 := cell_of hw0 (j := 33) (by rw [List.getElem?_toArray]; exact hI.scr)
  have k3 := cell_of hw0 (j := 35) (by rw [List.getElem?_toArray]; exact hI.seq)
  have HC0 := Aside0.mk (C_head (xs := x.f0.f0) hw0 (fun j hj => hI.hash j (by rw [hI.hl] at hj; exact hj)) (by rw [hI.hl]; decide))
  have hl := hI.hl
  obtain ⟨e1, he1⟩ := (ev_little x.f0.f1 4 hok.2.1.1 (by have := hok.2.1.2; omega) (by decide)).rounds
  obtain ⟨e2, he2⟩ := (ev_varB x.f1 hok.1).rounds
  obtain ⟨e3, he3⟩ := (ev_little x.f3 4 hok.2.2.1.1 (by have := hok.2.2.1.2; omega) (by decide)).rounds
  have u1 : IntKind.u64.wrap x.f0.f1 = x.f0.f1 := u64wr hok.2.1.1 (by have := hok.2.1.2; omega)
  have u3 : IntKind.u64.wrap x.f3 = x.f3 := u64wr hok.2.2.1.1 (by have := hok.2.2.1.2; omega)
  obtain ⟨n1, hn1⟩ : ∃ n, x.f0.f1 = n := ⟨_, rfl⟩
  obtain ⟨n3, hn3⟩ : ∃ n, x.f3 = n := ⟨_, rfl⟩
  obtain ⟨hs, hhs⟩ : ∃ l, x.f0.f0 = l := ⟨_, rfl⟩
  obtain ⟨sc, hsc⟩ : ∃ l, x.f1 = l := ⟨_, rfl⟩
  obtain ⟨b1, hb1⟩ : ∃ l, leB 4 n1 = l := ⟨_, rfl⟩
  obtain ⟨b2, hb2⟩ : ∃ l, varB sc = l := ⟨_, rfl⟩
  obtain ⟨b3, hb3⟩ : ∃ l, leB 4 n3 = l := ⟨_, rfl⟩
  have hb1l : b1.length = 4 := by rw [← hb1, leB_len]
  have hb2l : b2.length ≤ 2147483656 := by rw [← hb2]; have := varB_le sc; have := hok.1; rw [hsc] at this; omega
  have hb3l : b3.length = 4 := by rw [← hb3, leB_len]
  obtain ⟨z0, hz0⟩ : ∃ l : List Int, l = [] := ⟨_, rfl⟩
  obtain ⟨z1, hz1⟩ : ∃ l : List Int, l = z0 ++ hs := ⟨_, rfl⟩
  obtain ⟨z2, hz2⟩ : ∃ l : List Int, l = z1 ++ b1 := ⟨_, rfl⟩
  obtain ⟨z3, hz3⟩ : ∃ l : List Int, l = z2 ++ b2 := ⟨_, rfl⟩
  obtain ⟨z4, hz4⟩ : ∃ l : List Int, l = z3 ++ b3 := ⟨_, rfl⟩
  have HR : Aside0 (z4 = r) := ⟨by rw [← h, hz4, hz3, hz2, hz1, hz0, ← hb1, ← hb2, ← hb3, ← hn1, ← hn3, ← hhs, ← hsc]; rfl⟩
  rw [hn1] at k0 he1 u1
  rw [hsc] at k1 he2
  rw [hn3] at k3 he3 u3
  rw [hhs] at HC0 hl
  rw [hb1] at he1
  rw [hb2] at he2
  rw [hb3] at he3
  have HE1 : Aside0 (spec_little.f e1 n1 4 = some b1) := ⟨he1⟩
  have HE2 := Aside0.mk he2
  have HE3 : Aside0 (spec_little.f e3 n3 4 = some b3) := ⟨he3⟩
  have HG1 := Aside0.mk (by have h := hI.g1; rw [hsc] at h; exact h)
  have HL1 := Aside0.mk (by have h := hI.l1; rw [hsc] at h; exact h)
  have HLL : Aside0 (z0.length + hs.length = 32 ∧ z1.length + b1.length = 36 ∧ z2.length + b2.length ≤ 3000000000 ∧ z3.length + b3.length ≤ 3000000000) := ⟨by rw [hz3, hz2, hz1, hz0]; simp; omega⟩
  have NZ0 := Aside0.mk hz0
  have NZ1 := Aside0.mk hz1
  have NZ2 := Aside0.mk hz2
  have NZ3 := Aside0.mk hz3
  have NZ4 := Aside0.mk hz4
  have HHL := Aside0.mk hl
  have HB0 := Aside0.mk (below_alloc (Below.refl w.heap.size w) (.cells cs.toArray 35))
  clear hx hI hok h hw0 he1 he2 he3 hn1 hn3 hhs hsc hb1 hb2 hb3 hb1l hb2l hb3l hz0 hz1 hz2 hz3 hz4 hl
  have HC32 := Aside0.mk (show Kd.C (Kd.int .u8) (w.alloc (.cells cs.toArray 35)) (some ⟨w.heap.size, 0, none⟩) 32 hs by have h := HC0.out; rw [HHL.out] at h; exact h)
  have HS0 := Aside0.mk (show (w.alloc (.cells cs.toArray 35)).heap.size = w.heap.size + 1 by simp)
  clear HC0
  go_enter Try.func28, Try.ntmps28
  go_upto_region 1 with fail
  generalize w.alloc (.cells cs.toArray 35) = w0 at *
  go_wp2_with (first
    | ((with_reducible refine at_dst (N := 4) rfl ?_); refine Kd.R_lit (Kd.int .u8) (w0 := w0) w0.heap.size 5 ?hg (N := 4) ?hd (xs := ([] : List Int)) (inner := []) (ok := fun _ => True) (okp := fun _ => True) ?hr ?hp (fun _ hk => hk) trivial (Below.refl _ _) (Nat.le_refl _) (by simp) ?_; (case hd => rfl); (case hg => rfl); (case hr => first | (go_simp; done) | (go_simp; rfl)); (case hp => exact (Reps.none _ _)); intro v1 w1 hn hb hg_ hnew_; clear hg_ hnew_; rw [← NZ0.out] at hn; have HO1 := Aside0.mk hn; have HW1 := Aside0.mk hb; clear hn hb)
    | ((with_reducible refine gate_builtin (b := .append) (xs := #[.tmp 4, .tmp 7]) rfl ?_); at_builtin; refine Kd.R_append_rows (Kd.int .u8) (w0 := w0) w0.heap.size rfl (.tmp 4) (.tmp 7) 32 5 (.int .u8 0) 1 rfl Try.underlying32 info5 rfl (by decide) (by decide) v1 z0 hs _ 32 _ (fun _ => True) (fun _ => False) rfl rfl (HO1.out) (Kd.C_below HC32.out HW1.out) (fun _ _ h => h) (fun _ h => h.elim) (fun _ _ => trivial) HW1.out HW1.out.size ?aL ?_; (case aL => have := HLL.out; omega); intro v2 w2 hn hb hg hat; rw [← NZ1.out] at hn; have HO2 := Aside0.mk hn; have HW2 := Aside0.mk hb; have q2_0 := (HW2.out.cell (World.block_lt_of_cell? w0 _ k0)).trans k0; clear hn hb hg hat)
    | ((with_reducible refine gate_callee (f := 26) rfl ?_); refine goesL_ (some 14) rfl rfl Try.func26 (by kernel_rfl) rfl #[.int .u64 n1, .int .i64 4] rfl (by (try simp only [List.map_toArray, List.map_cons, List.map_nil]); first | done | rfl) ?_; (with_reducible refine (spec_little.calls e1 n1 4 b1 _ HE1.out).mono ?_); rintro e w3 ⟨v3, rfl, hn, hb⟩; refine ⟨_, rfl, ?_⟩; have HO2b := Aside0.mk (Kd.R_below HO2.out hb); have HW3 := Aside0.mk (HW2.out.trans (hb.mono HW2.out.size)); (obtain ⟨A3, cc3, e3⟩ := Kd.R_slice hn); subst e3; have HN3 := Aside0.mk (Kd.R_reads' hn).2.2; clear hn hb)
    | ((with_reducible refine gate_builtin (b := .append) (xs := #[.tmp 9, .tmp 14]) rfl ?_); at_builtin; refine Kd.R_append_rows (Kd.int .u8) (w0 := w0) w0.heap.size rfl (.tmp 9) (.tmp 14) 32 5 (.int .u8 0) 1 rfl Try.underlying32 info5 rfl (by decide) (by decide) v2 z1 b1 _ _ _ (fun _ => True) (fun _ => False) rfl rfl (HO2b.out) (HN3.out) (fun _ _ h => h) (fun _ h => h.elim) (fun _ _ => trivial) HW3.out HW3.out.size ?aL ?_; (case aL => have := HLL.out; omega); intro v4 w4 hn hb hg hat; rw [← NZ2.out] at hn; have HO4 := Aside0.mk hn; have HW4 := Aside0.mk hb; have q4_1 := (HW4.out.cell (World.block_lt_of_cell? w0 _ k1)).trans k1; clear hn hb hg hat)
    | ((with_reducible refine gate_callee (f := 51) rfl ?_); refine goesL_ (some 19) rfl rfl Try.func51 (by kernel_rfl) rfl #[.slice A1 sc.length c1] rfl (by (try simp only [List.map_toArray, List.map_cons, List.map_nil]); first | done | rfl) ?_; (with_reducible refine (spec_VarBytes.calls e2 A1 c1 sc b2 _ (Kd.C_below (Kd.C_below HG1.out HB0.out) HW4.out) HL1.out HE2.out).mono ?_); rintro e w5 ⟨v5, rfl, hn, hb⟩; refine ⟨_, rfl, ?_⟩; have HO4b := Aside0.mk (Kd.R_below HO4.out hb); have HW5 := Aside0.mk (HW4.out.trans (hb.mono HW4.out.size)); (obtain ⟨A5, cc5, e5⟩ := Kd.R_slice hn); subst e5; have HN5 := Aside0.mk (Kd.R_reads' hn).2.2; clear hn hb)
    | ((with_reducible refine gate_builtin (b := .append) (xs := #[.tmp 16, .tmp 19]) rfl ?_); at_builtin; refine Kd.R_append_rows (Kd.int .u8) (w0 := w0) w0.heap.size rfl (.tmp 16) (.tmp 19) 32 5 (.int .u8 0) 1 rfl Try.underlying32 info5 rfl (by decide) (by decide) v4 z2 b2 _ _ _ (fun _ => True) (fun _ => False) rfl rfl (HO4b.out) (HN5.out) (fun _ _ h => h) (fun _ h => h.elim) (fun _ _ => trivial) HW5.out HW5.out.size ?aL ?_; (case aL => have := HLL.out; omega); intro v6 w6 hn hb hg hat; rw [← NZ3.out] at hn; have HO6 := Aside0.mk hn; have HW6 := Aside0.mk hb; have q6_3 := (HW6.out.cell (World.block_lt_of_cell? w0 _ k3)).trans k3; clear hn hb hg hat)
    | ((with_reducible refine gate_callee (f := 26) rfl ?_); refine goesL_ (some 25) rfl rfl Try.func26 (by kernel_rfl) rfl #[.int .u64 n3, .int .i64 4] rfl (by (try simp only [List.map_toArray, List.map_cons, List.map_nil]); first | done | rfl) ?_; (with_reducible refine (spec_little.calls e3 n3 4 b3 _ HE3.out).mono ?_); rintro e w7 ⟨v7, rfl, hn, hb⟩; refine ⟨_, rfl, ?_⟩; have HO6b := Aside0.mk (Kd.R_below HO6.out hb); have HW7 := Aside0.mk (HW6.out.trans (hb.mono HW6.out.size)); (obtain ⟨A7, cc7, e7⟩ := Kd.R_slice hn); subst e7; have HN7 := Aside0.mk (Kd.R_reads' hn).2.2; clear hn hb)
    | ((with_reducible refine gate_builtin (b := .append) (xs := #[.tmp 21, .tmp 25]) rfl ?_); at_builtin; refine Kd.R_append_rows (Kd.int .u8) (w0 := w0) w0.heap.size rfl (.tmp 21) (.tmp 25) 32 5 (.int .u8 0) 1 rfl Try.underlying32 info5 rfl (by decide) (by decide) v6 z3 b3 _ _ _ (fun _ => True) (fun _ => False) rfl rfl (HO6b.out) (HN7.out) (fun _ _ h => h) (fun _ h => h.elim) (fun _ _ => trivial) HW7.out HW7.out.size ?aL ?_; (case aL => have := HLL.out; omega); intro v8 w8 hn hb hg hat; rw [← NZ4.out] at hn; have HO8 := Aside0.mk hn; have HW8 := Aside0.mk hb; clear hn hb hg hat))
  go_ret
  exact ⟨_, rfl, by rw [← HR.out]; exact Kd.R_lower HO8.out (by have := HS0.out; omega), HB0.out.trans (HW8.out.mono HB0.out.size)⟩
theorem info3 : (Try.prog.info? 3).map (fun i => (i.zero, i.size, i.bytes)) = some (some (.int .i64 0), 1, 8) := by kernel_rfl
def laws_zzFits3.f (l : List S35) : Option Bool := some (decide (Fits3 l))
theorem laws_zzFits3.calls (A0 : Option Addr) (c0 : Nat) (l0 : List S35) (r : Bool) (w : World) (hr0 : Kd.C k35 w A0 l0.length l0) (hc0 : l0.length ≤ c0) (h : laws_zzFits3.f l0 = some r) :
    Calls Try.prog 21 #[.slice A0 l0.length c0] w fun e w' => e = .returned (.bool r) ∧ Below w.heap.size w w' := by
  obtain rfl := Option.some.inj h
  exact fits3C A0 c0 l0 w hr0 hc0
end Go.Proofs.Ytdheoajaaofmbaa.QFnScriptPlaces
