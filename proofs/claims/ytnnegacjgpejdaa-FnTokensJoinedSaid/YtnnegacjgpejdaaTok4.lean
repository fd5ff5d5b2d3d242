/- The tokenizer: its step at a push with a length ahead. -/
import Derived.Test.YtnnegacjgpejdaaTok3
namespace Go.Proofs.Ytnnegacjgpejdaa.Tok
open Go.RowKit Go.Proofs.YtnnegacjgpejdaaW.PrintWords Go.Proofs.YtnnegacjgpejdaaW.PrintLast Go.Proofs.YtnnegacjgpejdaaW.PrintMore Go.Proofs.Ytnnegacjgpejdaa.QFnTokensJoined
set_option linter.unusedVariables false
set_option linter.unusedSimpArgs false
theorem i32_wrap32 (x : Int) : IntKind.i32.wrap x = wrap32 x := by
  unfold IntKind.wrap wrap32; simp [IntKind.signed, IntKind.bits]; split <;> omega
theorem add_one_ (ad : Addr) (j : Nat) (h : j ≠ 0) : ad.add j = ⟨ad.block, ad.off + j, none⟩ := by
  unfold Addr.add
  rw [if_neg h]
theorem wrapPush1 (i d : Nat) (h : i + 1 + 1 + d ≤ 2147483647) : wrap32 ((i : Int) + wrap32 (wrap32 (1 + wrap32 (wrap64 1)) + (d : Int))) = ((i + 1 + 1 + d : Nat) : Int) := by
  unfold wrap32 wrap64; omega
theorem wrapPush2 (i d : Nat) (h : i + 1 + 2 + d ≤ 2147483647) : wrap32 ((i : Int) + wrap32 (wrap32 (1 + wrap32 (wrap64 2)) + (d : Int))) = ((i + 1 + 2 + d : Nat) : Int) := by
  unfold wrap32 wrap64; omega
theorem wrapPush4 (i d : Nat) (h : i + 1 + 4 + d ≤ 2147483647) : wrap32 ((i : Int) + wrap32 (wrap32 (1 + wrap32 (wrap64 4)) + (d : Int))) = ((i + 1 + 4 + d : Nat) : Int) := by
  unfold wrap32 wrap64; omega
theorem add_zero_ (ad : Addr) : ad.add 0 = ad := by simp [Addr.add]

set_option maxRecDepth 100000 in
set_option maxHeartbeats 8000000 in
theorem pushNone1 (g : Nat) (ad : Addr) (s : List Int) (c i : Nat) (pos : Int) (op data : Value) (oks : Nat → Prop) (base : Nat) (w : World)
    (hok : ∀ k, oks k → k ≠ g) (hV : Kd.V (Kd.int .u8) 5 w base oks (.slice (some ad) s.length c) s) (hT : Tk w g (some ad) s.length c i pos op data .nilIface)
    (hn : s.length ≤ 1000000) (hi : i < s.length) (v : Nat) (hv : v < 256) (hsv : s.getD i 0 = v) (hl : olen v = -1) (hsh : s.length < i + 1 + 1) :
    Calls Try.prog 8 #[.pointer (some ⟨g, 0, none⟩)] w fun e w' => e = .returned (.bool false) ∧ ∃ pos' op' data' str, Tk w' g (some ad) s.length c i pos' op' data' (.iface 44 (.agg #[.int .i64 27, .string str])) ∧ Only g w w' := by
  obtain ⟨i05, hi05, _, hsz5, _⟩ := info_parts info5
  have hc9 := (Kd.V_at hV).2.1
  obtain ⟨A1, hcut1, hA1, hC1⟩ := print_drop_of (P := Try.prog) (Value.int .u8) 0 22 5 .i32 Try.underlying22 hi05 hsz5 (some ad) c s ((i : Int) + 1) (by omega) (by omega) hc9
  rw [show ((i : Int) + 1).toNat = i + 1 by omega] at hcut1 hA1 hC1
  rw [← (tokW32 (x := (i : Int) + 1) (by omega) (by omega))] at hcut1
  obtain ⟨xs, hxs⟩ : ∃ xs, s.drop (i + 1) = xs := ⟨_, rfl⟩
  have hxl : xs.length = s.length - (i + 1) := by rw [← hxs, List.length_drop]
  rw [hxs] at hcut1 hA1 hC1
  have HXL := Aside0.mk hxl
  have HA1 := Aside0.mk hA1
  have HXS := Aside0.mk hxs
  clear hxl hA1 hxs
  have HD := Aside0.mk (doneC g (some ad) s.length c i pos op data w (by omega) hT)
  rw [show decide ((s.length : Int) ≤ (i : Int)) = false from decide_eq_false (by omega)] at HD
  have HT := Aside0.mk hT
  have HV := Aside0.mk hV
  have HOK := Aside0.mk hok
  have HSV := Aside0.mk hsv
  clear hT hV hsv hok
  go_enter Try.func8, Try.ntmps8
  go_wp2_with (go_at_call 16; refine HD.out.mono ?_; rintro e w1 ⟨rfl, hb⟩; have HB1 := Aside0.mk hb; have HT1 := Aside0.mk (HT.out.below hb); clear hb; have hc3 := cell_of HT1.out (j := 3) (v := .int .i32 pos) rfl; have hf3 := frozen_of HT1.out 3)
  obtain ⟨p1, hp1⟩ : ∃ p1, wrap32 (pos + 1) = p1 := ⟨_, rfl⟩
  obtain ⟨w2, hw2⟩ : ∃ w2, w1.setCell ⟨g, 3, none⟩ (.int .i32 p1) = w2 := ⟨_, rfl⟩
  rw [hp1, hw2]
  have HT2 : Aside0 (Tk w2 g (some ad) s.length c i p1 op data .nilIface) := ⟨by rw [← hw2]; exact heap_set_same HT1.out _⟩
  have HN2 : Aside0 (Only g w w2) := ⟨by rw [← hw2]; exact (Only.of_below HB1.out).set 3 _⟩
  have HG := Aside0.mk (blk_lt' HT.out)
  have HV2 := Aside0.mk (Kd.V_only HV.out HN2.out HOK.out)
  have HS := Aside0.mk (And.intro (cell_of (w := w2.drew) HT2.out (j := 0) (v := .slice (some ad) s.length c) rfl) (And.intro (cell_of (w := w2.drew) HT2.out (j := 2) (v := .int .i32 i) rfl) (show w2.drew.cell? (ad.add i) = some (.int .u8 v) from scriptCell HV2.out i hi HSV.out)))
  clear hc3 hf3 HT1 HB1 hw2 hp1
  refine start_ (n := 12) (S := fun w' => w'.cell? ⟨g, 0, none⟩ = some (.slice (some ad) s.length c) ∧ w'.cell? ⟨g, 2, none⟩ = some (.int .i32 i) ∧ w'.cell? (ad.add i) = some (.int .u8 v)) (ds := []) #[false, false, false, false, false, false, false, false, false, false, false, false] (by kernel_rfl) rfl rfl HS.out (fun hHeld => ?_)
  refine pure_ (i := 0) (N := some 20) (v := ?_) (a' := ?_) #[true, false, false, false, false, false, false, false, false, false, false, false] rfl rfl (by kernel_rfl) (fun _ _ _ h => h) (Or.inl ⟨by rfl, ?_⟩) ?_ ?_
  rotate_left
  · intro w'
    go_simp
    with_reducible rfl
  rotate_left
  · simp only [Act.put, List.setIfInBounds_toArray, List.set_cons_zero, List.set_cons_succ, i64_w, i32_w]
    rfl
  refine pure_ (i := 1) (N := some 21) (v := ?_) (a' := ?_) #[true, true, false, false, false, false, false, false, false, false, false, false] rfl rfl (by kernel_rfl) (fun _ _ _ h => h) (Or.inl ⟨by rfl, ?_⟩) ?_ ?_
  rotate_left
  · intro w'
    go_simp
    with_reducible rfl
  rotate_left
  · simp only [Act.put, List.setIfInBounds_toArray, List.set_cons_zero, List.set_cons_succ, i64_w, i32_w]
    rfl
  refine pure_ (i := 2) (N := some 22) (v := ?_) (a' := ?_) #[true, true, true, false, false, false, false, false, false, false, false, false] rfl rfl (by kernel_rfl) (fun _ _ _ h => h) (Or.inl ⟨by rfl, ?_⟩) ?_ ?_
  rotate_left
  · intro w'
    go_simp
    with_reducible rfl
  rotate_left
  · simp only [Act.put, List.setIfInBounds_toArray, List.set_cons_zero, List.set_cons_succ, i64_w, i32_w]
    rfl
  refine take_ (i := 3) (N := some 23) (v := ?_) (a' := ?_) #[true, true, true, true, false, false, false, false, false, false, false, false] rfl rfl (by kernel_rfl) (fun _ _ _ h => h) (Or.inl ⟨by rfl, ?_⟩) hHeld ?_ ?_
  rotate_left
  · rintro w' ⟨s0, s1, s2⟩
    go_simp
    with_reducible rfl
  rotate_left
  · simp only [Act.put, List.setIfInBounds_toArray, List.set_cons_zero, List.set_cons_succ, i64_w, i32_w]
    rfl
  refine pure_ (i := 4) (N := some 24) (v := ?_) (a' := ?_) #[true, true, true, true, true, false, false, false, false, false, false, false] rfl rfl (by kernel_rfl) (fun _ _ _ h => h) (Or.inl ⟨by rfl, ?_⟩) ?_ ?_
  rotate_left
  · intro w'
    go_simp
    with_reducible rfl
  rotate_left
  · simp only [Act.put, List.setIfInBounds_toArray, List.set_cons_zero, List.set_cons_succ, i64_w, i32_w]
    rfl
  refine pure_ (i := 5) (N := some 25) (v := ?_) (a' := ?_) #[true, true, true, true, true, true, false, false, false, false, false, false] rfl rfl (by kernel_rfl) (fun _ _ _ h => h) (Or.inl ⟨by rfl, ?_⟩) ?_ ?_
  rotate_left
  · intro w'
    go_simp
    with_reducible rfl
  rotate_left
  · simp only [Act.put, List.setIfInBounds_toArray, List.set_cons_zero, List.set_cons_succ, i64_w, i32_w]
    rfl
  refine pure_ (i := 6) (N := some 26) (v := ?_) (a' := ?_) #[true, true, true, true, true, true, true, false, false, false, false, false] rfl rfl (by kernel_rfl) (fun _ _ _ h => h) (Or.inl ⟨by rfl, ?_⟩) ?_ ?_
  rotate_left
  · intro w'
    go_simp
    with_reducible rfl
  rotate_left
  · simp only [Act.put, List.setIfInBounds_toArray, List.set_cons_zero, List.set_cons_succ, i64_w, i32_w]
    rfl
  refine take_ (i := 7) (N := some 27) (v := ?_) (a' := ?_) #[true, true, true, true, true, true, true, true, false, false, false, false] rfl rfl (by kernel_rfl) (fun _ _ _ h => h) (Or.inl ⟨by rfl, ?_⟩) hHeld ?_ ?_
  rotate_left
  · rintro w' ⟨s0, s1, s2⟩
    go_simp
    with_reducible rfl
  rotate_left
  · simp only [Act.put, List.setIfInBounds_toArray, List.set_cons_zero, List.set_cons_succ, i64_w, i32_w]
    rfl
  refine pure_ (i := 8) (N := some 28) (v := ?_) (a' := ?_) #[true, true, true, true, true, true, true, true, true, false, false, false] rfl rfl (by kernel_rfl) (fun _ _ _ h => h) (Or.inl ⟨by rfl, ?_⟩) ?_ ?_
  rotate_left
  · intro w'
    go_simp
    with_reducible rfl
  rotate_left
  · simp only [Act.put, List.setIfInBounds_toArray, List.set_cons_zero, List.set_cons_succ, i64_w, i32_w]
    rfl
  refine take_ (i := 9) (N := some 29) (v := ?_) (a' := ?_) #[true, true, true, true, true, true, true, true, true, true, false, false] rfl rfl (by kernel_rfl) (fun _ _ _ h => h) (Or.inl ⟨by rfl, ?_⟩) hHeld ?_ ?_
  rotate_left
  · rintro w' ⟨s0, s1, s2⟩
    go_simp
    with_reducible rfl
  rotate_left
  · simp only [Act.put, List.setIfInBounds_toArray, List.set_cons_zero, List.set_cons_succ, i64_w, i32_w]
    rfl
  refine one_ (i := 10) (N := some 30) #[true, true, true, true, true, true, true, true, true, true, true, false] rfl rfl (by kernel_rfl) (by decide) (fun K hK => ?_)
  refine goes_ Try.func17 (by kernel_rfl) rfl #[.int .u8 v] (by rfl) rfl rfl (by (try simp only [List.map_toArray, List.map_cons, List.map_nil]); first | done | rfl | (simp only [List.length_drop, List.length_take]; rfl)) ?_
  with_reducible refine (opcodeC v hv _).mono ?_
  rintro e w4 ⟨rfl, nm, hw4⟩
  refine ⟨_, rfl, ?_⟩
  have HN4 : Aside0 (Only g w w4) := ⟨by rw [hw4]; exact HN2.out.drew.alloc _⟩
  have HT4 : Aside0 (Tk w4 g (some ad) s.length c i p1 op data .nilIface) := ⟨by rw [hw4]; exact heap_alloc_lt (w := w2.drew) HT2.out _⟩
  have HO4 : Aside0 (w4.heap[w2.heap.size]? = some (.cells #[.int .u8 v, .string nm, .int .i64 (olen v)] 49 (0, 0))) := ⟨by rw [hw4]; exact heap_alloc_new w2.drew _⟩
  have HV4 : Aside0 (Kd.V (Kd.int .u8) 5 w4 base oks (.slice (some ad) s.length c) s) := ⟨by rw [hw4]; exact Kd.V_alloc (Kd.V_drew HV2.out) _⟩
  rw [show (w2.drew).heap.size = w2.heap.size from rfl]
  have HG2 := Aside0.mk HN2.out.size
  obtain ⟨o, ho⟩ : ∃ o, w2.heap.size = o := ⟨_, rfl⟩
  rw [ho] at HO4 HG2 ⊢
  clear hw4 HT2 HV2 ho HN2
  refine hK.out _ _ ⟨cell_of HT4.out (j := 0) (v := .slice (some ad) s.length c) rfl, cell_of HT4.out (j := 2) (v := .int .i32 i) rfl, scriptCell HV4.out i hi HSV.out⟩ (fun hHeld => ?_)
  clear hK K
  refine norm_ (a' := ?_) ?_ ?_
  rotate_left
  · show Act.put _ (some 30) _ = _
    simp only [Act.put, List.setIfInBounds_toArray, List.set_cons_zero, List.set_cons_succ, i64_w, i32_w]
    rfl
  refine pure_ (i := 11) (N := some 3) (v := ?_) (a' := ?_) #[true, true, true, true, true, true, true, true, true, true, true, true] rfl rfl (by kernel_rfl) (fun _ _ _ h => h) (Or.inl ⟨by rfl, ?_⟩) ?_ ?_
  rotate_left
  · intro w'
    go_simp
    with_reducible rfl
  rotate_left
  · simp only [Act.put, List.setIfInBounds_toArray, List.set_cons_zero, List.set_cons_succ, i64_w, i32_w]
    rfl
  refine done_ (by kernel_rfl) ?_
  clear hHeld HS
  have hc0 := cell_of HT4.out (j := 0) (v := .slice (some ad) s.length c) rfl
  have hc2 := cell_of HT4.out (j := 2) (v := .int .i32 i) rfl
  have hc4 := cell_of HT4.out (j := 4) (v := op) rfl
  have hc5 := cell_of HT4.out (j := 5) (v := data) rfl
  have hc6 := cell_of HT4.out (j := 6) (v := .nilIface) rfl
  have hf2 := frozen_of HT4.out 2
  have hf4 := frozen_of HT4.out 4
  have hf5 := frozen_of HT4.out 5
  have hf6 := frozen_of HT4.out 6
  have ho2 := cell_of HO4.out (j := 2) (v := .int .i64 (olen v)) rfl
  rw [hl] at ho2
  have HS := Aside0.mk (And.intro (cell_of (w := w4.drew) HT4.out (j := 0) (v := .slice (some ad) s.length c) rfl) (cell_of (w := w4.drew) HT4.out (j := 2) (v := .int .i32 i) rfl))
  have e4 : decide (xs.length < 1) = true := decide_eq_true (by have := HXL.out; omega)
  have e3 : decide ((xs.length : Int) < 1) = true := decide_eq_true (by have := HXL.out; omega)
  have e5 : xs.length < 1 := by have := HXL.out; omega
  go_wp2
  refine start_ (n := 11) (S := fun w' => w'.cell? ⟨g, 0, none⟩ = some (.slice (some ad) s.length c) ∧ w'.cell? ⟨g, 2, none⟩ = some (.int .i32 i)) (ds := []) #[false, false, false, false, false, false, false, false, false, false, false] (by kernel_rfl) rfl rfl HS.out (fun hHeld => ?_)
  refine pure_ (i := 0) (N := some 110) (v := ?_) (a' := ?_) #[true, false, false, false, false, false, false, false, false, false, false] rfl rfl (by kernel_rfl) (fun _ _ _ h => h) (Or.inl ⟨by rfl, ?_⟩) ?_ ?_
  rotate_left
  · intro w'
    go_simp
    with_reducible rfl
  rotate_left
  · simp only [Act.put, List.setIfInBounds_toArray, List.set_cons_zero, List.set_cons_succ, i64_w, i32_w]
    rfl
  refine pure_ (i := 1) (N := some 111) (v := ?_) (a' := ?_) #[true, true, false, false, false, false, false, false, false, false, false] rfl rfl (by kernel_rfl) (fun _ _ _ h => h) (Or.inl ⟨by rfl, ?_⟩) ?_ ?_
  rotate_left
  · intro w'
    go_simp
    with_reducible rfl
  rotate_left
  · simp only [Act.put, List.setIfInBounds_toArray, List.set_cons_zero, List.set_cons_succ, i64_w, i32_w]
    rfl
  refine pure_ (i := 2) (N := some 112) (v := ?_) (a' := ?_) #[true, true, true, false, false, false, false, false, false, false, false] rfl rfl (by kernel_rfl) (fun _ _ _ h => h) (Or.inl ⟨by rfl, ?_⟩) ?_ ?_
  rotate_left
  · intro w'
    go_simp
    with_reducible rfl
  rotate_left
  · simp only [Act.put, List.setIfInBounds_toArray, List.set_cons_zero, List.set_cons_succ, i64_w, i32_w]
    rfl
  refine take_ (i := 3) (N := some 113) (v := ?_) (a' := ?_) #[true, true, true, true, false, false, false, false, false, false, false] rfl rfl (by kernel_rfl) (fun _ _ _ h => h) (Or.inl ⟨by rfl, ?_⟩) hHeld ?_ ?_
  rotate_left
  · rintro w' ⟨s0, s1⟩
    go_simp
    with_reducible rfl
  rotate_left
  · simp only [Act.put, List.setIfInBounds_toArray, List.set_cons_zero, List.set_cons_succ, i64_w, i32_w]
    rfl
  refine pure_ (i := 4) (N := some 114) (v := ?_) (a' := ?_) #[true, true, true, true, true, false, false, false, false, false, false] rfl rfl (by kernel_rfl) (fun _ _ _ h => h) (Or.inl ⟨by rfl, ?_⟩) ?_ ?_
  rotate_left
  · intro w'
    go_simp
    with_reducible rfl
  rotate_left
  · simp only [Act.put, List.setIfInBounds_toArray, List.set_cons_zero, List.set_cons_succ, i64_w, i32_w]
    rfl
  refine pure_ (i := 5) (N := some 115) (v := ?_) (a' := ?_) #[true, true, true, true, true, true, false, false, false, false, false] rfl rfl (by kernel_rfl) (fun _ _ _ h => h) (Or.inl ⟨by rfl, ?_⟩) ?_ ?_
  rotate_left
  · intro w'
    go_simp
    with_reducible rfl
  rotate_left
  · simp only [Act.put, List.setIfInBounds_toArray, List.set_cons_zero, List.set_cons_succ, i64_w, i32_w]
    rfl
  refine pure_ (i := 6) (N := some 116) (v := ?_) (a' := ?_) #[true, true, true, true, true, true, true, false, false, false, false] rfl rfl (by kernel_rfl) (fun _ _ _ h => h) (Or.inl ⟨by rfl, ?_⟩) ?_ ?_
  rotate_left
  · intro w'
    go_simp
    with_reducible rfl
  rotate_left
  · simp only [Act.put, List.setIfInBounds_toArray, List.set_cons_zero, List.set_cons_succ, i64_w, i32_w]
    rfl
  refine take_ (i := 7) (N := some 117) (v := ?_) (a' := ?_) #[true, true, true, true, true, true, true, true, false, false, false] rfl rfl (by kernel_rfl) (fun _ _ _ h => h) (Or.inl ⟨by rfl, ?_⟩) hHeld ?_ ?_
  rotate_left
  · rintro w' ⟨s0, s1⟩
    go_simp
    with_reducible rfl
  rotate_left
  · simp only [Act.put, List.setIfInBounds_toArray, List.set_cons_zero, List.set_cons_succ, i64_w, i32_w]
    rfl
  refine pure_ (i := 8) (N := some 118) (v := ?_) (a' := ?_) #[true, true, true, true, true, true, true, true, true, false, false] rfl rfl (by kernel_rfl) (fun _ _ _ h => h) (Or.inl ⟨by rfl, ?_⟩) ?_ ?_
  rotate_left
  · intro w'
    go_simp
    with_reducible rfl
  rotate_left
  · simp only [Act.put, List.setIfInBounds_toArray, List.set_cons_zero, List.set_cons_succ, i64_w, i32_w]
    rfl
  refine pure_ (i := 9) (N := some 119) (v := ?_) (a' := ?_) #[true, true, true, true, true, true, true, true, true, true, false] rfl rfl (by kernel_rfl) (fun _ _ _ h => h) (Or.inl ⟨by rfl, ?_⟩) ?_ ?_
  rotate_left
  · intro w'
    unfold execOp
    go_simp
    rfl
  rotate_left
  · simp only [Act.put, List.setIfInBounds_toArray, List.set_cons_zero, List.set_cons_succ, i64_w, i32_w]
    rfl
  refine pure_ (i := 10) (N := some 6) (v := ?_) (a' := ?_) #[true, true, true, true, true, true, true, true, true, true, true] rfl rfl (by kernel_rfl) (fun _ _ _ h => h) (Or.inl ⟨by rfl, ?_⟩) ?_ ?_
  rotate_left
  · intro w'
    go_simp
    with_reducible rfl
  rotate_left
  · simp only [Act.put, List.setIfInBounds_toArray, List.set_cons_zero, List.set_cons_succ, i64_w, i32_w]
    rfl
  refine done_ (by kernel_rfl) ?_
  clear hHeld HS
  go_wp2_with (go_at_call 15; refine (errC _ _ _).mono ?_; rintro e w5 ⟨rfl, hb⟩; have HB5 := Aside0.mk hb; have HT5 := Aside0.mk (Tk.below (w := w4.drew) HT4.out hb); clear hb hc6 hf6; have hc6 := cell_of HT5.out (j := 6) (v := .nilIface) rfl; have hf6 := frozen_of HT5.out 6)
  go_ret
  refine ⟨rfl, p1, op, data, _, heap_set_same HT5.out _, (HN4.out.drew.trans (Only.of_below HB5.out)).set 6 _⟩

set_option maxRecDepth 100000 in
set_option maxHeartbeats 8000000 in
theorem pushNone2 (g : Nat) (ad : Addr) (s : List Int) (c i : Nat) (pos : Int) (op data : Value) (oks : Nat → Prop) (base : Nat) (w : World)
    (hok : ∀ k, oks k → k ≠ g) (hV : Kd.V (Kd.int .u8) 5 w base oks (.slice (some ad) s.length c) s) (hT : Tk w g (some ad) s.length c i pos op data .nilIface)
    (hn : s.length ≤ 1000000) (hi : i < s.length) (v : Nat) (hv : v < 256) (hsv : s.getD i 0 = v) (hl : olen v = -2) (hsh : s.length < i + 1 + 2) :
    Calls Try.prog 8 #[.pointer (some ⟨g, 0, none⟩)] w fun e w' => e = .returned (.bool false) ∧ ∃ pos' op' data' str, Tk w' g (some ad) s.length c i pos' op' data' (.iface 44 (.agg #[.int .i64 27, .string str])) ∧ Only g w w' := by
  obtain ⟨i05, hi05, _, hsz5, _⟩ := info_parts info5
  have hc9 := (Kd.V_at hV).2.1
  obtain ⟨A1, hcut1, hA1, hC1⟩ := print_drop_of (P := Try.prog) (Value.int .u8) 0 22 5 .i32 Try.underlying22 hi05 hsz5 (some ad) c s ((i : Int) + 1) (by omega) (by omega) hc9
  rw [show ((i : Int) + 1).toNat = i + 1 by omega] at hcut1 hA1 hC1
  rw [← (tokW32 (x := (i : Int) + 1) (by omega) (by omega))] at hcut1
  obtain ⟨xs, hxs⟩ : ∃ xs, s.drop (i + 1) = xs := ⟨_, rfl⟩
  have hxl : xs.length = s.length - (i + 1) := by rw [← hxs, List.length_drop]
  rw [hxs] at hcut1 hA1 hC1
  have HXL := Aside0.mk hxl
  have HA1 := Aside0.mk hA1
  have HXS := Aside0.mk hxs
  clear hxl hA1 hxs
  have HD := Aside0.mk (doneC g (some ad) s.length c i pos op data w (by omega) hT)
  rw [show decide ((s.length : Int) ≤ (i : Int)) = false from decide_eq_false (by omega)] at HD
  have HT := Aside0.mk hT
  have HV := Aside0.mk hV
  have HOK := Aside0.mk hok
  have HSV := Aside0.mk hsv
  clear hT hV hsv hok
  go_enter Try.func8, Try.ntmps8
  go_wp2_with (go_at_call 16; refine HD.out.mono ?_; rintro e w1 ⟨rfl, hb⟩; have HB1 := Aside0.mk hb; have HT1 := Aside0.mk (HT.out.below hb); clear hb; have hc3 := cell_of HT1.out (j := 3) (v := .int .i32 pos) rfl; have hf3 := frozen_of HT1.out 3)
  obtain ⟨p1, hp1⟩ : ∃ p1, wrap32 (pos + 1) = p1 := ⟨_, rfl⟩
  obtain ⟨w2, hw2⟩ : ∃ w2, w1.setCell ⟨g, 3, none⟩ (.int .i32 p1) = w2 := ⟨_, rfl⟩
  rw [hp1, hw2]
  have HT2 : Aside0 (Tk w2 g (some ad) s.length c i p1 op data .nilIface) := ⟨by rw [← hw2]; exact heap_set_same HT1.out _⟩
  have HN2 : Aside0 (Only g w w2) := ⟨by rw [← hw2]; exact (Only.of_below HB1.out).set 3 _⟩
  have HG := Aside0.mk (blk_lt' HT.out)
  have HV2 := Aside0.mk (Kd.V_only HV.out HN2.out HOK.out)
  have HS := Aside0.mk (And.intro (cell_of (w := w2.drew) HT2.out (j := 0) (v := .slice (some ad) s.length c) rfl) (And.intro (cell_of (w := w2.drew) HT2.out (j := 2) (v := .int .i32 i) rfl) (show w2.drew.cell? (ad.add i) = some (.int .u8 v) from scriptCell HV2.out i hi HSV.out)))
  clear hc3 hf3 HT1 HB1 hw2 hp1
  refine start_ (n := 12) (S := fun w' => w'.cell? ⟨g, 0, none⟩ = some (.slice (some ad) s.length c) ∧ w'.cell? ⟨g, 2, none⟩ = some (.int .i32 i) ∧ w'.cell? (ad.add i) = some (.int .u8 v)) (ds := []) #[false, false, false, false, false, false, false, false, false, false, false, false] (by kernel_rfl) rfl rfl HS.out (fun hHeld => ?_)
  refine pure_ (i := 0) (N := some 20) (v := ?_) (a' := ?_) #[true, false, false, false, false, false, false, false, false, false, false, false] rfl rfl (by kernel_rfl) (fun _ _ _ h => h) (Or.inl ⟨by rfl, ?_⟩) ?_ ?_
  rotate_left
  · intro w'
    go_simp
    with_reducible rfl
  rotate_left
  · simp only [Act.put, List.setIfInBounds_toArray, List.set_cons_zero, List.set_cons_succ, i64_w, i32_w]
    rfl
  refine pure_ (i := 1) (N := some 21) (v := ?_) (a' := ?_) #[true, true, false, false, false, false, false, false, false, false, false, false] rfl rfl (by kernel_rfl) (fun _ _ _ h => h) (Or.inl ⟨by rfl, ?_⟩) ?_ ?_
  rotate_left
  · intro w'
    go_simp
    with_reducible rfl
  rotate_left
  · simp only [Act.put, List.setIfInBounds_toArray, List.set_cons_zero, List.set_cons_succ, i64_w, i32_w]
    rfl
  refine pure_ (i := 2) (N := some 22) (v := ?_) (a' := ?_) #[true, true, true, false, false, false, false, false, false, false, false, false] rfl rfl (by kernel_rfl) (fun _ _ _ h => h) (Or.inl ⟨by rfl, ?_⟩) ?_ ?_
  rotate_left
  · intro w'
    go_simp
    with_reducible rfl
  rotate_left
  · simp only [Act.put, List.setIfInBounds_toArray, List.set_cons_zero, List.set_cons_succ, i64_w, i32_w]
    rfl
  refine take_ (i := 3) (N := some 23) (v := ?_) (a' := ?_) #[true, true, true, true, false, false, false, false, false, false, false, false] rfl rfl (by kernel_rfl) (fun _ _ _ h => h) (Or.inl ⟨by rfl, ?_⟩) hHeld ?_ ?_
  rotate_left
  · rintro w' ⟨s0, s1, s2⟩
    go_simp
    with_reducible rfl
  rotate_left
  · simp only [Act.put, List.setIfInBounds_toArray, List.set_cons_zero, List.set_cons_succ, i64_w, i32_w]
    rfl
  refine pure_ (i := 4) (N := some 24) (v := ?_) (a' := ?_) #[true, true, true, true, true, false, false, false, false, false, false, false] rfl rfl (by kernel_rfl) (fun _ _ _ h => h) (Or.inl ⟨by rfl, ?_⟩) ?_ ?_
  rotate_left
  · intro w'
    go_simp
    with_reducible rfl
  rotate_left
  · simp only [Act.put, List.setIfInBounds_toArray, List.set_cons_zero, List.set_cons_succ, i64_w, i32_w]
    rfl
  refine pure_ (i := 5) (N := some 25) (v := ?_) (a' := ?_) #[true, true, true, true, true, true, false, false, false, false, false, false] rfl rfl (by kernel_rfl) (fun _ _ _ h => h) (Or.inl ⟨by rfl, ?_⟩) ?_ ?_
  rotate_left
  · intro w'
    go_simp
    with_reducible rfl
  rotate_left
  · simp only [Act.put, List.setIfInBounds_toArray, List.set_cons_zero, List.set_cons_succ, i64_w, i32_w]
    rfl
  refine pure_ (i := 6) (N := some 26) (v := ?_) (a' := ?_) #[true, true, true, true, true, true, true, false, false, false, false, false] rfl rfl (by kernel_rfl) (fun _ _ _ h => h) (Or.inl ⟨by rfl, ?_⟩) ?_ ?_
  rotate_left
  · intro w'
    go_simp
    with_reducible rfl
  rotate_left
  · simp only [Act.put, List.setIfInBounds_toArray, List.set_cons_zero, List.set_cons_succ, i64_w, i32_w]
    rfl
  refine take_ (i := 7) (N := some 27) (v := ?_) (a' := ?_) #[true, true, true, true, true, true, true, true, false, false, false, false] rfl rfl (by kernel_rfl) (fun _ _ _ h => h) (Or.inl ⟨by rfl, ?_⟩) hHeld ?_ ?_
  rotate_left
  · rintro w' ⟨s0, s1, s2⟩
    go_simp
    with_reducible rfl
  rotate_left
  · simp only [Act.put, List.setIfInBounds_toArray, List.set_cons_zero, List.set_cons_succ, i64_w, i32_w]
    rfl
  refine pure_ (i := 8) (N := some 28) (v := ?_) (a' := ?_) #[true, true, true, true, true, true, true, true, true, false, false, false] rfl rfl (by kernel_rfl) (fun _ _ _ h => h) (Or.inl ⟨by rfl, ?_⟩) ?_ ?_
  rotate_left
  · intro w'
    go_simp
    with_reducible rfl
  rotate_left
  · simp only [Act.put, List.setIfInBounds_toArray, List.set_cons_zero, List.set_cons_succ, i64_w, i32_w]
    rfl
  refine take_ (i := 9) (N := some 29) (v := ?_) (a' := ?_) #[true, true, true, true, true, true, true, true, true, true, false, false] rfl rfl (by kernel_rfl) (fun _ _ _ h => h) (Or.inl ⟨by rfl, ?_⟩) hHeld ?_ ?_
  rotate_left
  · rintro w' ⟨s0, s1, s2⟩
    go_simp
    with_reducible rfl
  rotate_left
  · simp only [Act.put, List.setIfInBounds_toArray, List.set_cons_zero, List.set_cons_succ, i64_w, i32_w]
    rfl
  refine one_ (i := 10) (N := some 30) #[true, true, true, true, true, true, true, true, true, true, true, false] rfl rfl (by kernel_rfl) (by decide) (fun K hK => ?_)
  refine goes_ Try.func17 (by kernel_rfl) rfl #[.int .u8 v] (by rfl) rfl rfl (by (try simp only [List.map_toArray, List.map_cons, List.map_nil]); first | done | rfl | (simp only [List.length_drop, List.length_take]; rfl)) ?_
  with_reducible refine (opcodeC v hv _).mono ?_
  rintro e w4 ⟨rfl, nm, hw4⟩
  refine ⟨_, rfl, ?_⟩
  have HN4 : Aside0 (Only g w w4) := ⟨by rw [hw4]; exact HN2.out.drew.alloc _⟩
  have HT4 : Aside0 (Tk w4 g (some ad) s.length c i p1 op data .nilIface) := ⟨by rw [hw4]; exact heap_alloc_lt (w := w2.drew) HT2.out _⟩
  have HO4 : Aside0 (w4.heap[w2.heap.size]? = some (.cells #[.int .u8 v, .string nm, .int .i64 (olen v)] 49 (0, 0))) := ⟨by rw [hw4]; exact heap_alloc_new w2.drew _⟩
  have HV4 : Aside0 (Kd.V (Kd.int .u8) 5 w4 base oks (.slice (some ad) s.length c) s) := ⟨by rw [hw4]; exact Kd.V_alloc (Kd.V_drew HV2.out) _⟩
  rw [show (w2.drew).heap.size = w2.heap.size from rfl]
  have HG2 := Aside0.mk HN2.out.size
  obtain ⟨o, ho⟩ : ∃ o, w2.heap.size = o := ⟨_, rfl⟩
  rw [ho] at HO4 HG2 ⊢
  clear hw4 HT2 HV2 ho HN2
  refine hK.out _ _ ⟨cell_of HT4.out (j := 0) (v := .slice (some ad) s.length c) rfl, cell_of HT4.out (j := 2) (v := .int .i32 i) rfl, scriptCell HV4.out i hi HSV.out⟩ (fun hHeld => ?_)
  clear hK K
  refine norm_ (a' := ?_) ?_ ?_
  rotate_left
  · show Act.put _ (some 30) _ = _
    simp only [Act.put, List.setIfInBounds_toArray, List.set_cons_zero, List.set_cons_succ, i64_w, i32_w]
    rfl
  refine pure_ (i := 11) (N := some 3) (v := ?_) (a' := ?_) #[true, true, true, true, true, true, true, true, true, true, true, true] rfl rfl (by kernel_rfl) (fun _ _ _ h => h) (Or.inl ⟨by rfl, ?_⟩) ?_ ?_
  rotate_left
  · intro w'
    go_simp
    with_reducible rfl
  rotate_left
  · simp only [Act.put, List.setIfInBounds_toArray, List.set_cons_zero, List.set_cons_succ, i64_w, i32_w]
    rfl
  refine done_ (by kernel_rfl) ?_
  clear hHeld HS
  have hc0 := cell_of HT4.out (j := 0) (v := .slice (some ad) s.length c) rfl
  have hc2 := cell_of HT4.out (j := 2) (v := .int .i32 i) rfl
  have hc4 := cell_of HT4.out (j := 4) (v := op) rfl
  have hc5 := cell_of HT4.out (j := 5) (v := data) rfl
  have hc6 := cell_of HT4.out (j := 6) (v := .nilIface) rfl
  have hf2 := frozen_of HT4.out 2
  have hf4 := frozen_of HT4.out 4
  have hf5 := frozen_of HT4.out 5
  have hf6 := frozen_of HT4.out 6
  have ho2 := cell_of HO4.out (j := 2) (v := .int .i64 (olen v)) rfl
  rw [hl] at ho2
  have HS := Aside0.mk (And.intro (cell_of (w := w4.drew) HT4.out (j := 0) (v := .slice (some ad) s.length c) rfl) (cell_of (w := w4.drew) HT4.out (j := 2) (v := .int .i32 i) rfl))
  have e4 : decide (xs.length < 2) = true := decide_eq_true (by have := HXL.out; omega)
  have e3 : decide ((xs.length : Int) < 2) = true := decide_eq_true (by have := HXL.out; omega)
  have e5 : xs.length < 2 := by have := HXL.out; omega
  go_wp2
  refine start_ (n := 11) (S := fun w' => w'.cell? ⟨g, 0, none⟩ = some (.slice (some ad) s.length c) ∧ w'.cell? ⟨g, 2, none⟩ = some (.int .i32 i)) (ds := []) #[false, false, false, false, false, false, false, false, false, false, false] (by kernel_rfl) rfl rfl HS.out (fun hHeld => ?_)
  refine pure_ (i := 0) (N := some 110) (v := ?_) (a' := ?_) #[true, false, false, false, false, false, false, false, false, false, false] rfl rfl (by kernel_rfl) (fun _ _ _ h => h) (Or.inl ⟨by rfl, ?_⟩) ?_ ?_
  rotate_left
  · intro w'
    go_simp
    with_reducible rfl
  rotate_left
  · simp only [Act.put, List.setIfInBounds_toArray, List.set_cons_zero, List.set_cons_succ, i64_w, i32_w]
    rfl
  refine pure_ (i := 1) (N := some 111) (v := ?_) (a' := ?_) #[true, true, false, false, false, false, false, false, false, false, false] rfl rfl (by kernel_rfl) (fun _ _ _ h => h) (Or.inl ⟨by rfl, ?_⟩) ?_ ?_
  rotate_left
  · intro w'
    go_simp
    with_reducible rfl
  rotate_left
  · simp only [Act.put, List.setIfInBounds_toArray, List.set_cons_zero, List.set_cons_succ, i64_w, i32_w]
    rfl
  refine pure_ (i := 2) (N := some 112) (v := ?_) (a' := ?_) #[true, true, true, false, false, false, false, false, false, false, false] rfl rfl (by kernel_rfl) (fun _ _ _ h => h) (Or.inl ⟨by rfl, ?_⟩) ?_ ?_
  rotate_left
  · intro w'
    go_simp
    with_reducible rfl
  rotate_left
  · simp only [Act.put, List.setIfInBounds_toArray, List.set_cons_zero, List.set_cons_succ, i64_w, i32_w]
    rfl
  refine take_ (i := 3) (N := some 113) (v := ?_) (a' := ?_) #[true, true, true, true, false, false, false, false, false, false, false] rfl rfl (by kernel_rfl) (fun _ _ _ h => h) (Or.inl ⟨by rfl, ?_⟩) hHeld ?_ ?_
  rotate_left
  · rintro w' ⟨s0, s1⟩
    go_simp
    with_reducible rfl
  rotate_left
  · simp only [Act.put, List.setIfInBounds_toArray, List.set_cons_zero, List.set_cons_succ, i64_w, i32_w]
    rfl
  refine pure_ (i := 4) (N := some 114) (v := ?_) (a' := ?_) #[true, true, true, true, true, false, false, false, false, false, false] rfl rfl (by kernel_rfl) (fun _ _ _ h => h) (Or.inl ⟨by rfl, ?_⟩) ?_ ?_
  rotate_left
  · intro w'
    go_simp
    with_reducible rfl
  rotate_left
  · simp only [Act.put, List.setIfInBounds_toArray, List.set_cons_zero, List.set_cons_succ, i64_w, i32_w]
    rfl
  refine pure_ (i := 5) (N := some 115) (v := ?_) (a' := ?_) #[true, true, true, true, true, true, false, false, false, false, false] rfl rfl (by kernel_rfl) (fun _ _ _ h => h) (Or.inl ⟨by rfl, ?_⟩) ?_ ?_
  rotate_left
  · intro w'
    go_simp
    with_reducible rfl
  rotate_left
  · simp only [Act.put, List.setIfInBounds_toArray, List.set_cons_zero, List.set_cons_succ, i64_w, i32_w]
    rfl
  refine pure_ (i := 6) (N := some 116) (v := ?_) (a' := ?_) #[true, true, true, true, true, true, true, false, false, false, false] rfl rfl (by kernel_rfl) (fun _ _ _ h => h) (Or.inl ⟨by rfl, ?_⟩) ?_ ?_
  rotate_left
  · intro w'
    go_simp
    with_reducible rfl
  rotate_left
  · simp only [Act.put, List.setIfInBounds_toArray, List.set_cons_zero, List.set_cons_succ, i64_w, i32_w]
    rfl
  refine take_ (i := 7) (N := some 117) (v := ?_) (a' := ?_) #[true, true, true, true, true, true, true, true, false, false, false] rfl rfl (by kernel_rfl) (fun _ _ _ h => h) (Or.inl ⟨by rfl, ?_⟩) hHeld ?_ ?_
  rotate_left
  · rintro w' ⟨s0, s1⟩
    go_simp
    with_reducible rfl
  rotate_left
  · simp only [Act.put, List.setIfInBounds_toArray, List.set_cons_zero, List.set_cons_succ, i64_w, i32_w]
    rfl
  refine pure_ (i := 8) (N := some 118) (v := ?_) (a' := ?_) #[true, true, true, true, true, true, true, true, true, false, false] rfl rfl (by kernel_rfl) (fun _ _ _ h => h) (Or.inl ⟨by rfl, ?_⟩) ?_ ?_
  rotate_left
  · intro w'
    go_simp
    with_reducible rfl
  rotate_left
  · simp only [Act.put, List.setIfInBounds_toArray, List.set_cons_zero, List.set_cons_succ, i64_w, i32_w]
    rfl
  refine pure_ (i := 9) (N := some 119) (v := ?_) (a' := ?_) #[true, true, true, true, true, true, true, true, true, true, false] rfl rfl (by kernel_rfl) (fun _ _ _ h => h) (Or.inl ⟨by rfl, ?_⟩) ?_ ?_
  rotate_left
  · intro w'
    unfold execOp
    go_simp
    rfl
  rotate_left
  · simp only [Act.put, List.setIfInBounds_toArray, List.set_cons_zero, List.set_cons_succ, i64_w, i32_w]
    rfl
  refine pure_ (i := 10) (N := some 6) (v := ?_) (a' := ?_) #[true, true, true, true, true, true, true, true, true, true, true] rfl rfl (by kernel_rfl) (fun _ _ _ h => h) (Or.inl ⟨by rfl, ?_⟩) ?_ ?_
  rotate_left
  · intro w'
    go_simp
    with_reducible rfl
  rotate_left
  · simp only [Act.put, List.setIfInBounds_toArray, List.set_cons_zero, List.set_cons_succ, i64_w, i32_w]
    rfl
  refine done_ (by kernel_rfl) ?_
  clear hHeld HS
  go_wp2_with (go_at_call 15; refine (errC _ _ _).mono ?_; rintro e w5 ⟨rfl, hb⟩; have HB5 := Aside0.mk hb; have HT5 := Aside0.mk (Tk.below (w := w4.drew) HT4.out hb); clear hb hc6 hf6; have hc6 := cell_of HT5.out (j := 6) (v := .nilIface) rfl; have hf6 := frozen_of HT5.out 6)
  go_ret
  refine ⟨rfl, p1, op, data, _, heap_set_same HT5.out _, (HN4.out.drew.trans (Only.of_below HB5.out)).set 6 _⟩

set_option maxRecDepth 100000 in
set_option maxHeartbeats 8000000 in
theorem pushNone4 (g : Nat) (ad : Addr) (s : List Int) (c i : Nat) (pos : Int) (op data : Value) (oks : Nat → Prop) (base : Nat) (w : World)
    (hok : ∀ k, oks k → k ≠ g) (hV : Kd.V (Kd.int .u8) 5 w base oks (.slice (some ad) s.length c) s) (hT : Tk w g (some ad) s.length c i pos op data .nilIface)
    (hn : s.length ≤ 1000000) (hi : i < s.length) (v : Nat) (hv : v < 256) (hsv : s.getD i 0 = v) (hl : olen v = -4) (hsh : s.length < i + 1 + 4) :
    Calls Try.prog 8 #[.pointer (some ⟨g, 0, none⟩)] w fun e w' => e = .returned (.bool false) ∧ ∃ pos' op' data' str, Tk w' g (some ad) s.length c i pos' op' data' (.iface 44 (.agg #[.int .i64 27, .string str])) ∧ Only g w w' := by
  obtain ⟨i05, hi05, _, hsz5, _⟩ := info_parts info5
  have hc9 := (Kd.V_at hV).2.1
  obtain ⟨A1, hcut1, hA1, hC1⟩ := print_drop_of (P := Try.prog) (Value.int .u8) 0 22 5 .i32 Try.underlying22 hi05 hsz5 (some ad) c s ((i : Int) + 1) (by omega) (by omega) hc9
  rw [show ((i : Int) + 1).toNat = i + 1 by omega] at hcut1 hA1 hC1
  rw [← (tokW32 (x := (i : Int) + 1) (by omega) (by omega))] at hcut1
  obtain ⟨xs, hxs⟩ : ∃ xs, s.drop (i + 1) = xs := ⟨_, rfl⟩
  have hxl : xs.length = s.length - (i + 1) := by rw [← hxs, List.length_drop]
  rw [hxs] at hcut1 hA1 hC1
  have HXL := Aside0.mk hxl
  have HA1 := Aside0.mk hA1
  have HXS := Aside0.mk hxs
  clear hxl hA1 hxs
  have HD := Aside0.mk (doneC g (some ad) s.length c i pos op data w (by omega) hT)
  rw [show decide ((s.length : Int) ≤ (i : Int)) = false from decide_eq_false (by omega)] at HD
  have HT := Aside0.mk hT
  have HV := Aside0.mk hV
  have HOK := Aside0.mk hok
  have HSV := Aside0.mk hsv
  clear hT hV hsv hok
  go_enter Try.func8, Try.ntmps8
  go_wp2_with (go_at_call 16; refine HD.out.mono ?_; rintro e w1 ⟨rfl, hb⟩; have HB1 := Aside0.mk hb; have HT1 := Aside0.mk (HT.out.below hb); clear hb; have hc3 := cell_of HT1.out (j := 3) (v := .int .i32 pos) rfl; have hf3 := frozen_of HT1.out 3)
  obtain ⟨p1, hp1⟩ : ∃ p1, wrap32 (pos + 1) = p1 := ⟨_, rfl⟩
  obtain ⟨w2, hw2⟩ : ∃ w2, w1.setCell ⟨g, 3, none⟩ (.int .i32 p1) = w2 := ⟨_, rfl⟩
  rw [hp1, hw2]
  have HT2 : Aside0 (Tk w2 g (some ad) s.length c i p1 op data .nilIface) := ⟨by rw [← hw2]; exact heap_set_same HT1.out _⟩
  have HN2 : Aside0 (Only g w w2) := ⟨by rw [← hw2]; exact (Only.of_below HB1.out).set 3 _⟩
  have HG := Aside0.mk (blk_lt' HT.out)
  have HV2 := Aside0.mk (Kd.V_only HV.out HN2.out HOK.out)
  have HS := Aside0.mk (And.intro (cell_of (w := w2.drew) HT2.out (j := 0) (v := .slice (some ad) s.length c) rfl) (And.intro (cell_of (w := w2.drew) HT2.out (j := 2) (v := .int .i32 i) rfl) (show w2.drew.cell? (ad.add i) = some (.int .u8 v) from scriptCell HV2.out i hi HSV.out)))
  clear hc3 hf3 HT1 HB1 hw2 hp1
  refine start_ (n := 12) (S := fun w' => w'.cell? ⟨g, 0, none⟩ = some (.slice (some ad) s.length c) ∧ w'.cell? ⟨g, 2, none⟩ = some (.int .i32 i) ∧ w'.cell? (ad.add i) = some (.int .u8 v)) (ds := []) #[false, false, false, false, false, false, false, false, false, false, false, false] (by kernel_rfl) rfl rfl HS.out (fun hHeld => ?_)
  refine pure_ (i := 0) (N := some 20) (v := ?_) (a' := ?_) #[true, false, false, false, false, false, false, false, false, false, false, false] rfl rfl (by kernel_rfl) (fun _ _ _ h => h) (Or.inl ⟨by rfl, ?_⟩) ?_ ?_
  rotate_left
  · intro w'
    go_simp
    with_reducible rfl
  rotate_left
  · simp only [Act.put, List.setIfInBounds_toArray, List.set_cons_zero, List.set_cons_succ, i64_w, i32_w]
    rfl
  refine pure_ (i := 1) (N := some 21) (v := ?_) (a' := ?_) #[true, true, false, false, false, false, false, false, false, false, false, false] rfl rfl (by kernel_rfl) (fun _ _ _ h => h) (Or.inl ⟨by rfl, ?_⟩) ?_ ?_
  rotate_left
  · intro w'
    go_simp
    with_reducible rfl
  rotate_left
  · simp only [Act.put, List.setIfInBounds_toArray, List.set_cons_zero, List.set_cons_succ, i64_w, i32_w]
    rfl
  refine pure_ (i := 2) (N := some 22) (v := ?_) (a' := ?_) #[true, true, true, false, false, false, false, false, false, false, false, false] rfl rfl (by kernel_rfl) (fun _ _ _ h => h) (Or.inl ⟨by rfl, ?_⟩) ?_ ?_
  rotate_left
  · intro w'
    go_simp
    with_reducible rfl
  rotate_left
  · simp only [Act.put, List.setIfInBounds_toArray, List.set_cons_zero, List.set_cons_succ, i64_w, i32_w]
    rfl
  refine take_ (i := 3) (N := some 23) (v := ?_) (a' := ?_) #[true, true, true, true, false, false, false, false, false, false, false, false] rfl rfl (by kernel_rfl) (fun _ _ _ h => h) (Or.inl ⟨by rfl, ?_⟩) hHeld ?_ ?_
  rotate_left
  · rintro w' ⟨s0, s1, s2⟩
    go_simp
    with_reducible rfl
  rotate_left
  · simp only [Act.put, List.setIfInBounds_toArray, List.set_cons_zero, List.set_cons_succ, i64_w, i32_w]
    rfl
  refine pure_ (i := 4) (N := some 24) (v := ?_) (a' := ?_) #[true, true, true, true, true, false, false, false, false, false, false, false] rfl rfl (by kernel_rfl) (fun _ _ _ h => h) (Or.inl ⟨by rfl, ?_⟩) ?_ ?_
  rotate_left
  · intro w'
    go_simp
    with_reducible rfl
  rotate_left
  · simp only [Act.put, List.setIfInBounds_toArray, List.set_cons_zero, List.set_cons_succ, i64_w, i32_w]
    rfl
  refine pure_ (i := 5) (N := some 25) (v := ?_) (a' := ?_) #[true, true, true, true, true, true, false, false, false, false, false, false] rfl rfl (by kernel_rfl) (fun _ _ _ h => h) (Or.inl ⟨by rfl, ?_⟩) ?_ ?_
  rotate_left
  · intro w'
    go_simp
    with_reducible rfl
  rotate_left
  · simp only [Act.put, List.setIfInBounds_toArray, List.set_cons_zero, List.set_cons_succ, i64_w, i32_w]
    rfl
  refine pure_ (i := 6) (N := some 26) (v := ?_) (a' := ?_) #[true, true, true, true, true, true, true, false, false, false, false, false] rfl rfl (by kernel_rfl) (fun _ _ _ h => h) (Or.inl ⟨by rfl, ?_⟩) ?_ ?_
  rotate_left
  · intro w'
    go_simp
    with_reducible rfl
  rotate_left
  · simp only [Act.put, List.setIfInBounds_toArray, List.set_cons_zero, List.set_cons_succ, i64_w, i32_w]
    rfl
  refine take_ (i := 7) (N := some 27) (v := ?_) (a' := ?_) #[true, true, true, true, true, true, true, true, false, false, false, false] rfl rfl (by kernel_rfl) (fun _ _ _ h => h) (Or.inl ⟨by rfl, ?_⟩) hHeld ?_ ?_
  rotate_left
  · rintro w' ⟨s0, s1, s2⟩
    go_simp
    with_reducible rfl
  rotate_left
  · simp only [Act.put, List.setIfInBounds_toArray, List.set_cons_zero, List.set_cons_succ, i64_w, i32_w]
    rfl
  refine pure_ (i := 8) (N := some 28) (v := ?_) (a' := ?_) #[true, true, true, true, true, true, true, true, true, false, false, false] rfl rfl (by kernel_rfl) (fun _ _ _ h => h) (Or.inl ⟨by rfl, ?_⟩) ?_ ?_
  rotate_left
  · intro w'
    go_simp
    with_reducible rfl
  rotate_left
  · simp only [Act.put, List.setIfInBounds_toArray, List.set_cons_zero, List.set_cons_succ, i64_w, i32_w]
    rfl
  refine take_ (i := 9) (N := some 29) (v := ?_) (a' := ?_) #[true, true, true, true, true, true, true, true, true, true, false, false] rfl rfl (by kernel_rfl) (fun _ _ _ h => h) (Or.inl ⟨by rfl, ?_⟩) hHeld ?_ ?_
  rotate_left
  · rintro w' ⟨s0, s1, s2⟩
    go_simp
    with_reducible rfl
  rotate_left
  · simp only [Act.put, List.setIfInBounds_toArray, List.set_cons_zero, List.set_cons_succ, i64_w, i32_w]
    rfl
  refine one_ (i := 10) (N := some 30) #[true, true, true, true, true, true, true, true, true, true, true, false] rfl rfl (by kernel_rfl) (by decide) (fun K hK => ?_)
  refine goes_ Try.func17 (by kernel_rfl) rfl #[.int .u8 v] (by rfl) rfl rfl (by (try simp only [List.map_toArray, List.map_cons, List.map_nil]); first | done | rfl | (simp only [List.length_drop, List.length_take]; rfl)) ?_
  with_reducible refine (opcodeC v hv _).mono ?_
  rintro e w4 ⟨rfl, nm, hw4⟩
  refine ⟨_, rfl, ?_⟩
  have HN4 : Aside0 (Only g w w4) := ⟨by rw [hw4]; exact HN2.out.drew.alloc _⟩
  have HT4 : Aside0 (Tk w4 g (some ad) s.length c i p1 op data .nilIface) := ⟨by rw [hw4]; exact heap_alloc_lt (w := w2.drew) HT2.out _⟩
  have HO4 : Aside0 (w4.heap[w2.heap.size]? = some (.cells #[.int .u8 v, .string nm, .int .i64 (olen v)] 49 (0, 0))) := ⟨by rw [hw4]; exact heap_alloc_new w2.drew _⟩
  have HV4 : Aside0 (Kd.V (Kd.int .u8) 5 w4 base oks (.slice (some ad) s.length c) s) := ⟨by rw [hw4]; exact Kd.V_alloc (Kd.V_drew HV2.out) _⟩
  rw [show (w2.drew).heap.size = w2.heap.size from rfl]
  have HG2 := Aside0.mk HN2.out.size
  obtain ⟨o, ho⟩ : ∃ o, w2.heap.size = o := ⟨_, rfl⟩
  rw [ho] at HO4 HG2 ⊢
  clear hw4 HT2 HV2 ho HN2
  refine hK.out _ _ ⟨cell_of HT4.out (j := 0) (v := .slice (some ad) s.length c) rfl, cell_of HT4.out (j := 2) (v := .int .i32 i) rfl, scriptCell HV4.out i hi HSV.out⟩ (fun hHeld => ?_)
  clear hK K
  refine norm_ (a' := ?_) ?_ ?_
  rotate_left
  · show Act.put _ (some 30) _ = _
    simp only [Act.put, List.setIfInBounds_toArray, List.set_cons_zero, List.set_cons_succ, i64_w, i32_w]
    rfl
  refine pure_ (i := 11) (N := some 3) (v := ?_) (a' := ?_) #[true, true, true, true, true, true, true, true, true, true, true, true] rfl rfl (by kernel_rfl) (fun _ _ _ h => h) (Or.inl ⟨by rfl, ?_⟩) ?_ ?_
  rotate_left
  · intro w'
    go_simp
    with_reducible rfl
  rotate_left
  · simp only [Act.put, List.setIfInBounds_toArray, List.set_cons_zero, List.set_cons_succ, i64_w, i32_w]
    rfl
  refine done_ (by kernel_rfl) ?_
  clear hHeld HS
  have hc0 := cell_of HT4.out (j := 0) (v := .slice (some ad) s.length c) rfl
  have hc2 := cell_of HT4.out (j := 2) (v := .int .i32 i) rfl
  have hc4 := cell_of HT4.out (j := 4) (v := op) rfl
  have hc5 := cell_of HT4.out (j := 5) (v := data) rfl
  have hc6 := cell_of HT4.out (j := 6) (v := .nilIface) rfl
  have hf2 := frozen_of HT4.out 2
  have hf4 := frozen_of HT4.out 4
  have hf5 := frozen_of HT4.out 5
  have hf6 := frozen_of HT4.out 6
  have ho2 := cell_of HO4.out (j := 2) (v := .int .i64 (olen v)) rfl
  rw [hl] at ho2
  have HS := Aside0.mk (And.intro (cell_of (w := w4.drew) HT4.out (j := 0) (v := .slice (some ad) s.length c) rfl) (cell_of (w := w4.drew) HT4.out (j := 2) (v := .int .i32 i) rfl))
  have e4 : decide (xs.length < 4) = true := decide_eq_true (by have := HXL.out; omega)
  have e3 : decide ((xs.length : Int) < 4) = true := decide_eq_true (by have := HXL.out; omega)
  have e5 : xs.length < 4 := by have := HXL.out; omega
  go_wp2
  refine start_ (n := 11) (S := fun w' => w'.cell? ⟨g, 0, none⟩ = some (.slice (some ad) s.length c) ∧ w'.cell? ⟨g, 2, none⟩ = some (.int .i32 i)) (ds := []) #[false, false, false, false, false, false, false, false, false, false, false] (by kernel_rfl) rfl rfl HS.out (fun hHeld => ?_)
  refine pure_ (i := 0) (N := some 110) (v := ?_) (a' := ?_) #[true, false, false, false, false, false, false, false, false, false, false] rfl rfl (by kernel_rfl) (fun _ _ _ h => h) (Or.inl ⟨by rfl, ?_⟩) ?_ ?_
  rotate_left
  · intro w'
    go_simp
    with_reducible rfl
  rotate_left
  · simp only [Act.put, List.setIfInBounds_toArray, List.set_cons_zero, List.set_cons_succ, i64_w, i32_w]
    rfl
  refine pure_ (i := 1) (N := some 111) (v := ?_) (a' := ?_) #[true, true, false, false, false, false, false, false, false, false, false] rfl rfl (by kernel_rfl) (fun _ _ _ h => h) (Or.inl ⟨by rfl, ?_⟩) ?_ ?_
  rotate_left
  · intro w'
    go_simp
    with_reducible rfl
  rotate_left
  · simp only [Act.put, List.setIfInBounds_toArray, List.set_cons_zero, List.set_cons_succ, i64_w, i32_w]
    rfl
  refine pure_ (i := 2) (N := some 112) (v := ?_) (a' := ?_) #[true, true, true, false, false, false, false, false, false, false, false] rfl rfl (by kernel_rfl) (fun _ _ _ h => h) (Or.inl ⟨by rfl, ?_⟩) ?_ ?_
  rotate_left
  · intro w'
    go_simp
    with_reducible rfl
  rotate_left
  · simp only [Act.put, List.setIfInBounds_toArray, List.set_cons_zero, List.set_cons_succ, i64_w, i32_w]
    rfl
  refine take_ (i := 3) (N := some 113) (v := ?_) (a' := ?_) #[true, true, true, true, false, false, false, false, false, false, false] rfl rfl (by kernel_rfl) (fun _ _ _ h => h) (Or.inl ⟨by rfl, ?_⟩) hHeld ?_ ?_
  rotate_left
  · rintro w' ⟨s0, s1⟩
    go_simp
    with_reducible rfl
  rotate_left
  · simp only [Act.put, List.setIfInBounds_toArray, List.set_cons_zero, List.set_cons_succ, i64_w, i32_w]
    rfl
  refine pure_ (i := 4) (N := some 114) (v := ?_) (a' := ?_) #[true, true, true, true, true, false, false, false, false, false, false] rfl rfl (by kernel_rfl) (fun _ _ _ h => h) (Or.inl ⟨by rfl, ?_⟩) ?_ ?_
  rotate_left
  · intro w'
    go_simp
    with_reducible rfl
  rotate_left
  · simp only [Act.put, List.setIfInBounds_toArray, List.set_cons_zero, List.set_cons_succ, i64_w, i32_w]
    rfl
  refine pure_ (i := 5) (N := some 115) (v := ?_) (a' := ?_) #[true, true, true, true, true, true, false, false, false, false, false] rfl rfl (by kernel_rfl) (fun _ _ _ h => h) (Or.inl ⟨by rfl, ?_⟩) ?_ ?_
  rotate_left
  · intro w'
    go_simp
    with_reducible rfl
  rotate_left
  · simp only [Act.put, List.setIfInBounds_toArray, List.set_cons_zero, List.set_cons_succ, i64_w, i32_w]
    rfl
  refine pure_ (i := 6) (N := some 116) (v := ?_) (a' := ?_) #[true, true, true, true, true, true, true, false, false, false, false] rfl rfl (by kernel_rfl) (fun _ _ _ h => h) (Or.inl ⟨by rfl, ?_⟩) ?_ ?_
  rotate_left
  · intro w'
    go_simp
    with_reducible rfl
  rotate_left
  · simp only [Act.put, List.setIfInBounds_toArray, List.set_cons_zero, List.set_cons_succ, i64_w, i32_w]
    rfl
  refine take_ (i := 7) (N := some 117) (v := ?_) (a' := ?_) #[true, true, true, true, true, true, true, true, false, false, false] rfl rfl (by kernel_rfl) (fun _ _ _ h => h) (Or.inl ⟨by rfl, ?_⟩) hHeld ?_ ?_
  rotate_left
  · rintro w' ⟨s0, s1⟩
    go_simp
    with_reducible rfl
  rotate_left
  · simp only [Act.put, List.setIfInBounds_toArray, List.set_cons_zero, List.set_cons_succ, i64_w, i32_w]
    rfl
  refine pure_ (i := 8) (N := some 118) (v := ?_) (a' := ?_) #[true, true, true, true, true, true, true, true, true, false, false] rfl rfl (by kernel_rfl) (fun _ _ _ h => h) (Or.inl ⟨by rfl, ?_⟩) ?_ ?_
  rotate_left
  · intro w'
    go_simp
    with_reducible rfl
  rotate_left
  · simp only [Act.put, List.setIfInBounds_toArray, List.set_cons_zero, List.set_cons_succ, i64_w, i32_w]
    rfl
  refine pure_ (i := 9) (N := some 119) (v := ?_) (a' := ?_) #[true, true, true, true, true, true, true, true, true, true, false] rfl rfl (by kernel_rfl) (fun _ _ _ h => h) (Or.inl ⟨by rfl, ?_⟩) ?_ ?_
  rotate_left
  · intro w'
    unfold execOp
    go_simp
    rfl
  rotate_left
  · simp only [Act.put, List.setIfInBounds_toArray, List.set_cons_zero, List.set_cons_succ, i64_w, i32_w]
    rfl
  refine pure_ (i := 10) (N := some 6) (v := ?_) (a' := ?_) #[true, true, true, true, true, true, true, true, true, true, true] rfl rfl (by kernel_rfl) (fun _ _ _ h => h) (Or.inl ⟨by rfl, ?_⟩) ?_ ?_
  rotate_left
  · intro w'
    go_simp
    with_reducible rfl
  rotate_left
  · simp only [Act.put, List.setIfInBounds_toArray, List.set_cons_zero, List.set_cons_succ, i64_w, i32_w]
    rfl
  refine done_ (by kernel_rfl) ?_
  clear hHeld HS
  go_wp2_with (go_at_call 15; refine (errC _ _ _).mono ?_; rintro e w5 ⟨rfl, hb⟩; have HB5 := Aside0.mk hb; have HT5 := Aside0.mk (Tk.below (w := w4.drew) HT4.out hb); clear hb hc6 hf6; have hc6 := cell_of HT5.out (j := 6) (v := .nilIface) rfl; have hf6 := frozen_of HT5.out 6)
  go_ret
  refine ⟨rfl, p1, op, data, _, heap_set_same HT5.out _, (HN4.out.drew.trans (Only.of_below HB5.out)).set 6 _⟩

set_option maxRecDepth 100000 in
set_option maxHeartbeats 8000000 in
theorem pushBad1 (g : Nat) (ad : Addr) (s : List Int) (c i : Nat) (pos : Int) (op data : Value) (oks : Nat → Prop) (base : Nat) (w : World)
    (hok : ∀ k, oks k → k ≠ g) (hV : Kd.V (Kd.int .u8) 5 w base oks (.slice (some ad) s.length c) s) (hT : Tk w g (some ad) s.length c i pos op data .nilIface)
    (hn : s.length ≤ 1000000) (hi : i < s.length) (v : Nat) (hv : v < 256) (hsv : s.getD i 0 = v) (hl : olen v = -1) (b0 : Int) (hb0 : s.getD (i + 1 + 0) 0 = b0) (b00 : 0 ≤ b0) (b01 : b0 < 256) (hk : i + 1 + 1 ≤ s.length) (D : Int) (hD : wrap32 (b0) = D) (hbad : (s.length : Int) - (i + 1 + 1) < D ∨ D < 0) :
    Calls Try.prog 8 #[.pointer (some ⟨g, 0, none⟩)] w fun e w' => e = .returned (.bool false) ∧ ∃ pos' op' data' str, Tk w' g (some ad) s.length c i pos' op' data' (.iface 44 (.agg #[.int .i64 27, .string str])) ∧ Only g w w' := by
  obtain ⟨i05, hi05, _, hsz5, _⟩ := info_parts info5
  have hc9 := (Kd.V_at hV).2.1
  obtain ⟨A1, hcut1, hA1, hC1⟩ := print_drop_of (P := Try.prog) (Value.int .u8) 0 22 5 .i32 Try.underlying22 hi05 hsz5 (some ad) c s ((i : Int) + 1) (by omega) (by omega) hc9
  rw [show ((i : Int) + 1).toNat = i + 1 by omega] at hcut1 hA1 hC1
  rw [← (tokW32 (x := (i : Int) + 1) (by omega) (by omega))] at hcut1
  obtain ⟨xs, hxs⟩ : ∃ xs, s.drop (i + 1) = xs := ⟨_, rfl⟩
  have hxl : xs.length = s.length - (i + 1) := by rw [← hxs, List.length_drop]
  rw [hxs] at hcut1 hA1 hC1
  have HXL := Aside0.mk hxl
  have HA1 := Aside0.mk hA1
  have HXS := Aside0.mk hxs
  clear hxl hA1 hxs
  have hV1 := V_cut hV HA1.out hC1
  obtain ⟨ad1, e1, _⟩ := Kd.at_int (Kd.F_now (Kd.V_at hV1).2.2) (0 : Int) (by omega) (by have := HXL.out; omega)
  subst e1
  clear hV1
  obtain ⟨A3, hcut3, hA3, hC3⟩ := print_drop_of (P := Try.prog) (Value.int .u8) 0 22 5 .i64 Try.underlying22 hi05 hsz5 (some ad1) (c - (i + 1)) xs 1 (by omega) (by have := HXL.out; omega) hC1
  rw [show ((1 : Int)).toNat = 1 from rfl] at hcut3 hA3 hC3
  obtain ⟨zs, hzs⟩ : ∃ zs, xs.drop 1 = zs := ⟨_, rfl⟩
  have hzl : zs.length = s.length - (i + 1 + 1) := by rw [← hzs, List.length_drop]; have := HXL.out; omega
  rw [hzs] at hcut3 hA3 hC3
  have HZL := Aside0.mk hzl
  have HA3 := Aside0.mk hA3
  have HZS := Aside0.mk hzs
  have HC3 := Aside0.mk hC3
  clear hzl hA3 hzs hC3
  have HB0 := Aside0.mk (show xs.getD 0 0 = b0 by rw [← HXS.out, ← hb0]; simp [List.getD_eq_getElem?_getD, List.getElem?_drop])
  have HD9 := Aside0.mk hD
  clear hD hb0
  have HD := Aside0.mk (doneC g (some ad) s.length c i pos op data w (by omega) hT)
  rw [show decide ((s.length : Int) ≤ (i : Int)) = false from decide_eq_false (by omega)] at HD
  have HT := Aside0.mk hT
  have HV := Aside0.mk hV
  have HOK := Aside0.mk hok
  have HSV := Aside0.mk hsv
  clear hT hV hsv hok
  go_enter Try.func8, Try.ntmps8
  go_wp2_with (go_at_call 16; refine HD.out.mono ?_; rintro e w1 ⟨rfl, hb⟩; have HB1 := Aside0.mk hb; have HT1 := Aside0.mk (HT.out.below hb); clear hb; have hc3 := cell_of HT1.out (j := 3) (v := .int .i32 pos) rfl; have hf3 := frozen_of HT1.out 3)
  obtain ⟨p1, hp1⟩ : ∃ p1, wrap32 (pos + 1) = p1 := ⟨_, rfl⟩
  obtain ⟨w2, hw2⟩ : ∃ w2, w1.setCell ⟨g, 3, none⟩ (.int .i32 p1) = w2 := ⟨_, rfl⟩
  rw [hp1, hw2]
  have HT2 : Aside0 (Tk w2 g (some ad) s.length c i p1 op data .nilIface) := ⟨by rw [← hw2]; exact heap_set_same HT1.out _⟩
  have HN2 : Aside0 (Only g w w2) := ⟨by rw [← hw2]; exact (Only.of_below HB1.out).set 3 _⟩
  have HG := Aside0.mk (blk_lt' HT.out)
  have HV2 := Aside0.mk (Kd.V_only HV.out HN2.out HOK.out)
  have HS := Aside0.mk (And.intro (cell_of (w := w2.drew) HT2.out (j := 0) (v := .slice (some ad) s.length c) rfl) (And.intro (cell_of (w := w2.drew) HT2.out (j := 2) (v := .int .i32 i) rfl) (show w2.drew.cell? (ad.add i) = some (.int .u8 v) from scriptCell HV2.out i hi HSV.out)))
  clear hc3 hf3 HT1 HB1 hw2 hp1
  refine start_ (n := 12) (S := fun w' => w'.cell? ⟨g, 0, none⟩ = some (.slice (some ad) s.length c) ∧ w'.cell? ⟨g, 2, none⟩ = some (.int .i32 i) ∧ w'.cell? (ad.add i) = some (.int .u8 v)) (ds := []) #[false, false, false, false, false, false, false, false, false, false, false, false] (by kernel_rfl) rfl rfl HS.out (fun hHeld => ?_)
  refine pure_ (i := 0) (N := some 20) (v := ?_) (a' := ?_) #[true, false, false, false, false, false, false, false, false, false, false, false] rfl rfl (by kernel_rfl) (fun _ _ _ h => h) (Or.inl ⟨by rfl, ?_⟩) ?_ ?_
  rotate_left
  · intro w'
    go_simp
    with_reducible rfl
  rotate_left
  · simp only [Act.put, List.setIfInBounds_toArray, List.set_cons_zero, List.set_cons_succ, i64_w, i32_w]
    rfl
  refine pure_ (i := 1) (N := some 21) (v := ?_) (a' := ?_) #[true, true, false, false, false, false, false, false, false, false, false, false] rfl rfl (by kernel_rfl) (fun _ _ _ h => h) (Or.inl ⟨by rfl, ?_⟩) ?_ ?_
  rotate_left
  · intro w'
    go_simp
    with_reducible rfl
  rotate_left
  · simp only [Act.put, List.setIfInBounds_toArray, List.set_cons_zero, List.set_cons_succ, i64_w, i32_w]
    rfl
  refine pure_ (i := 2) (N := some 22) (v := ?_) (a' := ?_) #[true, true, true, false, false, false, false, false, false, false, false, false] rfl rfl (by kernel_rfl) (fun _ _ _ h => h) (Or.inl ⟨by rfl, ?_⟩) ?_ ?_
  rotate_left
  · intro w'
    go_simp
    with_reducible rfl
  rotate_left
  · simp only [Act.put, List.setIfInBounds_toArray, List.set_cons_zero, List.set_cons_succ, i64_w, i32_w]
    rfl
  refine take_ (i := 3) (N := some 23) (v := ?_) (a' := ?_) #[true, true, true, true, false, false, false, false, false, false, false, false] rfl rfl (by kernel_rfl) (fun _ _ _ h => h) (Or.inl ⟨by rfl, ?_⟩) hHeld ?_ ?_
  rotate_left
  · rintro w' ⟨s0, s1, s2⟩
    go_simp
    with_reducible rfl
  rotate_left
  · simp only [Act.put, List.setIfInBounds_toArray, List.set_cons_zero, List.set_cons_succ, i64_w, i32_w]
    rfl
  refine pure_ (i := 4) (N := some 24) (v := ?_) (a' := ?_) #[true, true, true, true, true, false, false, false, false, false, false, false] rfl rfl (by kernel_rfl) (fun _ _ _ h => h) (Or.inl ⟨by rfl, ?_⟩) ?_ ?_
  rotate_left
  · intro w'
    go_simp
    with_reducible rfl
  rotate_left
  · simp only [Act.put, List.setIfInBounds_toArray, List.set_cons_zero, List.set_cons_succ, i64_w, i32_w]
    rfl
  refine pure_ (i := 5) (N := some 25) (v := ?_) (a' := ?_) #[true, true, true, true, true, true, false, false, false, false, false, false] rfl rfl (by kernel_rfl) (fun _ _ _ h => h) (Or.inl ⟨by rfl, ?_⟩) ?_ ?_
  rotate_left
  · intro w'
    go_simp
    with_reducible rfl
  rotate_left
  · simp only [Act.put, List.setIfInBounds_toArray, List.set_cons_zero, List.set_cons_succ, i64_w, i32_w]
    rfl
  refine pure_ (i := 6) (N := some 26) (v := ?_) (a' := ?_) #[true, true, true, true, true, true, true, false, false, false, false, false] rfl rfl (by kernel_rfl) (fun _ _ _ h => h) (Or.inl ⟨by rfl, ?_⟩) ?_ ?_
  rotate_left
  · intro w'
    go_simp
    with_reducible rfl
  rotate_left
  · simp only [Act.put, List.setIfInBounds_toArray, List.set_cons_zero, List.set_cons_succ, i64_w, i32_w]
    rfl
  refine take_ (i := 7) (N := some 27) (v := ?_) (a' := ?_) #[true, true, true, true, true, true, true, true, false, false, false, false] rfl rfl (by kernel_rfl) (fun _ _ _ h => h) (Or.inl ⟨by rfl, ?_⟩) hHeld ?_ ?_
  rotate_left
  · rintro w' ⟨s0, s1, s2⟩
    go_simp
    with_reducible rfl
  rotate_left
  · simp only [Act.put, List.setIfInBounds_toArray, List.set_cons_zero, List.set_cons_succ, i64_w, i32_w]
    rfl
  refine pure_ (i := 8) (N := some 28) (v := ?_) (a' := ?_) #[true, true, true, true, true, true, true, true, true, false, false, false] rfl rfl (by kernel_rfl) (fun _ _ _ h => h) (Or.inl ⟨by rfl, ?_⟩) ?_ ?_
  rotate_left
  · intro w'
    go_simp
    with_reducible rfl
  rotate_left
  · simp only [Act.put, List.setIfInBounds_toArray, List.set_cons_zero, List.set_cons_succ, i64_w, i32_w]
    rfl
  refine take_ (i := 9) (N := some 29) (v := ?_) (a' := ?_) #[true, true, true, true, true, true, true, true, true, true, false, false] rfl rfl (by kernel_rfl) (fun _ _ _ h => h) (Or.inl ⟨by rfl, ?_⟩) hHeld ?_ ?_
  rotate_left
  · rintro w' ⟨s0, s1, s2⟩
    go_simp
    with_reducible rfl
  rotate_left
  · simp only [Act.put, List.setIfInBounds_toArray, List.set_cons_zero, List.set_cons_succ, i64_w, i32_w]
    rfl
  refine one_ (i := 10) (N := some 30) #[true, true, true, true, true, true, true, true, true, true, true, false] rfl rfl (by kernel_rfl) (by decide) (fun K hK => ?_)
  refine goes_ Try.func17 (by kernel_rfl) rfl #[.int .u8 v] (by rfl) rfl rfl (by (try simp only [List.map_toArray, List.map_cons, List.map_nil]); first | done | rfl | (simp only [List.length_drop, List.length_take]; rfl)) ?_
  with_reducible refine (opcodeC v hv _).mono ?_
  rintro e w4 ⟨rfl, nm, hw4⟩
  refine ⟨_, rfl, ?_⟩
  have HN4 : Aside0 (Only g w w4) := ⟨by rw [hw4]; exact HN2.out.drew.alloc _⟩
  have HT4 : Aside0 (Tk w4 g (some ad) s.length c i p1 op data .nilIface) := ⟨by rw [hw4]; exact heap_alloc_lt (w := w2.drew) HT2.out _⟩
  have HO4 : Aside0 (w4.heap[w2.heap.size]? = some (.cells #[.int .u8 v, .string nm, .int .i64 (olen v)] 49 (0, 0))) := ⟨by rw [hw4]; exact heap_alloc_new w2.drew _⟩
  have HV4 : Aside0 (Kd.V (Kd.int .u8) 5 w4 base oks (.slice (some ad) s.length c) s) := ⟨by rw [hw4]; exact Kd.V_alloc (Kd.V_drew HV2.out) _⟩
  rw [show (w2.drew).heap.size = w2.heap.size from rfl]
  have HG2 := Aside0.mk HN2.out.size
  obtain ⟨o, ho⟩ : ∃ o, w2.heap.size = o := ⟨_, rfl⟩
  rw [ho] at HO4 HG2 ⊢
  clear hw4 HT2 HV2 ho HN2
  refine hK.out _ _ ⟨cell_of HT4.out (j := 0) (v := .slice (some ad) s.length c) rfl, cell_of HT4.out (j := 2) (v := .int .i32 i) rfl, scriptCell HV4.out i hi HSV.out⟩ (fun hHeld => ?_)
  clear hK K
  refine norm_ (a' := ?_) ?_ ?_
  rotate_left
  · show Act.put _ (some 30) _ = _
    simp only [Act.put, List.setIfInBounds_toArray, List.set_cons_zero, List.set_cons_succ, i64_w, i32_w]
    rfl
  refine pure_ (i := 11) (N := some 3) (v := ?_) (a' := ?_) #[true, true, true, true, true, true, true, true, true, true, true, true] rfl rfl (by kernel_rfl) (fun _ _ _ h => h) (Or.inl ⟨by rfl, ?_⟩) ?_ ?_
  rotate_left
  · intro w'
    go_simp
    with_reducible rfl
  rotate_left
  · simp only [Act.put, List.setIfInBounds_toArray, List.set_cons_zero, List.set_cons_succ, i64_w, i32_w]
    rfl
  refine done_ (by kernel_rfl) ?_
  clear hHeld HS
  have hc0 := cell_of HT4.out (j := 0) (v := .slice (some ad) s.length c) rfl
  have hc2 := cell_of HT4.out (j := 2) (v := .int .i32 i) rfl
  have hc4 := cell_of HT4.out (j := 4) (v := op) rfl
  have hc5 := cell_of HT4.out (j := 5) (v := data) rfl
  have hc6 := cell_of HT4.out (j := 6) (v := .nilIface) rfl
  have hf2 := frozen_of HT4.out 2
  have hf4 := frozen_of HT4.out 4
  have hf5 := frozen_of HT4.out 5
  have hf6 := frozen_of HT4.out 6
  have ho2 := cell_of HO4.out (j := 2) (v := .int .i64 (olen v)) rfl
  rw [hl] at ho2
  have HS := Aside0.mk (And.intro (cell_of (w := w4.drew) HT4.out (j := 0) (v := .slice (some ad) s.length c) rfl) (cell_of (w := w4.drew) HT4.out (j := 2) (v := .int .i32 i) rfl))
  have HV1 := Aside0.mk (V_cut HV4.out HA1.out hC1)
  have hx0 : w4.cell? ad1 = some (.int .u8 b0) := by have h9 := scriptCell HV1.out 0 (by have := HXL.out; omega) HB0.out; rwa [add_zero_] at h9
  have e3 : decide ((xs.length : Int) < 1) = false := decide_eq_false (by have := HXL.out; omega)
  have e4 : decide (xs.length < 1) = false := decide_eq_false (by have := HXL.out; omega)
  have e5 : ¬ xs.length < 1 := by have := HXL.out; omega
  go_wp2
  refine start_ (n := 11) (S := fun w' => w'.cell? ⟨g, 0, none⟩ = some (.slice (some ad) s.length c) ∧ w'.cell? ⟨g, 2, none⟩ = some (.int .i32 i)) (ds := []) #[false, false, false, false, false, false, false, false, false, false, false] (by kernel_rfl) rfl rfl HS.out (fun hHeld => ?_)
  refine pure_ (i := 0) (N := some 110) (v := ?_) (a' := ?_) #[true, false, false, false, false, false, false, false, false, false, false] rfl rfl (by kernel_rfl) (fun _ _ _ h => h) (Or.inl ⟨by rfl, ?_⟩) ?_ ?_
  rotate_left
  · intro w'
    go_simp
    with_reducible rfl
  rotate_left
  · simp only [Act.put, List.setIfInBounds_toArray, List.set_cons_zero, List.set_cons_succ, i64_w, i32_w]
    rfl
  refine pure_ (i := 1) (N := some 111) (v := ?_) (a' := ?_) #[true, true, false, false, false, false, false, false, false, false, false] rfl rfl (by kernel_rfl) (fun _ _ _ h => h) (Or.inl ⟨by rfl, ?_⟩) ?_ ?_
  rotate_left
  · intro w'
    go_simp
    with_reducible rfl
  rotate_left
  · simp only [Act.put, List.setIfInBounds_toArray, List.set_cons_zero, List.set_cons_succ, i64_w, i32_w]
    rfl
  refine pure_ (i := 2) (N := some 112) (v := ?_) (a' := ?_) #[true, true, true, false, false, false, false, false, false, false, false] rfl rfl (by kernel_rfl) (fun _ _ _ h => h) (Or.inl ⟨by rfl, ?_⟩) ?_ ?_
  rotate_left
  · intro w'
    go_simp
    with_reducible rfl
  rotate_left
  · simp only [Act.put, List.setIfInBounds_toArray, List.set_cons_zero, List.set_cons_succ, i64_w, i32_w]
    rfl
  refine take_ (i := 3) (N := some 113) (v := ?_) (a' := ?_) #[true, true, true, true, false, false, false, false, false, false, false] rfl rfl (by kernel_rfl) (fun _ _ _ h => h) (Or.inl ⟨by rfl, ?_⟩) hHeld ?_ ?_
  rotate_left
  · rintro w' ⟨s0, s1⟩
    go_simp
    with_reducible rfl
  rotate_left
  · simp only [Act.put, List.setIfInBounds_toArray, List.set_cons_zero, List.set_cons_succ, i64_w, i32_w]
    rfl
  refine pure_ (i := 4) (N := some 114) (v := ?_) (a' := ?_) #[true, true, true, true, true, false, false, false, false, false, false] rfl rfl (by kernel_rfl) (fun _ _ _ h => h) (Or.inl ⟨by rfl, ?_⟩) ?_ ?_
  rotate_left
  · intro w'
    go_simp
    with_reducible rfl
  rotate_left
  · simp only [Act.put, List.setIfInBounds_toArray, List.set_cons_zero, List.set_cons_succ, i64_w, i32_w]
    rfl
  refine pure_ (i := 5) (N := some 115) (v := ?_) (a' := ?_) #[true, true, true, true, true, true, false, false, false, false, false] rfl rfl (by kernel_rfl) (fun _ _ _ h => h) (Or.inl ⟨by rfl, ?_⟩) ?_ ?_
  rotate_left
  · intro w'
    go_simp
    with_reducible rfl
  rotate_left
  · simp only [Act.put, List.setIfInBounds_toArray, List.set_cons_zero, List.set_cons_succ, i64_w, i32_w]
    rfl
  refine pure_ (i := 6) (N := some 116) (v := ?_) (a' := ?_) #[true, true, true, true, true, true, true, false, false, false, false] rfl rfl (by kernel_rfl) (fun _ _ _ h => h) (Or.inl ⟨by rfl, ?_⟩) ?_ ?_
  rotate_left
  · intro w'
    go_simp
    with_reducible rfl
  rotate_left
  · simp only [Act.put, List.setIfInBounds_toArray, List.set_cons_zero, List.set_cons_succ, i64_w, i32_w]
    rfl
  refine take_ (i := 7) (N := some 117) (v := ?_) (a' := ?_) #[true, true, true, true, true, true, true, true, false, false, false] rfl rfl (by kernel_rfl) (fun _ _ _ h => h) (Or.inl ⟨by rfl, ?_⟩) hHeld ?_ ?_
  rotate_left
  · rintro w' ⟨s0, s1⟩
    go_simp
    with_reducible rfl
  rotate_left
  · simp only [Act.put, List.setIfInBounds_toArray, List.set_cons_zero, List.set_cons_succ, i64_w, i32_w]
    rfl
  refine pure_ (i := 8) (N := some 118) (v := ?_) (a' := ?_) #[true, true, true, true, true, true, true, true, true, false, false] rfl rfl (by kernel_rfl) (fun _ _ _ h => h) (Or.inl ⟨by rfl, ?_⟩) ?_ ?_
  rotate_left
  · intro w'
    go_simp
    with_reducible rfl
  rotate_left
  · simp only [Act.put, List.setIfInBounds_toArray, List.set_cons_zero, List.set_cons_succ, i64_w, i32_w]
    rfl
  refine pure_ (i := 9) (N := some 119) (v := ?_) (a' := ?_) #[true, true, true, true, true, true, true, true, true, true, false] rfl rfl (by kernel_rfl) (fun _ _ _ h => h) (Or.inl ⟨by rfl, ?_⟩) ?_ ?_
  rotate_left
  · intro w'
    unfold execOp
    go_simp
    rfl
  rotate_left
  · simp only [Act.put, List.setIfInBounds_toArray, List.set_cons_zero, List.set_cons_succ, i64_w, i32_w]
    rfl
  refine pure_ (i := 10) (N := some 6) (v := ?_) (a' := ?_) #[true, true, true, true, true, true, true, true, true, true, true] rfl rfl (by kernel_rfl) (fun _ _ _ h => h) (Or.inl ⟨by rfl, ?_⟩) ?_ ?_
  rotate_left
  · intro w'
    go_simp
    with_reducible rfl
  rotate_left
  · simp only [Act.put, List.setIfInBounds_toArray, List.set_cons_zero, List.set_cons_succ, i64_w, i32_w]
    rfl
  refine done_ (by kernel_rfl) ?_
  clear hHeld HS
  have qD : IntKind.i32.wrap b0 = _ := (i32_wrap32 _).trans HD9.out
  have qZ : IntKind.i32.wrap (zs.length : Int) = zs.length := i32w (by omega) (by have := HZL.out; omega)
  go_wp2_with (first
    | (go_at_call 15; refine (errC _ _ _).mono ?_; rintro e w5 ⟨rfl, hb⟩; have HB5 := Aside0.mk hb; have HT5 := Aside0.mk (Tk.below (w := w4.drew) HT4.out hb); clear hb hc6 hf6; have hc6 := cell_of HT5.out (j := 6) (v := .nilIface) rfl; have hf6 := frozen_of HT5.out 6)
    | ((with_reducible refine at_dst (N := 170) rfl ?_); refine wpList_run rfl (.slice A3 zs.length (c - (i + 1) - 1)) (w' := w4.drew) (by unfold execOp; go_simp; rfl) ?_))
  all_goals first
    | (go_ret; exact ⟨rfl, p1, op, data, _, heap_set_same HT5.out _, (HN4.out.drew.trans (Only.of_below HB5.out)).set 6 _⟩)
    | (exfalso; have := HZL.out; omega)

set_option maxRecDepth 100000 in
set_option maxHeartbeats 8000000 in
theorem pushFit1 (g : Nat) (ad : Addr) (s : List Int) (c i : Nat) (pos : Int) (op data : Value) (oks : Nat → Prop) (base : Nat) (w : World)
    (hok : ∀ k, oks k → k ≠ g) (hV : Kd.V (Kd.int .u8) 5 w base oks (.slice (some ad) s.length c) s) (hT : Tk w g (some ad) s.length c i pos op data .nilIface)
    (hn : s.length ≤ 1000000) (hi : i < s.length) (v : Nat) (hv : v < 256) (hsv : s.getD i 0 = v) (hl : olen v = -1) (b0 : Int) (hb0 : s.getD (i + 1 + 0) 0 = b0) (b00 : 0 ≤ b0) (b01 : b0 < 256) (hk : i + 1 + 1 ≤ s.length) (d : Nat) (hD : wrap32 (b0) = (d : Int)) (hfit : i + 1 + 1 + d ≤ s.length) :
    Calls Try.prog 8 #[.pointer (some ⟨g, 0, none⟩)] w fun e w' => e = .returned (.bool true) ∧ ∃ pos' o dv nm ol, Tk w' g (some ad) s.length c ((i + 1 + 1 + d : Nat) : Int) pos' (.pointer (some ⟨o, 0, none⟩)) dv .nilIface ∧ w'.heap[o]? = some (.cells #[.int .u8 v, .string nm, .int .i64 ol] 49 (0, 0)) ∧ w.heap.size ≤ o ∧ Kd.V (Kd.int .u8) 5 w' base oks dv ((s.drop (i + 1 + 1)).take d) ∧ Only g w w' := by
  obtain ⟨i05, hi05, _, hsz5, _⟩ := info_parts info5
  have hc9 := (Kd.V_at hV).2.1
  obtain ⟨A1, hcut1, hA1, hC1⟩ := print_drop_of (P := Try.prog) (Value.int .u8) 0 22 5 .i32 Try.underlying22 hi05 hsz5 (some ad) c s ((i : Int) + 1) (by omega) (by omega) hc9
  rw [show ((i : Int) + 1).toNat = i + 1 by omega] at hcut1 hA1 hC1
  rw [← (tokW32 (x := (i : Int) + 1) (by omega) (by omega))] at hcut1
  obtain ⟨xs, hxs⟩ : ∃ xs, s.drop (i + 1) = xs := ⟨_, rfl⟩
  have hxl : xs.length = s.length - (i + 1) := by rw [← hxs, List.length_drop]
  rw [hxs] at hcut1 hA1 hC1
  have HXL := Aside0.mk hxl
  have HA1 := Aside0.mk hA1
  have HXS := Aside0.mk hxs
  clear hxl hA1 hxs
  have hV1 := V_cut hV HA1.out hC1
  obtain ⟨ad1, e1, _⟩ := Kd.at_int (Kd.F_now (Kd.V_at hV1).2.2) (0 : Int) (by omega) (by have := HXL.out; omega)
  subst e1
  clear hV1
  obtain ⟨A3, hcut3, hA3, hC3⟩ := print_drop_of (P := Try.prog) (Value.int .u8) 0 22 5 .i64 Try.underlying22 hi05 hsz5 (some ad1) (c - (i + 1)) xs 1 (by omega) (by have := HXL.out; omega) hC1
  rw [show ((1 : Int)).toNat = 1 from rfl] at hcut3 hA3 hC3
  obtain ⟨zs, hzs⟩ : ∃ zs, xs.drop 1 = zs := ⟨_, rfl⟩
  have hzl : zs.length = s.length - (i + 1 + 1) := by rw [← hzs, List.length_drop]; have := HXL.out; omega
  rw [hzs] at hcut3 hA3 hC3
  have HZL := Aside0.mk hzl
  have HA3 := Aside0.mk hA3
  have HZS := Aside0.mk hzs
  have HC3 := Aside0.mk hC3
  clear hzl hA3 hzs hC3
  have HB0 := Aside0.mk (show xs.getD 0 0 = b0 by rw [← HXS.out, ← hb0]; simp [List.getD_eq_getElem?_getD, List.getElem?_drop])
  have HD9 := Aside0.mk hD
  clear hD hb0
  obtain ⟨hcut4, hA4, hC4⟩ := print_take_of (P := Try.prog) (Value.int .u8) 0 22 5 .i32 Try.underlying22 hi05 hsz5 A3 (c - (i + 1) - 1) zs (d : Int) (by omega) (by have := HZL.out; omega) HC3.out
  rw [Int.toNat_natCast] at hcut4 hA4 hC4
  obtain ⟨ds, hds⟩ : ∃ ds, zs.take d = ds := ⟨_, rfl⟩
  rw [hds] at hcut4 hA4 hC4
  have HA4 := Aside0.mk hA4
  have HDS := Aside0.mk hds
  have HC4 := Aside0.mk hC4
  clear hA4 hds hC4
  have HD := Aside0.mk (doneC g (some ad) s.length c i pos op data w (by omega) hT)
  rw [show decide ((s.length : Int) ≤ (i : Int)) = false from decide_eq_false (by omega)] at HD
  have HT := Aside0.mk hT
  have HV := Aside0.mk hV
  have HOK := Aside0.mk hok
  have HSV := Aside0.mk hsv
  clear hT hV hsv hok
  go_enter Try.func8, Try.ntmps8
  go_wp2_with (go_at_call 16; refine HD.out.mono ?_; rintro e w1 ⟨rfl, hb⟩; have HB1 := Aside0.mk hb; have HT1 := Aside0.mk (HT.out.below hb); clear hb; have hc3 := cell_of HT1.out (j := 3) (v := .int .i32 pos) rfl; have hf3 := frozen_of HT1.out 3)
  obtain ⟨p1, hp1⟩ : ∃ p1, wrap32 (pos + 1) = p1 := ⟨_, rfl⟩
  obtain ⟨w2, hw2⟩ : ∃ w2, w1.setCell ⟨g, 3, none⟩ (.int .i32 p1) = w2 := ⟨_, rfl⟩
  rw [hp1, hw2]
  have HT2 : Aside0 (Tk w2 g (some ad) s.length c i p1 op data .nilIface) := ⟨by rw [← hw2]; exact heap_set_same HT1.out _⟩
  have HN2 : Aside0 (Only g w w2) := ⟨by rw [← hw2]; exact (Only.of_below HB1.out).set 3 _⟩
  have HG := Aside0.mk (blk_lt' HT.out)
  have HV2 := Aside0.mk (Kd.V_only HV.out HN2.out HOK.out)
  have HS := Aside0.mk (And.intro (cell_of (w := w2.drew) HT2.out (j := 0) (v := .slice (some ad) s.length c) rfl) (And.intro (cell_of (w := w2.drew) HT2.out (j := 2) (v := .int .i32 i) rfl) (show w2.drew.cell? (ad.add i) = some (.int .u8 v) from scriptCell HV2.out i hi HSV.out)))
  clear hc3 hf3 HT1 HB1 hw2 hp1
  refine start_ (n := 12) (S := fun w' => w'.cell? ⟨g, 0, none⟩ = some (.slice (some ad) s.length c) ∧ w'.cell? ⟨g, 2, none⟩ = some (.int .i32 i) ∧ w'.cell? (ad.add i) = some (.int .u8 v)) (ds := []) #[false, false, false, false, false, false, false, false, false, false, false, false] (by kernel_rfl) rfl rfl HS.out (fun hHeld => ?_)
  refine pure_ (i := 0) (N := some 20) (v := ?_) (a' := ?_) #[true, false, false, false, false, false, false, false, false, false, false, false] rfl rfl (by kernel_rfl) (fun _ _ _ h => h) (Or.inl ⟨by rfl, ?_⟩) ?_ ?_
  rotate_left
  · intro w'
    go_simp
    with_reducible rfl
  rotate_left
  · simp only [Act.put, List.setIfInBounds_toArray, List.set_cons_zero, List.set_cons_succ, i64_w, i32_w]
    rfl
  refine pure_ (i := 1) (N := some 21) (v := ?_) (a' := ?_) #[true, true, false, false, false, false, false, false, false, false, false, false] rfl rfl (by kernel_rfl) (fun _ _ _ h => h) (Or.inl ⟨by rfl, ?_⟩) ?_ ?_
  rotate_left
  · intro w'
    go_simp
    with_reducible rfl
  rotate_left
  · simp only [Act.put, List.setIfInBounds_toArray, List.set_cons_zero, List.set_cons_succ, i64_w, i32_w]
    rfl
  refine pure_ (i := 2) (N := some 22) (v := ?_) (a' := ?_) #[true, true, true, false, false, false, false, false, false, false, false, false] rfl rfl (by kernel_rfl) (fun _ _ _ h => h) (Or.inl ⟨by rfl, ?_⟩) ?_ ?_
  rotate_left
  · intro w'
    go_simp
    with_reducible rfl
  rotate_left
  · simp only [Act.put, List.setIfInBounds_toArray, List.set_cons_zero, List.set_cons_succ, i64_w, i32_w]
    rfl
  refine take_ (i := 3) (N := some 23) (v := ?_) (a' := ?_) #[true, true, true, true, false, false, false, false, false, false, false, false] rfl rfl (by kernel_rfl) (fun _ _ _ h => h) (Or.inl ⟨by rfl, ?_⟩) hHeld ?_ ?_
  rotate_left
  · rintro w' ⟨s0, s1, s2⟩
    go_simp
    with_reducible rfl
  rotate_left
  · simp only [Act.put, List.setIfInBounds_toArray, List.set_cons_zero, List.set_cons_succ, i64_w, i32_w]
    rfl
  refine pure_ (i := 4) (N := some 24) (v := ?_) (a' := ?_) #[true, true, true, true, true, false, false, false, false, false, false, false] rfl rfl (by kernel_rfl) (fun _ _ _ h => h) (Or.inl ⟨by rfl, ?_⟩) ?_ ?_
  rotate_left
  · intro w'
    go_simp
    with_reducible rfl
  rotate_left
  · simp only [Act.put, List.setIfInBounds_toArray, List.set_cons_zero, List.set_cons_succ, i64_w, i32_w]
    rfl
  refine pure_ (i := 5) (N := some 25) (v := ?_) (a' := ?_) #[true, true, true, true, true, true, false, false, false, false, false, false] rfl rfl (by kernel_rfl) (fun _ _ _ h => h) (Or.inl ⟨by rfl, ?_⟩) ?_ ?_
  rotate_left
  · intro w'
    go_simp
    with_reducible rfl
  rotate_left
  · simp only [Act.put, List.setIfInBounds_toArray, List.set_cons_zero, List.set_cons_succ, i64_w, i32_w]
    rfl
  refine pure_ (i := 6) (N := some 26) (v := ?_) (a' := ?_) #[true, true, true, true, true, true, true, false, false, false, false, false] rfl rfl (by kernel_rfl) (fun _ _ _ h => h) (Or.inl ⟨by rfl, ?_⟩) ?_ ?_
  rotate_left
  · intro w'
    go_simp
    with_reducible rfl
  rotate_left
  · simp only [Act.put, List.setIfInBounds_toArray, List.set_cons_zero, List.set_cons_succ, i64_w, i32_w]
    rfl
  refine take_ (i := 7) (N := some 27) (v := ?_) (a' := ?_) #[true, true, true, true, true, true, true, true, false, false, false, false] rfl rfl (by kernel_rfl) (fun _ _ _ h => h) (Or.inl ⟨by rfl, ?_⟩) hHeld ?_ ?_
  rotate_left
  · rintro w' ⟨s0, s1, s2⟩
    go_simp
    with_reducible rfl
  rotate_left
  · simp only [Act.put, List.setIfInBounds_toArray, List.set_cons_zero, List.set_cons_succ, i64_w, i32_w]
    rfl
  refine pure_ (i := 8) (N := some 28) (v := ?_) (a' := ?_) #[true, true, true, true, true, true, true, true, true, false, false, false] rfl rfl (by kernel_rfl) (fun _ _ _ h => h) (Or.inl ⟨by rfl, ?_⟩) ?_ ?_
  rotate_left
  · intro w'
    go_simp
    with_reducible rfl
  rotate_left
  · simp only [Act.put, List.setIfInBounds_toArray, List.set_cons_zero, List.set_cons_succ, i64_w, i32_w]
    rfl
  refine take_ (i := 9) (N := some 29) (v := ?_) (a' := ?_) #[true, true, true, true, true, true, true, true, true, true, false, false] rfl rfl (by kernel_rfl) (fun _ _ _ h => h) (Or.inl ⟨by rfl, ?_⟩) hHeld ?_ ?_
  rotate_left
  · rintro w' ⟨s0, s1, s2⟩
    go_simp
    with_reducible rfl
  rotate_left
  · simp only [Act.put, List.setIfInBounds_toArray, List.set_cons_zero, List.set_cons_succ, i64_w, i32_w]
    rfl
  refine one_ (i := 10) (N := some 30) #[true, true, true, true, true, true, true, true, true, true, true, false] rfl rfl (by kernel_rfl) (by decide) (fun K hK => ?_)
  refine goes_ Try.func17 (by kernel_rfl) rfl #[.int .u8 v] (by rfl) rfl rfl (by (try simp only [List.map_toArray, List.map_cons, List.map_nil]); first | done | rfl | (simp only [List.length_drop, List.length_take]; rfl)) ?_
  with_reducible refine (opcodeC v hv _).mono ?_
  rintro e w4 ⟨rfl, nm, hw4⟩
  refine ⟨_, rfl, ?_⟩
  have HN4 : Aside0 (Only g w w4) := ⟨by rw [hw4]; exact HN2.out.drew.alloc _⟩
  have HT4 : Aside0 (Tk w4 g (some ad) s.length c i p1 op data .nilIface) := ⟨by rw [hw4]; exact heap_alloc_lt (w := w2.drew) HT2.out _⟩
  have HO4 : Aside0 (w4.heap[w2.heap.size]? = some (.cells #[.int .u8 v, .string nm, .int .i64 (olen v)] 49 (0, 0))) := ⟨by rw [hw4]; exact heap_alloc_new w2.drew _⟩
  have HV4 : Aside0 (Kd.V (Kd.int .u8) 5 w4 base oks (.slice (some ad) s.length c) s) := ⟨by rw [hw4]; exact Kd.V_alloc (Kd.V_drew HV2.out) _⟩
  rw [show (w2.drew).heap.size = w2.heap.size from rfl]
  have HG2 := Aside0.mk HN2.out.size
  obtain ⟨o, ho⟩ : ∃ o, w2.heap.size = o := ⟨_, rfl⟩
  rw [ho] at HO4 HG2 ⊢
  clear hw4 HT2 HV2 ho HN2
  refine hK.out _ _ ⟨cell_of HT4.out (j := 0) (v := .slice (some ad) s.length c) rfl, cell_of HT4.out (j := 2) (v := .int .i32 i) rfl, scriptCell HV4.out i hi HSV.out⟩ (fun hHeld => ?_)
  clear hK K
  refine norm_ (a' := ?_) ?_ ?_
  rotate_left
  · show Act.put _ (some 30) _ = _
    simp only [Act.put, List.setIfInBounds_toArray, List.set_cons_zero, List.set_cons_succ, i64_w, i32_w]
    rfl
  refine pure_ (i := 11) (N := some 3) (v := ?_) (a' := ?_) #[true, true, true, true, true, true, true, true, true, true, true, true] rfl rfl (by kernel_rfl) (fun _ _ _ h => h) (Or.inl ⟨by rfl, ?_⟩) ?_ ?_
  rotate_left
  · intro w'
    go_simp
    with_reducible rfl
  rotate_left
  · simp only [Act.put, List.setIfInBounds_toArray, List.set_cons_zero, List.set_cons_succ, i64_w, i32_w]
    rfl
  refine done_ (by kernel_rfl) ?_
  clear hHeld HS
  have hc0 := cell_of HT4.out (j := 0) (v := .slice (some ad) s.length c) rfl
  have hc2 := cell_of HT4.out (j := 2) (v := .int .i32 i) rfl
  have hc4 := cell_of HT4.out (j := 4) (v := op) rfl
  have hc5 := cell_of HT4.out (j := 5) (v := data) rfl
  have hc6 := cell_of HT4.out (j := 6) (v := .nilIface) rfl
  have hf2 := frozen_of HT4.out 2
  have hf4 := frozen_of HT4.out 4
  have hf5 := frozen_of HT4.out 5
  have hf6 := frozen_of HT4.out 6
  have ho2 := cell_of HO4.out (j := 2) (v := .int .i64 (olen v)) rfl
  rw [hl] at ho2
  have HS := Aside0.mk (And.intro (cell_of (w := w4.drew) HT4.out (j := 0) (v := .slice (some ad) s.length c) rfl) (cell_of (w := w4.drew) HT4.out (j := 2) (v := .int .i32 i) rfl))
  have HV1 := Aside0.mk (V_cut HV4.out HA1.out hC1)
  have hx0 : w4.cell? ad1 = some (.int .u8 b0) := by have h9 := scriptCell HV1.out 0 (by have := HXL.out; omega) HB0.out; rwa [add_zero_] at h9
  have e3 : decide ((xs.length : Int) < 1) = false := decide_eq_false (by have := HXL.out; omega)
  have e4 : decide (xs.length < 1) = false := decide_eq_false (by have := HXL.out; omega)
  have e5 : ¬ xs.length < 1 := by have := HXL.out; omega
  go_wp2
  refine start_ (n := 11) (S := fun w' => w'.cell? ⟨g, 0, none⟩ = some (.slice (some ad) s.length c) ∧ w'.cell? ⟨g, 2, none⟩ = some (.int .i32 i)) (ds := []) #[false, false, false, false, false, false, false, false, false, false, false] (by kernel_rfl) rfl rfl HS.out (fun hHeld => ?_)
  refine pure_ (i := 0) (N := some 110) (v := ?_) (a' := ?_) #[true, false, false, false, false, false, false, false, false, false, false] rfl rfl (by kernel_rfl) (fun _ _ _ h => h) (Or.inl ⟨by rfl, ?_⟩) ?_ ?_
  rotate_left
  · intro w'
    go_simp
    with_reducible rfl
  rotate_left
  · simp only [Act.put, List.setIfInBounds_toArray, List.set_cons_zero, List.set_cons_succ, i64_w, i32_w]
    rfl
  refine pure_ (i := 1) (N := some 111) (v := ?_) (a' := ?_) #[true, true, false, false, false, false, false, false, false, false, false] rfl rfl (by kernel_rfl) (fun _ _ _ h => h) (Or.inl ⟨by rfl, ?_⟩) ?_ ?_
  rotate_left
  · intro w'
    go_simp
    with_reducible rfl
  rotate_left
  · simp only [Act.put, List.setIfInBounds_toArray, List.set_cons_zero, List.set_cons_succ, i64_w, i32_w]
    rfl
  refine pure_ (i := 2) (N := some 112) (v := ?_) (a' := ?_) #[true, true, true, false, false, false, false, false, false, false, false] rfl rfl (by kernel_rfl) (fun _ _ _ h => h) (Or.inl ⟨by rfl, ?_⟩) ?_ ?_
  rotate_left
  · intro w'
    go_simp
    with_reducible rfl
  rotate_left
  · simp only [Act.put, List.setIfInBounds_toArray, List.set_cons_zero, List.set_cons_succ, i64_w, i32_w]
    rfl
  refine take_ (i := 3) (N := some 113) (v := ?_) (a' := ?_) #[true, true, true, true, false, false, false, false, false, false, false] rfl rfl (by kernel_rfl) (fun _ _ _ h => h) (Or.inl ⟨by rfl, ?_⟩) hHeld ?_ ?_
  rotate_left
  · rintro w' ⟨s0, s1⟩
    go_simp
    with_reducible rfl
  rotate_left
  · simp only [Act.put, List.setIfInBounds_toArray, List.set_cons_zero, List.set_cons_succ, i64_w, i32_w]
    rfl
  refine pure_ (i := 4) (N := some 114) (v := ?_) (a' := ?_) #[true, true, true, true, true, false, false, false, false, false, false] rfl rfl (by kernel_rfl) (fun _ _ _ h => h) (Or.inl ⟨by rfl, ?_⟩) ?_ ?_
  rotate_left
  · intro w'
    go_simp
    with_reducible rfl
  rotate_left
  · simp only [Act.put, List.setIfInBounds_toArray, List.set_cons_zero, List.set_cons_succ, i64_w, i32_w]
    rfl
  refine pure_ (i := 5) (N := some 115) (v := ?_) (a' := ?_) #[true, true, true, true, true, true, false, false, false, false, false] rfl rfl (by kernel_rfl) (fun _ _ _ h => h) (Or.inl ⟨by rfl, ?_⟩) ?_ ?_
  rotate_left
  · intro w'
    go_simp
    with_reducible rfl
  rotate_left
  · simp only [Act.put, List.setIfInBounds_toArray, List.set_cons_zero, List.set_cons_succ, i64_w, i32_w]
    rfl
  refine pure_ (i := 6) (N := some 116) (v := ?_) (a' := ?_) #[true, true, true, true, true, true, true, false, false, false, false] rfl rfl (by kernel_rfl) (fun _ _ _ h => h) (Or.inl ⟨by rfl, ?_⟩) ?_ ?_
  rotate_left
  · intro w'
    go_simp
    with_reducible rfl
  rotate_left
  · simp only [Act.put, List.setIfInBounds_toArray, List.set_cons_zero, List.set_cons_succ, i64_w, i32_w]
    rfl
  refine take_ (i := 7) (N := some 117) (v := ?_) (a' := ?_) #[true, true, true, true, true, true, true, true, false, false, false] rfl rfl (by kernel_rfl) (fun _ _ _ h => h) (Or.inl ⟨by rfl, ?_⟩) hHeld ?_ ?_
  rotate_left
  · rintro w' ⟨s0, s1⟩
    go_simp
    with_reducible rfl
  rotate_left
  · simp only [Act.put, List.setIfInBounds_toArray, List.set_cons_zero, List.set_cons_succ, i64_w, i32_w]
    rfl
  refine pure_ (i := 8) (N := some 118) (v := ?_) (a' := ?_) #[true, true, true, true, true, true, true, true, true, false, false] rfl rfl (by kernel_rfl) (fun _ _ _ h => h) (Or.inl ⟨by rfl, ?_⟩) ?_ ?_
  rotate_left
  · intro w'
    go_simp
    with_reducible rfl
  rotate_left
  · simp only [Act.put, List.setIfInBounds_toArray, List.set_cons_zero, List.set_cons_succ, i64_w, i32_w]
    rfl
  refine pure_ (i := 9) (N := some 119) (v := ?_) (a' := ?_) #[true, true, true, true, true, true, true, true, true, true, false] rfl rfl (by kernel_rfl) (fun _ _ _ h => h) (Or.inl ⟨by rfl, ?_⟩) ?_ ?_
  rotate_left
  · intro w'
    unfold execOp
    go_simp
    rfl
  rotate_left
  · simp only [Act.put, List.setIfInBounds_toArray, List.set_cons_zero, List.set_cons_succ, i64_w, i32_w]
    rfl
  refine pure_ (i := 10) (N := some 6) (v := ?_) (a' := ?_) #[true, true, true, true, true, true, true, true, true, true, true] rfl rfl (by kernel_rfl) (fun _ _ _ h => h) (Or.inl ⟨by rfl, ?_⟩) ?_ ?_
  rotate_left
  · intro w'
    go_simp
    with_reducible rfl
  rotate_left
  · simp only [Act.put, List.setIfInBounds_toArray, List.set_cons_zero, List.set_cons_succ, i64_w, i32_w]
    rfl
  refine done_ (by kernel_rfl) ?_
  clear hHeld HS
  have qD : IntKind.i32.wrap b0 = _ := (i32_wrap32 _).trans HD9.out
  have qZ : IntKind.i32.wrap (zs.length : Int) = zs.length := i32w (by omega) (by have := HZL.out; omega)
  have c1 : decide ((zs.length : Int) < (d : Int)) = false := decide_eq_false (by have := HZL.out; omega)
  have c2 : decide ((d : Int) < 0) = false := decide_eq_false (by omega)
  have c3 : decide (zs.length < d) = false := decide_eq_false (by have := HZL.out; omega)
  have c4 : d ≤ zs.length := by have := HZL.out; omega
  have HS2 := Aside0.mk (And.intro (cell_of (w := w4.drew.drew) HT4.out (j := 2) (v := .int .i32 i) rfl) (show w4.drew.drew.cell? ⟨o, 2, none⟩ = some (.int .i64 (-1)) from ho2))
  have hog : o ≠ g := by have := HG.out; have := HG2.out; omega
  go_wp2_with ((with_reducible refine at_dst (N := 170) rfl ?_); refine wpList_run rfl (.slice A3 zs.length (c - (i + 1) - 1)) (w' := w4.drew) (by unfold execOp; go_simp; rfl) ?_)
  clear qD qZ
  refine start_ (n := 17) (S := fun w' => w'.cell? ⟨g, 2, none⟩ = some (.int .i32 i) ∧ w'.cell? ⟨o, 2, none⟩ = some (.int .i64 (-1))) (ds := [16]) #[false, false, false, false, false, false, false, false, false, false, false, false, false, false, false, false, false] (by kernel_rfl) rfl rfl HS2.out (fun hHeld => ?_)
  refine pure_ (i := 0) (N := some 186) (v := ?_) (a' := ?_) #[true, false, false, false, false, false, false, false, false, false, false, false, false, false, false, false, false] rfl rfl (by kernel_rfl) (fun _ _ _ h => h) (Or.inl ⟨by rfl, ?_⟩) ?_ ?_
  rotate_left
  · intro w'
    go_simp
    with_reducible rfl
  rotate_left
  · simp only [Act.put, List.setIfInBounds_toArray, List.set_cons_zero, List.set_cons_succ, i64_w, i32_w]
    rfl
  refine pure_ (i := 1) (N := some 187) (v := ?_) (a' := ?_) #[true, true, false, false, false, false, false, false, false, false, false, false, false, false, false, false, false] rfl rfl (by kernel_rfl) (fun _ _ _ h => h) (Or.inl ⟨by rfl, ?_⟩) ?_ ?_
  rotate_left
  · intro w'
    go_simp
    with_reducible rfl
  rotate_left
  · simp only [Act.put, List.setIfInBounds_toArray, List.set_cons_zero, List.set_cons_succ, i64_w, i32_w]
    rfl
  refine pure_ (i := 2) (N := some 188) (v := ?_) (a' := ?_) #[true, true, true, false, false, false, false, false, false, false, false, false, false, false, false, false, false] rfl rfl (by kernel_rfl) (fun _ _ _ h => h) (Or.inl ⟨by rfl, ?_⟩) ?_ ?_
  rotate_left
  · intro w'
    go_simp
    with_reducible rfl
  rotate_left
  · simp only [Act.put, List.setIfInBounds_toArray, List.set_cons_zero, List.set_cons_succ, i64_w, i32_w]
    rfl
  refine take_ (i := 3) (N := some 189) (v := ?_) (a' := ?_) #[true, true, true, true, false, false, false, false, false, false, false, false, false, false, false, false, false] rfl rfl (by kernel_rfl) (fun _ _ _ h => h) (Or.inl ⟨by rfl, ?_⟩) hHeld ?_ ?_
  rotate_left
  · rintro w' ⟨s0, s1⟩
    go_simp
    with_reducible rfl
  rotate_left
  · simp only [Act.put, List.setIfInBounds_toArray, List.set_cons_zero, List.set_cons_succ, i64_w, i32_w]
    rfl
  refine pure_ (i := 4) (N := some 190) (v := ?_) (a' := ?_) #[true, true, true, true, true, false, false, false, false, false, false, false, false, false, false, false, false] rfl rfl (by kernel_rfl) (fun _ _ _ h => h) (Or.inl ⟨by rfl, ?_⟩) ?_ ?_
  rotate_left
  · intro w'
    go_simp
    with_reducible rfl
  rotate_left
  · simp only [Act.put, List.setIfInBounds_toArray, List.set_cons_zero, List.set_cons_succ, i64_w, i32_w]
    rfl
  refine pure_ (i := 5) (N := some 191) (v := ?_) (a' := ?_) #[true, true, true, true, true, true, false, false, false, false, false, false, false, false, false, false, false] rfl rfl (by kernel_rfl) (fun _ _ _ h => h) (Or.inl ⟨by rfl, ?_⟩) ?_ ?_
  rotate_left
  · intro w'
    go_simp
    with_reducible rfl
  rotate_left
  · simp only [Act.put, List.setIfInBounds_toArray, List.set_cons_zero, List.set_cons_succ, i64_w, i32_w]
    rfl
  refine pure_ (i := 6) (N := some 192) (v := ?_) (a' := ?_) #[true, true, true, true, true, true, true, false, false, false, false, false, false, false, false, false, false] rfl rfl (by kernel_rfl) (fun _ _ _ h => h) (Or.inl ⟨by rfl, ?_⟩) ?_ ?_
  rotate_left
  · intro w'
    go_simp
    with_reducible rfl
  rotate_left
  · simp only [Act.put, List.setIfInBounds_toArray, List.set_cons_zero, List.set_cons_succ, i64_w, i32_w]
    rfl
  refine take_ (i := 7) (N := some 193) (v := ?_) (a' := ?_) #[true, true, true, true, true, true, true, true, false, false, false, false, false, false, false, false, false] rfl rfl (by kernel_rfl) (fun _ _ _ h => h) (Or.inl ⟨by rfl, ?_⟩) hHeld ?_ ?_
  rotate_left
  · rintro w' ⟨s0, s1⟩
    go_simp
    with_reducible rfl
  rotate_left
  · simp only [Act.put, List.setIfInBounds_toArray, List.set_cons_zero, List.set_cons_succ, i64_w, i32_w]
    rfl
  refine pure_ (i := 8) (N := some 194) (v := ?_) (a' := ?_) #[true, true, true, true, true, true, true, true, true, false, false, false, false, false, false, false, false] rfl rfl (by kernel_rfl) (fun _ _ _ h => h) (Or.inl ⟨by rfl, ?_⟩) ?_ ?_
  rotate_left
  · intro w'
    go_simp
    with_reducible rfl
  rotate_left
  · simp only [Act.put, List.setIfInBounds_toArray, List.set_cons_zero, List.set_cons_succ, i64_w, i32_w]
    rfl
  refine pure_ (i := 9) (N := some 195) (v := ?_) (a' := ?_) #[true, true, true, true, true, true, true, true, true, true, false, false, false, false, false, false, false] rfl rfl (by kernel_rfl) (fun _ _ _ h => h) (Or.inl ⟨by rfl, ?_⟩) ?_ ?_
  rotate_left
  · intro w'
    go_simp
    with_reducible rfl
  rotate_left
  · simp only [Act.put, List.setIfInBounds_toArray, List.set_cons_zero, List.set_cons_succ, i64_w, i32_w]
    rfl
  refine pure_ (i := 10) (N := some 196) (v := ?_) (a' := ?_) #[true, true, true, true, true, true, true, true, true, true, true, false, false, false, false, false, false] rfl rfl (by kernel_rfl) (fun _ _ _ h => h) (Or.inl ⟨by rfl, ?_⟩) ?_ ?_
  rotate_left
  · intro w'
    go_simp
    with_reducible rfl
  rotate_left
  · simp only [Act.put, List.setIfInBounds_toArray, List.set_cons_zero, List.set_cons_succ, i64_w, i32_w]
    rfl
  refine pure_ (i := 11) (N := some 197) (v := ?_) (a' := ?_) #[true, true, true, true, true, true, true, true, true, true, true, true, false, false, false, false, false] rfl rfl (by kernel_rfl) (fun _ _ _ h => h) (Or.inl ⟨by rfl, ?_⟩) ?_ ?_
  rotate_left
  · intro w'
    go_simp
    with_reducible rfl
  rotate_left
  · simp only [Act.put, List.setIfInBounds_toArray, List.set_cons_zero, List.set_cons_succ, i64_w, i32_w]
    rfl
  refine pure_ (i := 12) (N := some 198) (v := ?_) (a' := ?_) #[true, true, true, true, true, true, true, true, true, true, true, true, true, false, false, false, false] rfl rfl (by kernel_rfl) (fun _ _ _ h => h) (Or.inl ⟨by rfl, ?_⟩) ?_ ?_
  rotate_left
  · intro w'
    go_simp
    with_reducible rfl
  rotate_left
  · simp only [Act.put, List.setIfInBounds_toArray, List.set_cons_zero, List.set_cons_succ, i64_w, i32_w]
    rfl
  refine pure_ (i := 13) (N := some 199) (v := ?_) (a' := ?_) #[true, true, true, true, true, true, true, true, true, true, true, true, true, true, false, false, false] rfl rfl (by kernel_rfl) (fun _ _ _ h => h) (Or.inl ⟨by rfl, ?_⟩) ?_ ?_
  rotate_left
  · intro w'
    go_simp
    with_reducible rfl
  rotate_left
  · simp only [Act.put, List.setIfInBounds_toArray, List.set_cons_zero, List.set_cons_succ, i64_w, i32_w]
    rfl
  refine pure_ (i := 14) (N := some 200) (v := ?_) (a' := ?_) #[true, true, true, true, true, true, true, true, true, true, true, true, true, true, true, false, false] rfl rfl (by kernel_rfl) (fun _ _ _ h => h) (Or.inl ⟨by rfl, ?_⟩) ?_ ?_
  rotate_left
  · intro w'
    go_simp
    with_reducible rfl
  rotate_left
  · simp only [Act.put, List.setIfInBounds_toArray, List.set_cons_zero, List.set_cons_succ, i64_w, i32_w]
    rfl
  refine pure_ (i := 15) (N := some 201) (v := ?_) (a' := ?_) #[true, true, true, true, true, true, true, true, true, true, true, true, true, true, true, true, false] rfl rfl (by kernel_rfl) (fun _ _ _ h => h) (Or.inl ⟨by rfl, ?_⟩) ?_ ?_
  rotate_left
  · intro w'
    go_simp
    with_reducible rfl
  rotate_left
  · simp only [Act.put, List.setIfInBounds_toArray, List.set_cons_zero, List.set_cons_succ, i64_w, i32_w]
    rfl
  refine last_ (i := 16) (N := none) #[true, true, true, true, true, true, true, true, true, true, true, true, true, true, true, true, true] rfl rfl (by kernel_rfl) (by decide) (fun K hK => ?_)
  have hc2 := cell_of HT4.out (j := 2) (v := .int .i32 i) rfl
  have hf2 := frozen_of HT4.out 2
  refine skip_ (w1 := ?_) (by rfl) rfl ?_ ?_
  rotate_left
  · go_simp
    rfl
  refine hK.out _ _ ?_
  clear hK K
  refine norm_ (a' := ?_) ?_ ?_
  rotate_left
  · rfl
  refine done_ (by kernel_rfl) ?_
  clear hHeld HS2
  clear hc4 hf4 hc5 hf5 hc0 hc2 hf2 hc6 hf6
  rw [wrapPush1 i d (by omega)]
  obtain ⟨w6, hw6⟩ : ∃ w6, (w4.setCell ⟨g, 2, none⟩ (.int .i32 ((i + 1 + 1 + d : Nat) : Int))).drew.drew = w6 := ⟨_, rfl⟩
  rw [hw6]
  have HT6 : Aside0 (Tk w6 g (some ad) s.length c ((i + 1 + 1 + d : Nat) : Int) p1 op data .nilIface) := ⟨by rw [← hw6]; exact heap_set_same (w := w4) HT4.out _⟩
  have HO6 : Aside0 (w6.heap[o]? = some (.cells #[.int .u8 v, .string nm, .int .i64 (olen v)] 49 (0, 0))) := ⟨by rw [← hw6]; exact (Below.heap_setCell w4 ⟨g, 2, none⟩ _ o hog).trans HO4.out⟩
  have HN6 : Aside0 (Only g w w6) := ⟨by rw [← hw6]; exact (HN4.out.set 2 _).drew.drew⟩
  have HV6 : Aside0 (Kd.V (Kd.int .u8) 5 w6 base oks (.slice (some ad) s.length c) s) := ⟨by rw [← hw6]; exact Kd.V_drew (Kd.V_drew (Kd.V_far HV4.out (p := ⟨g, 2, none⟩) HOK.out _))⟩
  clear hw6 HT4 HO4 HN4 HV4 ho2 HV1
  have hc4 := cell_of HT6.out (j := 4) (v := op) rfl
  have hf4 := frozen_of HT6.out 4
  have hc5 := cell_of (heap_set_same HT6.out (j := 4) (.pointer (some ⟨o, 0, none⟩))) (j := 5) (v := data) rfl
  have hf5 := frozen_of (heap_set_same HT6.out (j := 4) (.pointer (some ⟨o, 0, none⟩))) 5
  go_wp2_with ((with_reducible refine at_dst (N := 209) rfl ?_); refine wpList_run rfl (.slice A3 ds.length (c - (i + 1) - 1)) (w' := w6.setCell ⟨g, 4, none⟩ (.pointer (some ⟨o, 0, none⟩))) (by unfold execOp; go_simp; rfl) ?_)
  go_ret
  have ho : Only g w ((w6.setCell ⟨g, 4, none⟩ (.pointer (some ⟨o, 0, none⟩))).setCell ⟨g, 5, none⟩ (.slice A3 ds.length (c - (i + 1) - 1))) := (HN6.out.set 4 _).set 5 _
  refine ⟨rfl, p1, o, _, nm, olen v, heap_set_same (heap_set_same HT6.out _) _, ?_, HG2.out, ?_, ho⟩
  · rw [Below.heap_setCell _ _ _ _ hog, Below.heap_setCell _ _ _ _ hog]
    exact HO6.out
  · have e : (s.drop (i + 1 + 1)).take d = ds := by rw [← HDS.out, ← HZS.out, ← HXS.out, List.drop_drop]
    rw [e]
    have hv5 := V_cut (V_cut (V_cut HV6.out HA1.out hC1) HA3.out HC3.out) HA4.out HC4.out
    exact Kd.V_far (Kd.V_far hv5 HOK.out _) HOK.out _

set_option maxRecDepth 100000 in
set_option maxHeartbeats 8000000 in
theorem pushBad2 (g : Nat) (ad : Addr) (s : List Int) (c i : Nat) (pos : Int) (op data : Value) (oks : Nat → Prop) (base : Nat) (w : World)
    (hok : ∀ k, oks k → k ≠ g) (hV : Kd.V (Kd.int .u8) 5 w base oks (.slice (some ad) s.length c) s) (hT : Tk w g (some ad) s.length c i pos op data .nilIface)
    (hn : s.length ≤ 1000000) (hi : i < s.length) (v : Nat) (hv : v < 256) (hsv : s.getD i 0 = v) (hl : olen v = -2) (b0 : Int) (hb0 : s.getD (i + 1 + 0) 0 = b0) (b00 : 0 ≤ b0) (b01 : b0 < 256) (b1 : Int) (hb1 : s.getD (i + 1 + 1) 0 = b1) (b10 : 0 ≤ b1) (b11 : b1 < 256) (hk : i + 1 + 2 ≤ s.length) (D : Int) (hD : wrap32 (b0 + b1 * 256) = D) (hbad : (s.length : Int) - (i + 1 + 2) < D ∨ D < 0) :
    Calls Try.prog 8 #[.pointer (some ⟨g, 0, none⟩)] w fun e w' => e = .returned (.bool false) ∧ ∃ pos' op' data' str, Tk w' g (some ad) s.length c i pos' op' data' (.iface 44 (.agg #[.int .i64 27, .string str])) ∧ Only g w w' := by
  obtain ⟨i05, hi05, _, hsz5, _⟩ := info_parts info5
  have hc9 := (Kd.V_at hV).2.1
  obtain ⟨A1, hcut1, hA1, hC1⟩ := print_drop_of (P := Try.prog) (Value.int .u8) 0 22 5 .i32 Try.underlying22 hi05 hsz5 (some ad) c s ((i : Int) + 1) (by omega) (by omega) hc9
  rw [show ((i : Int) + 1).toNat = i + 1 by omega] at hcut1 hA1 hC1
  rw [← (tokW32 (x := (i : Int) + 1) (by omega) (by omega))] at hcut1
  obtain ⟨xs, hxs⟩ : ∃ xs, s.drop (i + 1) = xs := ⟨_, rfl⟩
  have hxl : xs.length = s.length - (i + 1) := by rw [← hxs, List.length_drop]
  rw [hxs] at hcut1 hA1 hC1
  have HXL := Aside0.mk hxl
  have HA1 := Aside0.mk hA1
  have HXS := Aside0.mk hxs
  clear hxl hA1 hxs
  have hV1 := V_cut hV HA1.out hC1
  obtain ⟨ad1, e1, _⟩ := Kd.at_int (Kd.F_now (Kd.V_at hV1).2.2) (0 : Int) (by omega) (by have := HXL.out; omega)
  subst e1
  clear hV1
  obtain ⟨hcut2, _, hC2⟩ := print_take_of (P := Try.prog) (Value.int .u8) 0 22 5 .i64 Try.underlying22 hi05 hsz5 (some ad1) (c - (i + 1)) xs 2 (by omega) (by have := HXL.out; omega) hC1
  rw [show ((2 : Int)).toNat = 2 from rfl, show (xs.take 2).length = 2 by rw [List.length_take]; have := HXL.out; omega] at hcut2
  clear hC2
  obtain ⟨A3, hcut3, hA3, hC3⟩ := print_drop_of (P := Try.prog) (Value.int .u8) 0 22 5 .i64 Try.underlying22 hi05 hsz5 (some ad1) (c - (i + 1)) xs 2 (by omega) (by have := HXL.out; omega) hC1
  rw [show ((2 : Int)).toNat = 2 from rfl] at hcut3 hA3 hC3
  obtain ⟨zs, hzs⟩ : ∃ zs, xs.drop 2 = zs := ⟨_, rfl⟩
  have hzl : zs.length = s.length - (i + 1 + 2) := by rw [← hzs, List.length_drop]; have := HXL.out; omega
  rw [hzs] at hcut3 hA3 hC3
  have HZL := Aside0.mk hzl
  have HA3 := Aside0.mk hA3
  have HZS := Aside0.mk hzs
  have HC3 := Aside0.mk hC3
  clear hzl hA3 hzs hC3
  have HB0 := Aside0.mk (show xs.getD 0 0 = b0 by rw [← HXS.out, ← hb0]; simp [List.getD_eq_getElem?_getD, List.getElem?_drop])
  have HB1 := Aside0.mk (show xs.getD 1 0 = b1 by rw [← HXS.out, ← hb1]; simp [List.getD_eq_getElem?_getD, List.getElem?_drop])
  have HD9 := Aside0.mk hD
  clear hD hb0 hb1
  have HD := Aside0.mk (doneC g (some ad) s.length c i pos op data w (by omega) hT)
  rw [show decide ((s.length : Int) ≤ (i : Int)) = false from decide_eq_false (by omega)] at HD
  have HT := Aside0.mk hT
  have HV := Aside0.mk hV
  have HOK := Aside0.mk hok
  have HSV := Aside0.mk hsv
  clear hT hV hsv hok
  go_enter Try.func8, Try.ntmps8
  go_wp2_with (go_at_call 16; refine HD.out.mono ?_; rintro e w1 ⟨rfl, hb⟩; have HB1 := Aside0.mk hb; have HT1 := Aside0.mk (HT.out.below hb); clear hb; have hc3 := cell_of HT1.out (j := 3) (v := .int .i32 pos) rfl; have hf3 := frozen_of HT1.out 3)
  obtain ⟨p1, hp1⟩ : ∃ p1, wrap32 (pos + 1) = p1 := ⟨_, rfl⟩
  obtain ⟨w2, hw2⟩ : ∃ w2, w1.setCell ⟨g, 3, none⟩ (.int .i32 p1) = w2 := ⟨_, rfl⟩
  rw [hp1, hw2]
  have HT2 : Aside0 (Tk w2 g (some ad) s.length c i p1 op data .nilIface) := ⟨by rw [← hw2]; exact heap_set_same HT1.out _⟩
  have HN2 : Aside0 (Only g w w2) := ⟨by rw [← hw2]; exact (Only.of_below HB1.out).set 3 _⟩
  have HG := Aside0.mk (blk_lt' HT.out)
  have HV2 := Aside0.mk (Kd.V_only HV.out HN2.out HOK.out)
  have HS := Aside0.mk (And.intro (cell_of (w := w2.drew) HT2.out (j := 0) (v := .slice (some ad) s.length c) rfl) (And.intro (cell_of (w := w2.drew) HT2.out (j := 2) (v := .int .i32 i) rfl) (show w2.drew.cell? (ad.add i) = some (.int .u8 v) from scriptCell HV2.out i hi HSV.out)))
  clear hc3 hf3 HT1 HB1 hw2 hp1
  refine start_ (n := 12) (S := fun w' => w'.cell? ⟨g, 0, none⟩ = some (.slice (some ad) s.length c) ∧ w'.cell? ⟨g, 2, none⟩ = some (.int .i32 i) ∧ w'.cell? (ad.add i) = some (.int .u8 v)) (ds := []) #[false, false, false, false, false, false, false, false, false, false, false, false] (by kernel_rfl) rfl rfl HS.out (fun hHeld => ?_)
  refine pure_ (i := 0) (N := some 20) (v := ?_) (a' := ?_) #[true, false, false, false, false, false, false, false, false, false, false, false] rfl rfl (by kernel_rfl) (fun _ _ _ h => h) (Or.inl ⟨by rfl, ?_⟩) ?_ ?_
  rotate_left
  · intro w'
    go_simp
    with_reducible rfl
  rotate_left
  · simp only [Act.put, List.setIfInBounds_toArray, List.set_cons_zero, List.set_cons_succ, i64_w, i32_w]
    rfl
  refine pure_ (i := 1) (N := some 21) (v := ?_) (a' := ?_) #[true, true, false, false, false, false, false, false, false, false, false, false] rfl rfl (by kernel_rfl) (fun _ _ _ h => h) (Or.inl ⟨by rfl, ?_⟩) ?_ ?_
  rotate_left
  · intro w'
    go_simp
    with_reducible rfl
  rotate_left
  · simp only [Act.put, List.setIfInBounds_toArray, List.set_cons_zero, List.set_cons_succ, i64_w, i32_w]
    rfl
  refine pure_ (i := 2) (N := some 22) (v := ?_) (a' := ?_) #[true, true, true, false, false, false, false, false, false, false, false, false] rfl rfl (by kernel_rfl) (fun _ _ _ h => h) (Or.inl ⟨by rfl, ?_⟩) ?_ ?_
  rotate_left
  · intro w'
    go_simp
    with_reducible rfl
  rotate_left
  · simp only [Act.put, List.setIfInBounds_toArray, List.set_cons_zero, List.set_cons_succ, i64_w, i32_w]
    rfl
  refine take_ (i := 3) (N := some 23) (v := ?_) (a' := ?_) #[true, true, true, true, false, false, false, false, false, false, false, false] rfl rfl (by kernel_rfl) (fun _ _ _ h => h) (Or.inl ⟨by rfl, ?_⟩) hHeld ?_ ?_
  rotate_left
  · rintro w' ⟨s0, s1, s2⟩
    go_simp
    with_reducible rfl
  rotate_left
  · simp only [Act.put, List.setIfInBounds_toArray, List.set_cons_zero, List.set_cons_succ, i64_w, i32_w]
    rfl
  refine pure_ (i := 4) (N := some 24) (v := ?_) (a' := ?_) #[true, true, true, true, true, false, false, false, false, false, false, false] rfl rfl (by kernel_rfl) (fun _ _ _ h => h) (Or.inl ⟨by rfl, ?_⟩) ?_ ?_
  rotate_left
  · intro w'
    go_simp
    with_reducible rfl
  rotate_left
  · simp only [Act.put, List.setIfInBounds_toArray, List.set_cons_zero, List.set_cons_succ, i64_w, i32_w]
    rfl
  refine pure_ (i := 5) (N := some 25) (v := ?_) (a' := ?_) #[true, true, true, true, true, true, false, false, false, false, false, false] rfl rfl (by kernel_rfl) (fun _ _ _ h => h) (Or.inl ⟨by rfl, ?_⟩) ?_ ?_
  rotate_left
  · intro w'
    go_simp
    with_reducible rfl
  rotate_left
  · simp only [Act.put, List.setIfInBounds_toArray, List.set_cons_zero, List.set_cons_succ, i64_w, i32_w]
    rfl
  refine pure_ (i := 6) (N := some 26) (v := ?_) (a' := ?_) #[true, true, true, true, true, true, true, false, false, false, false, false] rfl rfl (by kernel_rfl) (fun _ _ _ h => h) (Or.inl ⟨by rfl, ?_⟩) ?_ ?_
  rotate_left
  · intro w'
    go_simp
    with_reducible rfl
  rotate_left
  · simp only [Act.put, List.setIfInBounds_toArray, List.set_cons_zero, List.set_cons_succ, i64_w, i32_w]
    rfl
  refine take_ (i := 7) (N := some 27) (v := ?_) (a' := ?_) #[true, true, true, true, true, true, true, true, false, false, false, false] rfl rfl (by kernel_rfl) (fun _ _ _ h => h) (Or.inl ⟨by rfl, ?_⟩) hHeld ?_ ?_
  rotate_left
  · rintro w' ⟨s0, s1, s2⟩
    go_simp
    with_reducible rfl
  rotate_left
  · simp only [Act.put, List.setIfInBounds_toArray, List.set_cons_zero, List.set_cons_succ, i64_w, i32_w]
    rfl
  refine pure_ (i := 8) (N := some 28) (v := ?_) (a' := ?_) #[true, true, true, true, true, true, true, true, true, false, false, false] rfl rfl (by kernel_rfl) (fun _ _ _ h => h) (Or.inl ⟨by rfl, ?_⟩) ?_ ?_
  rotate_left
  · intro w'
    go_simp
    with_reducible rfl
  rotate_left
  · simp only [Act.put, List.setIfInBounds_toArray, List.set_cons_zero, List.set_cons_succ, i64_w, i32_w]
    rfl
  refine take_ (i := 9) (N := some 29) (v := ?_) (a' := ?_) #[true, true, true, true, true, true, true, true, true, true, false, false] rfl rfl (by kernel_rfl) (fun _ _ _ h => h) (Or.inl ⟨by rfl, ?_⟩) hHeld ?_ ?_
  rotate_left
  · rintro w' ⟨s0, s1, s2⟩
    go_simp
    with_reducible rfl
  rotate_left
  · simp only [Act.put, List.setIfInBounds_toArray, List.set_cons_zero, List.set_cons_succ, i64_w, i32_w]
    rfl
  refine one_ (i := 10) (N := some 30) #[true, true, true, true, true, true, true, true, true, true, true, false] rfl rfl (by kernel_rfl) (by decide) (fun K hK => ?_)
  refine goes_ Try.func17 (by kernel_rfl) rfl #[.int .u8 v] (by rfl) rfl rfl (by (try simp only [List.map_toArray, List.map_cons, List.map_nil]); first | done | rfl | (simp only [List.length_drop, List.length_take]; rfl)) ?_
  with_reducible refine (opcodeC v hv _).mono ?_
  rintro e w4 ⟨rfl, nm, hw4⟩
  refine ⟨_, rfl, ?_⟩
  have HN4 : Aside0 (Only g w w4) := ⟨by rw [hw4]; exact HN2.out.drew.alloc _⟩
  have HT4 : Aside0 (Tk w4 g (some ad) s.length c i p1 op data .nilIface) := ⟨by rw [hw4]; exact heap_alloc_lt (w := w2.drew) HT2.out _⟩
  have HO4 : Aside0 (w4.heap[w2.heap.size]? = some (.cells #[.int .u8 v, .string nm, .int .i64 (olen v)] 49 (0, 0))) := ⟨by rw [hw4]; exact heap_alloc_new w2.drew _⟩
  have HV4 : Aside0 (Kd.V (Kd.int .u8) 5 w4 base oks (.slice (some ad) s.length c) s) := ⟨by rw [hw4]; exact Kd.V_alloc (Kd.V_drew HV2.out) _⟩
  rw [show (w2.drew).heap.size = w2.heap.size from rfl]
  have HG2 := Aside0.mk HN2.out.size
  obtain ⟨o, ho⟩ : ∃ o, w2.heap.size = o := ⟨_, rfl⟩
  rw [ho] at HO4 HG2 ⊢
  clear hw4 HT2 HV2 ho HN2
  refine hK.out _ _ ⟨cell_of HT4.out (j := 0) (v := .slice (some ad) s.length c) rfl, cell_of HT4.out (j := 2) (v := .int .i32 i) rfl, scriptCell HV4.out i hi HSV.out⟩ (fun hHeld => ?_)
  clear hK K
  refine norm_ (a' := ?_) ?_ ?_
  rotate_left
  · show Act.put _ (some 30) _ = _
    simp only [Act.put, List.setIfInBounds_toArray, List.set_cons_zero, List.set_cons_succ, i64_w, i32_w]
    rfl
  refine pure_ (i := 11) (N := some 3) (v := ?_) (a' := ?_) #[true, true, true, true, true, true, true, true, true, true, true, true] rfl rfl (by kernel_rfl) (fun _ _ _ h => h) (Or.inl ⟨by rfl, ?_⟩) ?_ ?_
  rotate_left
  · intro w'
    go_simp
    with_reducible rfl
  rotate_left
  · simp only [Act.put, List.setIfInBounds_toArray, List.set_cons_zero, List.set_cons_succ, i64_w, i32_w]
    rfl
  refine done_ (by kernel_rfl) ?_
  clear hHeld HS
  have hc0 := cell_of HT4.out (j := 0) (v := .slice (some ad) s.length c) rfl
  have hc2 := cell_of HT4.out (j := 2) (v := .int .i32 i) rfl
  have hc4 := cell_of HT4.out (j := 4) (v := op) rfl
  have hc5 := cell_of HT4.out (j := 5) (v := data) rfl
  have hc6 := cell_of HT4.out (j := 6) (v := .nilIface) rfl
  have hf2 := frozen_of HT4.out 2
  have hf4 := frozen_of HT4.out 4
  have hf5 := frozen_of HT4.out 5
  have hf6 := frozen_of HT4.out 6
  have ho2 := cell_of HO4.out (j := 2) (v := .int .i64 (olen v)) rfl
  rw [hl] at ho2
  have HS := Aside0.mk (And.intro (cell_of (w := w4.drew) HT4.out (j := 0) (v := .slice (some ad) s.length c) rfl) (cell_of (w := w4.drew) HT4.out (j := 2) (v := .int .i32 i) rfl))
  have HV1 := Aside0.mk (V_cut HV4.out HA1.out hC1)
  have hx0 : w4.cell? ad1 = some (.int .u8 b0) := by have h9 := scriptCell HV1.out 0 (by have := HXL.out; omega) HB0.out; rwa [add_zero_] at h9
  have hx1 : w4.cell? ⟨ad1.block, ad1.off + 1, none⟩ = some (.int .u8 b1) := by have h9 := scriptCell HV1.out 1 (by have := HXL.out; omega) HB1.out; rwa [add_one_ _ _ (by decide)] at h9
  have e3 : decide ((xs.length : Int) < 2) = false := decide_eq_false (by have := HXL.out; omega)
  have e4 : decide (xs.length < 2) = false := decide_eq_false (by have := HXL.out; omega)
  have e5 : ¬ xs.length < 2 := by have := HXL.out; omega
  go_wp2
  refine start_ (n := 11) (S := fun w' => w'.cell? ⟨g, 0, none⟩ = some (.slice (some ad) s.length c) ∧ w'.cell? ⟨g, 2, none⟩ = some (.int .i32 i)) (ds := []) #[false, false, false, false, false, false, false, false, false, false, false] (by kernel_rfl) rfl rfl HS.out (fun hHeld => ?_)
  refine pure_ (i := 0) (N := some 110) (v := ?_) (a' := ?_) #[true, false, false, false, false, false, false, false, false, false, false] rfl rfl (by kernel_rfl) (fun _ _ _ h => h) (Or.inl ⟨by rfl, ?_⟩) ?_ ?_
  rotate_left
  · intro w'
    go_simp
    with_reducible rfl
  rotate_left
  · simp only [Act.put, List.setIfInBounds_toArray, List.set_cons_zero, List.set_cons_succ, i64_w, i32_w]
    rfl
  refine pure_ (i := 1) (N := some 111) (v := ?_) (a' := ?_) #[true, true, false, false, false, false, false, false, false, false, false] rfl rfl (by kernel_rfl) (fun _ _ _ h => h) (Or.inl ⟨by rfl, ?_⟩) ?_ ?_
  rotate_left
  · intro w'
    go_simp
    with_reducible rfl
  rotate_left
  · simp only [Act.put, List.setIfInBounds_toArray, List.set_cons_zero, List.set_cons_succ, i64_w, i32_w]
    rfl
  refine pure_ (i := 2) (N := some 112) (v := ?_) (a' := ?_) #[true, true, true, false, false, false, false, false, false, false, false] rfl rfl (by kernel_rfl) (fun _ _ _ h => h) (Or.inl ⟨by rfl, ?_⟩) ?_ ?_
  rotate_left
  · intro w'
    go_simp
    with_reducible rfl
  rotate_left
  · simp only [Act.put, List.setIfInBounds_toArray, List.set_cons_zero, List.set_cons_succ, i64_w, i32_w]
    rfl
  refine take_ (i := 3) (N := some 113) (v := ?_) (a' := ?_) #[true, true, true, true, false, false, false, false, false, false, false] rfl rfl (by kernel_rfl) (fun _ _ _ h => h) (Or.inl ⟨by rfl, ?_⟩) hHeld ?_ ?_
  rotate_left
  · rintro w' ⟨s0, s1⟩
    go_simp
    with_reducible rfl
  rotate_left
  · simp only [Act.put, List.setIfInBounds_toArray, List.set_cons_zero, List.set_cons_succ, i64_w, i32_w]
    rfl
  refine pure_ (i := 4) (N := some 114) (v := ?_) (a' := ?_) #[true, true, true, true, true, false, false, false, false, false, false] rfl rfl (by kernel_rfl) (fun _ _ _ h => h) (Or.inl ⟨by rfl, ?_⟩) ?_ ?_
  rotate_left
  · intro w'
    go_simp
    with_reducible rfl
  rotate_left
  · simp only [Act.put, List.setIfInBounds_toArray, List.set_cons_zero, List.set_cons_succ, i64_w, i32_w]
    rfl
  refine pure_ (i := 5) (N := some 115) (v := ?_) (a' := ?_) #[true, true, true, true, true, true, false, false, false, false, false] rfl rfl (by kernel_rfl) (fun _ _ _ h => h) (Or.inl ⟨by rfl, ?_⟩) ?_ ?_
  rotate_left
  · intro w'
    go_simp
    with_reducible rfl
  rotate_left
  · simp only [Act.put, List.setIfInBounds_toArray, List.set_cons_zero, List.set_cons_succ, i64_w, i32_w]
    rfl
  refine pure_ (i := 6) (N := some 116) (v := ?_) (a' := ?_) #[true, true, true, true, true, true, true, false, false, false, false] rfl rfl (by kernel_rfl) (fun _ _ _ h => h) (Or.inl ⟨by rfl, ?_⟩) ?_ ?_
  rotate_left
  · intro w'
    go_simp
    with_reducible rfl
  rotate_left
  · simp only [Act.put, List.setIfInBounds_toArray, List.set_cons_zero, List.set_cons_succ, i64_w, i32_w]
    rfl
  refine take_ (i := 7) (N := some 117) (v := ?_) (a' := ?_) #[true, true, true, true, true, true, true, true, false, false, false] rfl rfl (by kernel_rfl) (fun _ _ _ h => h) (Or.inl ⟨by rfl, ?_⟩) hHeld ?_ ?_
  rotate_left
  · rintro w' ⟨s0, s1⟩
    go_simp
    with_reducible rfl
  rotate_left
  · simp only [Act.put, List.setIfInBounds_toArray, List.set_cons_zero, List.set_cons_succ, i64_w, i32_w]
    rfl
  refine pure_ (i := 8) (N := some 118) (v := ?_) (a' := ?_) #[true, true, true, true, true, true, true, true, true, false, false] rfl rfl (by kernel_rfl) (fun _ _ _ h => h) (Or.inl ⟨by rfl, ?_⟩) ?_ ?_
  rotate_left
  · intro w'
    go_simp
    with_reducible rfl
  rotate_left
  · simp only [Act.put, List.setIfInBounds_toArray, List.set_cons_zero, List.set_cons_succ, i64_w, i32_w]
    rfl
  refine pure_ (i := 9) (N := some 119) (v := ?_) (a' := ?_) #[true, true, true, true, true, true, true, true, true, true, false] rfl rfl (by kernel_rfl) (fun _ _ _ h => h) (Or.inl ⟨by rfl, ?_⟩) ?_ ?_
  rotate_left
  · intro w'
    unfold execOp
    go_simp
    rfl
  rotate_left
  · simp only [Act.put, List.setIfInBounds_toArray, List.set_cons_zero, List.set_cons_succ, i64_w, i32_w]
    rfl
  refine pure_ (i := 10) (N := some 6) (v := ?_) (a' := ?_) #[true, true, true, true, true, true, true, true, true, true, true] rfl rfl (by kernel_rfl) (fun _ _ _ h => h) (Or.inl ⟨by rfl, ?_⟩) ?_ ?_
  rotate_left
  · intro w'
    go_simp
    with_reducible rfl
  rotate_left
  · simp only [Act.put, List.setIfInBounds_toArray, List.set_cons_zero, List.set_cons_succ, i64_w, i32_w]
    rfl
  refine done_ (by kernel_rfl) ?_
  clear hHeld HS
  have HS3 := Aside0.mk (And.intro (show w4.drew.drew.cell? ad1 = _ from hx0) (show w4.drew.drew.cell? ⟨ad1.block, ad1.off + 1, none⟩ = _ from hx1))
  go_wp2
  refine start_ (n := 6) (S := fun w' => w'.cell? ad1 = some (.int .u8 b0) ∧ w'.cell? ⟨ad1.block, ad1.off + 1, none⟩ = some (.int .u8 b1)) (ds := []) #[false, false, false, false, false, false] (by kernel_rfl) rfl rfl HS3.out (fun hHeld => ?_)
  refine take_ (i := 0) (N := some 152) (v := ?_) (a' := ?_) #[true, false, false, false, false, false] rfl rfl (by kernel_rfl) (fun _ _ _ h => h) (Or.inl ⟨by rfl, ?_⟩) hHeld ?_ ?_
  rotate_left
  · rintro w' ⟨s0, s1⟩
    go_simp
    with_reducible rfl
  rotate_left
  · simp only [Act.put, List.setIfInBounds_toArray, List.set_cons_zero, List.set_cons_succ, i64_w, i32_w]
    rfl
  refine pure_ (i := 1) (N := some 153) (v := ?_) (a' := ?_) #[true, true, false, false, false, false] rfl rfl (by kernel_rfl) (fun _ _ _ h => h) (Or.inl ⟨by rfl, ?_⟩) ?_ ?_
  rotate_left
  · intro w'
    go_simp
    with_reducible rfl
  rotate_left
  · simp only [Act.put, List.setIfInBounds_toArray, List.set_cons_zero, List.set_cons_succ, i64_w, i32_w]
    rfl
  refine pure_ (i := 2) (N := some 154) (v := ?_) (a' := ?_) #[true, true, true, false, false, false] rfl rfl (by kernel_rfl) (fun _ _ _ h => h) (Or.inl ⟨by rfl, ?_⟩) ?_ ?_
  rotate_left
  · intro w'
    unfold execOp
    go_simp
    rfl
  rotate_left
  · simp only [Act.put, List.setIfInBounds_toArray, List.set_cons_zero, List.set_cons_succ, i64_w, i32_w]
    rfl
  refine one_ (i := 3) (N := some 155) #[true, true, true, true, false, false] rfl rfl (by kernel_rfl) (by decide) (fun K hK => ?_)
  refine goes_ Try.func18 (by kernel_rfl) rfl #[.agg #[], .slice (some ad1) 2 (c - (i + 1))] (by rfl) rfl rfl (by (try simp only [List.map_toArray, List.map_cons, List.map_nil]); first | done | rfl | (simp only [List.length_drop, List.length_take]; rfl)) ?_
  with_reducible refine (leUint16 ad1 _ b0 b1 b00 b01 b10 b11 _ hHeld.1 hHeld.2).mono ?_
  rintro e w9 ⟨rfl, hb⟩
  refine ⟨_, rfl, ?_⟩
  have HT9 := Aside0.mk (Tk.below (w := w4.drew.drew) HT4.out hb)
  have HN9 : Aside0 (Only g w w9) := ⟨HN4.out.drew.drew.trans (Only.of_below hb)⟩
  have HO9 : Aside0 (w9.heap[o]? = some (.cells #[.int .u8 v, .string nm, .int .i64 (olen v)] 49 (0, 0))) := ⟨(hb.block o (blk_lt' (w := w4) HO4.out)).trans HO4.out⟩
  have HV9 : Aside0 (Kd.V (Kd.int .u8) 5 w9 base oks (.slice (some ad) s.length c) s) := ⟨Kd.V_below (Kd.V_drew (Kd.V_drew HV4.out)) hb⟩
  refine hK.out _ _ ⟨pw_cell_below hb hHeld.1, pw_cell_below hb hHeld.2⟩ (fun hHeld => ?_)
  clear hK K
  refine norm_ (a' := ?_) ?_ ?_
  rotate_left
  · show Act.put _ (some 155) _ = _
    simp only [Act.put, List.setIfInBounds_toArray, List.set_cons_zero, List.set_cons_succ, i64_w, i32_w]
    rfl
  refine pure_ (i := 4) (N := some 156) (v := ?_) (a' := ?_) #[true, true, true, true, true, false] rfl rfl (by kernel_rfl) (fun _ _ _ h => h) (Or.inl ⟨by rfl, ?_⟩) ?_ ?_
  rotate_left
  · intro w'
    go_simp
    with_reducible rfl
  rotate_left
  · simp only [Act.put, List.setIfInBounds_toArray, List.set_cons_zero, List.set_cons_succ, i64_w, i32_w]
    rfl
  refine pure_ (i := 5) (N := some 8) (v := ?_) (a' := ?_) #[true, true, true, true, true, true] rfl rfl (by kernel_rfl) (fun _ _ _ h => h) (Or.inl ⟨by rfl, ?_⟩) ?_ ?_
  rotate_left
  · intro w'
    go_simp
    with_reducible rfl
  rotate_left
  · simp only [Act.put, List.setIfInBounds_toArray, List.set_cons_zero, List.set_cons_succ, i64_w, i32_w]
    rfl
  refine done_ (by kernel_rfl) ?_
  clear hHeld HS3
  have ho2 := cell_of HO9.out (j := 2) (v := .int .i64 (-2)) (by simp [hl])
  have hc6 := cell_of HT9.out (j := 6) (v := .nilIface) rfl
  have hf6 := frozen_of HT9.out 6
  rw [HD9.out]
  have qZ : IntKind.i32.wrap (zs.length : Int) = zs.length := i32w (by omega) (by have := HZL.out; omega)
  go_wp2_with (first
    | (go_at_call 15; refine (errC _ _ _).mono ?_; rintro e w5 ⟨rfl, hb⟩; have HB5 := Aside0.mk hb; have HT5 := Aside0.mk (Tk.below (w := w9) HT9.out hb); clear hb hc6 hf6; have hc6 := cell_of HT5.out (j := 6) (v := .nilIface) rfl; have hf6 := frozen_of HT5.out 6)
    | ((with_reducible refine at_dst (N := 170) rfl ?_); refine wpList_run rfl (.slice A3 zs.length (c - (i + 1) - 2)) (w' := w9) (by unfold execOp; go_simp; rfl) ?_))
  all_goals first
    | (go_ret; exact ⟨rfl, p1, op, data, _, heap_set_same HT5.out _, (HN9.out.trans (Only.of_below HB5.out)).set 6 _⟩)
    | (exfalso; have := HZL.out; omega)

set_option maxRecDepth 100000 in
set_option maxHeartbeats 8000000 in
theorem pushFit2 (g : Nat) (ad : Addr) (s : List Int) (c i : Nat) (pos : Int) (op data : Value) (oks : Nat → Prop) (base : Nat) (w : World)
    (hok : ∀ k, oks k → k ≠ g) (hV : Kd.V (Kd.int .u8) 5 w base oks (.slice (some ad) s.length c) s) (hT : Tk w g (some ad) s.length c i pos op data .nilIface)
    (hn : s.length ≤ 1000000) (hi : i < s.length) (v : Nat) (hv : v < 256) (hsv : s.getD i 0 = v) (hl : olen v = -2) (b0 : Int) (hb0 : s.getD (i + 1 + 0) 0 = b0) (b00 : 0 ≤ b0) (b01 : b0 < 256) (b1 : Int) (hb1 : s.getD (i + 1 + 1) 0 = b1) (b10 : 0 ≤ b1) (b11 : b1 < 256) (hk : i + 1 + 2 ≤ s.length) (d : Nat) (hD : wrap32 (b0 + b1 * 256) = (d : Int)) (hfit : i + 1 + 2 + d ≤ s.length) :
    Calls Try.prog 8 #[.pointer (some ⟨g, 0, none⟩)] w fun e w' => e = .returned (.bool true) ∧ ∃ pos' o dv nm ol, Tk w' g (some ad) s.length c ((i + 1 + 2 + d : Nat) : Int) pos' (.pointer (some ⟨o, 0, none⟩)) dv .nilIface ∧ w'.heap[o]? = some (.cells #[.int .u8 v, .string nm, .int .i64 ol] 49 (0, 0)) ∧ w.heap.size ≤ o ∧ Kd.V (Kd.int .u8) 5 w' base oks dv ((s.drop (i + 1 + 2)).take d) ∧ Only g w w' := by
  obtain ⟨i05, hi05, _, hsz5, _⟩ := info_parts info5
  have hc9 := (Kd.V_at hV).2.1
  obtain ⟨A1, hcut1, hA1, hC1⟩ := print_drop_of (P := Try.prog) (Value.int .u8) 0 22 5 .i32 Try.underlying22 hi05 hsz5 (some ad) c s ((i : Int) + 1) (by omega) (by omega) hc9
  rw [show ((i : Int) + 1).toNat = i + 1 by omega] at hcut1 hA1 hC1
  rw [← (tokW32 (x := (i : Int) + 1) (by omega) (by omega))] at hcut1
  obtain ⟨xs, hxs⟩ : ∃ xs, s.drop (i + 1) = xs := ⟨_, rfl⟩
  have hxl : xs.length = s.length - (i + 1) := by rw [← hxs, List.length_drop]
  rw [hxs] at hcut1 hA1 hC1
  have HXL := Aside0.mk hxl
  have HA1 := Aside0.mk hA1
  have HXS := Aside0.mk hxs
  clear hxl hA1 hxs
  have hV1 := V_cut hV HA1.out hC1
  obtain ⟨ad1, e1, _⟩ := Kd.at_int (Kd.F_now (Kd.V_at hV1).2.2) (0 : Int) (by omega) (by have := HXL.out; omega)
  subst e1
  clear hV1
  obtain ⟨hcut2, _, hC2⟩ := print_take_of (P := Try.prog) (Value.int .u8) 0 22 5 .i64 Try.underlying22 hi05 hsz5 (some ad1) (c - (i + 1)) xs 2 (by omega) (by have := HXL.out; omega) hC1
  rw [show ((2 : Int)).toNat = 2 from rfl, show (xs.take 2).length = 2 by rw [List.length_take]; have := HXL.out; omega] at hcut2
  clear hC2
  obtain ⟨A3, hcut3, hA3, hC3⟩ := print_drop_of (P := Try.prog) (Value.int .u8) 0 22 5 .i64 Try.underlying22 hi05 hsz5 (some ad1) (c - (i + 1)) xs 2 (by omega) (by have := HXL.out; omega) hC1
  rw [show ((2 : Int)).toNat = 2 from rfl] at hcut3 hA3 hC3
  obtain ⟨zs, hzs⟩ : ∃ zs, xs.drop 2 = zs := ⟨_, rfl⟩
  have hzl : zs.length = s.length - (i + 1 + 2) := by rw [← hzs, List.length_drop]; have := HXL.out; omega
  rw [hzs] at hcut3 hA3 hC3
  have HZL := Aside0.mk hzl
  have HA3 := Aside0.mk hA3
  have HZS := Aside0.mk hzs
  have HC3 := Aside0.mk hC3
  clear hzl hA3 hzs hC3
  have HB0 := Aside0.mk (show xs.getD 0 0 = b0 by rw [← HXS.out, ← hb0]; simp [List.getD_eq_getElem?_getD, List.getElem?_drop])
  have HB1 := Aside0.mk (show xs.getD 1 0 = b1 by rw [← HXS.out, ← hb1]; simp [List.getD_eq_getElem?_getD, List.getElem?_drop])
  have HD9 := Aside0.mk hD
  clear hD hb0 hb1
  obtain ⟨hcut4, hA4, hC4⟩ := print_take_of (P := Try.prog) (Value.int .u8) 0 22 5 .i32 Try.underlying22 hi05 hsz5 A3 (c - (i + 1) - 2) zs (d : Int) (by omega) (by have := HZL.out; omega) HC3.out
  rw [Int.toNat_natCast] at hcut4 hA4 hC4
  obtain ⟨ds, hds⟩ : ∃ ds, zs.take d = ds := ⟨_, rfl⟩
  rw [hds] at hcut4 hA4 hC4
  have HA4 := Aside0.mk hA4
  have HDS := Aside0.mk hds
  have HC4 := Aside0.mk hC4
  clear hA4 hds hC4
  have HD := Aside0.mk (doneC g (some ad) s.length c i pos op data w (by omega) hT)
  rw [show decide ((s.length : Int) ≤ (i : Int)) = false from decide_eq_false (by omega)] at HD
  have HT := Aside0.mk hT
  have HV := Aside0.mk hV
  have HOK := Aside0.mk hok
  have HSV := Aside0.mk hsv
  clear hT hV hsv hok
  go_enter Try.func8, Try.ntmps8
  go_wp2_with (go_at_call 16; refine HD.out.mono ?_; rintro e w1 ⟨rfl, hb⟩; have HB1 := Aside0.mk hb; have HT1 := Aside0.mk (HT.out.below hb); clear hb; have hc3 := cell_of HT1.out (j := 3) (v := .int .i32 pos) rfl; have hf3 := frozen_of HT1.out 3)
  obtain ⟨p1, hp1⟩ : ∃ p1, wrap32 (pos + 1) = p1 := ⟨_, rfl⟩
  obtain ⟨w2, hw2⟩ : ∃ w2, w1.setCell ⟨g, 3, none⟩ (.int .i32 p1) = w2 := ⟨_, rfl⟩
  rw [hp1, hw2]
  have HT2 : Aside0 (Tk w2 g (some ad) s.length c i p1 op data .nilIface) := ⟨by rw [← hw2]; exact heap_set_same HT1.out _⟩
  have HN2 : Aside0 (Only g w w2) := ⟨by rw [← hw2]; exact (Only.of_below HB1.out).set 3 _⟩
  have HG := Aside0.mk (blk_lt' HT.out)
  have HV2 := Aside0.mk (Kd.V_only HV.out HN2.out HOK.out)
  have HS := Aside0.mk (And.intro (cell_of (w := w2.drew) HT2.out (j := 0) (v := .slice (some ad) s.length c) rfl) (And.intro (cell_of (w := w2.drew) HT2.out (j := 2) (v := .int .i32 i) rfl) (show w2.drew.cell? (ad.add i) = some (.int .u8 v) from scriptCell HV2.out i hi HSV.out)))
  clear hc3 hf3 HT1 HB1 hw2 hp1
  refine start_ (n := 12) (S := fun w' => w'.cell? ⟨g, 0, none⟩ = some (.slice (some ad) s.length c) ∧ w'.cell? ⟨g, 2, none⟩ = some (.int .i32 i) ∧ w'.cell? (ad.add i) = some (.int .u8 v)) (ds := []) #[false, false, false, false, false, false, false, false, false, false, false, false] (by kernel_rfl) rfl rfl HS.out (fun hHeld => ?_)
  refine pure_ (i := 0) (N := some 20) (v := ?_) (a' := ?_) #[true, false, false, false, false, false, false, false, false, false, false, false] rfl rfl (by kernel_rfl) (fun _ _ _ h => h) (Or.inl ⟨by rfl, ?_⟩) ?_ ?_
  rotate_left
  · intro w'
    go_simp
    with_reducible rfl
  rotate_left
  · simp only [Act.put, List.setIfInBounds_toArray, List.set_cons_zero, List.set_cons_succ, i64_w, i32_w]
    rfl
  refine pure_ (i := 1) (N := some 21) (v := ?_) (a' := ?_) #[true, true, false, false, false, false, false, false, false, false, false, false] rfl rfl (by kernel_rfl) (fun _ _ _ h => h) (Or.inl ⟨by rfl, ?_⟩) ?_ ?_
  rotate_left
  · intro w'
    go_simp
    with_reducible rfl
  rotate_left
  · simp only [Act.put, List.setIfInBounds_toArray, List.set_cons_zero, List.set_cons_succ, i64_w, i32_w]
    rfl
  refine pure_ (i := 2) (N := some 22) (v := ?_) (a' := ?_) #[true, true, true, false, false, false, false, false, false, false, false, false] rfl rfl (by kernel_rfl) (fun _ _ _ h => h) (Or.inl ⟨by rfl, ?_⟩) ?_ ?_
  rotate_left
  · intro w'
    go_simp
    with_reducible rfl
  rotate_left
  · simp only [Act.put, List.setIfInBounds_toArray, List.set_cons_zero, List.set_cons_succ, i64_w, i32_w]
    rfl
  refine take_ (i := 3) (N := some 23) (v := ?_) (a' := ?_) #[true, true, true, true, false, false, false, false, false, false, false, false] rfl rfl (by kernel_rfl) (fun _ _ _ h => h) (Or.inl ⟨by rfl, ?_⟩) hHeld ?_ ?_
  rotate_left
  · rintro w' ⟨s0, s1, s2⟩
    go_simp
    with_reducible rfl
  rotate_left
  · simp only [Act.put, List.setIfInBounds_toArray, List.set_cons_zero, List.set_cons_succ, i64_w, i32_w]
    rfl
  refine pure_ (i := 4) (N := some 24) (v := ?_) (a' := ?_) #[true, true, true, true, true, false, false, false, false, false, false, false] rfl rfl (by kernel_rfl) (fun _ _ _ h => h) (Or.inl ⟨by rfl, ?_⟩) ?_ ?_
  rotate_left
  · intro w'
    go_simp
    with_reducible rfl
  rotate_left
  · simp only [Act.put, List.setIfInBounds_toArray, List.set_cons_zero, List.set_cons_succ, i64_w, i32_w]
    rfl
  refine pure_ (i := 5) (N := some 25) (v := ?_) (a' := ?_) #[true, true, true, true, true, true, false, false, false, false, false, false] rfl rfl (by kernel_rfl) (fun _ _ _ h => h) (Or.inl ⟨by rfl, ?_⟩) ?_ ?_
  rotate_left
  · intro w'
    go_simp
    with_reducible rfl
  rotate_left
  · simp only [Act.put, List.setIfInBounds_toArray, List.set_cons_zero, List.set_cons_succ, i64_w, i32_w]
    rfl
  refine pure_ (i := 6) (N := some 26) (v := ?_) (a' := ?_) #[true, true, true, true, true, true, true, false, false, false, false, false] rfl rfl (by kernel_rfl) (fun _ _ _ h => h) (Or.inl ⟨by rfl, ?_⟩) ?_ ?_
  rotate_left
  · intro w'
    go_simp
    with_reducible rfl
  rotate_left
  · simp only [Act.put, List.setIfInBounds_toArray, List.set_cons_zero, List.set_cons_succ, i64_w, i32_w]
    rfl
  refine take_ (i := 7) (N := some 27) (v := ?_) (a' := ?_) #[true, true, true, true, true, true, true, true, false, false, false, false] rfl rfl (by kernel_rfl) (fun _ _ _ h => h) (Or.inl ⟨by rfl, ?_⟩) hHeld ?_ ?_
  rotate_left
  · rintro w' ⟨s0, s1, s2⟩
    go_simp
    with_reducible rfl
  rotate_left
  · simp only [Act.put, List.setIfInBounds_toArray, List.set_cons_zero, List.set_cons_succ, i64_w, i32_w]
    rfl
  refine pure_ (i := 8) (N := some 28) (v := ?_) (a' := ?_) #[true, true, true, true, true, true, true, true, true, false, false, false] rfl rfl (by kernel_rfl) (fun _ _ _ h => h) (Or.inl ⟨by rfl, ?_⟩) ?_ ?_
  rotate_left
  · intro w'
    go_simp
    with_reducible rfl
  rotate_left
  · simp only [Act.put, List.setIfInBounds_toArray, List.set_cons_zero, List.set_cons_succ, i64_w, i32_w]
    rfl
  refine take_ (i := 9) (N := some 29) (v := ?_) (a' := ?_) #[true, true, true, true, true, true, true, true, true, true, false, false] rfl rfl (by kernel_rfl) (fun _ _ _ h => h) (Or.inl ⟨by rfl, ?_⟩) hHeld ?_ ?_
  rotate_left
  · rintro w' ⟨s0, s1, s2⟩
    go_simp
    with_reducible rfl
  rotate_left
  · simp only [Act.put, List.setIfInBounds_toArray, List.set_cons_zero, List.set_cons_succ, i64_w, i32_w]
    rfl
  refine one_ (i := 10) (N := some 30) #[true, true, true, true, true, true, true, true, true, true, true, false] rfl rfl (by kernel_rfl) (by decide) (fun K hK => ?_)
  refine goes_ Try.func17 (by kernel_rfl) rfl #[.int .u8 v] (by rfl) rfl rfl (by (try simp only [List.map_toArray, List.map_cons, List.map_nil]); first | done | rfl | (simp only [List.length_drop, List.length_take]; rfl)) ?_
  with_reducible refine (opcodeC v hv _).mono ?_
  rintro e w4 ⟨rfl, nm, hw4⟩
  refine ⟨_, rfl, ?_⟩
  have HN4 : Aside0 (Only g w w4) := ⟨by rw [hw4]; exact HN2.out.drew.alloc _⟩
  have HT4 : Aside0 (Tk w4 g (some ad) s.length c i p1 op data .nilIface) := ⟨by rw [hw4]; exact heap_alloc_lt (w := w2.drew) HT2.out _⟩
  have HO4 : Aside0 (w4.heap[w2.heap.size]? = some (.cells #[.int .u8 v, .string nm, .int .i64 (olen v)] 49 (0, 0))) := ⟨by rw [hw4]; exact heap_alloc_new w2.drew _⟩
  have HV4 : Aside0 (Kd.V (Kd.int .u8) 5 w4 base oks (.slice (some ad) s.length c) s) := ⟨by rw [hw4]; exact Kd.V_alloc (Kd.V_drew HV2.out) _⟩
  rw [show (w2.drew).heap.size = w2.heap.size from rfl]
  have HG2 := Aside0.mk HN2.out.size
  obtain ⟨o, ho⟩ : ∃ o, w2.heap.size = o := ⟨_, rfl⟩
  rw [ho] at HO4 HG2 ⊢
  clear hw4 HT2 HV2 ho HN2
  refine hK.out _ _ ⟨cell_of HT4.out (j := 0) (v := .slice (some ad) s.length c) rfl, cell_of HT4.out (j := 2) (v := .int .i32 i) rfl, scriptCell HV4.out i hi HSV.out⟩ (fun hHeld => ?_)
  clear hK K
  refine norm_ (a' := ?_) ?_ ?_
  rotate_left
  · show Act.put _ (some 30) _ = _
    simp only [Act.put, List.setIfInBounds_toArray, List.set_cons_zero, List.set_cons_succ, i64_w, i32_w]
    rfl
  refine pure_ (i := 11) (N := some 3) (v := ?_) (a' := ?_) #[true, true, true, true, true, true, true, true, true, true, true, true] rfl rfl (by kernel_rfl) (fun _ _ _ h => h) (Or.inl ⟨by rfl, ?_⟩) ?_ ?_
  rotate_left
  · intro w'
    go_simp
    with_reducible rfl
  rotate_left
  · simp only [Act.put, List.setIfInBounds_toArray, List.set_cons_zero, List.set_cons_succ, i64_w, i32_w]
    rfl
  refine done_ (by kernel_rfl) ?_
  clear hHeld HS
  have hc0 := cell_of HT4.out (j := 0) (v := .slice (some ad) s.length c) rfl
  have hc2 := cell_of HT4.out (j := 2) (v := .int .i32 i) rfl
  have hc4 := cell_of HT4.out (j := 4) (v := op) rfl
  have hc5 := cell_of HT4.out (j := 5) (v := data) rfl
  have hc6 := cell_of HT4.out (j := 6) (v := .nilIface) rfl
  have hf2 := frozen_of HT4.out 2
  have hf4 := frozen_of HT4.out 4
  have hf5 := frozen_of HT4.out 5
  have hf6 := frozen_of HT4.out 6
  have ho2 := cell_of HO4.out (j := 2) (v := .int .i64 (olen v)) rfl
  rw [hl] at ho2
  have HS := Aside0.mk (And.intro (cell_of (w := w4.drew) HT4.out (j := 0) (v := .slice (some ad) s.length c) rfl) (cell_of (w := w4.drew) HT4.out (j := 2) (v := .int .i32 i) rfl))
  have HV1 := Aside0.mk (V_cut HV4.out HA1.out hC1)
  have hx0 : w4.cell? ad1 = some (.int .u8 b0) := by have h9 := scriptCell HV1.out 0 (by have := HXL.out; omega) HB0.out; rwa [add_zero_] at h9
  have hx1 : w4.cell? ⟨ad1.block, ad1.off + 1, none⟩ = some (.int .u8 b1) := by have h9 := scriptCell HV1.out 1 (by have := HXL.out; omega) HB1.out; rwa [add_one_ _ _ (by decide)] at h9
  have e3 : decide ((xs.length : Int) < 2) = false := decide_eq_false (by have := HXL.out; omega)
  have e4 : decide (xs.length < 2) = false := decide_eq_false (by have := HXL.out; omega)
  have e5 : ¬ xs.length < 2 := by have := HXL.out; omega
  go_wp2
  refine start_ (n := 11) (S := fun w' => w'.cell? ⟨g, 0, none⟩ = some (.slice (some ad) s.length c) ∧ w'.cell? ⟨g, 2, none⟩ = some (.int .i32 i)) (ds := []) #[false, false, false, false, false, false, false, false, false, false, false] (by kernel_rfl) rfl rfl HS.out (fun hHeld => ?_)
  refine pure_ (i := 0) (N := some 110) (v := ?_) (a' := ?_) #[true, false, false, false, false, false, false, false, false, false, false] rfl rfl (by kernel_rfl) (fun _ _ _ h => h) (Or.inl ⟨by rfl, ?_⟩) ?_ ?_
  rotate_left
  · intro w'
    go_simp
    with_reducible rfl
  rotate_left
  · simp only [Act.put, List.setIfInBounds_toArray, List.set_cons_zero, List.set_cons_succ, i64_w, i32_w]
    rfl
  refine pure_ (i := 1) (N := some 111) (v := ?_) (a' := ?_) #[true, true, false, false, false, false, false, false, false, false, false] rfl rfl (by kernel_rfl) (fun _ _ _ h => h) (Or.inl ⟨by rfl, ?_⟩) ?_ ?_
  rotate_left
  · intro w'
    go_simp
    with_reducible rfl
  rotate_left
  · simp only [Act.put, List.setIfInBounds_toArray, List.set_cons_zero, List.set_cons_succ, i64_w, i32_w]
    rfl
  refine pure_ (i := 2) (N := some 112) (v := ?_) (a' := ?_) #[true, true, true, false, false, false, false, false, false, false, false] rfl rfl (by kernel_rfl) (fun _ _ _ h => h) (Or.inl ⟨by rfl, ?_⟩) ?_ ?_
  rotate_left
  · intro w'
    go_simp
    with_reducible rfl
  rotate_left
  · simp only [Act.put, List.setIfInBounds_toArray, List.set_cons_zero, List.set_cons_succ, i64_w, i32_w]
    rfl
  refine take_ (i := 3) (N := some 113) (v := ?_) (a' := ?_) #[true, true, true, true, false, false, false, false, false, false, false] rfl rfl (by kernel_rfl) (fun _ _ _ h => h) (Or.inl ⟨by rfl, ?_⟩) hHeld ?_ ?_
  rotate_left
  · rintro w' ⟨s0, s1⟩
    go_simp
    with_reducible rfl
  rotate_left
  · simp only [Act.put, List.setIfInBounds_toArray, List.set_cons_zero, List.set_cons_succ, i64_w, i32_w]
    rfl
  refine pure_ (i := 4) (N := some 114) (v := ?_) (a' := ?_) #[true, true, true, true, true, false, false, false, false, false, false] rfl rfl (by kernel_rfl) (fun _ _ _ h => h) (Or.inl ⟨by rfl, ?_⟩) ?_ ?_
  rotate_left
  · intro w'
    go_simp
    with_reducible rfl
  rotate_left
  · simp only [Act.put, List.setIfInBounds_toArray, List.set_cons_zero, List.set_cons_succ, i64_w, i32_w]
    rfl
  refine pure_ (i := 5) (N := some 115) (v := ?_) (a' := ?_) #[true, true, true, true, true, true, false, false, false, false, false] rfl rfl (by kernel_rfl) (fun _ _ _ h => h) (Or.inl ⟨by rfl, ?_⟩) ?_ ?_
  rotate_left
  · intro w'
    go_simp
    with_reducible rfl
  rotate_left
  · simp only [Act.put, List.setIfInBounds_toArray, List.set_cons_zero, List.set_cons_succ, i64_w, i32_w]
    rfl
  refine pure_ (i := 6) (N := some 116) (v := ?_) (a' := ?_) #[true, true, true, true, true, true, true, false, false, false, false] rfl rfl (by kernel_rfl) (fun _ _ _ h => h) (Or.inl ⟨by rfl, ?_⟩) ?_ ?_
  rotate_left
  · intro w'
    go_simp
    with_reducible rfl
  rotate_left
  · simp only [Act.put, List.setIfInBounds_toArray, List.set_cons_zero, List.set_cons_succ, i64_w, i32_w]
    rfl
  refine take_ (i := 7) (N := some 117) (v := ?_) (a' := ?_) #[true, true, true, true, true, true, true, true, false, false, false] rfl rfl (by kernel_rfl) (fun _ _ _ h => h) (Or.inl ⟨by rfl, ?_⟩) hHeld ?_ ?_
  rotate_left
  · rintro w' ⟨s0, s1⟩
    go_simp
    with_reducible rfl
  rotate_left
  · simp only [Act.put, List.setIfInBounds_toArray, List.set_cons_zero, List.set_cons_succ, i64_w, i32_w]
    rfl
  refine pure_ (i := 8) (N := some 118) (v := ?_) (a' := ?_) #[true, true, true, true, true, true, true, true, true, false, false] rfl rfl (by kernel_rfl) (fun _ _ _ h => h) (Or.inl ⟨by rfl, ?_⟩) ?_ ?_
  rotate_left
  · intro w'
    go_simp
    with_reducible rfl
  rotate_left
  · simp only [Act.put, List.setIfInBounds_toArray, List.set_cons_zero, List.set_cons_succ, i64_w, i32_w]
    rfl
  refine pure_ (i := 9) (N := some 119) (v := ?_) (a' := ?_) #[true, true, true, true, true, true, true, true, true, true, false] rfl rfl (by kernel_rfl) (fun _ _ _ h => h) (Or.inl ⟨by rfl, ?_⟩) ?_ ?_
  rotate_left
  · intro w'
    unfold execOp
    go_simp
    rfl
  rotate_left
  · simp only [Act.put, List.setIfInBounds_toArray, List.set_cons_zero, List.set_cons_succ, i64_w, i32_w]
    rfl
  refine pure_ (i := 10) (N := some 6) (v := ?_) (a' := ?_) #[true, true, true, true, true, true, true, true, true, true, true] rfl rfl (by kernel_rfl) (fun _ _ _ h => h) (Or.inl ⟨by rfl, ?_⟩) ?_ ?_
  rotate_left
  · intro w'
    go_simp
    with_reducible rfl
  rotate_left
  · simp only [Act.put, List.setIfInBounds_toArray, List.set_cons_zero, List.set_cons_succ, i64_w, i32_w]
    rfl
  refine done_ (by kernel_rfl) ?_
  clear hHeld HS
  have HS3 := Aside0.mk (And.intro (show w4.drew.drew.cell? ad1 = _ from hx0) (show w4.drew.drew.cell? ⟨ad1.block, ad1.off + 1, none⟩ = _ from hx1))
  go_wp2
  refine start_ (n := 6) (S := fun w' => w'.cell? ad1 = some (.int .u8 b0) ∧ w'.cell? ⟨ad1.block, ad1.off + 1, none⟩ = some (.int .u8 b1)) (ds := []) #[false, false, false, false, false, false] (by kernel_rfl) rfl rfl HS3.out (fun hHeld => ?_)
  refine take_ (i := 0) (N := some 152) (v := ?_) (a' := ?_) #[true, false, false, false, false, false] rfl rfl (by kernel_rfl) (fun _ _ _ h => h) (Or.inl ⟨by rfl, ?_⟩) hHeld ?_ ?_
  rotate_left
  · rintro w' ⟨s0, s1⟩
    go_simp
    with_reducible rfl
  rotate_left
  · simp only [Act.put, List.setIfInBounds_toArray, List.set_cons_zero, List.set_cons_succ, i64_w, i32_w]
    rfl
  refine pure_ (i := 1) (N := some 153) (v := ?_) (a' := ?_) #[true, true, false, false, false, false] rfl rfl (by kernel_rfl) (fun _ _ _ h => h) (Or.inl ⟨by rfl, ?_⟩) ?_ ?_
  rotate_left
  · intro w'
    go_simp
    with_reducible rfl
  rotate_left
  · simp only [Act.put, List.setIfInBounds_toArray, List.set_cons_zero, List.set_cons_succ, i64_w, i32_w]
    rfl
  refine pure_ (i := 2) (N := some 154) (v := ?_) (a' := ?_) #[true, true, true, false, false, false] rfl rfl (by kernel_rfl) (fun _ _ _ h => h) (Or.inl ⟨by rfl, ?_⟩) ?_ ?_
  rotate_left
  · intro w'
    unfold execOp
    go_simp
    rfl
  rotate_left
  · simp only [Act.put, List.setIfInBounds_toArray, List.set_cons_zero, List.set_cons_succ, i64_w, i32_w]
    rfl
  refine one_ (i := 3) (N := some 155) #[true, true, true, true, false, false] rfl rfl (by kernel_rfl) (by decide) (fun K hK => ?_)
  refine goes_ Try.func18 (by kernel_rfl) rfl #[.agg #[], .slice (some ad1) 2 (c - (i + 1))] (by rfl) rfl rfl (by (try simp only [List.map_toArray, List.map_cons, List.map_nil]); first | done | rfl | (simp only [List.length_drop, List.length_take]; rfl)) ?_
  with_reducible refine (leUint16 ad1 _ b0 b1 b00 b01 b10 b11 _ hHeld.1 hHeld.2).mono ?_
  rintro e w9 ⟨rfl, hb⟩
  refine ⟨_, rfl, ?_⟩
  have HT9 := Aside0.mk (Tk.below (w := w4.drew.drew) HT4.out hb)
  have HN9 : Aside0 (Only g w w9) := ⟨HN4.out.drew.drew.trans (Only.of_below hb)⟩
  have HO9 : Aside0 (w9.heap[o]? = some (.cells #[.int .u8 v, .string nm, .int .i64 (olen v)] 49 (0, 0))) := ⟨(hb.block o (blk_lt' (w := w4) HO4.out)).trans HO4.out⟩
  have HV9 : Aside0 (Kd.V (Kd.int .u8) 5 w9 base oks (.slice (some ad) s.length c) s) := ⟨Kd.V_below (Kd.V_drew (Kd.V_drew HV4.out)) hb⟩
  refine hK.out _ _ ⟨pw_cell_below hb hHeld.1, pw_cell_below hb hHeld.2⟩ (fun hHeld => ?_)
  clear hK K
  refine norm_ (a' := ?_) ?_ ?_
  rotate_left
  · show Act.put _ (some 155) _ = _
    simp only [Act.put, List.setIfInBounds_toArray, List.set_cons_zero, List.set_cons_succ, i64_w, i32_w]
    rfl
  refine pure_ (i := 4) (N := some 156) (v := ?_) (a' := ?_) #[true, true, true, true, true, false] rfl rfl (by kernel_rfl) (fun _ _ _ h => h) (Or.inl ⟨by rfl, ?_⟩) ?_ ?_
  rotate_left
  · intro w'
    go_simp
    with_reducible rfl
  rotate_left
  · simp only [Act.put, List.setIfInBounds_toArray, List.set_cons_zero, List.set_cons_succ, i64_w, i32_w]
    rfl
  refine pure_ (i := 5) (N := some 8) (v := ?_) (a' := ?_) #[true, true, true, true, true, true] rfl rfl (by kernel_rfl) (fun _ _ _ h => h) (Or.inl ⟨by rfl, ?_⟩) ?_ ?_
  rotate_left
  · intro w'
    go_simp
    with_reducible rfl
  rotate_left
  · simp only [Act.put, List.setIfInBounds_toArray, List.set_cons_zero, List.set_cons_succ, i64_w, i32_w]
    rfl
  refine done_ (by kernel_rfl) ?_
  clear hHeld HS3
  have ho2 := cell_of HO9.out (j := 2) (v := .int .i64 (-2)) (by simp [hl])
  have hc6 := cell_of HT9.out (j := 6) (v := .nilIface) rfl
  have hf6 := frozen_of HT9.out 6
  rw [HD9.out]
  have qZ : IntKind.i32.wrap (zs.length : Int) = zs.length := i32w (by omega) (by have := HZL.out; omega)
  have c1 : decide ((zs.length : Int) < (d : Int)) = false := decide_eq_false (by have := HZL.out; omega)
  have c2 : decide ((d : Int) < 0) = false := decide_eq_false (by omega)
  have c3 : decide (zs.length < d) = false := decide_eq_false (by have := HZL.out; omega)
  have c4 : d ≤ zs.length := by have := HZL.out; omega
  have HS2 := Aside0.mk (And.intro (cell_of (w := w9.drew) HT9.out (j := 2) (v := .int .i32 i) rfl) (show w9.drew.cell? ⟨o, 2, none⟩ = some (.int .i64 (-2)) from ho2))
  have hog : o ≠ g := by have := HG.out; have := HG2.out; omega
  go_wp2_with ((with_reducible refine at_dst (N := 170) rfl ?_); refine wpList_run rfl (.slice A3 zs.length (c - (i + 1) - 2)) (w' := w9) (by unfold execOp; go_simp; rfl) ?_)
  clear qZ
  refine start_ (n := 17) (S := fun w' => w'.cell? ⟨g, 2, none⟩ = some (.int .i32 i) ∧ w'.cell? ⟨o, 2, none⟩ = some (.int .i64 (-2))) (ds := [16]) #[false, false, false, false, false, false, false, false, false, false, false, false, false, false, false, false, false] (by kernel_rfl) rfl rfl HS2.out (fun hHeld => ?_)
  refine pure_ (i := 0) (N := some 186) (v := ?_) (a' := ?_) #[true, false, false, false, false, false, false, false, false, false, false, false, false, false, false, false, false] rfl rfl (by kernel_rfl) (fun _ _ _ h => h) (Or.inl ⟨by rfl, ?_⟩) ?_ ?_
  rotate_left
  · intro w'
    go_simp
    with_reducible rfl
  rotate_left
  · simp only [Act.put, List.setIfInBounds_toArray, List.set_cons_zero, List.set_cons_succ, i64_w, i32_w]
    rfl
  refine pure_ (i := 1) (N := some 187) (v := ?_) (a' := ?_) #[true, true, false, false, false, false, false, false, false, false, false, false, false, false, false, false, false] rfl rfl (by kernel_rfl) (fun _ _ _ h => h) (Or.inl ⟨by rfl, ?_⟩) ?_ ?_
  rotate_left
  · intro w'
    go_simp
    with_reducible rfl
  rotate_left
  · simp only [Act.put, List.setIfInBounds_toArray, List.set_cons_zero, List.set_cons_succ, i64_w, i32_w]
    rfl
  refine pure_ (i := 2) (N := some 188) (v := ?_) (a' := ?_) #[true, true, true, false, false, false, false, false, false, false, false, false, false, false, false, false, false] rfl rfl (by kernel_rfl) (fun _ _ _ h => h) (Or.inl ⟨by rfl, ?_⟩) ?_ ?_
  rotate_left
  · intro w'
    go_simp
    with_reducible rfl
  rotate_left
  · simp only [Act.put, List.setIfInBounds_toArray, List.set_cons_zero, List.set_cons_succ, i64_w, i32_w]
    rfl
  refine take_ (i := 3) (N := some 189) (v := ?_) (a' := ?_) #[true, true, true, true, false, false, false, false, false, false, false, false, false, false, false, false, false] rfl rfl (by kernel_rfl) (fun _ _ _ h => h) (Or.inl ⟨by rfl, ?_⟩) hHeld ?_ ?_
  rotate_left
  · rintro w' ⟨s0, s1⟩
    go_simp
    with_reducible rfl
  rotate_left
  · simp only [Act.put, List.setIfInBounds_toArray, List.set_cons_zero, List.set_cons_succ, i64_w, i32_w]
    rfl
  refine pure_ (i := 4) (N := some 190) (v := ?_) (a' := ?_) #[true, true, true, true, true, false, false, false, false, false, false, false, false, false, false, false, false] rfl rfl (by kernel_rfl) (fun _ _ _ h => h) (Or.inl ⟨by rfl, ?_⟩) ?_ ?_
  rotate_left
  · intro w'
    go_simp
    with_reducible rfl
  rotate_left
  · simp only [Act.put, List.setIfInBounds_toArray, List.set_cons_zero, List.set_cons_succ, i64_w, i32_w]
    rfl
  refine pure_ (i := 5) (N := some 191) (v := ?_) (a' := ?_) #[true, true, true, true, true, true, false, false, false, false, false, false, false, false, false, false, false] rfl rfl (by kernel_rfl) (fun _ _ _ h => h) (Or.inl ⟨by rfl, ?_⟩) ?_ ?_
  rotate_left
  · intro w'
    go_simp
    with_reducible rfl
  rotate_left
  · simp only [Act.put, List.setIfInBounds_toArray, List.set_cons_zero, List.set_cons_succ, i64_w, i32_w]
    rfl
  refine pure_ (i := 6) (N := some 192) (v := ?_) (a' := ?_) #[true, true, true, true, true, true, true, false, false, false, false, false, false, false, false, false, false] rfl rfl (by kernel_rfl) (fun _ _ _ h => h) (Or.inl ⟨by rfl, ?_⟩) ?_ ?_
  rotate_left
  · intro w'
    go_simp
    with_reducible rfl
  rotate_left
  · simp only [Act.put, List.setIfInBounds_toArray, List.set_cons_zero, List.set_cons_succ, i64_w, i32_w]
    rfl
  refine take_ (i := 7) (N := some 193) (v := ?_) (a' := ?_) #[true, true, true, true, true, true, true, true, false, false, false, false, false, false, false, false, false] rfl rfl (by kernel_rfl) (fun _ _ _ h => h) (Or.inl ⟨by rfl, ?_⟩) hHeld ?_ ?_
  rotate_left
  · rintro w' ⟨s0, s1⟩
    go_simp
    with_reducible rfl
  rotate_left
  · simp only [Act.put, List.setIfInBounds_toArray, List.set_cons_zero, List.set_cons_succ, i64_w, i32_w]
    rfl
  refine pure_ (i := 8) (N := some 194) (v := ?_) (a' := ?_) #[true, true, true, true, true, true, true, true, true, false, false, false, false, false, false, false, false] rfl rfl (by kernel_rfl) (fun _ _ _ h => h) (Or.inl ⟨by rfl, ?_⟩) ?_ ?_
  rotate_left
  · intro w'
    go_simp
    with_reducible rfl
  rotate_left
  · simp only [Act.put, List.setIfInBounds_toArray, List.set_cons_zero, List.set_cons_succ, i64_w, i32_w]
    rfl
  refine pure_ (i := 9) (N := some 195) (v := ?_) (a' := ?_) #[true, true, true, true, true, true, true, true, true, true, false, false, false, false, false, false, false] rfl rfl (by kernel_rfl) (fun _ _ _ h => h) (Or.inl ⟨by rfl, ?_⟩) ?_ ?_
  rotate_left
  · intro w'
    go_simp
    with_reducible rfl
  rotate_left
  · simp only [Act.put, List.setIfInBounds_toArray, List.set_cons_zero, List.set_cons_succ, i64_w, i32_w]
    rfl
  refine pure_ (i := 10) (N := some 196) (v := ?_) (a' := ?_) #[true, true, true, true, true, true, true, true, true, true, true, false, false, false, false, false, false] rfl rfl (by kernel_rfl) (fun _ _ _ h => h) (Or.inl ⟨by rfl, ?_⟩) ?_ ?_
  rotate_left
  · intro w'
    go_simp
    with_reducible rfl
  rotate_left
  · simp only [Act.put, List.setIfInBounds_toArray, List.set_cons_zero, List.set_cons_succ, i64_w, i32_w]
    rfl
  refine pure_ (i := 11) (N := some 197) (v := ?_) (a' := ?_) #[true, true, true, true, true, true, true, true, true, true, true, true, false, false, false, false, false] rfl rfl (by kernel_rfl) (fun _ _ _ h => h) (Or.inl ⟨by rfl, ?_⟩) ?_ ?_
  rotate_left
  · intro w'
    go_simp
    with_reducible rfl
  rotate_left
  · simp only [Act.put, List.setIfInBounds_toArray, List.set_cons_zero, List.set_cons_succ, i64_w, i32_w]
    rfl
  refine pure_ (i := 12) (N := some 198) (v := ?_) (a' := ?_) #[true, true, true, true, true, true, true, true, true, true, true, true, true, false, false, false, false] rfl rfl (by kernel_rfl) (fun _ _ _ h => h) (Or.inl ⟨by rfl, ?_⟩) ?_ ?_
  rotate_left
  · intro w'
    go_simp
    with_reducible rfl
  rotate_left
  · simp only [Act.put, List.setIfInBounds_toArray, List.set_cons_zero, List.set_cons_succ, i64_w, i32_w]
    rfl
  refine pure_ (i := 13) (N := some 199) (v := ?_) (a' := ?_) #[true, true, true, true, true, true, true, true, true, true, true, true, true, true, false, false, false] rfl rfl (by kernel_rfl) (fun _ _ _ h => h) (Or.inl ⟨by rfl, ?_⟩) ?_ ?_
  rotate_left
  · intro w'
    go_simp
    with_reducible rfl
  rotate_left
  · simp only [Act.put, List.setIfInBounds_toArray, List.set_cons_zero, List.set_cons_succ, i64_w, i32_w]
    rfl
  refine pure_ (i := 14) (N := some 200) (v := ?_) (a' := ?_) #[true, true, true, true, true, true, true, true, true, true, true, true, true, true, true, false, false] rfl rfl (by kernel_rfl) (fun _ _ _ h => h) (Or.inl ⟨by rfl, ?_⟩) ?_ ?_
  rotate_left
  · intro w'
    go_simp
    with_reducible rfl
  rotate_left
  · simp only [Act.put, List.setIfInBounds_toArray, List.set_cons_zero, List.set_cons_succ, i64_w, i32_w]
    rfl
  refine pure_ (i := 15) (N := some 201) (v := ?_) (a' := ?_) #[true, true, true, true, true, true, true, true, true, true, true, true, true, true, true, true, false] rfl rfl (by kernel_rfl) (fun _ _ _ h => h) (Or.inl ⟨by rfl, ?_⟩) ?_ ?_
  rotate_left
  · intro w'
    go_simp
    with_reducible rfl
  rotate_left
  · simp only [Act.put, List.setIfInBounds_toArray, List.set_cons_zero, List.set_cons_succ, i64_w, i32_w]
    rfl
  refine last_ (i := 16) (N := none) #[true, true, true, true, true, true, true, true, true, true, true, true, true, true, true, true, true] rfl rfl (by kernel_rfl) (by decide) (fun K hK => ?_)
  have hc2 := cell_of HT9.out (j := 2) (v := .int .i32 i) rfl
  have hf2 := frozen_of HT9.out 2
  refine skip_ (w1 := ?_) (by rfl) rfl ?_ ?_
  rotate_left
  · go_simp
    rfl
  refine hK.out _ _ ?_
  clear hK K
  refine norm_ (a' := ?_) ?_ ?_
  rotate_left
  · rfl
  refine done_ (by kernel_rfl) ?_
  clear hHeld HS2
  clear hc4 hf4 hc5 hf5 hc0 hc2 hf2 hc6 hf6
  rw [wrapPush2 i d (by omega)]
  obtain ⟨w6, hw6⟩ : ∃ w6, (w9.setCell ⟨g, 2, none⟩ (.int .i32 ((i + 1 + 2 + d : Nat) : Int))).drew = w6 := ⟨_, rfl⟩
  rw [hw6]
  have HT6 : Aside0 (Tk w6 g (some ad) s.length c ((i + 1 + 2 + d : Nat) : Int) p1 op data .nilIface) := ⟨by rw [← hw6]; exact heap_set_same (w := w9) HT9.out _⟩
  have HO6 : Aside0 (w6.heap[o]? = some (.cells #[.int .u8 v, .string nm, .int .i64 (olen v)] 49 (0, 0))) := ⟨by rw [← hw6]; exact (Below.heap_setCell w9 ⟨g, 2, none⟩ _ o hog).trans HO9.out⟩
  have HN6 : Aside0 (Only g w w6) := ⟨by rw [← hw6]; exact (HN9.out.set 2 _).drew⟩
  have HV6 : Aside0 (Kd.V (Kd.int .u8) 5 w6 base oks (.slice (some ad) s.length c) s) := ⟨by rw [← hw6]; exact Kd.V_drew (Kd.V_far HV9.out (p := ⟨g, 2, none⟩) HOK.out _)⟩
  clear hw6 HT9 HO9 HN9 HV9 ho2 HV1
  have hc4 := cell_of HT6.out (j := 4) (v := op) rfl
  have hf4 := frozen_of HT6.out 4
  have hc5 := cell_of (heap_set_same HT6.out (j := 4) (.pointer (some ⟨o, 0, none⟩))) (j := 5) (v := data) rfl
  have hf5 := frozen_of (heap_set_same HT6.out (j := 4) (.pointer (some ⟨o, 0, none⟩))) 5
  go_wp2_with ((with_reducible refine at_dst (N := 209) rfl ?_); refine wpList_run rfl (.slice A3 ds.length (c - (i + 1) - 2)) (w' := w6.setCell ⟨g, 4, none⟩ (.pointer (some ⟨o, 0, none⟩))) (by unfold execOp; go_simp; rfl) ?_)
  go_ret
  have ho : Only g w ((w6.setCell ⟨g, 4, none⟩ (.pointer (some ⟨o, 0, none⟩))).setCell ⟨g, 5, none⟩ (.slice A3 ds.length (c - (i + 1) - 2))) := (HN6.out.set 4 _).set 5 _
  refine ⟨rfl, p1, o, _, nm, olen v, heap_set_same (heap_set_same HT6.out _) _, ?_, HG2.out, ?_, ho⟩
  · rw [Below.heap_setCell _ _ _ _ hog, Below.heap_setCell _ _ _ _ hog]
    exact HO6.out
  · have e : (s.drop (i + 1 + 2)).take d = ds := by rw [← HDS.out, ← HZS.out, ← HXS.out, List.drop_drop]
    rw [e]
    have hv5 := V_cut (V_cut (V_cut HV6.out HA1.out hC1) HA3.out HC3.out) HA4.out HC4.out
    exact Kd.V_far (Kd.V_far hv5 HOK.out _) HOK.out _

set_option maxRecDepth 100000 in
set_option maxHeartbeats 8000000 in
theorem pushBad4 (g : Nat) (ad : Addr) (s : List Int) (c i : Nat) (pos : Int) (op data : Value) (oks : Nat → Prop) (base : Nat) (w : World)
    (hok : ∀ k, oks k → k ≠ g) (hV : Kd.V (Kd.int .u8) 5 w base oks (.slice (some ad) s.length c) s) (hT : Tk w g (some ad) s.length c i pos op data .nilIface)
    (hn : s.length ≤ 1000000) (hi : i < s.length) (v : Nat) (hv : v < 256) (hsv : s.getD i 0 = v) (hl : olen v = -4) (b0 : Int) (hb0 : s.getD (i + 1 + 0) 0 = b0) (b00 : 0 ≤ b0) (b01 : b0 < 256) (b1 : Int) (hb1 : s.getD (i + 1 + 1) 0 = b1) (b10 : 0 ≤ b1) (b11 : b1 < 256) (b2 : Int) (hb2 : s.getD (i + 1 + 2) 0 = b2) (b20 : 0 ≤ b2) (b21 : b2 < 256) (b3 : Int) (hb3 : s.getD (i + 1 + 3) 0 = b3) (b30 : 0 ≤ b3) (b31 : b3 < 256) (hk : i + 1 + 4 ≤ s.length) (D : Int) (hD : wrap32 (b0 + b1 * 256 + b2 * 65536 + b3 * 16777216) = D) (hbad : (s.length : Int) - (i + 1 + 4) < D ∨ D < 0) :
    Calls Try.prog 8 #[.pointer (some ⟨g, 0, none⟩)] w fun e w' => e = .returned (.bool false) ∧ ∃ pos' op' data' str, Tk w' g (some ad) s.length c i pos' op' data' (.iface 44 (.agg #[.int .i64 27, .string str])) ∧ Only g w w' := by
  obtain ⟨i05, hi05, _, hsz5, _⟩ := info_parts info5
  have hc9 := (Kd.V_at hV).2.1
  obtain ⟨A1, hcut1, hA1, hC1⟩ := print_drop_of (P := Try.prog) (Value.int .u8) 0 22 5 .i32 Try.underlying22 hi05 hsz5 (some ad) c s ((i : Int) + 1) (by omega) (by omega) hc9
  rw [show ((i : Int) + 1).toNat = i + 1 by omega] at hcut1 hA1 hC1
  rw [← (tokW32 (x := (i : Int) + 1) (by omega) (by omega))] at hcut1
  obtain ⟨xs, hxs⟩ : ∃ xs, s.drop (i + 1) = xs := ⟨_, rfl⟩
  have hxl : xs.length = s.length - (i + 1) := by rw [← hxs, List.length_drop]
  rw [hxs] at hcut1 hA1 hC1
  have HXL := Aside0.mk hxl
  have HA1 := Aside0.mk hA1
  have HXS := Aside0.mk hxs
  clear hxl hA1 hxs
  have hV1 := V_cut hV HA1.out hC1
  obtain ⟨ad1, e1, _⟩ := Kd.at_int (Kd.F_now (Kd.V_at hV1).2.2) (0 : Int) (by omega) (by have := HXL.out; omega)
  subst e1
  clear hV1
  obtain ⟨hcut2, _, hC2⟩ := print_take_of (P := Try.prog) (Value.int .u8) 0 22 5 .i64 Try.underlying22 hi05 hsz5 (some ad1) (c - (i + 1)) xs 4 (by omega) (by have := HXL.out; omega) hC1
  rw [show ((4 : Int)).toNat = 4 from rfl, show (xs.take 4).length = 4 by rw [List.length_take]; have := HXL.out; omega] at hcut2
  clear hC2
  obtain ⟨A3, hcut3, hA3, hC3⟩ := print_drop_of (P := Try.prog) (Value.int .u8) 0 22 5 .i64 Try.underlying22 hi05 hsz5 (some ad1) (c - (i + 1)) xs 4 (by omega) (by have := HXL.out; omega) hC1
  rw [show ((4 : Int)).toNat = 4 from rfl] at hcut3 hA3 hC3
  obtain ⟨zs, hzs⟩ : ∃ zs, xs.drop 4 = zs := ⟨_, rfl⟩
  have hzl : zs.length = s.length - (i + 1 + 4) := by rw [← hzs, List.length_drop]; have := HXL.out; omega
  rw [hzs] at hcut3 hA3 hC3
  have HZL := Aside0.mk hzl
  have HA3 := Aside0.mk hA3
  have HZS := Aside0.mk hzs
  have HC3 := Aside0.mk hC3
  clear hzl hA3 hzs hC3
  have HB0 := Aside0.mk (show xs.getD 0 0 = b0 by rw [← HXS.out, ← hb0]; simp [List.getD_eq_getElem?_getD, List.getElem?_drop])
  have HB1 := Aside0.mk (show xs.getD 1 0 = b1 by rw [← HXS.out, ← hb1]; simp [List.getD_eq_getElem?_getD, List.getElem?_drop])
  have HB2 := Aside0.mk (show xs.getD 2 0 = b2 by rw [← HXS.out, ← hb2]; simp [List.getD_eq_getElem?_getD, List.getElem?_drop])
  have HB3 := Aside0.mk (show xs.getD 3 0 = b3 by rw [← HXS.out, ← hb3]; simp [List.getD_eq_getElem?_getD, List.getElem?_drop])
  have HD9 := Aside0.mk hD
  clear hD hb0 hb1 hb2 hb3
  have HD := Aside0.mk (doneC g (some ad) s.length c i pos op data w (by omega) hT)
  rw [show decide ((s.length : Int) ≤ (i : Int)) = false from decide_eq_false (by omega)] at HD
  have HT := Aside0.mk hT
  have HV := Aside0.mk hV
  have HOK := Aside0.mk hok
  have HSV := Aside0.mk hsv
  clear hT hV hsv hok
  go_enter Try.func8, Try.ntmps8
  go_wp2_with (go_at_call 16; refine HD.out.mono ?_; rintro e w1 ⟨rfl, hb⟩; have HB1 := Aside0.mk hb; have HT1 := Aside0.mk (HT.out.below hb); clear hb; have hc3 := cell_of HT1.out (j := 3) (v := .int .i32 pos) rfl; have hf3 := frozen_of HT1.out 3)
  obtain ⟨p1, hp1⟩ : ∃ p1, wrap32 (pos + 1) = p1 := ⟨_, rfl⟩
  obtain ⟨w2, hw2⟩ : ∃ w2, w1.setCell ⟨g, 3, none⟩ (.int .i32 p1) = w2 := ⟨_, rfl⟩
  rw [hp1, hw2]
  have HT2 : Aside0 (Tk w2 g (some ad) s.length c i p1 op data .nilIface) := ⟨by rw [← hw2]; exact heap_set_same HT1.out _⟩
  have HN2 : Aside0 (Only g w w2) := ⟨by rw [← hw2]; exact (Only.of_below HB1.out).set 3 _⟩
  have HG := Aside0.mk (blk_lt' HT.out)
  have HV2 := Aside0.mk (Kd.V_only HV.out HN2.out HOK.out)
  have HS := Aside0.mk (And.intro (cell_of (w := w2.drew) HT2.out (j := 0) (v := .slice (some ad) s.length c) rfl) (And.intro (cell_of (w := w2.drew) HT2.out (j := 2) (v := .int .i32 i) rfl) (show w2.drew.cell? (ad.add i) = some (.int .u8 v) from scriptCell HV2.out i hi HSV.out)))
  clear hc3 hf3 HT1 HB1 hw2 hp1
  refine start_ (n := 12) (S := fun w' => w'.cell? ⟨g, 0, none⟩ = some (.slice (some ad) s.length c) ∧ w'.cell? ⟨g, 2, none⟩ = some (.int .i32 i) ∧ w'.cell? (ad.add i) = some (.int .u8 v)) (ds := []) #[false, false, false, false, false, false, false, false, false, false, false, false] (by kernel_rfl) rfl rfl HS.out (fun hHeld => ?_)
  refine pure_ (i := 0) (N := some 20) (v := ?_) (a' := ?_) #[true, false, false, false, false, false, false, false, false, false, false, false] rfl rfl (by kernel_rfl) (fun _ _ _ h => h) (Or.inl ⟨by rfl, ?_⟩) ?_ ?_
  rotate_left
  · intro w'
    go_simp
    with_reducible rfl
  rotate_left
  · simp only [Act.put, List.setIfInBounds_toArray, List.set_cons_zero, List.set_cons_succ, i64_w, i32_w]
    rfl
  refine pure_ (i := 1) (N := some 21) (v := ?_) (a' := ?_) #[true, true, false, false, false, false, false, false, false, false, false, false] rfl rfl (by kernel_rfl) (fun _ _ _ h => h) (Or.inl ⟨by rfl, ?_⟩) ?_ ?_
  rotate_left
  · intro w'
    go_simp
    with_reducible rfl
  rotate_left
  · simp only [Act.put, List.setIfInBounds_toArray, List.set_cons_zero, List.set_cons_succ, i64_w, i32_w]
    rfl
  refine pure_ (i := 2) (N := some 22) (v := ?_) (a' := ?_) #[true, true, true, false, false, false, false, false, false, false, false, false] rfl rfl (by kernel_rfl) (fun _ _ _ h => h) (Or.inl ⟨by rfl, ?_⟩) ?_ ?_
  rotate_left
  · intro w'
    go_simp
    with_reducible rfl
  rotate_left
  · simp only [Act.put, List.setIfInBounds_toArray, List.set_cons_zero, List.set_cons_succ, i64_w, i32_w]
    rfl
  refine take_ (i := 3) (N := some 23) (v := ?_) (a' := ?_) #[true, true, true, true, false, false, false, false, false, false, false, false] rfl rfl (by kernel_rfl) (fun _ _ _ h => h) (Or.inl ⟨by rfl, ?_⟩) hHeld ?_ ?_
  rotate_left
  · rintro w' ⟨s0, s1, s2⟩
    go_simp
    with_reducible rfl
  rotate_left
  · simp only [Act.put, List.setIfInBounds_toArray, List.set_cons_zero, List.set_cons_succ, i64_w, i32_w]
    rfl
  refine pure_ (i := 4) (N := some 24) (v := ?_) (a' := ?_) #[true, true, true, true, true, false, false, false, false, false, false, false] rfl rfl (by kernel_rfl) (fun _ _ _ h => h) (Or.inl ⟨by rfl, ?_⟩) ?_ ?_
  rotate_left
  · intro w'
    go_simp
    with_reducible rfl
  rotate_left
  · simp only [Act.put, List.setIfInBounds_toArray, List.set_cons_zero, List.set_cons_succ, i64_w, i32_w]
    rfl
  refine pure_ (i := 5) (N := some 25) (v := ?_) (a' := ?_) #[true, true, true, true, true, true, false, false, false, false, false, false] rfl rfl (by kernel_rfl) (fun _ _ _ h => h) (Or.inl ⟨by rfl, ?_⟩) ?_ ?_
  rotate_left
  · intro w'
    go_simp
    with_reducible rfl
  rotate_left
  · simp only [Act.put, List.setIfInBounds_toArray, List.set_cons_zero, List.set_cons_succ, i64_w, i32_w]
    rfl
  refine pure_ (i := 6) (N := some 26) (v := ?_) (a' := ?_) #[true, true, true, true, true, true, true, false, false, false, false, false] rfl rfl (by kernel_rfl) (fun _ _ _ h => h) (Or.inl ⟨by rfl, ?_⟩) ?_ ?_
  rotate_left
  · intro w'
    go_simp
    with_reducible rfl
  rotate_left
  · simp only [Act.put, List.setIfInBounds_toArray, List.set_cons_zero, List.set_cons_succ, i64_w, i32_w]
    rfl
  refine take_ (i := 7) (N := some 27) (v := ?_) (a' := ?_) #[true, true, true, true, true, true, true, true, false, false, false, false] rfl rfl (by kernel_rfl) (fun _ _ _ h => h) (Or.inl ⟨by rfl, ?_⟩) hHeld ?_ ?_
  rotate_left
  · rintro w' ⟨s0, s1, s2⟩
    go_simp
    with_reducible rfl
  rotate_left
  · simp only [Act.put, List.setIfInBounds_toArray, List.set_cons_zero, List.set_cons_succ, i64_w, i32_w]
    rfl
  refine pure_ (i := 8) (N := some 28) (v := ?_) (a' := ?_) #[true, true, true, true, true, true, true, true, true, false, false, false] rfl rfl (by kernel_rfl) (fun _ _ _ h => h) (Or.inl ⟨by rfl, ?_⟩) ?_ ?_
  rotate_left
  · intro w'
    go_simp
    with_reducible rfl
  rotate_left
  · simp only [Act.put, List.setIfInBounds_toArray, List.set_cons_zero, List.set_cons_succ, i64_w, i32_w]
    rfl
  refine take_ (i := 9) (N := some 29) (v := ?_) (a' := ?_) #[true, true, true, true, true, true, true, true, true, true, false, false] rfl rfl (by kernel_rfl) (fun _ _ _ h => h) (Or.inl ⟨by rfl, ?_⟩) hHeld ?_ ?_
  rotate_left
  · rintro w' ⟨s0, s1, s2⟩
    go_simp
    with_reducible rfl
  rotate_left
  · simp only [Act.put, List.setIfInBounds_toArray, List.set_cons_zero, List.set_cons_succ, i64_w, i32_w]
    rfl
  refine one_ (i := 10) (N := some 30) #[true, true, true, true, true, true, true, true, true, true, true, false] rfl rfl (by kernel_rfl) (by decide) (fun K hK => ?_)
  refine goes_ Try.func17 (by kernel_rfl) rfl #[.int .u8 v] (by rfl) rfl rfl (by (try simp only [List.map_toArray, List.map_cons, List.map_nil]); first | done | rfl | (simp only [List.length_drop, List.length_take]; rfl)) ?_
  with_reducible refine (opcodeC v hv _).mono ?_
  rintro e w4 ⟨rfl, nm, hw4⟩
  refine ⟨_, rfl, ?_⟩
  have HN4 : Aside0 (Only g w w4) := ⟨by rw [hw4]; exact HN2.out.drew.alloc _⟩
  have HT4 : Aside0 (Tk w4 g (some ad) s.length c i p1 op data .nilIface) := ⟨by rw [hw4]; exact heap_alloc_lt (w := w2.drew) HT2.out _⟩
  have HO4 : Aside0 (w4.heap[w2.heap.size]? = some (.cells #[.int .u8 v, .string nm, .int .i64 (olen v)] 49 (0, 0))) := ⟨by rw [hw4]; exact heap_alloc_new w2.drew _⟩
  have HV4 : Aside0 (Kd.V (Kd.int .u8) 5 w4 base oks (.slice (some ad) s.length c) s) := ⟨by rw [hw4]; exact Kd.V_alloc (Kd.V_drew HV2.out) _⟩
  rw [show (w2.drew).heap.size = w2.heap.size from rfl]
  have HG2 := Aside0.mk HN2.out.size
  obtain ⟨o, ho⟩ : ∃ o, w2.heap.size = o := ⟨_, rfl⟩
  rw [ho] at HO4 HG2 ⊢
  clear hw4 HT2 HV2 ho HN2
  refine hK.out _ _ ⟨cell_of HT4.out (j := 0) (v := .slice (some ad) s.length c) rfl, cell_of HT4.out (j := 2) (v := .int .i32 i) rfl, scriptCell HV4.out i hi HSV.out⟩ (fun hHeld => ?_)
  clear hK K
  refine norm_ (a' := ?_) ?_ ?_
  rotate_left
  · show Act.put _ (some 30) _ = _
    simp only [Act.put, List.setIfInBounds_toArray, List.set_cons_zero, List.set_cons_succ, i64_w, i32_w]
    rfl
  refine pure_ (i := 11) (N := some 3) (v := ?_) (a' := ?_) #[true, true, true, true, true, true, true, true, true, true, true, true] rfl rfl (by kernel_rfl) (fun _ _ _ h => h) (Or.inl ⟨by rfl, ?_⟩) ?_ ?_
  rotate_left
  · intro w'
    go_simp
    with_reducible rfl
  rotate_left
  · simp only [Act.put, List.setIfInBounds_toArray, List.set_cons_zero, List.set_cons_succ, i64_w, i32_w]
    rfl
  refine done_ (by kernel_rfl) ?_
  clear hHeld HS
  have hc0 := cell_of HT4.out (j := 0) (v := .slice (some ad) s.length c) rfl
  have hc2 := cell_of HT4.out (j := 2) (v := .int .i32 i) rfl
  have hc4 := cell_of HT4.out (j := 4) (v := op) rfl
  have hc5 := cell_of HT4.out (j := 5) (v := data) rfl
  have hc6 := cell_of HT4.out (j := 6) (v := .nilIface) rfl
  have hf2 := frozen_of HT4.out 2
  have hf4 := frozen_of HT4.out 4
  have hf5 := frozen_of HT4.out 5
  have hf6 := frozen_of HT4.out 6
  have ho2 := cell_of HO4.out (j := 2) (v := .int .i64 (olen v)) rfl
  rw [hl] at ho2
  have HS := Aside0.mk (And.intro (cell_of (w := w4.drew) HT4.out (j := 0) (v := .slice (some ad) s.length c) rfl) (cell_of (w := w4.drew) HT4.out (j := 2) (v := .int .i32 i) rfl))
  have HV1 := Aside0.mk (V_cut HV4.out HA1.out hC1)
  have hx0 : w4.cell? ad1 = some (.int .u8 b0) := by have h9 := scriptCell HV1.out 0 (by have := HXL.out; omega) HB0.out; rwa [add_zero_] at h9
  have hx1 : w4.cell? ⟨ad1.block, ad1.off + 1, none⟩ = some (.int .u8 b1) := by have h9 := scriptCell HV1.out 1 (by have := HXL.out; omega) HB1.out; rwa [add_one_ _ _ (by decide)] at h9
  have hx2 : w4.cell? ⟨ad1.block, ad1.off + 2, none⟩ = some (.int .u8 b2) := by have h9 := scriptCell HV1.out 2 (by have := HXL.out; omega) HB2.out; rwa [add_one_ _ _ (by decide)] at h9
  have hx3 : w4.cell? ⟨ad1.block, ad1.off + 3, none⟩ = some (.int .u8 b3) := by have h9 := scriptCell HV1.out 3 (by have := HXL.out; omega) HB3.out; rwa [add_one_ _ _ (by decide)] at h9
  have e3 : decide ((xs.length : Int) < 4) = false := decide_eq_false (by have := HXL.out; omega)
  have e4 : decide (xs.length < 4) = false := decide_eq_false (by have := HXL.out; omega)
  have e5 : ¬ xs.length < 4 := by have := HXL.out; omega
  go_wp2
  refine start_ (n := 11) (S := fun w' => w'.cell? ⟨g, 0, none⟩ = some (.slice (some ad) s.length c) ∧ w'.cell? ⟨g, 2, none⟩ = some (.int .i32 i)) (ds := []) #[false, false, false, false, false, false, false, false, false, false, false] (by kernel_rfl) rfl rfl HS.out (fun hHeld => ?_)
  refine pure_ (i := 0) (N := some 110) (v := ?_) (a' := ?_) #[true, false, false, false, false, false, false, false, false, false, false] rfl rfl (by kernel_rfl) (fun _ _ _ h => h) (Or.inl ⟨by rfl, ?_⟩) ?_ ?_
  rotate_left
  · intro w'
    go_simp
    with_reducible rfl
  rotate_left
  · simp only [Act.put, List.setIfInBounds_toArray, List.set_cons_zero, List.set_cons_succ, i64_w, i32_w]
    rfl
  refine pure_ (i := 1) (N := some 111) (v := ?_) (a' := ?_) #[true, true, false, false, false, false, false, false, false, false, false] rfl rfl (by kernel_rfl) (fun _ _ _ h => h) (Or.inl ⟨by rfl, ?_⟩) ?_ ?_
  rotate_left
  · intro w'
    go_simp
    with_reducible rfl
  rotate_left
  · simp only [Act.put, List.setIfInBounds_toArray, List.set_cons_zero, List.set_cons_succ, i64_w, i32_w]
    rfl
  refine pure_ (i := 2) (N := some 112) (v := ?_) (a' := ?_) #[true, true, true, false, false, false, false, false, false, false, false] rfl rfl (by kernel_rfl) (fun _ _ _ h => h) (Or.inl ⟨by rfl, ?_⟩) ?_ ?_
  rotate_left
  · intro w'
    go_simp
    with_reducible rfl
  rotate_left
  · simp only [Act.put, List.setIfInBounds_toArray, List.set_cons_zero, List.set_cons_succ, i64_w, i32_w]
    rfl
  refine take_ (i := 3) (N := some 113) (v := ?_) (a' := ?_) #[true, true, true, true, false, false, false, false, false, false, false] rfl rfl (by kernel_rfl) (fun _ _ _ h => h) (Or.inl ⟨by rfl, ?_⟩) hHeld ?_ ?_
  rotate_left
  · rintro w' ⟨s0, s1⟩
    go_simp
    with_reducible rfl
  rotate_left
  · simp only [Act.put, List.setIfInBounds_toArray, List.set_cons_zero, List.set_cons_succ, i64_w, i32_w]
    rfl
  refine pure_ (i := 4) (N := some 114) (v := ?_) (a' := ?_) #[true, true, true, true, true, false, false, false, false, false, false] rfl rfl (by kernel_rfl) (fun _ _ _ h => h) (Or.inl ⟨by rfl, ?_⟩) ?_ ?_
  rotate_left
  · intro w'
    go_simp
    with_reducible rfl
  rotate_left
  · simp only [Act.put, List.setIfInBounds_toArray, List.set_cons_zero, List.set_cons_succ, i64_w, i32_w]
    rfl
  refine pure_ (i := 5) (N := some 115) (v := ?_) (a' := ?_) #[true, true, true, true, true, true, false, false, false, false, false] rfl rfl (by kernel_rfl) (fun _ _ _ h => h) (Or.inl ⟨by rfl, ?_⟩) ?_ ?_
  rotate_left
  · intro w'
    go_simp
    with_reducible rfl
  rotate_left
  · simp only [Act.put, List.setIfInBounds_toArray, List.set_cons_zero, List.set_cons_succ, i64_w, i32_w]
    rfl
  refine pure_ (i := 6) (N := some 116) (v := ?_) (a' := ?_) #[true, true, true, true, true, true, true, false, false, false, false] rfl rfl (by kernel_rfl) (fun _ _ _ h => h) (Or.inl ⟨by rfl, ?_⟩) ?_ ?_
  rotate_left
  · intro w'
    go_simp
    with_reducible rfl
  rotate_left
  · simp only [Act.put, List.setIfInBounds_toArray, List.set_cons_zero, List.set_cons_succ, i64_w, i32_w]
    rfl
  refine take_ (i := 7) (N := some 117) (v := ?_) (a' := ?_) #[true, true, true, true, true, true, true, true, false, false, false] rfl rfl (by kernel_rfl) (fun _ _ _ h => h) (Or.inl ⟨by rfl, ?_⟩) hHeld ?_ ?_
  rotate_left
  · rintro w' ⟨s0, s1⟩
    go_simp
    with_reducible rfl
  rotate_left
  · simp only [Act.put, List.setIfInBounds_toArray, List.set_cons_zero, List.set_cons_succ, i64_w, i32_w]
    rfl
  refine pure_ (i := 8) (N := some 118) (v := ?_) (a' := ?_) #[true, true, true, true, true, true, true, true, true, false, false] rfl rfl (by kernel_rfl) (fun _ _ _ h => h) (Or.inl ⟨by rfl, ?_⟩) ?_ ?_
  rotate_left
  · intro w'
    go_simp
    with_reducible rfl
  rotate_left
  · simp only [Act.put, List.setIfInBounds_toArray, List.set_cons_zero, List.set_cons_succ, i64_w, i32_w]
    rfl
  refine pure_ (i := 9) (N := some 119) (v := ?_) (a' := ?_) #[true, true, true, true, true, true, true, true, true, true, false] rfl rfl (by kernel_rfl) (fun _ _ _ h => h) (Or.inl ⟨by rfl, ?_⟩) ?_ ?_
  rotate_left
  · intro w'
    unfold execOp
    go_simp
    rfl
  rotate_left
  · simp only [Act.put, List.setIfInBounds_toArray, List.set_cons_zero, List.set_cons_succ, i64_w, i32_w]
    rfl
  refine pure_ (i := 10) (N := some 6) (v := ?_) (a' := ?_) #[true, true, true, true, true, true, true, true, true, true, true] rfl rfl (by kernel_rfl) (fun _ _ _ h => h) (Or.inl ⟨by rfl, ?_⟩) ?_ ?_
  rotate_left
  · intro w'
    go_simp
    with_reducible rfl
  rotate_left
  · simp only [Act.put, List.setIfInBounds_toArray, List.set_cons_zero, List.set_cons_succ, i64_w, i32_w]
    rfl
  refine done_ (by kernel_rfl) ?_
  clear hHeld HS
  have HS3 := Aside0.mk (And.intro (show w4.drew.drew.cell? ad1 = _ from hx0) (And.intro (show w4.drew.drew.cell? ⟨ad1.block, ad1.off + 1, none⟩ = _ from hx1) (And.intro (show w4.drew.drew.cell? ⟨ad1.block, ad1.off + 2, none⟩ = _ from hx2) (show w4.drew.drew.cell? ⟨ad1.block, ad1.off + 3, none⟩ = _ from hx3))))
  go_wp2
  refine start_ (n := 6) (S := fun w' => w'.cell? ad1 = some (.int .u8 b0) ∧ w'.cell? ⟨ad1.block, ad1.off + 1, none⟩ = some (.int .u8 b1) ∧ w'.cell? ⟨ad1.block, ad1.off + 2, none⟩ = some (.int .u8 b2) ∧ w'.cell? ⟨ad1.block, ad1.off + 3, none⟩ = some (.int .u8 b3)) (ds := []) #[false, false, false, false, false, false] (by kernel_rfl) rfl rfl HS3.out (fun hHeld => ?_)
  refine take_ (i := 0) (N := some 159) (v := ?_) (a' := ?_) #[true, false, false, false, false, false] rfl rfl (by kernel_rfl) (fun _ _ _ h => h) (Or.inl ⟨by rfl, ?_⟩) hHeld ?_ ?_
  rotate_left
  · rintro w' ⟨s0, s1, s2, s3⟩
    go_simp
    with_reducible rfl
  rotate_left
  · simp only [Act.put, List.setIfInBounds_toArray, List.set_cons_zero, List.set_cons_succ, i64_w, i32_w]
    rfl
  refine pure_ (i := 1) (N := some 160) (v := ?_) (a' := ?_) #[true, true, false, false, false, false] rfl rfl (by kernel_rfl) (fun _ _ _ h => h) (Or.inl ⟨by rfl, ?_⟩) ?_ ?_
  rotate_left
  · intro w'
    go_simp
    with_reducible rfl
  rotate_left
  · simp only [Act.put, List.setIfInBounds_toArray, List.set_cons_zero, List.set_cons_succ, i64_w, i32_w]
    rfl
  refine pure_ (i := 2) (N := some 161) (v := ?_) (a' := ?_) #[true, true, true, false, false, false] rfl rfl (by kernel_rfl) (fun _ _ _ h => h) (Or.inl ⟨by rfl, ?_⟩) ?_ ?_
  rotate_left
  · intro w'
    unfold execOp
    go_simp
    rfl
  rotate_left
  · simp only [Act.put, List.setIfInBounds_toArray, List.set_cons_zero, List.set_cons_succ, i64_w, i32_w]
    rfl
  refine one_ (i := 3) (N := some 162) #[true, true, true, true, false, false] rfl rfl (by kernel_rfl) (by decide) (fun K hK => ?_)
  refine goes_ Try.func19 (by kernel_rfl) rfl #[.agg #[], .slice (some ad1) 4 (c - (i + 1))] (by rfl) rfl rfl (by (try simp only [List.map_toArray, List.map_cons, List.map_nil]); first | done | rfl | (simp only [List.length_drop, List.length_take]; rfl)) ?_
  with_reducible refine (leUint32 ad1 _ b0 b1 b2 b3 b00 b01 b10 b11 b20 b21 b30 b31 _ hHeld.1 hHeld.2.1 hHeld.2.2.1 hHeld.2.2.2).mono ?_
  rintro e w9 ⟨rfl, hb⟩
  refine ⟨_, rfl, ?_⟩
  have HT9 := Aside0.mk (Tk.below (w := w4.drew.drew) HT4.out hb)
  have HN9 : Aside0 (Only g w w9) := ⟨HN4.out.drew.drew.trans (Only.of_below hb)⟩
  have HO9 : Aside0 (w9.heap[o]? = some (.cells #[.int .u8 v, .string nm, .int .i64 (olen v)] 49 (0, 0))) := ⟨(hb.block o (blk_lt' (w := w4) HO4.out)).trans HO4.out⟩
  have HV9 : Aside0 (Kd.V (Kd.int .u8) 5 w9 base oks (.slice (some ad) s.length c) s) := ⟨Kd.V_below (Kd.V_drew (Kd.V_drew HV4.out)) hb⟩
  refine hK.out _ _ ⟨pw_cell_below hb hHeld.1, pw_cell_below hb hHeld.2.1, pw_cell_below hb hHeld.2.2.1, pw_cell_below hb hHeld.2.2.2⟩ (fun hHeld => ?_)
  clear hK K
  refine norm_ (a' := ?_) ?_ ?_
  rotate_left
  · show Act.put _ (some 162) _ = _
    simp only [Act.put, List.setIfInBounds_toArray, List.set_cons_zero, List.set_cons_succ, i64_w, i32_w]
    rfl
  refine pure_ (i := 4) (N := some 163) (v := ?_) (a' := ?_) #[true, true, true, true, true, false] rfl rfl (by kernel_rfl) (fun _ _ _ h => h) (Or.inl ⟨by rfl, ?_⟩) ?_ ?_
  rotate_left
  · intro w'
    go_simp
    with_reducible rfl
  rotate_left
  · simp only [Act.put, List.setIfInBounds_toArray, List.set_cons_zero, List.set_cons_succ, i64_w, i32_w]
    rfl
  refine pure_ (i := 5) (N := some 8) (v := ?_) (a' := ?_) #[true, true, true, true, true, true] rfl rfl (by kernel_rfl) (fun _ _ _ h => h) (Or.inl ⟨by rfl, ?_⟩) ?_ ?_
  rotate_left
  · intro w'
    go_simp
    with_reducible rfl
  rotate_left
  · simp only [Act.put, List.setIfInBounds_toArray, List.set_cons_zero, List.set_cons_succ, i64_w, i32_w]
    rfl
  refine done_ (by kernel_rfl) ?_
  clear hHeld HS3
  have ho2 := cell_of HO9.out (j := 2) (v := .int .i64 (-4)) (by simp [hl])
  have hc6 := cell_of HT9.out (j := 6) (v := .nilIface) rfl
  have hf6 := frozen_of HT9.out 6
  rw [HD9.out]
  have qZ : IntKind.i32.wrap (zs.length : Int) = zs.length := i32w (by omega) (by have := HZL.out; omega)
  go_wp2_with (first
    | (go_at_call 15; refine (errC _ _ _).mono ?_; rintro e w5 ⟨rfl, hb⟩; have HB5 := Aside0.mk hb; have HT5 := Aside0.mk (Tk.below (w := w9) HT9.out hb); clear hb hc6 hf6; have hc6 := cell_of HT5.out (j := 6) (v := .nilIface) rfl; have hf6 := frozen_of HT5.out 6)
    | ((with_reducible refine at_dst (N := 170) rfl ?_); refine wpList_run rfl (.slice A3 zs.length (c - (i + 1) - 4)) (w' := w9) (by unfold execOp; go_simp; rfl) ?_))
  all_goals first
    | (go_ret; exact ⟨rfl, p1, op, data, _, heap_set_same HT5.out _, (HN9.out.trans (Only.of_below HB5.out)).set 6 _⟩)
    | (exfalso; have := HZL.out; omega)

set_option maxRecDepth 100000 in
set_option maxHeartbeats 8000000 in
theorem pushFit4 (g : Nat) (ad : Addr) (s : List Int) (c i : Nat) (pos : Int) (op data : Value) (oks : Nat → Prop) (base : Nat) (w : World)
    (hok : ∀ k, oks k → k ≠ g) (hV : Kd.V (Kd.int .u8) 5 w base oks (.slice (some ad) s.length c) s) (hT : Tk w g (some ad) s.length c i pos op data .nilIface)
    (hn : s.length ≤ 1000000) (hi : i < s.length) (v : Nat) (hv : v < 256) (hsv : s.getD i 0 = v) (hl : olen v = -4) (b0 : Int) (hb0 : s.getD (i + 1 + 0) 0 = b0) (b00 : 0 ≤ b0) (b01 : b0 < 256) (b1 : Int) (hb1 : s.getD (i + 1 + 1) 0 = b1) (b10 : 0 ≤ b1) (b11 : b1 < 256) (b2 : Int) (hb2 : s.getD (i + 1 + 2) 0 = b2) (b20 : 0 ≤ b2) (b21 : b2 < 256) (b3 : Int) (hb3 : s.getD (i + 1 + 3) 0 = b3) (b30 : 0 ≤ b3) (b31 : b3 < 256) (hk : i + 1 + 4 ≤ s.length) (d : Nat) (hD : wrap32 (b0 + b1 * 256 + b2 * 65536 + b3 * 16777216) = (d : Int)) (hfit : i + 1 + 4 + d ≤ s.length) :
    Calls Try.prog 8 #[.pointer (some ⟨g, 0, none⟩)] w fun e w' => e = .returned (.bool true) ∧ ∃ pos' o dv nm ol, Tk w' g (some ad) s.length c ((i + 1 + 4 + d : Nat) : Int) pos' (.pointer (some ⟨o, 0, none⟩)) dv .nilIface ∧ w'.heap[o]? = some (.cells #[.int .u8 v, .string nm, .int .i64 ol] 49 (0, 0)) ∧ w.heap.size ≤ o ∧ Kd.V (Kd.int .u8) 5 w' base oks dv ((s.drop (i + 1 + 4)).take d) ∧ Only g w w' := by
  obtain ⟨i05, hi05, _, hsz5, _⟩ := info_parts info5
  have hc9 := (Kd.V_at hV).2.1
  obtain ⟨A1, hcut1, hA1, hC1⟩ := print_drop_of (P := Try.prog) (Value.int .u8) 0 22 5 .i32 Try.underlying22 hi05 hsz5 (some ad) c s ((i : Int) + 1) (by omega) (by omega) hc9
  rw [show ((i : Int) + 1).toNat = i + 1 by omega] at hcut1 hA1 hC1
  rw [← (tokW32 (x := (i : Int) + 1) (by omega) (by omega))] at hcut1
  obtain ⟨xs, hxs⟩ : ∃ xs, s.drop (i + 1) = xs := ⟨_, rfl⟩
  have hxl : xs.length = s.length - (i + 1) := by rw [← hxs, List.length_drop]
  rw [hxs] at hcut1 hA1 hC1
  have HXL := Aside0.mk hxl
  have HA1 := Aside0.mk hA1
  have HXS := Aside0.mk hxs
  clear hxl hA1 hxs
  have hV1 := V_cut hV HA1.out hC1
  obtain ⟨ad1, e1, _⟩ := Kd.at_int (Kd.F_now (Kd.V_at hV1).2.2) (0 : Int) (by omega) (by have := HXL.out; omega)
  subst e1
  clear hV1
  obtain ⟨hcut2, _, hC2⟩ := print_take_of (P := Try.prog) (Value.int .u8) 0 22 5 .i64 Try.underlying22 hi05 hsz5 (some ad1) (c - (i + 1)) xs 4 (by omega) (by have := HXL.out; omega) hC1
  rw [show ((4 : Int)).toNat = 4 from rfl, show (xs.take 4).length = 4 by rw [List.length_take]; have := HXL.out; omega] at hcut2
  clear hC2
  obtain ⟨A3, hcut3, hA3, hC3⟩ := print_drop_of (P := Try.prog) (Value.int .u8) 0 22 5 .i64 Try.underlying22 hi05 hsz5 (some ad1) (c - (i + 1)) xs 4 (by omega) (by have := HXL.out; omega) hC1
  rw [show ((4 : Int)).toNat = 4 from rfl] at hcut3 hA3 hC3
  obtain ⟨zs, hzs⟩ : ∃ zs, xs.drop 4 = zs := ⟨_, rfl⟩
  have hzl : zs.length = s.length - (i + 1 + 4) := by rw [← hzs, List.length_drop]; have := HXL.out; omega
  rw [hzs] at hcut3 hA3 hC3
  have HZL := Aside0.mk hzl
  have HA3 := Aside0.mk hA3
  have HZS := Aside0.mk hzs
  have HC3 := Aside0.mk hC3
  clear hzl hA3 hzs hC3
  have HB0 := Aside0.mk (show xs.getD 0 0 = b0 by rw [← HXS.out, ← hb0]; simp [List.getD_eq_getElem?_getD, List.getElem?_drop])
  have HB1 := Aside0.mk (show xs.getD 1 0 = b1 by rw [← HXS.out, ← hb1]; simp [List.getD_eq_getElem?_getD, List.getElem?_drop])
  have HB2 := Aside0.mk (show xs.getD 2 0 = b2 by rw [← HXS.out, ← hb2]; simp [List.getD_eq_getElem?_getD, List.getElem?_drop])
  have HB3 := Aside0.mk (show xs.getD 3 0 = b3 by rw [← HXS.out, ← hb3]; simp [List.getD_eq_getElem?_getD, List.getElem?_drop])
  have HD9 := Aside0.mk hD
  clear hD hb0 hb1 hb2 hb3
  obtain ⟨hcut4, hA4, hC4⟩ := print_take_of (P := Try.prog) (Value.int .u8) 0 22 5 .i32 Try.underlying22 hi05 hsz5 A3 (c - (i + 1) - 4) zs (d : Int) (by omega) (by have := HZL.out; omega) HC3.out
  rw [Int.toNat_natCast] at hcut4 hA4 hC4
  obtain ⟨ds, hds⟩ : ∃ ds, zs.take d = ds := ⟨_, rfl⟩
  rw [hds] at hcut4 hA4 hC4
  have HA4 := Aside0.mk hA4
  have HDS := Aside0.mk hds
  have HC4 := Aside0.mk hC4
  clear hA4 hds hC4
  have HD := Aside0.mk (doneC g (some ad) s.length c i pos op data w (by omega) hT)
  rw [show decide ((s.length : Int) ≤ (i : Int)) = false from decide_eq_false (by omega)] at HD
  have HT := Aside0.mk hT
  have HV := Aside0.mk hV
  have HOK := Aside0.mk hok
  have HSV := Aside0.mk hsv
  clear hT hV hsv hok
  go_enter Try.func8, Try.ntmps8
  go_wp2_with (go_at_call 16; refine HD.out.mono ?_; rintro e w1 ⟨rfl, hb⟩; have HB1 := Aside0.mk hb; have HT1 := Aside0.mk (HT.out.below hb); clear hb; have hc3 := cell_of HT1.out (j := 3) (v := .int .i32 pos) rfl; have hf3 := frozen_of HT1.out 3)
  obtain ⟨p1, hp1⟩ : ∃ p1, wrap32 (pos + 1) = p1 := ⟨_, rfl⟩
  obtain ⟨w2, hw2⟩ : ∃ w2, w1.setCell ⟨g, 3, none⟩ (.int .i32 p1) = w2 := ⟨_, rfl⟩
  rw [hp1, hw2]
  have HT2 : Aside0 (Tk w2 g (some ad) s.length c i p1 op data .nilIface) := ⟨by rw [← hw2]; exact heap_set_same HT1.out _⟩
  have HN2 : Aside0 (Only g w w2) := ⟨by rw [← hw2]; exact (Only.of_below HB1.out).set 3 _⟩
  have HG := Aside0.mk (blk_lt' HT.out)
  have HV2 := Aside0.mk (Kd.V_only HV.out HN2.out HOK.out)
  have HS := Aside0.mk (And.intro (cell_of (w := w2.drew) HT2.out (j := 0) (v := .slice (some ad) s.length c) rfl) (And.intro (cell_of (w := w2.drew) HT2.out (j := 2) (v := .int .i32 i) rfl) (show w2.drew.cell? (ad.add i) = some (.int .u8 v) from scriptCell HV2.out i hi HSV.out)))
  clear hc3 hf3 HT1 HB1 hw2 hp1
  refine start_ (n := 12) (S := fun w' => w'.cell? ⟨g, 0, none⟩ = some (.slice (some ad) s.length c) ∧ w'.cell? ⟨g, 2, none⟩ = some (.int .i32 i) ∧ w'.cell? (ad.add i) = some (.int .u8 v)) (ds := []) #[false, false, false, false, false, false, false, false, false, false, false, false] (by kernel_rfl) rfl rfl HS.out (fun hHeld => ?_)
  refine pure_ (i := 0) (N := some 20) (v := ?_) (a' := ?_) #[true, false, false, false, false, false, false, false, false, false, false, false] rfl rfl (by kernel_rfl) (fun _ _ _ h => h) (Or.inl ⟨by rfl, ?_⟩) ?_ ?_
  rotate_left
  · intro w'
    go_simp
    with_reducible rfl
  rotate_left
  · simp only [Act.put, List.setIfInBounds_toArray, List.set_cons_zero, List.set_cons_succ, i64_w, i32_w]
    rfl
  refine pure_ (i := 1) (N := some 21) (v := ?_) (a' := ?_) #[true, true, false, false, false, false, false, false, false, false, false, false] rfl rfl (by kernel_rfl) (fun _ _ _ h => h) (Or.inl ⟨by rfl, ?_⟩) ?_ ?_
  rotate_left
  · intro w'
    go_simp
    with_reducible rfl
  rotate_left
  · simp only [Act.put, List.setIfInBounds_toArray, List.set_cons_zero, List.set_cons_succ, i64_w, i32_w]
    rfl
  refine pure_ (i := 2) (N := some 22) (v := ?_) (a' := ?_) #[true, true, true, false, false, false, false, false, false, false, false, false] rfl rfl (by kernel_rfl) (fun _ _ _ h => h) (Or.inl ⟨by rfl, ?_⟩) ?_ ?_
  rotate_left
  · intro w'
    go_simp
    with_reducible rfl
  rotate_left
  · simp only [Act.put, List.setIfInBounds_toArray, List.set_cons_zero, List.set_cons_succ, i64_w, i32_w]
    rfl
  refine take_ (i := 3) (N := some 23) (v := ?_) (a' := ?_) #[true, true, true, true, false, false, false, false, false, false, false, false] rfl rfl (by kernel_rfl) (fun _ _ _ h => h) (Or.inl ⟨by rfl, ?_⟩) hHeld ?_ ?_
  rotate_left
  · rintro w' ⟨s0, s1, s2⟩
    go_simp
    with_reducible rfl
  rotate_left
  · simp only [Act.put, List.setIfInBounds_toArray, List.set_cons_zero, List.set_cons_succ, i64_w, i32_w]
    rfl
  refine pure_ (i := 4) (N := some 24) (v := ?_) (a' := ?_) #[true, true, true, true, true, false, false, false, false, false, false, false] rfl rfl (by kernel_rfl) (fun _ _ _ h => h) (Or.inl ⟨by rfl, ?_⟩) ?_ ?_
  rotate_left
  · intro w'
    go_simp
    with_reducible rfl
  rotate_left
  · simp only [Act.put, List.setIfInBounds_toArray, List.set_cons_zero, List.set_cons_succ, i64_w, i32_w]
    rfl
  refine pure_ (i := 5) (N := some 25) (v := ?_) (a' := ?_) #[true, true, true, true, true, true, false, false, false, false, false, false] rfl rfl (by kernel_rfl) (fun _ _ _ h => h) (Or.inl ⟨by rfl, ?_⟩) ?_ ?_
  rotate_left
  · intro w'
    go_simp
    with_reducible rfl
  rotate_left
  · simp only [Act.put, List.setIfInBounds_toArray, List.set_cons_zero, List.set_cons_succ, i64_w, i32_w]
    rfl
  refine pure_ (i := 6) (N := some 26) (v := ?_) (a' := ?_) #[true, true, true, true, true, true, true, false, false, false, false, false] rfl rfl (by kernel_rfl) (fun _ _ _ h => h) (Or.inl ⟨by rfl, ?_⟩) ?_ ?_
  rotate_left
  · intro w'
    go_simp
    with_reducible rfl
  rotate_left
  · simp only [Act.put, List.setIfInBounds_toArray, List.set_cons_zero, List.set_cons_succ, i64_w, i32_w]
    rfl
  refine take_ (i := 7) (N := some 27) (v := ?_) (a' := ?_) #[true, true, true, true, true, true, true, true, false, false, false, false] rfl rfl (by kernel_rfl) (fun _ _ _ h => h) (Or.inl ⟨by rfl, ?_⟩) hHeld ?_ ?_
  rotate_left
  · rintro w' ⟨s0, s1, s2⟩
    go_simp
    with_reducible rfl
  rotate_left
  · simp only [Act.put, List.setIfInBounds_toArray, List.set_cons_zero, List.set_cons_succ, i64_w, i32_w]
    rfl
  refine pure_ (i := 8) (N := some 28) (v := ?_) (a' := ?_) #[true, true, true, true, true, true, true, true, true, false, false, false] rfl rfl (by kernel_rfl) (fun _ _ _ h => h) (Or.inl ⟨by rfl, ?_⟩) ?_ ?_
  rotate_left
  · intro w'
    go_simp
    with_reducible rfl
  rotate_left
  · simp only [Act.put, List.setIfInBounds_toArray, List.set_cons_zero, List.set_cons_succ, i64_w, i32_w]
    rfl
  refine take_ (i := 9) (N := some 29) (v := ?_) (a' := ?_) #[true, true, true, true, true, true, true, true, true, true, false, false] rfl rfl (by kernel_rfl) (fun _ _ _ h => h) (Or.inl ⟨by rfl, ?_⟩) hHeld ?_ ?_
  rotate_left
  · rintro w' ⟨s0, s1, s2⟩
    go_simp
    with_reducible rfl
  rotate_left
  · simp only [Act.put, List.setIfInBounds_toArray, List.set_cons_zero, List.set_cons_succ, i64_w, i32_w]
    rfl
  refine one_ (i := 10) (N := some 30) #[true, true, true, true, true, true, true, true, true, true, true, false] rfl rfl (by kernel_rfl) (by decide) (fun K hK => ?_)
  refine goes_ Try.func17 (by kernel_rfl) rfl #[.int .u8 v] (by rfl) rfl rfl (by (try simp only [List.map_toArray, List.map_cons, List.map_nil]); first | done | rfl | (simp only [List.length_drop, List.length_take]; rfl)) ?_
  with_reducible refine (opcodeC v hv _).mono ?_
  rintro e w4 ⟨rfl, nm, hw4⟩
  refine ⟨_, rfl, ?_⟩
  have HN4 : Aside0 (Only g w w4) := ⟨by rw [hw4]; exact HN2.out.drew.alloc _⟩
  have HT4 : Aside0 (Tk w4 g (some ad) s.length c i p1 op data .nilIface) := ⟨by rw [hw4]; exact heap_alloc_lt (w := w2.drew) HT2.out _⟩
  have HO4 : Aside0 (w4.heap[w2.heap.size]? = some (.cells #[.int .u8 v, .string nm, .int .i64 (olen v)] 49 (0, 0))) := ⟨by rw [hw4]; exact heap_alloc_new w2.drew _⟩
  have HV4 : Aside0 (Kd.V (Kd.int .u8) 5 w4 base oks (.slice (some ad) s.length c) s) := ⟨by rw [hw4]; exact Kd.V_alloc (Kd.V_drew HV2.out) _⟩
  rw [show (w2.drew).heap.size = w2.heap.size from rfl]
  have HG2 := Aside0.mk HN2.out.size
  obtain ⟨o, ho⟩ : ∃ o, w2.heap.size = o := ⟨_, rfl⟩
  rw [ho] at HO4 HG2 ⊢
  clear hw4 HT2 HV2 ho HN2
  refine hK.out _ _ ⟨cell_of HT4.out (j := 0) (v := .slice (some ad) s.length c) rfl, cell_of HT4.out (j := 2) (v := .int .i32 i) rfl, scriptCell HV4.out i hi HSV.out⟩ (fun hHeld => ?_)
  clear hK K
  refine norm_ (a' := ?_) ?_ ?_
  rotate_left
  · show Act.put _ (some 30) _ = _
    simp only [Act.put, List.setIfInBounds_toArray, List.set_cons_zero, List.set_cons_succ, i64_w, i32_w]
    rfl
  refine pure_ (i := 11) (N := some 3) (v := ?_) (a' := ?_) #[true, true, true, true, true, true, true, true, true, true, true, true] rfl rfl (by kernel_rfl) (fun _ _ _ h => h) (Or.inl ⟨by rfl, ?_⟩) ?_ ?_
  rotate_left
  · intro w'
    go_simp
    with_reducible rfl
  rotate_left
  · simp only [Act.put, List.setIfInBounds_toArray, List.set_cons_zero, List.set_cons_succ, i64_w, i32_w]
    rfl
  refine done_ (by kernel_rfl) ?_
  clear hHeld HS
  have hc0 := cell_of HT4.out (j := 0) (v := .slice (some ad) s.length c) rfl
  have hc2 := cell_of HT4.out (j := 2) (v := .int .i32 i) rfl
  have hc4 := cell_of HT4.out (j := 4) (v := op) rfl
  have hc5 := cell_of HT4.out (j := 5) (v := data) rfl
  have hc6 := cell_of HT4.out (j := 6) (v := .nilIface) rfl
  have hf2 := frozen_of HT4.out 2
  have hf4 := frozen_of HT4.out 4
  have hf5 := frozen_of HT4.out 5
  have hf6 := frozen_of HT4.out 6
  have ho2 := cell_of HO4.out (j := 2) (v := .int .i64 (olen v)) rfl
  rw [hl] at ho2
  have HS := Aside0.mk (And.intro (cell_of (w := w4.drew) HT4.out (j := 0) (v := .slice (some ad) s.length c) rfl) (cell_of (w := w4.drew) HT4.out (j := 2) (v := .int .i32 i) rfl))
  have HV1 := Aside0.mk (V_cut HV4.out HA1.out hC1)
  have hx0 : w4.cell? ad1 = some (.int .u8 b0) := by have h9 := scriptCell HV1.out 0 (by have := HXL.out; omega) HB0.out; rwa [add_zero_] at h9
  have hx1 : w4.cell? ⟨ad1.block, ad1.off + 1, none⟩ = some (.int .u8 b1) := by have h9 := scriptCell HV1.out 1 (by have := HXL.out; omega) HB1.out; rwa [add_one_ _ _ (by decide)] at h9
  have hx2 : w4.cell? ⟨ad1.block, ad1.off + 2, none⟩ = some (.int .u8 b2) := by have h9 := scriptCell HV1.out 2 (by have := HXL.out; omega) HB2.out; rwa [add_one_ _ _ (by decide)] at h9
  have hx3 : w4.cell? ⟨ad1.block, ad1.off + 3, none⟩ = some (.int .u8 b3) := by have h9 := scriptCell HV1.out 3 (by have := HXL.out; omega) HB3.out; rwa [add_one_ _ _ (by decide)] at h9
  have e3 : decide ((xs.length : Int) < 4) = false := decide_eq_false (by have := HXL.out; omega)
  have e4 : decide (xs.length < 4) = false := decide_eq_false (by have := HXL.out; omega)
  have e5 : ¬ xs.length < 4 := by have := HXL.out; omega
  go_wp2
  refine start_ (n := 11) (S := fun w' => w'.cell? ⟨g, 0, none⟩ = some (.slice (some ad) s.length c) ∧ w'.cell? ⟨g, 2, none⟩ = some (.int .i32 i)) (ds := []) #[false, false, false, false, false, false, false, false, false, false, false] (by kernel_rfl) rfl rfl HS.out (fun hHeld => ?_)
  refine pure_ (i := 0) (N := some 110) (v := ?_) (a' := ?_) #[true, false, false, false, false, false, false, false, false, false, false] rfl rfl (by kernel_rfl) (fun _ _ _ h => h) (Or.inl ⟨by rfl, ?_⟩) ?_ ?_
  rotate_left
  · intro w'
    go_simp
    with_reducible rfl
  rotate_left
  · simp only [Act.put, List.setIfInBounds_toArray, List.set_cons_zero, List.set_cons_succ, i64_w, i32_w]
    rfl
  refine pure_ (i := 1) (N := some 111) (v := ?_) (a' := ?_) #[true, true, false, false, false, false, false, false, false, false, false] rfl rfl (by kernel_rfl) (fun _ _ _ h => h) (Or.inl ⟨by rfl, ?_⟩) ?_ ?_
  rotate_left
  · intro w'
    go_simp
    with_reducible rfl
  rotate_left
  · simp only [Act.put, List.setIfInBounds_toArray, List.set_cons_zero, List.set_cons_succ, i64_w, i32_w]
    rfl
  refine pure_ (i := 2) (N := some 112) (v := ?_) (a' := ?_) #[true, true, true, false, false, false, false, false, false, false, false] rfl rfl (by kernel_rfl) (fun _ _ _ h => h) (Or.inl ⟨by rfl, ?_⟩) ?_ ?_
  rotate_left
  · intro w'
    go_simp
    with_reducible rfl
  rotate_left
  · simp only [Act.put, List.setIfInBounds_toArray, List.set_cons_zero, List.set_cons_succ, i64_w, i32_w]
    rfl
  refine take_ (i := 3) (N := some 113) (v := ?_) (a' := ?_) #[true, true, true, true, false, false, false, false, false, false, false] rfl rfl (by kernel_rfl) (fun _ _ _ h => h) (Or.inl ⟨by rfl, ?_⟩) hHeld ?_ ?_
  rotate_left
  · rintro w' ⟨s0, s1⟩
    go_simp
    with_reducible rfl
  rotate_left
  · simp only [Act.put, List.setIfInBounds_toArray, List.set_cons_zero, List.set_cons_succ, i64_w, i32_w]
    rfl
  refine pure_ (i := 4) (N := some 114) (v := ?_) (a' := ?_) #[true, true, true, true, true, false, false, false, false, false, false] rfl rfl (by kernel_rfl) (fun _ _ _ h => h) (Or.inl ⟨by rfl, ?_⟩) ?_ ?_
  rotate_left
  · intro w'
    go_simp
    with_reducible rfl
  rotate_left
  · simp only [Act.put, List.setIfInBounds_toArray, List.set_cons_zero, List.set_cons_succ, i64_w, i32_w]
    rfl
  refine pure_ (i := 5) (N := some 115) (v := ?_) (a' := ?_) #[true, true, true, true, true, true, false, false, false, false, false] rfl rfl (by kernel_rfl) (fun _ _ _ h => h) (Or.inl ⟨by rfl, ?_⟩) ?_ ?_
  rotate_left
  · intro w'
    go_simp
    with_reducible rfl
  rotate_left
  · simp only [Act.put, List.setIfInBounds_toArray, List.set_cons_zero, List.set_cons_succ, i64_w, i32_w]
    rfl
  refine pure_ (i := 6) (N := some 116) (v := ?_) (a' := ?_) #[true, true, true, true, true, true, true, false, false, false, false] rfl rfl (by kernel_rfl) (fun _ _ _ h => h) (Or.inl ⟨by rfl, ?_⟩) ?_ ?_
  rotate_left
  · intro w'
    go_simp
    with_reducible rfl
  rotate_left
  · simp only [Act.put, List.setIfInBounds_toArray, List.set_cons_zero, List.set_cons_succ, i64_w, i32_w]
    rfl
  refine take_ (i := 7) (N := some 117) (v := ?_) (a' := ?_) #[true, true, true, true, true, true, true, true, false, false, false] rfl rfl (by kernel_rfl) (fun _ _ _ h => h) (Or.inl ⟨by rfl, ?_⟩) hHeld ?_ ?_
  rotate_left
  · rintro w' ⟨s0, s1⟩
    go_simp
    with_reducible rfl
  rotate_left
  · simp only [Act.put, List.setIfInBounds_toArray, List.set_cons_zero, List.set_cons_succ, i64_w, i32_w]
    rfl
  refine pure_ (i := 8) (N := some 118) (v := ?_) (a' := ?_) #[true, true, true, true, true, true, true, true, true, false, false] rfl rfl (by kernel_rfl) (fun _ _ _ h => h) (Or.inl ⟨by rfl, ?_⟩) ?_ ?_
  rotate_left
  · intro w'
    go_simp
    with_reducible rfl
  rotate_left
  · simp only [Act.put, List.setIfInBounds_toArray, List.set_cons_zero, List.set_cons_succ, i64_w, i32_w]
    rfl
  refine pure_ (i := 9) (N := some 119) (v := ?_) (a' := ?_) #[true, true, true, true, true, true, true, true, true, true, false] rfl rfl (by kernel_rfl) (fun _ _ _ h => h) (Or.inl ⟨by rfl, ?_⟩) ?_ ?_
  rotate_left
  · intro w'
    unfold execOp
    go_simp
    rfl
  rotate_left
  · simp only [Act.put, List.setIfInBounds_toArray, List.set_cons_zero, List.set_cons_succ, i64_w, i32_w]
    rfl
  refine pure_ (i := 10) (N := some 6) (v := ?_) (a' := ?_) #[true, true, true, true, true, true, true, true, true, true, true] rfl rfl (by kernel_rfl) (fun _ _ _ h => h) (Or.inl ⟨by rfl, ?_⟩) ?_ ?_
  rotate_left
  · intro w'
    go_simp
    with_reducible rfl
  rotate_left
  · simp only [Act.put, List.setIfInBounds_toArray, List.set_cons_zero, List.set_cons_succ, i64_w, i32_w]
    rfl
  refine done_ (by kernel_rfl) ?_
  clear hHeld HS
  have HS3 := Aside0.mk (And.intro (show w4.drew.drew.cell? ad1 = _ from hx0) (And.intro (show w4.drew.drew.cell? ⟨ad1.block, ad1.off + 1, none⟩ = _ from hx1) (And.intro (show w4.drew.drew.cell? ⟨ad1.block, ad1.off + 2, none⟩ = _ from hx2) (show w4.drew.drew.cell? ⟨ad1.block, ad1.off + 3, none⟩ = _ from hx3))))
  go_wp2
  refine start_ (n := 6) (S := fun w' => w'.cell? ad1 = some (.int .u8 b0) ∧ w'.cell? ⟨ad1.block, ad1.off + 1, none⟩ = some (.int .u8 b1) ∧ w'.cell? ⟨ad1.block, ad1.off + 2, none⟩ = some (.int .u8 b2) ∧ w'.cell? ⟨ad1.block, ad1.off + 3, none⟩ = some (.int .u8 b3)) (ds := []) #[false, false, false, false, false, false] (by kernel_rfl) rfl rfl HS3.out (fun hHeld => ?_)
  refine take_ (i := 0) (N := some 159) (v := ?_) (a' := ?_) #[true, false, false, false, false, false] rfl rfl (by kernel_rfl) (fun _ _ _ h => h) (Or.inl ⟨by rfl, ?_⟩) hHeld ?_ ?_
  rotate_left
  · rintro w' ⟨s0, s1, s2, s3⟩
    go_simp
    with_reducible rfl
  rotate_left
  · simp only [Act.put, List.setIfInBounds_toArray, List.set_cons_zero, List.set_cons_succ, i64_w, i32_w]
    rfl
  refine pure_ (i := 1) (N := some 160) (v := ?_) (a' := ?_) #[true, true, false, false, false, false] rfl rfl (by kernel_rfl) (fun _ _ _ h => h) (Or.inl ⟨by rfl, ?_⟩) ?_ ?_
  rotate_left
  · intro w'
    go_simp
    with_reducible rfl
  rotate_left
  · simp only [Act.put, List.setIfInBounds_toArray, List.set_cons_zero, List.set_cons_succ, i64_w, i32_w]
    rfl
  refine pure_ (i := 2) (N := some 161) (v := ?_) (a' := ?_) #[true, true, true, false, false, false] rfl rfl (by kernel_rfl) (fun _ _ _ h => h) (Or.inl ⟨by rfl, ?_⟩) ?_ ?_
  rotate_left
  · intro w'
    unfold execOp
    go_simp
    rfl
  rotate_left
  · simp only [Act.put, List.setIfInBounds_toArray, List.set_cons_zero, List.set_cons_succ, i64_w, i32_w]
    rfl
  refine one_ (i := 3) (N := some 162) #[true, true, true, true, false, false] rfl rfl (by kernel_rfl) (by decide) (fun K hK => ?_)
  refine goes_ Try.func19 (by kernel_rfl) rfl #[.agg #[], .slice (some ad1) 4 (c - (i + 1))] (by rfl) rfl rfl (by (try simp only [List.map_toArray, List.map_cons, List.map_nil]); first | done | rfl | (simp only [List.length_drop, List.length_take]; rfl)) ?_
  with_reducible refine (leUint32 ad1 _ b0 b1 b2 b3 b00 b01 b10 b11 b20 b21 b30 b31 _ hHeld.1 hHeld.2.1 hHeld.2.2.1 hHeld.2.2.2).mono ?_
  rintro e w9 ⟨rfl, hb⟩
  refine ⟨_, rfl, ?_⟩
  have HT9 := Aside0.mk (Tk.below (w := w4.drew.drew) HT4.out hb)
  have HN9 : Aside0 (Only g w w9) := ⟨HN4.out.drew.drew.trans (Only.of_below hb)⟩
  have HO9 : Aside0 (w9.heap[o]? = some (.cells #[.int .u8 v, .string nm, .int .i64 (olen v)] 49 (0, 0))) := ⟨(hb.block o (blk_lt' (w := w4) HO4.out)).trans HO4.out⟩
  have HV9 : Aside0 (Kd.V (Kd.int .u8) 5 w9 base oks (.slice (some ad) s.length c) s) := ⟨Kd.V_below (Kd.V_drew (Kd.V_drew HV4.out)) hb⟩
  refine hK.out _ _ ⟨pw_cell_below hb hHeld.1, pw_cell_below hb hHeld.2.1, pw_cell_below hb hHeld.2.2.1, pw_cell_below hb hHeld.2.2.2⟩ (fun hHeld => ?_)
  clear hK K
  refine norm_ (a' := ?_) ?_ ?_
  rotate_left
  · show Act.put _ (some 162) _ = _
    simp only [Act.put, List.setIfInBounds_toArray, List.set_cons_zero, List.set_cons_succ, i64_w, i32_w]
    rfl
  refine pure_ (i := 4) (N := some 163) (v := ?_) (a' := ?_) #[true, true, true, true, true, false] rfl rfl (by kernel_rfl) (fun _ _ _ h => h) (Or.inl ⟨by rfl, ?_⟩) ?_ ?_
  rotate_left
  · intro w'
    go_simp
    with_reducible rfl
  rotate_left
  · simp only [Act.put, List.setIfInBounds_toArray, List.set_cons_zero, List.set_cons_succ, i64_w, i32_w]
    rfl
  refine pure_ (i := 5) (N := some 8) (v := ?_) (a' := ?_) #[true, true, true, true, true, true] rfl rfl (by kernel_rfl) (fun _ _ _ h => h) (Or.inl ⟨by rfl, ?_⟩) ?_ ?_
  rotate_left
  · intro w'
    go_simp
    with_reducible rfl
  rotate_left
  · simp only [Act.put, List.setIfInBounds_toArray, List.set_cons_zero, List.set_cons_succ, i64_w, i32_w]
    rfl
  refine done_ (by kernel_rfl) ?_
  clear hHeld HS3
  have ho2 := cell_of HO9.out (j := 2) (v := .int .i64 (-4)) (by simp [hl])
  have hc6 := cell_of HT9.out (j := 6) (v := .nilIface) rfl
  have hf6 := frozen_of HT9.out 6
  rw [HD9.out]
  have qZ : IntKind.i32.wrap (zs.length : Int) = zs.length := i32w (by omega) (by have := HZL.out; omega)
  have c1 : decide ((zs.length : Int) < (d : Int)) = false := decide_eq_false (by have := HZL.out; omega)
  have c2 : decide ((d : Int) < 0) = false := decide_eq_false (by omega)
  have c3 : decide (zs.length < d) = false := decide_eq_false (by have := HZL.out; omega)
  have c4 : d ≤ zs.length := by have := HZL.out; omega
  have HS2 := Aside0.mk (And.intro (cell_of (w := w9.drew) HT9.out (j := 2) (v := .int .i32 i) rfl) (show w9.drew.cell? ⟨o, 2, none⟩ = some (.int .i64 (-4)) from ho2))
  have hog : o ≠ g := by have := HG.out; have := HG2.out; omega
  go_wp2_with ((with_reducible refine at_dst (N := 170) rfl ?_); refine wpList_run rfl (.slice A3 zs.length (c - (i + 1) - 4)) (w' := w9) (by unfold execOp; go_simp; rfl) ?_)
  clear qZ
  refine start_ (n := 17) (S := fun w' => w'.cell? ⟨g, 2, none⟩ = some (.int .i32 i) ∧ w'.cell? ⟨o, 2, none⟩ = some (.int .i64 (-4))) (ds := [16]) #[false, false, false, false, false, false, false, false, false, false, false, false, false, false, false, false, false] (by kernel_rfl) rfl rfl HS2.out (fun hHeld => ?_)
  refine pure_ (i := 0) (N := some 186) (v := ?_) (a' := ?_) #[true, false, false, false, false, false, false, false, false, false, false, false, false, false, false, false, false] rfl rfl (by kernel_rfl) (fun _ _ _ h => h) (Or.inl ⟨by rfl, ?_⟩) ?_ ?_
  rotate_left
  · intro w'
    go_simp
    with_reducible rfl
  rotate_left
  · simp only [Act.put, List.setIfInBounds_toArray, List.set_cons_zero, List.set_cons_succ, i64_w, i32_w]
    rfl
  refine pure_ (i := 1) (N := some 187) (v := ?_) (a' := ?_) #[true, true, false, false, false, false, false, false, false, false, false, false, false, false, false, false, false] rfl rfl (by kernel_rfl) (fun _ _ _ h => h) (Or.inl ⟨by rfl, ?_⟩) ?_ ?_
  rotate_left
  · intro w'
    go_simp
    with_reducible rfl
  rotate_left
  · simp only [Act.put, List.setIfInBounds_toArray, List.set_cons_zero, List.set_cons_succ, i64_w, i32_w]
    rfl
  refine pure_ (i := 2) (N := some 188) (v := ?_) (a' := ?_) #[true, true, true, false, false, false, false, false, false, false, false, false, false, false, false, false, false] rfl rfl (by kernel_rfl) (fun _ _ _ h => h) (Or.inl ⟨by rfl, ?_⟩) ?_ ?_
  rotate_left
  · intro w'
    go_simp
    with_reducible rfl
  rotate_left
  · simp only [Act.put, List.setIfInBounds_toArray, List.set_cons_zero, List.set_cons_succ, i64_w, i32_w]
    rfl
  refine take_ (i := 3) (N := some 189) (v := ?_) (a' := ?_) #[true, true, true, true, false, false, false, false, false, false, false, false, false, false, false, false, false] rfl rfl (by kernel_rfl) (fun _ _ _ h => h) (Or.inl ⟨by rfl, ?_⟩) hHeld ?_ ?_
  rotate_left
  · rintro w' ⟨s0, s1⟩
    go_simp
    with_reducible rfl
  rotate_left
  · simp only [Act.put, List.setIfInBounds_toArray, List.set_cons_zero, List.set_cons_succ, i64_w, i32_w]
    rfl
  refine pure_ (i := 4) (N := some 190) (v := ?_) (a' := ?_) #[true, true, true, true, true, false, false, false, false, false, false, false, false, false, false, false, false] rfl rfl (by kernel_rfl) (fun _ _ _ h => h) (Or.inl ⟨by rfl, ?_⟩) ?_ ?_
  rotate_left
  · intro w'
    go_simp
    with_reducible rfl
  rotate_left
  · simp only [Act.put, List.setIfInBounds_toArray, List.set_cons_zero, List.set_cons_succ, i64_w, i32_w]
    rfl
  refine pure_ (i := 5) (N := some 191) (v := ?_) (a' := ?_) #[true, true, true, true, true, true, false, false, false, false, false, false, false, false, false, false, false] rfl rfl (by kernel_rfl) (fun _ _ _ h => h) (Or.inl ⟨by rfl, ?_⟩) ?_ ?_
  rotate_left
  · intro w'
    go_simp
    with_reducible rfl
  rotate_left
  · simp only [Act.put, List.setIfInBounds_toArray, List.set_cons_zero, List.set_cons_succ, i64_w, i32_w]
    rfl
  refine pure_ (i := 6) (N := some 192) (v := ?_) (a' := ?_) #[true, true, true, true, true, true, true, false, false, false, false, false, false, false, false, false, false] rfl rfl (by kernel_rfl) (fun _ _ _ h => h) (Or.inl ⟨by rfl, ?_⟩) ?_ ?_
  rotate_left
  · intro w'
    go_simp
    with_reducible rfl
  rotate_left
  · simp only [Act.put, List.setIfInBounds_toArray, List.set_cons_zero, List.set_cons_succ, i64_w, i32_w]
    rfl
  refine take_ (i := 7) (N := some 193) (v := ?_) (a' := ?_) #[true, true, true, true, true, true, true, true, false, false, false, false, false, false, false, false, false] rfl rfl (by kernel_rfl) (fun _ _ _ h => h) (Or.inl ⟨by rfl, ?_⟩) hHeld ?_ ?_
  rotate_left
  · rintro w' ⟨s0, s1⟩
    go_simp
    with_reducible rfl
  rotate_left
  · simp only [Act.put, List.setIfInBounds_toArray, List.set_cons_zero, List.set_cons_succ, i64_w, i32_w]
    rfl
  refine pure_ (i := 8) (N := some 194) (v := ?_) (a' := ?_) #[true, true, true, true, true, true, true, true, true, false, false, false, false, false, false, false, false] rfl rfl (by kernel_rfl) (fun _ _ _ h => h) (Or.inl ⟨by rfl, ?_⟩) ?_ ?_
  rotate_left
  · intro w'
    go_simp
    with_reducible rfl
  rotate_left
  · simp only [Act.put, List.setIfInBounds_toArray, List.set_cons_zero, List.set_cons_succ, i64_w, i32_w]
    rfl
  refine pure_ (i := 9) (N := some 195) (v := ?_) (a' := ?_) #[true, true, true, true, true, true, true, true, true, true, false, false, false, false, false, false, false] rfl rfl (by kernel_rfl) (fun _ _ _ h => h) (Or.inl ⟨by rfl, ?_⟩) ?_ ?_
  rotate_left
  · intro w'
    go_simp
    with_reducible rfl
  rotate_left
  · simp only [Act.put, List.setIfInBounds_toArray, List.set_cons_zero, List.set_cons_succ, i64_w, i32_w]
    rfl
  refine pure_ (i := 10) (N := some 196) (v := ?_) (a' := ?_) #[true, true, true, true, true, true, true, true, true, true, true, false, false, false, false, false, false] rfl rfl (by kernel_rfl) (fun _ _ _ h => h) (Or.inl ⟨by rfl, ?_⟩) ?_ ?_
  rotate_left
  · intro w'
    go_simp
    with_reducible rfl
  rotate_left
  · simp only [Act.put, List.setIfInBounds_toArray, List.set_cons_zero, List.set_cons_succ, i64_w, i32_w]
    rfl
  refine pure_ (i := 11) (N := some 197) (v := ?_) (a' := ?_) #[true, true, true, true, true, true, true, true, true, true, true, true, false, false, false, false, false] rfl rfl (by kernel_rfl) (fun _ _ _ h => h) (Or.inl ⟨by rfl, ?_⟩) ?_ ?_
  rotate_left
  · intro w'
    go_simp
    with_reducible rfl
  rotate_left
  · simp only [Act.put, List.setIfInBounds_toArray, List.set_cons_zero, List.set_cons_succ, i64_w, i32_w]
    rfl
  refine pure_ (i := 12) (N := some 198) (v := ?_) (a' := ?_) #[true, true, true, true, true, true, true, true, true, true, true, true, true, false, false, false, false] rfl rfl (by kernel_rfl) (fun _ _ _ h => h) (Or.inl ⟨by rfl, ?_⟩) ?_ ?_
  rotate_left
  · intro w'
    go_simp
    with_reducible rfl
  rotate_left
  · simp only [Act.put, List.setIfInBounds_toArray, List.set_cons_zero, List.set_cons_succ, i64_w, i32_w]
    rfl
  refine pure_ (i := 13) (N := some 199) (v := ?_) (a' := ?_) #[true, true, true, true, true, true, true, true, true, true, true, true, true, true, false, false, false] rfl rfl (by kernel_rfl) (fun _ _ _ h => h) (Or.inl ⟨by rfl, ?_⟩) ?_ ?_
  rotate_left
  · intro w'
    go_simp
    with_reducible rfl
  rotate_left
  · simp only [Act.put, List.setIfInBounds_toArray, List.set_cons_zero, List.set_cons_succ, i64_w, i32_w]
    rfl
  refine pure_ (i := 14) (N := some 200) (v := ?_) (a' := ?_) #[true, true, true, true, true, true, true, true, true, true, true, true, true, true, true, false, false] rfl rfl (by kernel_rfl) (fun _ _ _ h => h) (Or.inl ⟨by rfl, ?_⟩) ?_ ?_
  rotate_left
  · intro w'
    go_simp
    with_reducible rfl
  rotate_left
  · simp only [Act.put, List.setIfInBounds_toArray, List.set_cons_zero, List.set_cons_succ, i64_w, i32_w]
    rfl
  refine pure_ (i := 15) (N := some 201) (v := ?_) (a' := ?_) #[true, true, true, true, true, true, true, true, true, true, true, true, true, true, true, true, false] rfl rfl (by kernel_rfl) (fun _ _ _ h => h) (Or.inl ⟨by rfl, ?_⟩) ?_ ?_
  rotate_left
  · intro w'
    go_simp
    with_reducible rfl
  rotate_left
  · simp only [Act.put, List.setIfInBounds_toArray, List.set_cons_zero, List.set_cons_succ, i64_w, i32_w]
    rfl
  refine last_ (i := 16) (N := none) #[true, true, true, true, true, true, true, true, true, true, true, true, true, true, true, true, true] rfl rfl (by kernel_rfl) (by decide) (fun K hK => ?_)
  have hc2 := cell_of HT9.out (j := 2) (v := .int .i32 i) rfl
  have hf2 := frozen_of HT9.out 2
  refine skip_ (w1 := ?_) (by rfl) rfl ?_ ?_
  rotate_left
  · go_simp
    rfl
  refine hK.out _ _ ?_
  clear hK K
  refine norm_ (a' := ?_) ?_ ?_
  rotate_left
  · rfl
  refine done_ (by kernel_rfl) ?_
  clear hHeld HS2
  clear hc4 hf4 hc5 hf5 hc0 hc2 hf2 hc6 hf6
  rw [wrapPush4 i d (by omega)]
  obtain ⟨w6, hw6⟩ : ∃ w6, (w9.setCell ⟨g, 2, none⟩ (.int .i32 ((i + 1 + 4 + d : Nat) : Int))).drew = w6 := ⟨_, rfl⟩
  rw [hw6]
  have HT6 : Aside0 (Tk w6 g (some ad) s.length c ((i + 1 + 4 + d : Nat) : Int) p1 op data .nilIface) := ⟨by rw [← hw6]; exact heap_set_same (w := w9) HT9.out _⟩
  have HO6 : Aside0 (w6.heap[o]? = some (.cells #[.int .u8 v, .string nm, .int .i64 (olen v)] 49 (0, 0))) := ⟨by rw [← hw6]; exact (Below.heap_setCell w9 ⟨g, 2, none⟩ _ o hog).trans HO9.out⟩
  have HN6 : Aside0 (Only g w w6) := ⟨by rw [← hw6]; exact (HN9.out.set 2 _).drew⟩
  have HV6 : Aside0 (Kd.V (Kd.int .u8) 5 w6 base oks (.slice (some ad) s.length c) s) := ⟨by rw [← hw6]; exact Kd.V_drew (Kd.V_far HV9.out (p := ⟨g, 2, none⟩) HOK.out _)⟩
  clear hw6 HT9 HO9 HN9 HV9 ho2 HV1
  have hc4 := cell_of HT6.out (j := 4) (v := op) rfl
  have hf4 := frozen_of HT6.out 4
  have hc5 := cell_of (heap_set_same HT6.out (j := 4) (.pointer (some ⟨o, 0, none⟩))) (j := 5) (v := data) rfl
  have hf5 := frozen_of (heap_set_same HT6.out (j := 4) (.pointer (some ⟨o, 0, none⟩))) 5
  go_wp2_with ((with_reducible refine at_dst (N := 209) rfl ?_); refine wpList_run rfl (.slice A3 ds.length (c - (i + 1) - 4)) (w' := w6.setCell ⟨g, 4, none⟩ (.pointer (some ⟨o, 0, none⟩))) (by unfold execOp; go_simp; rfl) ?_)
  go_ret
  have ho : Only g w ((w6.setCell ⟨g, 4, none⟩ (.pointer (some ⟨o, 0, none⟩))).setCell ⟨g, 5, none⟩ (.slice A3 ds.length (c - (i + 1) - 4))) := (HN6.out.set 4 _).set 5 _
  refine ⟨rfl, p1, o, _, nm, olen v, heap_set_same (heap_set_same HT6.out _) _, ?_, HG2.out, ?_, ho⟩
  · rw [Below.heap_setCell _ _ _ _ hog, Below.heap_setCell _ _ _ _ hog]
    exact HO6.out
  · have e : (s.drop (i + 1 + 4)).take d = ds := by rw [← HDS.out, ← HZS.out, ← HXS.out, List.drop_drop]
    rw [e]
    have hv5 := V_cut (V_cut (V_cut HV6.out HA1.out hC1) HA3.out HC3.out) HA4.out HC4.out
    exact Kd.V_far (Kd.V_far hv5 HOK.out _) HOK.out _
end Go.Proofs.Ytnnegacjgpejdaa.Tok
