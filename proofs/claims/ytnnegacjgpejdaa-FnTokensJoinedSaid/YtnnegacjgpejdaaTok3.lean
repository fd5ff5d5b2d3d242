/- The tokenizer: its step. -/
import Derived.Test.YtnnegacjgpejdaaTok2
namespace Go.Proofs.Ytnnegacjgpejdaa.Tok
open Go.RowKit Go.Proofs.YtnnegacjgpejdaaW.PrintWords Go.Proofs.YtnnegacjgpejdaaW.PrintLast Go.Proofs.YtnnegacjgpejdaaW.PrintMore Go.Proofs.Ytnnegacjgpejdaa.QFnTokensJoined
set_option linter.unusedVariables false
set_option linter.unusedSimpArgs false
theorem Tk.only {w w1 : World} {g : Nat} {A : Option Addr} {n c : Nat} {off pos : Int} {op data err : Value} (h : Tk w g A n c off pos op data err) (hb : w1.heap[g]? = w.heap[g]?) : Tk w1 g A n c off pos op data err := hb.trans h
theorem Tk.below {w w1 : World} {g : Nat} {A : Option Addr} {n c : Nat} {off pos : Int} {op data err : Value} (h : Tk w g A n c off pos op data err) (hb : Below w.heap.size w w1) : Tk w1 g A n c off pos op data err := (hb.block g (blk_lt' h)).trans h
theorem tokW32 {x : Int} (h0 : 0 ≤ x) (h1 : x ≤ 2147483647) : wrap32 x = x := by
  unfold wrap32; omega
theorem V_cut {w : World} {base e : Nat} {ok : Nat → Prop} {k : IntKind} {A A' : Option Addr} {c c' : Nat} {xs ys : List Int} (hV : Kd.V (Kd.int k) e w base ok (.slice A xs.length c) xs)
    (hR : ∀ w : World, ReadsOf (Value.int k) 0 w A xs.length xs → ReadsOf (Value.int k) 0 w A' ys.length ys) (hc : ys.length ≤ c') : Kd.V (Kd.int k) e w base ok (.slice A' ys.length c') ys :=
  Kd.V_mk hc (fun W' hW => Kd.C_of_reads (h1 := fun _ => rfl) (hR _ (Kd.reads_of_C ((Kd.V_at hV).2.2 W' hW))))
theorem scriptCell {w : World} {base : Nat} {oks : Nat → Prop} {ad : Addr} {c : Nat} {s : List Int} (hV : Kd.V (Kd.int .u8) 5 w base oks (.slice (some ad) s.length c) s) (i : Nat) (hi : i < s.length) {v : Int} (hv : s.getD i 0 = v) : w.cell? (ad.add i) = some (.int .u8 v) := by
  obtain ⟨_, hl9, hF⟩ := Kd.V_at hV
  obtain ⟨ad9, e9, hy⟩ := Kd.at_int (Kd.F_now hF) (i : Int) (by omega) (by omega)
  obtain rfl := Option.some.inj e9
  rw [Int.toNat_natCast, show rd s (i : Int) = s.getD i 0 by unfold rd; rw [Int.toNat_natCast], hv] at hy
  exact hy

set_option maxRecDepth 100000 in
set_option maxHeartbeats 8000000 in
theorem nextOne (g : Nat) (ad : Addr) (s : List Int) (c i : Nat) (pos : Int) (op data : Value) (oks : Nat → Prop) (base : Nat) (w : World)
    (hok : ∀ k, oks k → k ≠ g) (hV : Kd.V (Kd.int .u8) 5 w base oks (.slice (some ad) s.length c) s) (hT : Tk w g (some ad) s.length c i pos op data .nilIface)
    (hn : s.length ≤ 1000000) (hi : i < s.length) (v : Nat) (hv : v < 256) (hsv : s.getD i 0 = v) (hl : olen v = 1) :
    Calls Try.prog 8 #[.pointer (some ⟨g, 0, none⟩)] w fun e w' => e = .returned (.bool true) ∧ ∃ pos' o dv nm ol, Tk w' g (some ad) s.length c ((i + 1 : Nat) : Int) pos' (.pointer (some ⟨o, 0, none⟩)) dv .nilIface ∧ w'.heap[o]? = some (.cells #[.int .u8 v, .string nm, .int .i64 ol] 49 (0, 0)) ∧ w.heap.size ≤ o ∧ Kd.V (Kd.int .u8) 5 w' base oks dv [] ∧ Only g w w' := by
  have HD := Aside0.mk (doneC g (some ad) s.length c i pos op data w (by omega) hT)
  rw [show decide ((s.length : Int) ≤ (i : Int)) = false from decide_eq_false (by omega)] at HD
  have HT := Aside0.mk hT
  have HV := Aside0.mk hV
  have HOK := Aside0.mk hok
  have HSV := Aside0.mk hsv
  clear hT hV hsv hok
  go_enter Try.func8, Try.ntmps8
  go_wp2_with (go_at_call 16; refine HD.out.mono ?_; rintro e w1 ⟨rfl, hb⟩; have HB1 := Aside0.mk hb; have HT1 := Aside0.mk (HT.out.below hb); clear hb; have hc3 := cell_of HT1.out (j := 3) (v := .int .i32 pos) rfl; have hf3 := frozen_of HT1.out 3)
  obtain ⟨p1, hp1⟩ : ∃ p1, wrap32 (pos + 1) = p1 := ⟨_, rfl⟩
  obtain ⟨w2, hw2⟩ : ∃ w2, w1.setCell ⟨g, 3, none⟩ (.int .i32 p1) = w2 := ⟨_, rfl⟩
  rw [hp1, hw2]
  have HT2 : Aside0 (Tk w2 g (some ad) s.length c i p1 op data .nilIface) := ⟨by rw [← hw2]; exact heap_set_same HT1.out _⟩
  have HN2 : Aside0 (Only g w w2) := ⟨by rw [← hw2]; exact (Only.of_below HB1.out).set 3 _⟩
  have HG := Aside0.mk (blk_lt' HT.out)
  have HV2 := Aside0.mk (Kd.V_only HV.out HN2.out HOK.out)
  have HS := Aside0.mk (And.intro (cell_of (w := w2.drew) HT2.out (j := 0) (v := .slice (some ad) s.length c) rfl) (And.intro (cell_of (w := w2.drew) HT2.out (j := 2) (v := .int .i32 i) rfl) (show w2.drew.cell? (ad.add i) = some (.int .u8 v) from scriptCell HV2.out i hi HSV.out)))
  clear hc3 hf3 HT1 HB1 hw2 hp1
  refine start_ (n := 12) (S := fun w' => w'.cell? ⟨g, 0, none⟩ = some (.slice (some ad) s.length c) ∧ w'.cell? ⟨g, 2, none⟩ = some (.int .i32 i) ∧ w'.cell? (ad.add i) = some (.int .u8 v)) (ds := []) #[false, false, false, false, false, false, false, false, false, false, false, false] (by kernel_rfl) rfl rfl HS.out (fun hHeld => ?_)
  refine pure_ (i := 0) (N := some 20) (v := ?_) (a' := ?_) #[true, false, false, false, false, false, false, false, false, false, false, false] rfl rfl (by kernel_rfl) (fun _ _ _ h => h) (Or.inl ⟨by rfl, ?_⟩) ?_ ?_
  rotate_left
  · intro w'
    go_simp
    with_reducible rfl
  rotate_left
  · simp only [Act.put, List.setIfInBounds_toArray, List.set_cons_zero, List.set_cons_succ, i64_w, i32_w]
    rfl
  refine pure_ (i := 1) (N := some 21) (v := ?_) (a' := ?_) #[true, true, false, false, false, false, false, false, false, false, false, false] rfl rfl (by kernel_rfl) (fun _ _ _ h => h) (Or.inl ⟨by rfl, ?_⟩) ?_ ?_
  rotate_left
  · intro w'
    go_simp
    with_reducible rfl
  rotate_left
  · simp only [Act.put, List.setIfInBounds_toArray, List.set_cons_zero, List.set_cons_succ, i64_w, i32_w]
    rfl
  refine pure_ (i := 2) (N := some 22) (v := ?_) (a' := ?_) #[true, true, true, false, false, false, false, false, false, false, false, false] rfl rfl (by kernel_rfl) (fun _ _ _ h => h) (Or.inl ⟨by rfl, ?_⟩) ?_ ?_
  rotate_left
  · intro w'
    go_simp
    with_reducible rfl
  rotate_left
  · simp only [Act.put, List.setIfInBounds_toArray, List.set_cons_zero, List.set_cons_succ, i64_w, i32_w]
    rfl
  refine take_ (i := 3) (N := some 23) (v := ?_) (a' := ?_) #[true, true, true, true, false, false, false, false, false, false, false, false] rfl rfl (by kernel_rfl) (fun _ _ _ h => h) (Or.inl ⟨by rfl, ?_⟩) hHeld ?_ ?_
  rotate_left
  · rintro w' ⟨s0, s1, s2⟩
    go_simp
    with_reducible rfl
  rotate_left
  · simp only [Act.put, List.setIfInBounds_toArray, List.set_cons_zero, List.set_cons_succ, i64_w, i32_w]
    rfl
  refine pure_ (i := 4) (N := some 24) (v := ?_) (a' := ?_) #[true, true, true, true, true, false, false, false, false, false, false, false] rfl rfl (by kernel_rfl) (fun _ _ _ h => h) (Or.inl ⟨by rfl, ?_⟩) ?_ ?_
  rotate_left
  · intro w'
    go_simp
    with_reducible rfl
  rotate_left
  · simp only [Act.put, List.setIfInBounds_toArray, List.set_cons_zero, List.set_cons_succ, i64_w, i32_w]
    rfl
  refine pure_ (i := 5) (N := some 25) (v := ?_) (a' := ?_) #[true, true, true, true, true, true, false, false, false, false, false, false] rfl rfl (by kernel_rfl) (fun _ _ _ h => h) (Or.inl ⟨by rfl, ?_⟩) ?_ ?_
  rotate_left
  · intro w'
    go_simp
    with_reducible rfl
  rotate_left
  · simp only [Act.put, List.setIfInBounds_toArray, List.set_cons_zero, List.set_cons_succ, i64_w, i32_w]
    rfl
  refine pure_ (i := 6) (N := some 26) (v := ?_) (a' := ?_) #[true, true, true, true, true, true, true, false, false, false, false, false] rfl rfl (by kernel_rfl) (fun _ _ _ h => h) (Or.inl ⟨by rfl, ?_⟩) ?_ ?_
  rotate_left
  · intro w'
    go_simp
    with_reducible rfl
  rotate_left
  · simp only [Act.put, List.setIfInBounds_toArray, List.set_cons_zero, List.set_cons_succ, i64_w, i32_w]
    rfl
  refine take_ (i := 7) (N := some 27) (v := ?_) (a' := ?_) #[true, true, true, true, true, true, true, true, false, false, false, false] rfl rfl (by kernel_rfl) (fun _ _ _ h => h) (Or.inl ⟨by rfl, ?_⟩) hHeld ?_ ?_
  rotate_left
  · rintro w' ⟨s0, s1, s2⟩
    go_simp
    with_reducible rfl
  rotate_left
  · simp only [Act.put, List.setIfInBounds_toArray, List.set_cons_zero, List.set_cons_succ, i64_w, i32_w]
    rfl
  refine pure_ (i := 8) (N := some 28) (v := ?_) (a' := ?_) #[true, true, true, true, true, true, true, true, true, false, false, false] rfl rfl (by kernel_rfl) (fun _ _ _ h => h) (Or.inl ⟨by rfl, ?_⟩) ?_ ?_
  rotate_left
  · intro w'
    go_simp
    with_reducible rfl
  rotate_left
  · simp only [Act.put, List.setIfInBounds_toArray, List.set_cons_zero, List.set_cons_succ, i64_w, i32_w]
    rfl
  refine take_ (i := 9) (N := some 29) (v := ?_) (a' := ?_) #[true, true, true, true, true, true, true, true, true, true, false, false] rfl rfl (by kernel_rfl) (fun _ _ _ h => h) (Or.inl ⟨by rfl, ?_⟩) hHeld ?_ ?_
  rotate_left
  · rintro w' ⟨s0, s1, s2⟩
    go_simp
    with_reducible rfl
  rotate_left
  · simp only [Act.put, List.setIfInBounds_toArray, List.set_cons_zero, List.set_cons_succ, i64_w, i32_w]
    rfl
  refine one_ (i := 10) (N := some 30) #[true, true, true, true, true, true, true, true, true, true, true, false] rfl rfl (by kernel_rfl) (by decide) (fun K hK => ?_)
  refine goes_ Try.func17 (by kernel_rfl) rfl #[.int .u8 v] (by rfl) rfl rfl (by (try simp only [List.map_toArray, List.map_cons, List.map_nil]); first | done | rfl | (simp only [List.length_drop, List.length_take]; rfl)) ?_
  with_reducible refine (opcodeC v hv _).mono ?_
  rintro e w4 ⟨rfl, nm, hw4⟩
  refine ⟨_, rfl, ?_⟩
  have HN4 : Aside0 (Only g w w4) := ⟨by rw [hw4]; exact HN2.out.drew.alloc _⟩
  have HT4 : Aside0 (Tk w4 g (some ad) s.length c i p1 op data .nilIface) := ⟨by rw [hw4]; exact heap_alloc_lt (w := w2.drew) HT2.out _⟩
  have HO4 : Aside0 (w4.heap[w2.heap.size]? = some (.cells #[.int .u8 v, .string nm, .int .i64 (olen v)] 49 (0, 0))) := ⟨by rw [hw4]; exact heap_alloc_new w2.drew _⟩
  have HV4 : Aside0 (Kd.V (Kd.int .u8) 5 w4 base oks (.slice (some ad) s.length c) s) := ⟨by rw [hw4]; exact Kd.V_alloc (Kd.V_drew HV2.out) _⟩
  rw [show (w2.drew).heap.size = w2.heap.size from rfl]
  have HG2 := Aside0.mk HN2.out.size
  obtain ⟨o, ho⟩ : ∃ o, w2.heap.size = o := ⟨_, rfl⟩
  rw [ho] at HO4 HG2 ⊢
  clear hw4 HT2 HV2 ho HN2
  refine hK.out _ _ ⟨cell_of HT4.out (j := 0) (v := .slice (some ad) s.length c) rfl, cell_of HT4.out (j := 2) (v := .int .i32 i) rfl, scriptCell HV4.out i hi HSV.out⟩ (fun hHeld => ?_)
  clear hK K
  refine norm_ (a' := ?_) ?_ ?_
  rotate_left
  · show Act.put _ (some 30) _ = _
    simp only [Act.put, List.setIfInBounds_toArray, List.set_cons_zero, List.set_cons_succ, i64_w, i32_w]
    rfl
  refine pure_ (i := 11) (N := some 3) (v := ?_) (a' := ?_) #[true, true, true, true, true, true, true, true, true, true, true, true] rfl rfl (by kernel_rfl) (fun _ _ _ h => h) (Or.inl ⟨by rfl, ?_⟩) ?_ ?_
  rotate_left
  · intro w'
    go_simp
    with_reducible rfl
  rotate_left
  · simp only [Act.put, List.setIfInBounds_toArray, List.set_cons_zero, List.set_cons_succ, i64_w, i32_w]
    rfl
  refine done_ (by kernel_rfl) ?_
  clear hHeld HS
  have hc0 := cell_of HT4.out (j := 0) (v := .slice (some ad) s.length c) rfl
  have hc2 := cell_of HT4.out (j := 2) (v := .int .i32 i) rfl
  have hc4 := cell_of HT4.out (j := 4) (v := op) rfl
  have hc5 := cell_of HT4.out (j := 5) (v := data) rfl
  have hc6 := cell_of HT4.out (j := 6) (v := .nilIface) rfl
  have hf2 := frozen_of HT4.out 2
  have hf4 := frozen_of HT4.out 4
  have hf5 := frozen_of HT4.out 5
  have hf6 := frozen_of HT4.out 6
  have ho2 := cell_of HO4.out (j := 2) (v := .int .i64 (olen v)) rfl
  rw [hl] at ho2
  go_wp2
  go_ret
  have ho : Only g w (((w4.setCell ⟨g, 2, none⟩ (.int .i32 (i + 1))).setCell ⟨g, 4, none⟩ (.pointer (some ⟨o, 0, none⟩))).setCell ⟨g, 5, none⟩ (.slice none 0 0)) := ((HN4.out.set 2 _).set 4 _).set 5 _
  have hog : o ≠ g := by have := HG.out; have := HG2.out; omega
  refine ⟨rfl, p1, o, _, nm, olen v, heap_set_same (heap_set_same (heap_set_same HT4.out _) _) _, ?_, HG2.out, Kd.V_nil _ _ _ _ _, ho⟩
  rw [Below.heap_setCell _ _ _ _ hog, Below.heap_setCell _ _ _ _ hog, Below.heap_setCell _ _ _ _ hog]
  exact HO4.out

set_option maxRecDepth 100000 in
set_option maxHeartbeats 8000000 in
theorem nextShort (g : Nat) (ad : Addr) (s : List Int) (c i : Nat) (pos : Int) (op data : Value) (oks : Nat → Prop) (base : Nat) (w : World)
    (hok : ∀ k, oks k → k ≠ g) (hV : Kd.V (Kd.int .u8) 5 w base oks (.slice (some ad) s.length c) s) (hT : Tk w g (some ad) s.length c i pos op data .nilIface)
    (hn : s.length ≤ 1000000) (hi : i < s.length) (v : Nat) (hv : v < 256) (hsv : s.getD i 0 = v) (m : Nat) (hl : olen v = m) (hm1 : 1 < m) (hm2 : m ≤ 76) (hsh : s.length < i + m) :
    Calls Try.prog 8 #[.pointer (some ⟨g, 0, none⟩)] w fun e w' => e = .returned (.bool false) ∧ ∃ pos' op' data' str, Tk w' g (some ad) s.length c i pos' op' data' (.iface 44 (.agg #[.int .i64 27, .string str])) ∧ Only g w w' := by
  obtain ⟨i05, hi05, _, hsz5, _⟩ := info_parts info5
  have hc9 := (Kd.V_at hV).2.1
  obtain ⟨A1, hcut1, hA1, hC1⟩ := print_drop_of (P := Try.prog) (Value.int .u8) 0 22 5 .i32 Try.underlying22 hi05 hsz5 (some ad) c s (i : Int) (by omega) (by omega) hc9
  rw [Int.toNat_natCast] at hcut1 hA1 hC1
  obtain ⟨xs, hxs⟩ : ∃ xs, s.drop (i) = xs := ⟨_, rfl⟩
  have hxl : xs.length = s.length - (i) := by rw [← hxs, List.length_drop]
  rw [hxs] at hcut1 hA1 hC1
  have HXL := Aside0.mk hxl
  clear hxl
  have HA1 := Aside0.mk hA1
  have HXS := Aside0.mk hxs
  clear hA1 hxs
  have HD := Aside0.mk (doneC g (some ad) s.length c i pos op data w (by omega) hT)
  rw [show decide ((s.length : Int) ≤ (i : Int)) = false from decide_eq_false (by omega)] at HD
  have HT := Aside0.mk hT
  have HV := Aside0.mk hV
  have HOK := Aside0.mk hok
  have HSV := Aside0.mk hsv
  clear hT hV hsv hok
  go_enter Try.func8, Try.ntmps8
  go_wp2_with (go_at_call 16; refine HD.out.mono ?_; rintro e w1 ⟨rfl, hb⟩; have HB1 := Aside0.mk hb; have HT1 := Aside0.mk (HT.out.below hb); clear hb; have hc3 := cell_of HT1.out (j := 3) (v := .int .i32 pos) rfl; have hf3 := frozen_of HT1.out 3)
  obtain ⟨p1, hp1⟩ : ∃ p1, wrap32 (pos + 1) = p1 := ⟨_, rfl⟩
  obtain ⟨w2, hw2⟩ : ∃ w2, w1.setCell ⟨g, 3, none⟩ (.int .i32 p1) = w2 := ⟨_, rfl⟩
  rw [hp1, hw2]
  have HT2 : Aside0 (Tk w2 g (some ad) s.length c i p1 op data .nilIface) := ⟨by rw [← hw2]; exact heap_set_same HT1.out _⟩
  have HN2 : Aside0 (Only g w w2) := ⟨by rw [← hw2]; exact (Only.of_below HB1.out).set 3 _⟩
  have HG := Aside0.mk (blk_lt' HT.out)
  have HV2 := Aside0.mk (Kd.V_only HV.out HN2.out HOK.out)
  have HS := Aside0.mk (And.intro (cell_of (w := w2.drew) HT2.out (j := 0) (v := .slice (some ad) s.length c) rfl) (And.intro (cell_of (w := w2.drew) HT2.out (j := 2) (v := .int .i32 i) rfl) (show w2.drew.cell? (ad.add i) = some (.int .u8 v) from scriptCell HV2.out i hi HSV.out)))
  clear hc3 hf3 HT1 HB1 hw2 hp1
  refine start_ (n := 12) (S := fun w' => w'.cell? ⟨g, 0, none⟩ = some (.slice (some ad) s.length c) ∧ w'.cell? ⟨g, 2, none⟩ = some (.int .i32 i) ∧ w'.cell? (ad.add i) = some (.int .u8 v)) (ds := []) #[false, false, false, false, false, false, false, false, false, false, false, false] (by kernel_rfl) rfl rfl HS.out (fun hHeld => ?_)
  refine pure_ (i := 0) (N := some 20) (v := ?_) (a' := ?_) #[true, false, false, false, false, false, false, false, false, false, false, false] rfl rfl (by kernel_rfl) (fun _ _ _ h => h) (Or.inl ⟨by rfl, ?_⟩) ?_ ?_
  rotate_left
  · intro w'
    go_simp
    with_reducible rfl
  rotate_left
  · simp only [Act.put, List.setIfInBounds_toArray, List.set_cons_zero, List.set_cons_succ, i64_w, i32_w]
    rfl
  refine pure_ (i := 1) (N := some 21) (v := ?_) (a' := ?_) #[true, true, false, false, false, false, false, false, false, false, false, false] rfl rfl (by kernel_rfl) (fun _ _ _ h => h) (Or.inl ⟨by rfl, ?_⟩) ?_ ?_
  rotate_left
  · intro w'
    go_simp
    with_reducible rfl
  rotate_left
  · simp only [Act.put, List.setIfInBounds_toArray, List.set_cons_zero, List.set_cons_succ, i64_w, i32_w]
    rfl
  refine pure_ (i := 2) (N := some 22) (v := ?_) (a' := ?_) #[true, true, true, false, false, false, false, false, false, false, false, false] rfl rfl (by kernel_rfl) (fun _ _ _ h => h) (Or.inl ⟨by rfl, ?_⟩) ?_ ?_
  rotate_left
  · intro w'
    go_simp
    with_reducible rfl
  rotate_left
  · simp only [Act.put, List.setIfInBounds_toArray, List.set_cons_zero, List.set_cons_succ, i64_w, i32_w]
    rfl
  refine take_ (i := 3) (N := some 23) (v := ?_) (a' := ?_) #[true, true, true, true, false, false, false, false, false, false, false, false] rfl rfl (by kernel_rfl) (fun _ _ _ h => h) (Or.inl ⟨by rfl, ?_⟩) hHeld ?_ ?_
  rotate_left
  · rintro w' ⟨s0, s1, s2⟩
    go_simp
    with_reducible rfl
  rotate_left
  · simp only [Act.put, List.setIfInBounds_toArray, List.set_cons_zero, List.set_cons_succ, i64_w, i32_w]
    rfl
  refine pure_ (i := 4) (N := some 24) (v := ?_) (a' := ?_) #[true, true, true, true, true, false, false, false, false, false, false, false] rfl rfl (by kernel_rfl) (fun _ _ _ h => h) (Or.inl ⟨by rfl, ?_⟩) ?_ ?_
  rotate_left
  · intro w'
    go_simp
    with_reducible rfl
  rotate_left
  · simp only [Act.put, List.setIfInBounds_toArray, List.set_cons_zero, List.set_cons_succ, i64_w, i32_w]
    rfl
  refine pure_ (i := 5) (N := some 25) (v := ?_) (a' := ?_) #[true, true, true, true, true, true, false, false, false, false, false, false] rfl rfl (by kernel_rfl) (fun _ _ _ h => h) (Or.inl ⟨by rfl, ?_⟩) ?_ ?_
  rotate_left
  · intro w'
    go_simp
    with_reducible rfl
  rotate_left
  · simp only [Act.put, List.setIfInBounds_toArray, List.set_cons_zero, List.set_cons_succ, i64_w, i32_w]
    rfl
  refine pure_ (i := 6) (N := some 26) (v := ?_) (a' := ?_) #[true, true, true, true, true, true, true, false, false, false, false, false] rfl rfl (by kernel_rfl) (fun _ _ _ h => h) (Or.inl ⟨by rfl, ?_⟩) ?_ ?_
  rotate_left
  · intro w'
    go_simp
    with_reducible rfl
  rotate_left
  · simp only [Act.put, List.setIfInBounds_toArray, List.set_cons_zero, List.set_cons_succ, i64_w, i32_w]
    rfl
  refine take_ (i := 7) (N := some 27) (v := ?_) (a' := ?_) #[true, true, true, true, true, true, true, true, false, false, false, false] rfl rfl (by kernel_rfl) (fun _ _ _ h => h) (Or.inl ⟨by rfl, ?_⟩) hHeld ?_ ?_
  rotate_left
  · rintro w' ⟨s0, s1, s2⟩
    go_simp
    with_reducible rfl
  rotate_left
  · simp only [Act.put, List.setIfInBounds_toArray, List.set_cons_zero, List.set_cons_succ, i64_w, i32_w]
    rfl
  refine pure_ (i := 8) (N := some 28) (v := ?_) (a' := ?_) #[true, true, true, true, true, true, true, true, true, false, false, false] rfl rfl (by kernel_rfl) (fun _ _ _ h => h) (Or.inl ⟨by rfl, ?_⟩) ?_ ?_
  rotate_left
  · intro w'
    go_simp
    with_reducible rfl
  rotate_left
  · simp only [Act.put, List.setIfInBounds_toArray, List.set_cons_zero, List.set_cons_succ, i64_w, i32_w]
    rfl
  refine take_ (i := 9) (N := some 29) (v := ?_) (a' := ?_) #[true, true, true, true, true, true, true, true, true, true, false, false] rfl rfl (by kernel_rfl) (fun _ _ _ h => h) (Or.inl ⟨by rfl, ?_⟩) hHeld ?_ ?_
  rotate_left
  · rintro w' ⟨s0, s1, s2⟩
    go_simp
    with_reducible rfl
  rotate_left
  · simp only [Act.put, List.setIfInBounds_toArray, List.set_cons_zero, List.set_cons_succ, i64_w, i32_w]
    rfl
  refine one_ (i := 10) (N := some 30) #[true, true, true, true, true, true, true, true, true, true, true, false] rfl rfl (by kernel_rfl) (by decide) (fun K hK => ?_)
  refine goes_ Try.func17 (by kernel_rfl) rfl #[.int .u8 v] (by rfl) rfl rfl (by (try simp only [List.map_toArray, List.map_cons, List.map_nil]); first | done | rfl | (simp only [List.length_drop, List.length_take]; rfl)) ?_
  with_reducible refine (opcodeC v hv _).mono ?_
  rintro e w4 ⟨rfl, nm, hw4⟩
  refine ⟨_, rfl, ?_⟩
  have HN4 : Aside0 (Only g w w4) := ⟨by rw [hw4]; exact HN2.out.drew.alloc _⟩
  have HT4 : Aside0 (Tk w4 g (some ad) s.length c i p1 op data .nilIface) := ⟨by rw [hw4]; exact heap_alloc_lt (w := w2.drew) HT2.out _⟩
  have HO4 : Aside0 (w4.heap[w2.heap.size]? = some (.cells #[.int .u8 v, .string nm, .int .i64 (olen v)] 49 (0, 0))) := ⟨by rw [hw4]; exact heap_alloc_new w2.drew _⟩
  have HV4 : Aside0 (Kd.V (Kd.int .u8) 5 w4 base oks (.slice (some ad) s.length c) s) := ⟨by rw [hw4]; exact Kd.V_alloc (Kd.V_drew HV2.out) _⟩
  rw [show (w2.drew).heap.size = w2.heap.size from rfl]
  have HG2 := Aside0.mk HN2.out.size
  obtain ⟨o, ho⟩ : ∃ o, w2.heap.size = o := ⟨_, rfl⟩
  rw [ho] at HO4 HG2 ⊢
  clear hw4 HT2 HV2 ho HN2
  refine hK.out _ _ ⟨cell_of HT4.out (j := 0) (v := .slice (some ad) s.length c) rfl, cell_of HT4.out (j := 2) (v := .int .i32 i) rfl, scriptCell HV4.out i hi HSV.out⟩ (fun hHeld => ?_)
  clear hK K
  refine norm_ (a' := ?_) ?_ ?_
  rotate_left
  · show Act.put _ (some 30) _ = _
    simp only [Act.put, List.setIfInBounds_toArray, List.set_cons_zero, List.set_cons_succ, i64_w, i32_w]
    rfl
  refine pure_ (i := 11) (N := some 3) (v := ?_) (a' := ?_) #[true, true, true, true, true, true, true, true, true, true, true, true] rfl rfl (by kernel_rfl) (fun _ _ _ h => h) (Or.inl ⟨by rfl, ?_⟩) ?_ ?_
  rotate_left
  · intro w'
    go_simp
    with_reducible rfl
  rotate_left
  · simp only [Act.put, List.setIfInBounds_toArray, List.set_cons_zero, List.set_cons_succ, i64_w, i32_w]
    rfl
  refine done_ (by kernel_rfl) ?_
  clear hHeld HS
  have hc0 := cell_of HT4.out (j := 0) (v := .slice (some ad) s.length c) rfl
  have hc2 := cell_of HT4.out (j := 2) (v := .int .i32 i) rfl
  have hc4 := cell_of HT4.out (j := 4) (v := op) rfl
  have hc5 := cell_of HT4.out (j := 5) (v := data) rfl
  have hc6 := cell_of HT4.out (j := 6) (v := .nilIface) rfl
  have hf2 := frozen_of HT4.out 2
  have hf4 := frozen_of HT4.out 4
  have hf5 := frozen_of HT4.out 5
  have hf6 := frozen_of HT4.out 6
  have ho2 := cell_of HO4.out (j := 2) (v := .int .i64 (olen v)) rfl
  rw [hl] at ho2
  have HS := Aside0.mk (And.intro (cell_of (w := w4.drew) HT4.out (j := 0) (v := .slice (some ad) s.length c) rfl) (cell_of (w := w4.drew) HT4.out (j := 2) (v := .int .i32 i) rfl))
  have b1 : decide ((m : Int) = 1) = false := decide_eq_false (by omega)
  have b2 : decide ((1 : Int) < m) = true := decide_eq_true (by omega)
  have b3 : decide ((xs.length : Int) < m) = true := decide_eq_true (by have := HXL.out; omega)
  have b4 : decide (xs.length < m) = true := decide_eq_true (by have := HXL.out; omega)
  have b5 : xs.length < m := by have := HXL.out; omega
  go_wp2
  refine start_ (n := 10) (S := fun w' => w'.cell? ⟨g, 0, none⟩ = some (.slice (some ad) s.length c) ∧ w'.cell? ⟨g, 2, none⟩ = some (.int .i32 i)) (ds := []) #[false, false, false, false, false, false, false, false, false, false] (by kernel_rfl) rfl rfl HS.out (fun hHeld => ?_)
  refine pure_ (i := 0) (N := some 57) (v := ?_) (a' := ?_) #[true, false, false, false, false, false, false, false, false, false] rfl rfl (by kernel_rfl) (fun _ _ _ h => h) (Or.inl ⟨by rfl, ?_⟩) ?_ ?_
  rotate_left
  · intro w'
    go_simp
    with_reducible rfl
  rotate_left
  · simp only [Act.put, List.setIfInBounds_toArray, List.set_cons_zero, List.set_cons_succ, i64_w, i32_w]
    rfl
  refine pure_ (i := 1) (N := some 58) (v := ?_) (a' := ?_) #[true, true, false, false, false, false, false, false, false, false] rfl rfl (by kernel_rfl) (fun _ _ _ h => h) (Or.inl ⟨by rfl, ?_⟩) ?_ ?_
  rotate_left
  · intro w'
    go_simp
    with_reducible rfl
  rotate_left
  · simp only [Act.put, List.setIfInBounds_toArray, List.set_cons_zero, List.set_cons_succ, i64_w, i32_w]
    rfl
  refine pure_ (i := 2) (N := some 59) (v := ?_) (a' := ?_) #[true, true, true, false, false, false, false, false, false, false] rfl rfl (by kernel_rfl) (fun _ _ _ h => h) (Or.inl ⟨by rfl, ?_⟩) ?_ ?_
  rotate_left
  · intro w'
    go_simp
    with_reducible rfl
  rotate_left
  · simp only [Act.put, List.setIfInBounds_toArray, List.set_cons_zero, List.set_cons_succ, i64_w, i32_w]
    rfl
  refine take_ (i := 3) (N := some 60) (v := ?_) (a' := ?_) #[true, true, true, true, false, false, false, false, false, false] rfl rfl (by kernel_rfl) (fun _ _ _ h => h) (Or.inl ⟨by rfl, ?_⟩) hHeld ?_ ?_
  rotate_left
  · rintro w' ⟨s0, s1⟩
    go_simp
    with_reducible rfl
  rotate_left
  · simp only [Act.put, List.setIfInBounds_toArray, List.set_cons_zero, List.set_cons_succ, i64_w, i32_w]
    rfl
  refine pure_ (i := 4) (N := some 61) (v := ?_) (a' := ?_) #[true, true, true, true, true, false, false, false, false, false] rfl rfl (by kernel_rfl) (fun _ _ _ h => h) (Or.inl ⟨by rfl, ?_⟩) ?_ ?_
  rotate_left
  · intro w'
    go_simp
    with_reducible rfl
  rotate_left
  · simp only [Act.put, List.setIfInBounds_toArray, List.set_cons_zero, List.set_cons_succ, i64_w, i32_w]
    rfl
  refine pure_ (i := 5) (N := some 62) (v := ?_) (a' := ?_) #[true, true, true, true, true, true, false, false, false, false] rfl rfl (by kernel_rfl) (fun _ _ _ h => h) (Or.inl ⟨by rfl, ?_⟩) ?_ ?_
  rotate_left
  · intro w'
    go_simp
    with_reducible rfl
  rotate_left
  · simp only [Act.put, List.setIfInBounds_toArray, List.set_cons_zero, List.set_cons_succ, i64_w, i32_w]
    rfl
  refine pure_ (i := 6) (N := some 63) (v := ?_) (a' := ?_) #[true, true, true, true, true, true, true, false, false, false] rfl rfl (by kernel_rfl) (fun _ _ _ h => h) (Or.inl ⟨by rfl, ?_⟩) ?_ ?_
  rotate_left
  · intro w'
    go_simp
    with_reducible rfl
  rotate_left
  · simp only [Act.put, List.setIfInBounds_toArray, List.set_cons_zero, List.set_cons_succ, i64_w, i32_w]
    rfl
  refine take_ (i := 7) (N := some 64) (v := ?_) (a' := ?_) #[true, true, true, true, true, true, true, true, false, false] rfl rfl (by kernel_rfl) (fun _ _ _ h => h) (Or.inl ⟨by rfl, ?_⟩) hHeld ?_ ?_
  rotate_left
  · rintro w' ⟨s0, s1⟩
    go_simp
    with_reducible rfl
  rotate_left
  · simp only [Act.put, List.setIfInBounds_toArray, List.set_cons_zero, List.set_cons_succ, i64_w, i32_w]
    rfl
  refine pure_ (i := 8) (N := some 65) (v := ?_) (a' := ?_) #[true, true, true, true, true, true, true, true, true, false] rfl rfl (by kernel_rfl) (fun _ _ _ h => h) (Or.inl ⟨by rfl, ?_⟩) ?_ ?_
  rotate_left
  · intro w'
    unfold execOp
    go_simp
    rfl
  rotate_left
  · simp only [Act.put, List.setIfInBounds_toArray, List.set_cons_zero, List.set_cons_succ, i64_w, i32_w]
    rfl
  refine pure_ (i := 9) (N := some 4) (v := ?_) (a' := ?_) #[true, true, true, true, true, true, true, true, true, true] rfl rfl (by kernel_rfl) (fun _ _ _ h => h) (Or.inl ⟨by rfl, ?_⟩) ?_ ?_
  rotate_left
  · intro w'
    go_simp
    with_reducible rfl
  rotate_left
  · simp only [Act.put, List.setIfInBounds_toArray, List.set_cons_zero, List.set_cons_succ, i64_w, i32_w]
    rfl
  refine done_ (by kernel_rfl) ?_
  clear hHeld HS
  go_wp2_with (go_at_call 15; refine (errC _ _ _).mono ?_; rintro e w5 ⟨rfl, hb⟩; have HB5 := Aside0.mk hb; have HT5 := Aside0.mk (Tk.below (w := w4.drew) HT4.out hb); clear hb hc6 hf6; have hc6 := cell_of HT5.out (j := 6) (v := .nilIface) rfl; have hf6 := frozen_of HT5.out 6)
  go_ret
  refine ⟨rfl, p1, op, data, _, heap_set_same HT5.out _, (HN4.out.drew.trans (Only.of_below HB5.out)).set 6 _⟩

set_option maxRecDepth 100000 in
set_option maxHeartbeats 8000000 in
theorem nextMany (g : Nat) (ad : Addr) (s : List Int) (c i : Nat) (pos : Int) (op data : Value) (oks : Nat → Prop) (base : Nat) (w : World)
    (hok : ∀ k, oks k → k ≠ g) (hV : Kd.V (Kd.int .u8) 5 w base oks (.slice (some ad) s.length c) s) (hT : Tk w g (some ad) s.length c i pos op data .nilIface)
    (hn : s.length ≤ 1000000) (hi : i < s.length) (v : Nat) (hv : v < 256) (hsv : s.getD i 0 = v) (m : Nat) (hl : olen v = m) (hm1 : 1 < m) (hm2 : m ≤ 76) (hfit : i + m ≤ s.length) :
    Calls Try.prog 8 #[.pointer (some ⟨g, 0, none⟩)] w fun e w' => e = .returned (.bool true) ∧ ∃ pos' o dv nm ol, Tk w' g (some ad) s.length c ((i + m : Nat) : Int) pos' (.pointer (some ⟨o, 0, none⟩)) dv .nilIface ∧ w'.heap[o]? = some (.cells #[.int .u8 v, .string nm, .int .i64 ol] 49 (0, 0)) ∧ w.heap.size ≤ o ∧ Kd.V (Kd.int .u8) 5 w' base oks dv ((s.drop (i + 1)).take (m - 1)) ∧ Only g w w' := by
  obtain ⟨i05, hi05, _, hsz5, _⟩ := info_parts info5
  have hc9 := (Kd.V_at hV).2.1
  obtain ⟨A1, hcut1, hA1, hC1⟩ := print_drop_of (P := Try.prog) (Value.int .u8) 0 22 5 .i32 Try.underlying22 hi05 hsz5 (some ad) c s (i : Int) (by omega) (by omega) hc9
  rw [Int.toNat_natCast] at hcut1 hA1 hC1
  obtain ⟨xs, hxs⟩ : ∃ xs, s.drop (i) = xs := ⟨_, rfl⟩
  have hxl : xs.length = s.length - (i) := by rw [← hxs, List.length_drop]
  rw [hxs] at hcut1 hA1 hC1
  have HXL := Aside0.mk hxl
  clear hxl
  have HA1 := Aside0.mk hA1
  have HXS := Aside0.mk hxs
  clear hA1 hxs
  obtain ⟨A2, hcut2, hA2, hC2⟩ := print_mid_of (P := Try.prog) (Value.int .u8) 0 22 5 .i64 .i64 Try.underlying22 hi05 hsz5 A1 (c - i) xs 1 (m : Int) (by omega) (by omega) (by have := HXL.out; omega) hC1
  rw [Int.toNat_natCast, show (1 : Int).toNat = 1 from rfl] at hcut2 hA2 hC2
  obtain ⟨ys, hys⟩ : ∃ ys, (xs.take m).drop 1 = ys := ⟨_, rfl⟩
  have hyl : ys.length = m - 1 := by rw [← hys, List.length_drop, List.length_take]; have := HXL.out; omega
  rw [hys] at hcut2 hA2 hC2
  have HYL := Aside0.mk hyl
  have HA2 := Aside0.mk hA2
  have HYS := Aside0.mk hys
  have HC2 := Aside0.mk hC2
  clear hA2 hys hyl
  have HD := Aside0.mk (doneC g (some ad) s.length c i pos op data w (by omega) hT)
  rw [show decide ((s.length : Int) ≤ (i : Int)) = false from decide_eq_false (by omega)] at HD
  have HT := Aside0.mk hT
  have HV := Aside0.mk hV
  have HOK := Aside0.mk hok
  have HSV := Aside0.mk hsv
  clear hT hV hsv hok
  go_enter Try.func8, Try.ntmps8
  go_wp2_with (go_at_call 16; refine HD.out.mono ?_; rintro e w1 ⟨rfl, hb⟩; have HB1 := Aside0.mk hb; have HT1 := Aside0.mk (HT.out.below hb); clear hb; have hc3 := cell_of HT1.out (j := 3) (v := .int .i32 pos) rfl; have hf3 := frozen_of HT1.out 3)
  obtain ⟨p1, hp1⟩ : ∃ p1, wrap32 (pos + 1) = p1 := ⟨_, rfl⟩
  obtain ⟨w2, hw2⟩ : ∃ w2, w1.setCell ⟨g, 3, none⟩ (.int .i32 p1) = w2 := ⟨_, rfl⟩
  rw [hp1, hw2]
  have HT2 : Aside0 (Tk w2 g (some ad) s.length c i p1 op data .nilIface) := ⟨by rw [← hw2]; exact heap_set_same HT1.out _⟩
  have HN2 : Aside0 (Only g w w2) := ⟨by rw [← hw2]; exact (Only.of_below HB1.out).set 3 _⟩
  have HG := Aside0.mk (blk_lt' HT.out)
  have HV2 := Aside0.mk (Kd.V_only HV.out HN2.out HOK.out)
  have HS := Aside0.mk (And.intro (cell_of (w := w2.drew) HT2.out (j := 0) (v := .slice (some ad) s.length c) rfl) (And.intro (cell_of (w := w2.drew) HT2.out (j := 2) (v := .int .i32 i) rfl) (show w2.drew.cell? (ad.add i) = some (.int .u8 v) from scriptCell HV2.out i hi HSV.out)))
  clear hc3 hf3 HT1 HB1 hw2 hp1
  refine start_ (n := 12) (S := fun w' => w'.cell? ⟨g, 0, none⟩ = some (.slice (some ad) s.length c) ∧ w'.cell? ⟨g, 2, none⟩ = some (.int .i32 i) ∧ w'.cell? (ad.add i) = some (.int .u8 v)) (ds := []) #[false, false, false, false, false, false, false, false, false, false, false, false] (by kernel_rfl) rfl rfl HS.out (fun hHeld => ?_)
  refine pure_ (i := 0) (N := some 20) (v := ?_) (a' := ?_) #[true, false, false, false, false, false, false, false, false, false, false, false] rfl rfl (by kernel_rfl) (fun _ _ _ h => h) (Or.inl ⟨by rfl, ?_⟩) ?_ ?_
  rotate_left
  · intro w'
    go_simp
    with_reducible rfl
  rotate_left
  · simp only [Act.put, List.setIfInBounds_toArray, List.set_cons_zero, List.set_cons_succ, i64_w, i32_w]
    rfl
  refine pure_ (i := 1) (N := some 21) (v := ?_) (a' := ?_) #[true, true, false, false, false, false, false, false, false, false, false, false] rfl rfl (by kernel_rfl) (fun _ _ _ h => h) (Or.inl ⟨by rfl, ?_⟩) ?_ ?_
  rotate_left
  · intro w'
    go_simp
    with_reducible rfl
  rotate_left
  · simp only [Act.put, List.setIfInBounds_toArray, List.set_cons_zero, List.set_cons_succ, i64_w, i32_w]
    rfl
  refine pure_ (i := 2) (N := some 22) (v := ?_) (a' := ?_) #[true, true, true, false, false, false, false, false, false, false, false, false] rfl rfl (by kernel_rfl) (fun _ _ _ h => h) (Or.inl ⟨by rfl, ?_⟩) ?_ ?_
  rotate_left
  · intro w'
    go_simp
    with_reducible rfl
  rotate_left
  · simp only [Act.put, List.setIfInBounds_toArray, List.set_cons_zero, List.set_cons_succ, i64_w, i32_w]
    rfl
  refine take_ (i := 3) (N := some 23) (v := ?_) (a' := ?_) #[true, true, true, true, false, false, false, false, false, false, false, false] rfl rfl (by kernel_rfl) (fun _ _ _ h => h) (Or.inl ⟨by rfl, ?_⟩) hHeld ?_ ?_
  rotate_left
  · rintro w' ⟨s0, s1, s2⟩
    go_simp
    with_reducible rfl
  rotate_left
  · simp only [Act.put, List.setIfInBounds_toArray, List.set_cons_zero, List.set_cons_succ, i64_w, i32_w]
    rfl
  refine pure_ (i := 4) (N := some 24) (v := ?_) (a' := ?_) #[true, true, true, true, true, false, false, false, false, false, false, false] rfl rfl (by kernel_rfl) (fun _ _ _ h => h) (Or.inl ⟨by rfl, ?_⟩) ?_ ?_
  rotate_left
  · intro w'
    go_simp
    with_reducible rfl
  rotate_left
  · simp only [Act.put, List.setIfInBounds_toArray, List.set_cons_zero, List.set_cons_succ, i64_w, i32_w]
    rfl
  refine pure_ (i := 5) (N := some 25) (v := ?_) (a' := ?_) #[true, true, true, true, true, true, false, false, false, false, false, false] rfl rfl (by kernel_rfl) (fun _ _ _ h => h) (Or.inl ⟨by rfl, ?_⟩) ?_ ?_
  rotate_left
  · intro w'
    go_simp
    with_reducible rfl
  rotate_left
  · simp only [Act.put, List.setIfInBounds_toArray, List.set_cons_zero, List.set_cons_succ, i64_w, i32_w]
    rfl
  refine pure_ (i := 6) (N := some 26) (v := ?_) (a' := ?_) #[true, true, true, true, true, true, true, false, false, false, false, false] rfl rfl (by kernel_rfl) (fun _ _ _ h => h) (Or.inl ⟨by rfl, ?_⟩) ?_ ?_
  rotate_left
  · intro w'
    go_simp
    with_reducible rfl
  rotate_left
  · simp only [Act.put, List.setIfInBounds_toArray, List.set_cons_zero, List.set_cons_succ, i64_w, i32_w]
    rfl
  refine take_ (i := 7) (N := some 27) (v := ?_) (a' := ?_) #[true, true, true, true, true, true, true, true, false, false, false, false] rfl rfl (by kernel_rfl) (fun _ _ _ h => h) (Or.inl ⟨by rfl, ?_⟩) hHeld ?_ ?_
  rotate_left
  · rintro w' ⟨s0, s1, s2⟩
    go_simp
    with_reducible rfl
  rotate_left
  · simp only [Act.put, List.setIfInBounds_toArray, List.set_cons_zero, List.set_cons_succ, i64_w, i32_w]
    rfl
  refine pure_ (i := 8) (N := some 28) (v := ?_) (a' := ?_) #[true, true, true, true, true, true, true, true, true, false, false, false] rfl rfl (by kernel_rfl) (fun _ _ _ h => h) (Or.inl ⟨by rfl, ?_⟩) ?_ ?_
  rotate_left
  · intro w'
    go_simp
    with_reducible rfl
  rotate_left
  · simp only [Act.put, List.setIfInBounds_toArray, List.set_cons_zero, List.set_cons_succ, i64_w, i32_w]
    rfl
  refine take_ (i := 9) (N := some 29) (v := ?_) (a' := ?_) #[true, true, true, true, true, true, true, true, true, true, false, false] rfl rfl (by kernel_rfl) (fun _ _ _ h => h) (Or.inl ⟨by rfl, ?_⟩) hHeld ?_ ?_
  rotate_left
  · rintro w' ⟨s0, s1, s2⟩
    go_simp
    with_reducible rfl
  rotate_left
  · simp only [Act.put, List.setIfInBounds_toArray, List.set_cons_zero, List.set_cons_succ, i64_w, i32_w]
    rfl
  refine one_ (i := 10) (N := some 30) #[true, true, true, true, true, true, true, true, true, true, true, false] rfl rfl (by kernel_rfl) (by decide) (fun K hK => ?_)
  refine goes_ Try.func17 (by kernel_rfl) rfl #[.int .u8 v] (by rfl) rfl rfl (by (try simp only [List.map_toArray, List.map_cons, List.map_nil]); first | done | rfl | (simp only [List.length_drop, List.length_take]; rfl)) ?_
  with_reducible refine (opcodeC v hv _).mono ?_
  rintro e w4 ⟨rfl, nm, hw4⟩
  refine ⟨_, rfl, ?_⟩
  have HN4 : Aside0 (Only g w w4) := ⟨by rw [hw4]; exact HN2.out.drew.alloc _⟩
  have HT4 : Aside0 (Tk w4 g (some ad) s.length c i p1 op data .nilIface) := ⟨by rw [hw4]; exact heap_alloc_lt (w := w2.drew) HT2.out _⟩
  have HO4 : Aside0 (w4.heap[w2.heap.size]? = some (.cells #[.int .u8 v, .string nm, .int .i64 (olen v)] 49 (0, 0))) := ⟨by rw [hw4]; exact heap_alloc_new w2.drew _⟩
  have HV4 : Aside0 (Kd.V (Kd.int .u8) 5 w4 base oks (.slice (some ad) s.length c) s) := ⟨by rw [hw4]; exact Kd.V_alloc (Kd.V_drew HV2.out) _⟩
  rw [show (w2.drew).heap.size = w2.heap.size from rfl]
  have HG2 := Aside0.mk HN2.out.size
  obtain ⟨o, ho⟩ : ∃ o, w2.heap.size = o := ⟨_, rfl⟩
  rw [ho] at HO4 HG2 ⊢
  clear hw4 HT2 HV2 ho HN2
  refine hK.out _ _ ⟨cell_of HT4.out (j := 0) (v := .slice (some ad) s.length c) rfl, cell_of HT4.out (j := 2) (v := .int .i32 i) rfl, scriptCell HV4.out i hi HSV.out⟩ (fun hHeld => ?_)
  clear hK K
  refine norm_ (a' := ?_) ?_ ?_
  rotate_left
  · show Act.put _ (some 30) _ = _
    simp only [Act.put, List.setIfInBounds_toArray, List.set_cons_zero, List.set_cons_succ, i64_w, i32_w]
    rfl
  refine pure_ (i := 11) (N := some 3) (v := ?_) (a' := ?_) #[true, true, true, true, true, true, true, true, true, true, true, true] rfl rfl (by kernel_rfl) (fun _ _ _ h => h) (Or.inl ⟨by rfl, ?_⟩) ?_ ?_
  rotate_left
  · intro w'
    go_simp
    with_reducible rfl
  rotate_left
  · simp only [Act.put, List.setIfInBounds_toArray, List.set_cons_zero, List.set_cons_succ, i64_w, i32_w]
    rfl
  refine done_ (by kernel_rfl) ?_
  clear hHeld HS
  have hc0 := cell_of HT4.out (j := 0) (v := .slice (some ad) s.length c) rfl
  have hc2 := cell_of HT4.out (j := 2) (v := .int .i32 i) rfl
  have hc4 := cell_of HT4.out (j := 4) (v := op) rfl
  have hc5 := cell_of HT4.out (j := 5) (v := data) rfl
  have hc6 := cell_of HT4.out (j := 6) (v := .nilIface) rfl
  have hf2 := frozen_of HT4.out 2
  have hf4 := frozen_of HT4.out 4
  have hf5 := frozen_of HT4.out 5
  have hf6 := frozen_of HT4.out 6
  have ho2 := cell_of HO4.out (j := 2) (v := .int .i64 (olen v)) rfl
  rw [hl] at ho2
  have HS := Aside0.mk (And.intro (cell_of (w := w4.drew) HT4.out (j := 0) (v := .slice (some ad) s.length c) rfl) (cell_of (w := w4.drew) HT4.out (j := 2) (v := .int .i32 i) rfl))
  have HS2 := Aside0.mk (And.intro (cell_of (w := w4.drew.drew) HT4.out (j := 2) (v := .int .i32 i) rfl) (show w4.drew.drew.cell? ⟨o, 2, none⟩ = some (.int .i64 m) from ho2))
  have b1 : decide ((m : Int) = 1) = false := decide_eq_false (by omega)
  have b2 : decide ((1 : Int) < m) = true := decide_eq_true (by omega)
  have b3 : decide ((xs.length : Int) < m) = false := decide_eq_false (by have := HXL.out; omega)
  have b4 : decide (xs.length < m) = false := decide_eq_false (by have := HXL.out; omega)
  have b5 : ¬ xs.length < m := by have := HXL.out; omega
  have z0 : (0 : Int) ≤ (m : Int) := by omega
  have z1 : (m : Int) ≤ 2147483647 := by omega
  have z2 : (0 : Int) ≤ (i : Int) + m := by omega
  have z3 : (i : Int) + m ≤ 2147483647 := by omega
  have hog : o ≠ g := by have := HG.out; have := HG2.out; omega
  go_wp2
  refine start_ (n := 10) (S := fun w' => w'.cell? ⟨g, 0, none⟩ = some (.slice (some ad) s.length c) ∧ w'.cell? ⟨g, 2, none⟩ = some (.int .i32 i)) (ds := []) #[false, false, false, false, false, false, false, false, false, false] (by kernel_rfl) rfl rfl HS.out (fun hHeld => ?_)
  refine pure_ (i := 0) (N := some 57) (v := ?_) (a' := ?_) #[true, false, false, false, false, false, false, false, false, false] rfl rfl (by kernel_rfl) (fun _ _ _ h => h) (Or.inl ⟨by rfl, ?_⟩) ?_ ?_
  rotate_left
  · intro w'
    go_simp
    with_reducible rfl
  rotate_left
  · simp only [Act.put, List.setIfInBounds_toArray, List.set_cons_zero, List.set_cons_succ, i64_w, i32_w]
    rfl
  refine pure_ (i := 1) (N := some 58) (v := ?_) (a' := ?_) #[true, true, false, false, false, false, false, false, false, false] rfl rfl (by kernel_rfl) (fun _ _ _ h => h) (Or.inl ⟨by rfl, ?_⟩) ?_ ?_
  rotate_left
  · intro w'
    go_simp
    with_reducible rfl
  rotate_left
  · simp only [Act.put, List.setIfInBounds_toArray, List.set_cons_zero, List.set_cons_succ, i64_w, i32_w]
    rfl
  refine pure_ (i := 2) (N := some 59) (v := ?_) (a' := ?_) #[true, true, true, false, false, false, false, false, false, false] rfl rfl (by kernel_rfl) (fun _ _ _ h => h) (Or.inl ⟨by rfl, ?_⟩) ?_ ?_
  rotate_left
  · intro w'
    go_simp
    with_reducible rfl
  rotate_left
  · simp only [Act.put, List.setIfInBounds_toArray, List.set_cons_zero, List.set_cons_succ, i64_w, i32_w]
    rfl
  refine take_ (i := 3) (N := some 60) (v := ?_) (a' := ?_) #[true, true, true, true, false, false, false, false, false, false] rfl rfl (by kernel_rfl) (fun _ _ _ h => h) (Or.inl ⟨by rfl, ?_⟩) hHeld ?_ ?_
  rotate_left
  · rintro w' ⟨s0, s1⟩
    go_simp
    with_reducible rfl
  rotate_left
  · simp only [Act.put, List.setIfInBounds_toArray, List.set_cons_zero, List.set_cons_succ, i64_w, i32_w]
    rfl
  refine pure_ (i := 4) (N := some 61) (v := ?_) (a' := ?_) #[true, true, true, true, true, false, false, false, false, false] rfl rfl (by kernel_rfl) (fun _ _ _ h => h) (Or.inl ⟨by rfl, ?_⟩) ?_ ?_
  rotate_left
  · intro w'
    go_simp
    with_reducible rfl
  rotate_left
  · simp only [Act.put, List.setIfInBounds_toArray, List.set_cons_zero, List.set_cons_succ, i64_w, i32_w]
    rfl
  refine pure_ (i := 5) (N := some 62) (v := ?_) (a' := ?_) #[true, true, true, true, true, true, false, false, false, false] rfl rfl (by kernel_rfl) (fun _ _ _ h => h) (Or.inl ⟨by rfl, ?_⟩) ?_ ?_
  rotate_left
  · intro w'
    go_simp
    with_reducible rfl
  rotate_left
  · simp only [Act.put, List.setIfInBounds_toArray, List.set_cons_zero, List.set_cons_succ, i64_w, i32_w]
    rfl
  refine pure_ (i := 6) (N := some 63) (v := ?_) (a' := ?_) #[true, true, true, true, true, true, true, false, false, false] rfl rfl (by kernel_rfl) (fun _ _ _ h => h) (Or.inl ⟨by rfl, ?_⟩) ?_ ?_
  rotate_left
  · intro w'
    go_simp
    with_reducible rfl
  rotate_left
  · simp only [Act.put, List.setIfInBounds_toArray, List.set_cons_zero, List.set_cons_succ, i64_w, i32_w]
    rfl
  refine take_ (i := 7) (N := some 64) (v := ?_) (a' := ?_) #[true, true, true, true, true, true, true, true, false, false] rfl rfl (by kernel_rfl) (fun _ _ _ h => h) (Or.inl ⟨by rfl, ?_⟩) hHeld ?_ ?_
  rotate_left
  · rintro w' ⟨s0, s1⟩
    go_simp
    with_reducible rfl
  rotate_left
  · simp only [Act.put, List.setIfInBounds_toArray, List.set_cons_zero, List.set_cons_succ, i64_w, i32_w]
    rfl
  refine pure_ (i := 8) (N := some 65) (v := ?_) (a' := ?_) #[true, true, true, true, true, true, true, true, true, false] rfl rfl (by kernel_rfl) (fun _ _ _ h => h) (Or.inl ⟨by rfl, ?_⟩) ?_ ?_
  rotate_left
  · intro w'
    unfold execOp
    go_simp
    rfl
  rotate_left
  · simp only [Act.put, List.setIfInBounds_toArray, List.set_cons_zero, List.set_cons_succ, i64_w, i32_w]
    rfl
  refine pure_ (i := 9) (N := some 4) (v := ?_) (a' := ?_) #[true, true, true, true, true, true, true, true, true, true] rfl rfl (by kernel_rfl) (fun _ _ _ h => h) (Or.inl ⟨by rfl, ?_⟩) ?_ ?_
  rotate_left
  · intro w'
    go_simp
    with_reducible rfl
  rotate_left
  · simp only [Act.put, List.setIfInBounds_toArray, List.set_cons_zero, List.set_cons_succ, i64_w, i32_w]
    rfl
  refine done_ (by kernel_rfl) ?_
  clear hHeld HS
  go_wp2
  refine start_ (n := 13) (S := fun w' => w'.cell? ⟨g, 2, none⟩ = some (.int .i32 i) ∧ w'.cell? ⟨o, 2, none⟩ = some (.int .i64 m)) (ds := [12]) #[false, false, false, false, false, false, false, false, false, false, false, false, false] (by kernel_rfl) rfl rfl HS2.out (fun hHeld => ?_)
  refine pure_ (i := 0) (N := some 79) (v := ?_) (a' := ?_) #[true, false, false, false, false, false, false, false, false, false, false, false, false] rfl rfl (by kernel_rfl) (fun _ _ _ h => h) (Or.inl ⟨by rfl, ?_⟩) ?_ ?_
  rotate_left
  · intro w'
    go_simp
    with_reducible rfl
  rotate_left
  · simp only [Act.put, List.setIfInBounds_toArray, List.set_cons_zero, List.set_cons_succ, i64_w, i32_w]
    rfl
  refine pure_ (i := 1) (N := some 80) (v := ?_) (a' := ?_) #[true, true, false, false, false, false, false, false, false, false, false, false, false] rfl rfl (by kernel_rfl) (fun _ _ _ h => h) (Or.inl ⟨by rfl, ?_⟩) ?_ ?_
  rotate_left
  · intro w'
    go_simp
    with_reducible rfl
  rotate_left
  · simp only [Act.put, List.setIfInBounds_toArray, List.set_cons_zero, List.set_cons_succ, i64_w, i32_w]
    rfl
  refine pure_ (i := 2) (N := some 81) (v := ?_) (a' := ?_) #[true, true, true, false, false, false, false, false, false, false, false, false, false] rfl rfl (by kernel_rfl) (fun _ _ _ h => h) (Or.inl ⟨by rfl, ?_⟩) ?_ ?_
  rotate_left
  · intro w'
    go_simp
    with_reducible rfl
  rotate_left
  · simp only [Act.put, List.setIfInBounds_toArray, List.set_cons_zero, List.set_cons_succ, i64_w, i32_w]
    rfl
  refine take_ (i := 3) (N := some 82) (v := ?_) (a' := ?_) #[true, true, true, true, false, false, false, false, false, false, false, false, false] rfl rfl (by kernel_rfl) (fun _ _ _ h => h) (Or.inl ⟨by rfl, ?_⟩) hHeld ?_ ?_
  rotate_left
  · rintro w' ⟨s0, s1⟩
    go_simp
    with_reducible rfl
  rotate_left
  · simp only [Act.put, List.setIfInBounds_toArray, List.set_cons_zero, List.set_cons_succ, i64_w, i32_w]
    rfl
  refine pure_ (i := 4) (N := some 83) (v := ?_) (a' := ?_) #[true, true, true, true, true, false, false, false, false, false, false, false, false] rfl rfl (by kernel_rfl) (fun _ _ _ h => h) (Or.inl ⟨by rfl, ?_⟩) ?_ ?_
  rotate_left
  · intro w'
    go_simp
    with_reducible rfl
  rotate_left
  · simp only [Act.put, List.setIfInBounds_toArray, List.set_cons_zero, List.set_cons_succ, i64_w, i32_w]
    rfl
  refine pure_ (i := 5) (N := some 84) (v := ?_) (a' := ?_) #[true, true, true, true, true, true, false, false, false, false, false, false, false] rfl rfl (by kernel_rfl) (fun _ _ _ h => h) (Or.inl ⟨by rfl, ?_⟩) ?_ ?_
  rotate_left
  · intro w'
    go_simp
    with_reducible rfl
  rotate_left
  · simp only [Act.put, List.setIfInBounds_toArray, List.set_cons_zero, List.set_cons_succ, i64_w, i32_w]
    rfl
  refine pure_ (i := 6) (N := some 85) (v := ?_) (a' := ?_) #[true, true, true, true, true, true, true, false, false, false, false, false, false] rfl rfl (by kernel_rfl) (fun _ _ _ h => h) (Or.inl ⟨by rfl, ?_⟩) ?_ ?_
  rotate_left
  · intro w'
    go_simp
    with_reducible rfl
  rotate_left
  · simp only [Act.put, List.setIfInBounds_toArray, List.set_cons_zero, List.set_cons_succ, i64_w, i32_w]
    rfl
  refine take_ (i := 7) (N := some 86) (v := ?_) (a' := ?_) #[true, true, true, true, true, true, true, true, false, false, false, false, false] rfl rfl (by kernel_rfl) (fun _ _ _ h => h) (Or.inl ⟨by rfl, ?_⟩) hHeld ?_ ?_
  rotate_left
  · rintro w' ⟨s0, s1⟩
    go_simp
    with_reducible rfl
  rotate_left
  · simp only [Act.put, List.setIfInBounds_toArray, List.set_cons_zero, List.set_cons_succ, i64_w, i32_w]
    rfl
  refine pure_ (i := 8) (N := some 87) (v := ?_) (a' := ?_) #[true, true, true, true, true, true, true, true, true, false, false, false, false] rfl rfl (by kernel_rfl) (fun _ _ _ h => h) (Or.inl ⟨by rfl, ?_⟩) ?_ ?_
  rotate_left
  · intro w'
    go_simp
    with_reducible rfl
  rotate_left
  · simp only [Act.put, List.setIfInBounds_toArray, List.set_cons_zero, List.set_cons_succ, i64_w, i32_w]
    rfl
  refine pure_ (i := 9) (N := some 88) (v := ?_) (a' := ?_) #[true, true, true, true, true, true, true, true, true, true, false, false, false] rfl rfl (by kernel_rfl) (fun _ _ _ h => h) (Or.inl ⟨by rfl, ?_⟩) ?_ ?_
  rotate_left
  · intro w'
    go_simp
    with_reducible rfl
  rotate_left
  · simp only [Act.put, List.setIfInBounds_toArray, List.set_cons_zero, List.set_cons_succ, i64_w, i32_w]
    rfl
  refine pure_ (i := 10) (N := some 89) (v := ?_) (a' := ?_) #[true, true, true, true, true, true, true, true, true, true, true, false, false] rfl rfl (by kernel_rfl) (fun _ _ _ h => h) (Or.inl ⟨by rfl, ?_⟩) ?_ ?_
  rotate_left
  · intro w'
    go_simp
    with_reducible rfl
  rotate_left
  · simp only [Act.put, List.setIfInBounds_toArray, List.set_cons_zero, List.set_cons_succ, i64_w, i32_w]
    rfl
  refine pure_ (i := 11) (N := some 90) (v := ?_) (a' := ?_) #[true, true, true, true, true, true, true, true, true, true, true, true, false] rfl rfl (by kernel_rfl) (fun _ _ _ h => h) (Or.inl ⟨by rfl, ?_⟩) ?_ ?_
  rotate_left
  · intro w'
    go_simp
    with_reducible rfl
  rotate_left
  · simp only [Act.put, List.setIfInBounds_toArray, List.set_cons_zero, List.set_cons_succ, i64_w, i32_w]
    rfl
  refine last_ (i := 12) (N := none) #[true, true, true, true, true, true, true, true, true, true, true, true, true] rfl rfl (by kernel_rfl) (by decide) (fun K hK => ?_)
  have hc2 := cell_of HT4.out (j := 2) (v := .int .i32 i) rfl
  have hf2 := frozen_of HT4.out 2
  refine skip_ (w1 := ?_) (by rfl) rfl ?_ ?_
  rotate_left
  · go_simp
    rfl
  refine hK.out _ _ ?_
  clear hK K
  refine norm_ (a' := ?_) ?_ ?_
  rotate_left
  · rfl
  refine done_ (by kernel_rfl) ?_
  clear hHeld HS2
  clear hc4 hf4 hc5 hf5 hc0 hc2 hf2 hc6 hf6
  have q1 : wrap32 (m : Int) = m := tokW32 z0 z1
  have q2 : wrap32 ((i : Int) + m) = (i : Int) + m := tokW32 z2 z3
  rw [q1, q2]
  clear q1 q2
  obtain ⟨w6, hw6⟩ : ∃ w6, (w4.setCell ⟨g, 2, none⟩ (.int .i32 (i + m))).drew.drew = w6 := ⟨_, rfl⟩
  rw [hw6]
  have HT6 : Aside0 (Tk w6 g (some ad) s.length c (i + m) p1 op data .nilIface) := ⟨by rw [← hw6]; exact heap_set_same (w := w4) HT4.out _⟩
  have HO6 : Aside0 (w6.heap[o]? = some (.cells #[.int .u8 v, .string nm, .int .i64 (olen v)] 49 (0, 0))) := ⟨by rw [← hw6]; exact (Below.heap_setCell w4 ⟨g, 2, none⟩ _ o hog).trans HO4.out⟩
  have HN6 : Aside0 (Only g w w6) := ⟨by rw [← hw6]; exact (HN4.out.set 2 _).drew.drew⟩
  have HV6 : Aside0 (Kd.V (Kd.int .u8) 5 w6 base oks (.slice (some ad) s.length c) s) := ⟨by rw [← hw6]; exact Kd.V_drew (Kd.V_drew (Kd.V_far HV4.out (p := ⟨g, 2, none⟩) HOK.out _))⟩
  clear hw6 HT4 HO4 HN4 HV4 ho2
  have hc4 := cell_of HT6.out (j := 4) (v := op) rfl
  have hf4 := frozen_of HT6.out 4
  have hc5 := cell_of (heap_set_same HT6.out (j := 4) (.pointer (some ⟨o, 0, none⟩))) (j := 5) (v := data) rfl
  have hf5 := frozen_of (heap_set_same HT6.out (j := 4) (.pointer (some ⟨o, 0, none⟩))) 5
  have HO7 : Aside0 ((w6.setCell ⟨g, 4, none⟩ (.pointer (some ⟨o, 0, none⟩))).heap[o]? = some (.cells #[.int .u8 v, .string nm, .int .i64 (olen v)] 49 (0, 0))) := ⟨by rw [Below.heap_setCell _ _ _ _ hog]; exact HO6.out⟩
  have ho7 := cell_of HO7.out (j := 2) (v := .int .i64 m) (by simp [hl])
  go_wp2_with ((with_reducible refine at_dst (N := 101) rfl ?_); refine wpList_run rfl (.slice A2 ys.length (c - i - 1)) (w' := w6.setCell ⟨g, 4, none⟩ (.pointer (some ⟨o, 0, none⟩))) (by unfold execOp; go_simp; rfl) ?_)
  go_ret
  have ho : Only g w ((w6.setCell ⟨g, 4, none⟩ (.pointer (some ⟨o, 0, none⟩))).setCell ⟨g, 5, none⟩ (.slice A2 ys.length (c - i - 1))) := (HN6.out.set 4 _).set 5 _
  refine ⟨rfl, p1, o, _, nm, olen v, heap_set_same (heap_set_same HT6.out _) _, ?_, HG2.out, ?_, ho⟩
  · rw [Below.heap_setCell _ _ _ _ hog]
    exact HO7.out
  · have e : (s.drop (i + 1)).take (m - 1) = ys := by rw [← HYS.out, ← HXS.out, List.drop_take, List.drop_drop]
    rw [e]
    have hv5 := V_cut (V_cut HV6.out HA1.out hC1) HA2.out HC2.out
    exact Kd.V_far (Kd.V_far hv5 HOK.out _) HOK.out _
end Go.Proofs.Ytnnegacjgpejdaa.Tok
