/- A bloom filter: out of plain data, and back. -/
import Derived.Test.YtbbeedclkfcmeaaBm3
namespace Go.Proofs.Ytbbeedclkfcmeaa.Snk
open Go.RowKit Go.Proofs.YtbbeedclkfcmeaaW.PrintWords Go.Proofs.YtbbeedclkfcmeaaW.PrintLast Go.Proofs.YtbbeedclkfcmeaaW.PrintMore Go.Proofs.Ytbbeedclkfcmeaa.KFnBloom
set_option linter.unusedVariables false
set_option linter.unusedSimpArgs false
/-- A row of one's own that is not empty. -/
theorem br_of_R {w : World} {base : Nat} {v : Value} {l : List Int} (h : Kd.R (Kd.int .u8) 5 w base (fun _ => True) v l) (hl : 1 ≤ l.length) : ∃ g cap, v = .slice (some ⟨g, 0, none⟩) l.length cap ∧ l.length ≤ cap ∧ base ≤ g ∧ BR w g l := by
  obtain ⟨A, c, rfl⟩ := Kd.R_slice h
  have hr : ReadsInt w .u8 A l.length l := Kd.reads_of_C (Kd.R_reads' h).2.2
  obtain ⟨ad, rfl, hc⟩ := hr.2.2 (by omega)
  obtain ⟨cap, e, h1, h2, h3, cells, h4⟩ := Kd.R_first_ h (b := ad.block) rfl
  have e2 : ad = ⟨ad.block, 0, none⟩ := by injection e with e; exact Option.some.inj e
  rw [e2]
  refine ⟨ad.block, c, rfl, (Kd.R_reads' h).2.1, h2, cells, 0, 0, h4, .inl rfl, ?_, fun j hj => ?_⟩
  · have := hc (l.length - 1) (by omega)
    rw [e2, add_any, Nat.zero_add] at this
    have q : cells[l.length - 1]? = some (.int .u8 (l.getD (l.length - 1) 0)) := by simpa [World.cell?, h4] using this
    obtain ⟨q1, _⟩ := Array.getElem?_eq_some_iff.1 q
    omega
  · have := hc j hj
    rw [e2, add_any, Nat.zero_add] at this
    simpa [World.cell?, h4] using this
theorem int_E {q : TypeId} (hq : q ∈ 5 :: (Kd.int .u8).E) : q ≠ 25 := by
  rcases List.mem_cons.1 hq with rfl | h
  · decide
  · exact absurd h (by intro h; cases h)
theorem R_store3 {w : World} {base : Nat} {v : Value} {L : List Int} {g : Nat} {x y z a b c : Value} (h : Kd.R (Kd.int .u8) 5 w base (fun _ => True) v L) (hb : w.heap[g]? = some (.cells #[x, y, z] 25 (0, 0))) :
    Kd.R (Kd.int .u8) 5 (((w.setCell ⟨g, 0, none⟩ a).setCell ⟨g, 1, none⟩ b).setCell ⟨g, 2, none⟩ c) base (fun _ => True) v L ∧ (((w.setCell ⟨g, 0, none⟩ a).setCell ⟨g, 1, none⟩ b).setCell ⟨g, 2, none⟩ c).heap[g]? = some (.cells #[a, b, c] 25 (0, 0)) := by
  have h0 := blk_put hb 0 a (cs' := #[a, y, z]) rfl
  have h1 := blk_put h0 1 b (cs' := #[a, b, z]) rfl
  have h2 := blk_put h1 2 c (cs' := #[a, b, c]) rfl
  exact ⟨Kd.R_set (Kd.R_set (Kd.R_set h hb (fun _ => int_E) 0 a) h0 (fun _ => int_E) 1 b) h1 (fun _ => int_E) 2 c, h2⟩
theorem copied_some {l : List Int} (h : l.length ≤ 100000) : impl_copied.f l = some l := by
  unfold impl_copied.f
  rw [Option.bind_some, if_pos (by simp; omega)]
  rfl
set_option maxRecDepth 100000 in
set_option maxHeartbeats 4000000 in
theorem filterOfC (A : Option Addr) (c : Nat) (L : List Int) (n tw : Int) (w : World) (hC : Kd.C (Kd.int .u8) w A L.length L) (hc : L.length ≤ c) (hl1 : 1 ≤ L.length) (hl2 : L.length ≤ 2000) :
    Calls Try.prog 11 #[.agg #[.slice A L.length c, .int .u32 n, .int .u32 tw], .int .u8 0] w fun e w' => ∃ f m g cc, e = .returned (.pointer (some ⟨f, 0, none⟩)) ∧ FilAt w' f m g cc 0 L n tw ∧ w.heap.size ≤ f ∧ w.heap.size ≤ m ∧ w.heap.size ≤ g ∧ Below w.heap.size w w' := by
  have HC := Aside0.mk hC
  have HCC := Aside0.mk hc
  have HL := Aside0.mk (And.intro hl1 hl2)
  obtain ⟨nl, hnl⟩ : ∃ n, L.length = n := ⟨_, rfl⟩
  have HNL := Aside0.mk hnl
  rw [hnl]
  clear hC hc hl1 hl2 hnl
  go_enter Try.func11, Try.ntmps11
  go_upto_region 1 with ((with_reducible refine at_dst (N := 2) rfl ?_); refine wpList_run rfl _ (run_boxed 25 (.tmp 0) rfl #[.slice A nl c, .int .u32 n, .int .u32 tw] rfl) ?_)
  obtain ⟨gb, hgb⟩ : ∃ g, w.heap.size = g := ⟨_, rfl⟩
  have HGB := Aside0.mk hgb
  rw [hgb]
  generalize hw1 : World.alloc _ _ = w1
  have HB1 : Aside0 (Below w.heap.size w w1) := ⟨by rw [← hw1]; exact below_alloc (Below.refl _ _) _⟩
  have HR1 : Aside0 (w1.drew.heap[gb]? = some (.cells #[.slice A nl c, .int .u32 n, .int .u32 tw] 25 (0, 0))) := ⟨by rw [← hw1, ← hgb]; exact heap_alloc_new w _⟩
  have HCP : Aside0 (Calls Try.prog 18 #[.slice A nl c] w1.drew fun e w' => ∃ g cc, e = .returned (.slice (some ⟨g, 0, none⟩) nl cc) ∧ nl ≤ cc ∧ w.heap.size ≤ g ∧ g ≠ gb ∧ BR w' g L ∧ Below w1.heap.size w1 w') := ⟨by
    have q := impl_copied.calls A c L L w1.drew (Kd.C_below HC.out (below_drew HB1.out)) HCC.out (copied_some (by have := HL.out.2; omega))
    rw [HNL.out] at q
    refine q.mono ?_
    rintro e w' ⟨v0, rfl, hR, hb⟩
    obtain ⟨g, cc, rfl, q1, q2, q3⟩ := br_of_R hR HL.out.1
    rw [HNL.out] at q1 ⊢
    have hs : w.heap.size + 1 ≤ w1.heap.size := by rw [← hw1]; simp
    have q2' : w1.heap.size ≤ g := q2
    exact ⟨g, cc, rfl, q1, by omega, by omega, q3, (below_drew (Below.refl _ _)).trans hb⟩⟩
  clear hw1 hgb
  refine start_ (n := 12) (S := fun w' => w'.heap[gb]? = some (.cells #[.slice A nl c, .int .u32 n, .int .u32 tw] 25 (0, 0))) (ds := []) #[false, false, false, false, false, false, false, false, false, false, false, false] (by kernel_rfl) rfl rfl HR1.out (fun hHeld => ?_)
  refine pure_ (i := 0) (N := some 5) (v := ?_) (a' := ?_) #[true, false, false, false, false, false, false, false, false, false, false, false] rfl rfl (by kernel_rfl) (fun _ _ _ h => h) (Or.inl ⟨by rfl, ?_⟩) ?_ ?_
  rotate_left
  · intro w'
    go_simp
    with_reducible rfl
  rotate_left
  · simp only [Act.put, List.setIfInBounds_toArray, List.set_cons_zero, List.set_cons_succ, i64_w, i32_w]
    rfl
  refine take_ (i := 1) (N := some 6) (v := ?_) (a' := ?_) #[true, true, false, false, false, false, false, false, false, false, false, false] rfl rfl (by kernel_rfl) (fun _ _ _ h => h) (Or.inl ⟨by rfl, ?_⟩) hHeld ?_ ?_
  rotate_left
  · rintro w' s0
    have z := cell_of s0 (j := 0) rfl
    go_simp
    with_reducible rfl
  rotate_left
  · simp only [Act.put, List.setIfInBounds_toArray, List.set_cons_zero, List.set_cons_succ, i64_w, i32_w]
    rfl
  refine pure_ (i := 3) (N := some 8) (v := ?_) (a' := ?_) #[true, true, false, true, false, false, false, false, false, false, false, false] rfl rfl (by kernel_rfl) (fun _ _ _ h => h) (Or.inl ⟨by rfl, ?_⟩) ?_ ?_
  rotate_left
  · intro w'
    go_simp
    with_reducible rfl
  rotate_left
  · simp only [Act.put, List.setIfInBounds_toArray, List.set_cons_zero, List.set_cons_succ, i64_w, i32_w]
    rfl
  refine take_ (i := 4) (N := some 9) (v := ?_) (a' := ?_) #[true, true, false, true, true, false, false, false, false, false, false, false] rfl rfl (by kernel_rfl) (fun _ _ _ h => h) (Or.inl ⟨by rfl, ?_⟩) hHeld ?_ ?_
  rotate_left
  · rintro w' s0
    have z := cell_of s0 (j := 1) rfl
    go_simp
    with_reducible rfl
  rotate_left
  · simp only [Act.put, List.setIfInBounds_toArray, List.set_cons_zero, List.set_cons_succ, i64_w, i32_w]
    rfl
  refine pure_ (i := 5) (N := some 10) (v := ?_) (a' := ?_) #[true, true, false, true, true, true, false, false, false, false, false, false] rfl rfl (by kernel_rfl) (fun _ _ _ h => h) (Or.inl ⟨by rfl, ?_⟩) ?_ ?_
  rotate_left
  · intro w'
    go_simp
    with_reducible rfl
  rotate_left
  · simp only [Act.put, List.setIfInBounds_toArray, List.set_cons_zero, List.set_cons_succ, i64_w, i32_w]
    rfl
  refine take_ (i := 6) (N := some 11) (v := ?_) (a' := ?_) #[true, true, false, true, true, true, true, false, false, false, false, false] rfl rfl (by kernel_rfl) (fun _ _ _ h => h) (Or.inl ⟨by rfl, ?_⟩) hHeld ?_ ?_
  rotate_left
  · rintro w' s0
    have z := cell_of s0 (j := 2) rfl
    go_simp
    with_reducible rfl
  rotate_left
  · simp only [Act.put, List.setIfInBounds_toArray, List.set_cons_zero, List.set_cons_succ, i64_w, i32_w]
    rfl
  refine pure_ (i := 7) (N := some 12) (v := ?_) (a' := ?_) #[true, true, false, true, true, true, true, true, false, false, false, false] rfl rfl (by kernel_rfl) (fun _ _ _ h => h) (Or.inl ⟨by rfl, ?_⟩) ?_ ?_
  rotate_left
  · intro w'
    go_simp
    with_reducible rfl
  rotate_left
  · simp only [Act.put, List.setIfInBounds_toArray, List.set_cons_zero, List.set_cons_succ, i64_w, i32_w]
    rfl
  refine one_ (i := 2) (N := some 7) #[true, true, true, true, true, true, true, true, false, false, false, false] rfl rfl (by kernel_rfl) (by decide) (fun K hK => ?_)
  refine goes_ Try.func18 (by kernel_rfl) rfl #[.slice A nl c] (by rfl) rfl rfl (by (try simp only [List.map_toArray, List.map_cons, List.map_nil]); first | done | rfl | (simp only [List.length_drop, List.length_take]; rfl)) ?_
  with_reducible refine HCP.out.mono ?_
  rintro e w2 ⟨g, cc, rfl, hcc, hgs, hgb, hbr, hb⟩
  refine ⟨_, rfl, ?_⟩
  have HB2 : Aside0 (Below w.heap.size w w2) := ⟨HB1.out.trans ⟨hb.os, hb.tape, hb.output, hb.size, fun k hk => hb.block k (Nat.lt_of_lt_of_le hk HB1.out.size)⟩⟩
  have HG2 := Aside0.mk hbr
  have HGS := Aside0.mk hgs
  have HCC2 := Aside0.mk hcc
  have HR2 : Aside0 (w2.heap[gb]? = some (.cells #[.slice A nl c, .int .u32 n, .int .u32 tw] 25 (0, 0))) := ⟨(hb.block gb (blk_lt' HR1.out)).trans HR1.out⟩
  clear hcc hgs hbr hb
  refine hK.out _ _ HR2.out (fun hHeld => ?_)
  clear hK K
  refine norm_ (a' := ?_) ?_ ?_
  rotate_left
  · show Act.put _ (some 7) _ = _
    simp only [Act.put, List.setIfInBounds_toArray, List.set_cons_zero, List.set_cons_succ, i64_w, i32_w]
    rfl
  refine pure_ (i := 8) (N := some 13) (v := ?_) (a' := ?_) #[true, true, true, true, true, true, true, true, true, false, false, false] rfl rfl (by kernel_rfl) (fun _ _ _ h => h) (Or.inl ⟨by rfl, ?_⟩) ?_ ?_
  rotate_left
  · intro w'
    go_simp
    with_reducible rfl
  rotate_left
  · simp only [Act.put, List.setIfInBounds_toArray, List.set_cons_zero, List.set_cons_succ, i64_w, i32_w]
    rfl
  refine one_ (i := 9) (N := some 14) #[true, true, true, true, true, true, true, true, true, true, false, false] rfl rfl (by kernel_rfl) (by decide) (fun K hK => ?_)
  refine yval_ (.pointer (some ⟨w2.heap.size, 0, none⟩)) (by rfl) rfl (run_boxed 43 (.tmp 13) (by rfl) (msgC g nl cc n tw) (by rfl)) ?_
  obtain ⟨w3, hw3⟩ : ∃ x, w2.alloc (.cells (msgC g nl cc n tw) 43 (0, 0)) = x := ⟨_, rfl⟩
  rw [hw3]
  have HM3 : Aside0 (w3.heap[w2.heap.size]? = some (.cells (msgC g L.length cc n tw) 43 (0, 0))) := ⟨by rw [← hw3, HNL.out]; exact heap_alloc_new w2 _⟩
  have HG3 : Aside0 (BR w3 g L) := ⟨by rw [← hw3]; exact HG2.out.below (below_alloc (Below.refl _ _) _)⟩
  have HB3 : Aside0 (Below w.heap.size w w3) := ⟨by rw [← hw3]; exact below_alloc HB2.out _⟩
  have HS3 : Aside0 (w3.heap.size = w2.heap.size + 1) := ⟨by rw [← hw3]; simp⟩
  have HR3 : Aside0 (w3.heap[gb]? = some (.cells #[.slice A nl c, .int .u32 n, .int .u32 tw] 25 (0, 0))) := ⟨by rw [← hw3]; exact heap_alloc_lt HR2.out _⟩
  clear hw3
  refine hK.out _ _ HR3.out (fun hHeld => ?_)
  clear hK K
  refine norm_ (a' := ?_) ?_ ?_
  rotate_left
  · show Act.put _ (some 14) _ = _
    simp only [Act.put, List.setIfInBounds_toArray, List.set_cons_zero, List.set_cons_succ, i64_w, i32_w]
    rfl
  refine one_ (i := 10) (N := some 15) #[true, true, true, true, true, true, true, true, true, true, true, false] rfl rfl (by kernel_rfl) (by decide) (fun K hK => ?_)
  refine goes_ Try.func17 (by kernel_rfl) rfl #[.pointer (some ⟨w2.heap.size, 0, none⟩)] (by rfl) rfl rfl (by (try simp only [List.map_toArray, List.map_cons, List.map_nil]); first | done | rfl | (simp only [List.length_drop, List.length_take]; rfl)) ?_
  with_reducible refine (loadC w2.heap.size g cc L.length n tw w3 HM3.out HL.out.1).mono ?_
  rintro e w4 ⟨rfl, rfl⟩
  refine ⟨_, rfl, ?_⟩
  refine hK.out _ _ (heap_alloc_lt HR3.out _) (fun hHeld => ?_)
  clear hK K
  refine norm_ (a' := ?_) ?_ ?_
  rotate_left
  · show Act.put _ (some 15) _ = _
    simp only [Act.put, List.setIfInBounds_toArray, List.set_cons_zero, List.set_cons_succ, i64_w, i32_w]
    rfl
  refine pure_ (i := 11) (N := some 4) (v := ?_) (a' := ?_) #[true, true, true, true, true, true, true, true, true, true, true, true] rfl rfl (by kernel_rfl) (fun _ _ _ h => h) (Or.inl ⟨by rfl, ?_⟩) ?_ ?_
  rotate_left
  · intro w'
    go_simp
    with_reducible rfl
  rotate_left
  · simp only [Act.put, List.setIfInBounds_toArray, List.set_cons_zero, List.set_cons_succ, i64_w, i32_w]
    rfl
  refine done_ (by kernel_rfl) ?_
  go_wp2_with fail
  go_ret
  exact ⟨w3.heap.size, w2.heap.size, g, cc, rfl, ⟨heap_alloc_new w3 _, heap_alloc_lt HM3.out _, (HG3.out.below (below_alloc (Below.refl _ _) _)), by have := HS3.out; omega, by have := HS3.out; have := HG2.out.lt; omega, by have := HG2.out.lt; omega, by rw [HNL.out]; exact HCC2.out⟩, by have := HS3.out; have := HB2.out.size; omega, HB2.out.size, HGS.out, below_alloc HB3.out _⟩
set_option maxRecDepth 100000 in
set_option maxHeartbeats 4000000 in
theorem ofFilterC (f m g c : Nat) (L : List Int) (n tw : Int) (w0 w : World) (h : FilAt w f m g c 0 L n tw) (hw : Below w0.heap.size w0 w) (hfs : w0.heap.size ≤ f) (hl2 : L.length ≤ 2000) :
    Calls Try.prog 13 #[.pointer (some ⟨f, 0, none⟩)] w fun e w' => ∃ v, e = .returned (.agg #[v, .int .u32 n, .int .u32 tw]) ∧ Kd.R (Kd.int .u8) 5 w' w0.heap.size (fun _ => True) v L ∧ Below w0.heap.size w0 w' := by
  obtain ⟨nl, hnl⟩ : ∃ n, L.length = n := ⟨_, rfl⟩
  have HNL := Aside0.mk hnl
  have HM := Aside0.mk (msgLC f m g c L n tw w0 (w.alloc (.cells #[.slice none 0 0, .int .u32 0, .int .u32 0] 25 (0, 0))) (h.below (below_alloc (Below.refl _ _) _)) (below_alloc hw _) hfs)
  have HCP : Aside0 (∀ (w1 : World) (cc : Nat), FilAt w1 f m g cc 0 L n tw → Below w0.heap.size w0 w1 → Calls Try.prog 18 #[.slice (some ⟨g, 0, none⟩) nl cc] w1 fun e w' => ∃ Av cv, e = .returned (.slice Av nl cv) ∧ Kd.R (Kd.int .u8) 5 w' w0.heap.size (fun _ => True) (.slice Av nl cv) L ∧ Below w1.heap.size w1 w') := ⟨fun w1 cc hf hb => by
    have q := impl_copied.calls (some ⟨g, 0, none⟩) cc L L w1 (Kd.C_of_reads (h1 := fun _ => rfl) (hf.hg.reads (by omega))) hf.lc (copied_some (by omega))
    rw [hnl] at q
    refine q.mono ?_
    rintro e w' ⟨v, rfl, hR, hb2⟩
    obtain ⟨Av, cv, rfl⟩ := Kd.R_slice hR
    rw [hnl] at hR ⊢
    exact ⟨Av, cv, rfl, Kd.R_lower hR hb.size, hb2⟩⟩
  have HS : Aside0 (w0.heap.size ≤ w.heap.size ∧ f < w.heap.size) := ⟨hw.size, blk_lt' h.hf⟩
  clear h hw hfs hl2 hnl
  go_enter Try.func13, Try.ntmps13
  go_wp2_with fail
  go_at_call 22
  refine HM.out.mono ?_
  rintro e w1 ⟨rfl, h1, b1, o1⟩
  obtain ⟨rb, hrb⟩ : ∃ g, w.heap.size = g := ⟨_, rfl⟩
  have HF1 := Aside0.mk h1
  have HB1 := Aside0.mk b1
  have HR1 : Aside0 (w1.heap[rb]? = some (.cells #[.slice none 0 0, .int .u32 0, .int .u32 0] 25 (0, 0))) := ⟨by
    rw [← hrb]
    exact (o1.block w.heap.size (by simp) (by have := HS.out.2; omega)).trans (heap_alloc_new w _)⟩
  have HRB : Aside0 (w0.heap.size ≤ rb) := ⟨by rw [← hrb]; exact HS.out.1⟩
  have HL1 : Aside0 (rb < w1.heap.size) := ⟨blk_lt' HR1.out⟩
  rw [hrb]
  clear h1 b1 o1 hrb
  go_upto_region 2 with fail
  have HST : Aside0 (w1.drew.heap[m]? = some (.cells (msgC g nl c n tw) 43 (0, 0)) ∧ w1.drew.heap[rb]? = some (.cells #[.slice none 0 0, .int .u32 0, .int .u32 0] 25 (0, 0))) := ⟨by have q := HF1.out.hm; rw [HNL.out] at q; exact q, HR1.out⟩
  refine start_ (n := 15) (S := fun w' => w'.heap[m]? = some (.cells (msgC g nl c n tw) 43 (0, 0)) ∧ w'.heap[rb]? = some (.cells #[.slice none 0 0, .int .u32 0, .int .u32 0] 25 (0, 0))) (ds := [14]) #[false, false, false, false, false, false, false, false, false, false, false, false, false, false, false] (by kernel_rfl) rfl rfl HST.out (fun hHeld => ?_)
  refine pure_ (i := 0) (N := some 6) (v := ?_) (a' := ?_) #[true, false, false, false, false, false, false, false, false, false, false, false, false, false, false] rfl rfl (by kernel_rfl) (fun _ _ _ h => h) (Or.inl ⟨by rfl, ?_⟩) ?_ ?_
  rotate_left
  · intro w'
    go_simp
    with_reducible rfl
  rotate_left
  · simp only [Act.put, List.setIfInBounds_toArray, List.set_cons_zero, List.set_cons_succ, i64_w, i32_w]
    rfl
  refine pure_ (i := 1) (N := some 7) (v := ?_) (a' := ?_) #[true, true, false, false, false, false, false, false, false, false, false, false, false, false, false] rfl rfl (by kernel_rfl) (fun _ _ _ h => h) (Or.inl ⟨by rfl, ?_⟩) ?_ ?_
  rotate_left
  · intro w'
    go_simp
    with_reducible rfl
  rotate_left
  · simp only [Act.put, List.setIfInBounds_toArray, List.set_cons_zero, List.set_cons_succ, i64_w, i32_w]
    rfl
  refine pure_ (i := 2) (N := some 8) (v := ?_) (a' := ?_) #[true, true, true, false, false, false, false, false, false, false, false, false, false, false, false] rfl rfl (by kernel_rfl) (fun _ _ _ h => h) (Or.inl ⟨by rfl, ?_⟩) ?_ ?_
  rotate_left
  · intro w'
    go_simp
    with_reducible rfl
  rotate_left
  · simp only [Act.put, List.setIfInBounds_toArray, List.set_cons_zero, List.set_cons_succ, i64_w, i32_w]
    rfl
  refine take_ (i := 3) (N := some 9) (v := ?_) (a' := ?_) #[true, true, true, true, false, false, false, false, false, false, false, false, false, false, false] rfl rfl (by kernel_rfl) (fun _ _ _ h => h) (Or.inl ⟨by rfl, ?_⟩) hHeld ?_ ?_
  rotate_left
  · rintro w' ⟨s0, s1⟩
    have z := cell_of s0 (j := 0) rfl
    go_simp
    with_reducible rfl
  rotate_left
  · simp only [Act.put, List.setIfInBounds_toArray, List.set_cons_zero, List.set_cons_succ, i64_w, i32_w]
    rfl
  refine pure_ (i := 5) (N := some 11) (v := ?_) (a' := ?_) #[true, true, true, true, false, true, false, false, false, false, false, false, false, false, false] rfl rfl (by kernel_rfl) (fun _ _ _ h => h) (Or.inl ⟨by rfl, ?_⟩) ?_ ?_
  rotate_left
  · intro w'
    go_simp
    with_reducible rfl
  rotate_left
  · simp only [Act.put, List.setIfInBounds_toArray, List.set_cons_zero, List.set_cons_succ, i64_w, i32_w]
    rfl
  refine pure_ (i := 6) (N := some 12) (v := ?_) (a' := ?_) #[true, true, true, true, false, true, true, false, false, false, false, false, false, false, false] rfl rfl (by kernel_rfl) (fun _ _ _ h => h) (Or.inl ⟨by rfl, ?_⟩) ?_ ?_
  rotate_left
  · intro w'
    go_simp
    with_reducible rfl
  rotate_left
  · simp only [Act.put, List.setIfInBounds_toArray, List.set_cons_zero, List.set_cons_succ, i64_w, i32_w]
    rfl
  refine pure_ (i := 7) (N := some 13) (v := ?_) (a' := ?_) #[true, true, true, true, false, true, true, true, false, false, false, false, false, false, false] rfl rfl (by kernel_rfl) (fun _ _ _ h => h) (Or.inl ⟨by rfl, ?_⟩) ?_ ?_
  rotate_left
  · intro w'
    go_simp
    with_reducible rfl
  rotate_left
  · simp only [Act.put, List.setIfInBounds_toArray, List.set_cons_zero, List.set_cons_succ, i64_w, i32_w]
    rfl
  refine take_ (i := 8) (N := some 14) (v := ?_) (a' := ?_) #[true, true, true, true, false, true, true, true, true, false, false, false, false, false, false] rfl rfl (by kernel_rfl) (fun _ _ _ h => h) (Or.inl ⟨by rfl, ?_⟩) hHeld ?_ ?_
  rotate_left
  · rintro w' ⟨s0, s1⟩
    have z := cell_of s0 (j := 1) rfl
    go_simp
    with_reducible rfl
  rotate_left
  · simp only [Act.put, List.setIfInBounds_toArray, List.set_cons_zero, List.set_cons_succ, i64_w, i32_w]
    rfl
  refine pure_ (i := 9) (N := some 15) (v := ?_) (a' := ?_) #[true, true, true, true, false, true, true, true, true, true, false, false, false, false, false] rfl rfl (by kernel_rfl) (fun _ _ _ h => h) (Or.inl ⟨by rfl, ?_⟩) ?_ ?_
  rotate_left
  · intro w'
    go_simp
    with_reducible rfl
  rotate_left
  · simp only [Act.put, List.setIfInBounds_toArray, List.set_cons_zero, List.set_cons_succ, i64_w, i32_w]
    rfl
  refine pure_ (i := 10) (N := some 16) (v := ?_) (a' := ?_) #[true, true, true, true, false, true, true, true, true, true, true, false, false, false, false] rfl rfl (by kernel_rfl) (fun _ _ _ h => h) (Or.inl ⟨by rfl, ?_⟩) ?_ ?_
  rotate_left
  · intro w'
    go_simp
    with_reducible rfl
  rotate_left
  · simp only [Act.put, List.setIfInBounds_toArray, List.set_cons_zero, List.set_cons_succ, i64_w, i32_w]
    rfl
  refine pure_ (i := 11) (N := some 17) (v := ?_) (a' := ?_) #[true, true, true, true, false, true, true, true, true, true, true, true, false, false, false] rfl rfl (by kernel_rfl) (fun _ _ _ h => h) (Or.inl ⟨by rfl, ?_⟩) ?_ ?_
  rotate_left
  · intro w'
    go_simp
    with_reducible rfl
  rotate_left
  · simp only [Act.put, List.setIfInBounds_toArray, List.set_cons_zero, List.set_cons_succ, i64_w, i32_w]
    rfl
  refine take_ (i := 12) (N := some 18) (v := ?_) (a' := ?_) #[true, true, true, true, false, true, true, true, true, true, true, true, true, false, false] rfl rfl (by kernel_rfl) (fun _ _ _ h => h) (Or.inl ⟨by rfl, ?_⟩) hHeld ?_ ?_
  rotate_left
  · rintro w' ⟨s0, s1⟩
    have z := cell_of s0 (j := 2) rfl
    go_simp
    with_reducible rfl
  rotate_left
  · simp only [Act.put, List.setIfInBounds_toArray, List.set_cons_zero, List.set_cons_succ, i64_w, i32_w]
    rfl
  refine one_ (i := 4) (N := some 10) #[true, true, true, true, true, true, true, true, true, true, true, true, true, false, false] rfl rfl (by kernel_rfl) (by decide) (fun K hK => ?_)
  refine goes_ Try.func18 (by kernel_rfl) rfl #[.slice (some ⟨g, 0, none⟩) nl c] (by rfl) rfl rfl (by (try simp only [List.map_toArray, List.map_cons, List.map_nil]); first | done | rfl | (simp only [List.length_drop, List.length_take]; rfl)) ?_
  with_reducible refine (HCP.out w1.drew c (HF1.out.below (below_drew (Below.refl _ _))) (below_drew1 HB1.out)).mono ?_
  rintro e w2 ⟨Av, cv, rfl, hR, hb⟩
  refine ⟨_, rfl, ?_⟩
  have HR2 := Aside0.mk hR
  have HB2 : Aside0 (Below w0.heap.size w0 w2) := ⟨HB1.out.trans ⟨hb.os, hb.tape, hb.output, hb.size, fun k hk => hb.block k (Nat.lt_of_lt_of_le hk HB1.out.size)⟩⟩
  have HST2 : Aside0 (w2.heap[m]? = some (.cells (msgC g nl c n tw) 43 (0, 0)) ∧ w2.heap[rb]? = some (.cells #[.slice none 0 0, .int .u32 0, .int .u32 0] 25 (0, 0))) := ⟨(hb.block m (blk_lt' HST.out.1)).trans HST.out.1, (hb.block rb (blk_lt' HST.out.2)).trans HST.out.2⟩
  clear hR hb
  refine hK.out _ _ HST2.out (fun hHeld => ?_)
  clear hK K
  refine norm_ (a' := ?_) ?_ ?_
  rotate_left
  · show Act.put _ (some 10) _ = _
    simp only [Act.put, List.setIfInBounds_toArray, List.set_cons_zero, List.set_cons_succ, i64_w, i32_w]
    rfl
  refine pure_ (i := 13) (N := some 19) (v := ?_) (a' := ?_) #[true, true, true, true, true, true, true, true, true, true, true, true, true, true, false] rfl rfl (by kernel_rfl) (fun _ _ _ h => h) (Or.inl ⟨by rfl, ?_⟩) ?_ ?_
  rotate_left
  · intro w'
    go_simp
    with_reducible rfl
  rotate_left
  · simp only [Act.put, List.setIfInBounds_toArray, List.set_cons_zero, List.set_cons_succ, i64_w, i32_w]
    rfl
  refine last_ (i := 14) (N := none) #[true, true, true, true, true, true, true, true, true, true, true, true, true, true, true] rfl rfl (by kernel_rfl) (by decide) (fun K hK => ?_)
  have k0 := cell_of HST2.out.2 (j := 0) rfl
  have k1 := cell_of HST2.out.2 (j := 1) rfl
  have k2 := cell_of HST2.out.2 (j := 2) rfl
  have z0 : w2.frozen? ⟨rb, 0, none⟩ = false := by simp [World.frozen?, HST2.out.2]
  have z1 : w2.frozen? ⟨rb, 1, none⟩ = false := by simp [World.frozen?, HST2.out.2]
  have z2 : w2.frozen? ⟨rb, 2, none⟩ = false := by simp [World.frozen?, HST2.out.2]
  refine skip_ (w1 := ?_) (by rfl) rfl ?_ ?_
  rotate_left
  · go_simp
    rfl
  refine hK.out _ _ ?_
  clear hK K
  refine norm_ (a' := ?_) ?_ ?_
  rotate_left
  · rfl
  refine done_ (by kernel_rfl) ?_
  go_wp2_with fail
  obtain ⟨k1, k2⟩ := R_store3 (a := .slice Av nl cv) (b := .int .u32 n) (c := .int .u32 tw) HR2.out HST2.out.2
  refine bodyPost_ret (results_cell_row rfl _ _ rb 25 #[.slice Av nl cv, .int .u32 n, .int .u32 tw] (0, 0) _ rfl k2 Try.underlying25 rfl (by kernel_rfl)) rfl ?_
  exact ⟨_, rfl, k1, below_set (below_set (below_set HB2.out HRB.out) HRB.out) HRB.out⟩
def okBl (l0 : List Int) (a1 a2 : Int) (l1 : List Int) : Prop := 1 ≤ l0.length ∧ l0.length ≤ 2000 ∧ 1 ≤ a1 ∧ a1 ≤ 50 ∧ 0 ≤ a2 ∧ a2 < 4294967296 ∧ l1.length ≤ 100000 ∧ Tok.ByteL l1
instance okBlDec (l0 : List Int) (a1 a2 : Int) (l1 : List Int) : Decidable (okBl l0 a1 a2 l1) := by unfold okBl Tok.ByteL; infer_instance
end Go.Proofs.Ytbbeedclkfcmeaa.Snk
namespace Go.Proofs.Ytbbeedclkfcmeaa.KFnBloom
open Go.RowKit Go.Proofs.YtbbeedclkfcmeaaW.PrintWords Go.Proofs.YtbbeedclkfcmeaaW.PrintLast Go.Proofs.YtbbeedclkfcmeaaW.PrintMore Go.Proofs.Ytbbeedclkfcmeaa.Snk
def impl_BloomAdd.f (l0 : List Int) (a1 a2 : Int) (l1 : List Int) : Option (List Int × Int × Int) := if okBl l0 a1 a2 l1 then some (addF a2 l1 l0 a1.toNat, a1, a2) else none
def impl_BloomHas.f (l0 : List Int) (a1 a2 : Int) (l1 : List Int) : Option Bool := if okBl l0 a1 a2 l1 then some (hasF a2 l1 l0 a1.toNat) else none
set_option maxRecDepth 100000 in
set_option maxHeartbeats 4000000 in
theorem impl_BloomAdd.calls (A0_0 : Option Addr) (c0_0 : Nat) (l0_0 : List Int) (a0_1 : Int) (a0_2 : Int) (A1 : Option Addr) (c1 : Nat) (l1 : List Int) (r1 : List Int) (r2 : Int) (r3 : Int) (w : World) (hr0_0 : Kd.C (Kd.int .u8) w A0_0 l0_0.length l0_0) (hc0_0 : l0_0.length ≤ c0_0) (hr1 : Kd.C (Kd.int .u8) w A1 l1.length l1) (hc1 : l1.length ≤ c1) (h : impl_BloomAdd.f l0_0 a0_1 a0_2 l1 = some (r1, r2, r3)) :
    Calls Try.prog 6 #[.agg #[.slice A0_0 l0_0.length c0_0, .int .u32 a0_1, .int .u32 a0_2], .slice A1 l1.length c1] w fun e w' => ∃ v0_ : Value, e = .returned (.agg #[v0_, .int .u32 r2, .int .u32 r3]) ∧ Kd.R (Kd.int .u8) 5 w' w.heap.size (fun _ => True) v0_ r1 ∧ Below w.heap.size w w' := by
  unfold impl_BloomAdd.f at h
  split at h
  · rename_i hok
    obtain ⟨q1, q2, q3, q4, q5, q6, q7, q8⟩ := hok
    obtain ⟨rfl, rfl, rfl⟩ : addF a0_2 l1 l0_0 a0_1.toNat = r1 ∧ a0_1 = r2 ∧ a0_2 = r3 := by simpa using h
    obtain ⟨n, rfl⟩ : ∃ n : Nat, a0_1 = (n : Int) := ⟨a0_1.toNat, by omega⟩
    rw [Int.toNat_natCast]
    have HFO : Aside0 (∀ wr, Below w.heap.size w wr → Calls Try.prog 11 #[.agg #[.slice A0_0 l0_0.length c0_0, .int .u32 n, .int .u32 a0_2], .int .u8 0] wr fun e w' => ∃ f m g cc, e = .returned (.pointer (some ⟨f, 0, none⟩)) ∧ FilAt w' f m g cc 0 l0_0 n a0_2 ∧ wr.heap.size ≤ f ∧ wr.heap.size ≤ m ∧ wr.heap.size ≤ g ∧ Below wr.heap.size wr w') := ⟨fun wr hb => filterOfC A0_0 c0_0 l0_0 n a0_2 wr (Kd.C_below hr0_0 hb) hc0_0 q1 q2⟩
    have HAD : Aside0 (∀ wr f m g cc, FilAt wr f m g cc 0 l0_0 n a0_2 → Below w.heap.size w wr → w.heap.size + 2 ≤ g → w.heap.size + 2 ≤ f → ∀ w2 : World, Below w2.heap.size w2 wr → w2.heap.size = w.heap.size + 2 → Below w.heap.size w w2 → Calls Try.prog 12 #[.pointer (some ⟨f, 0, none⟩), .slice A1 l1.length c1] wr fun e w' => e = .returned (.tuple #[]) ∧ FilAt w' f m g cc 0 (addF a0_2 l1 l0_0 n) n a0_2 ∧ Below w2.heap.size w2 w') := ⟨fun wr f m g cc hf hb hg hff w2 hb2 hs2 hbb => addLC f m g cc l0_0 n a0_2 q5 q6 w2 wr hf q1 q2 (by omega) hb2 (by omega) (by omega) A1 l1 c1 (Kd.C_below hr1 hbb) hc1 q7 q8⟩
    have HL : Aside0 (l0_0.length ≤ 2000) := ⟨q2⟩
    obtain ⟨n0, hn0⟩ : ∃ n, l0_0.length = n := ⟨_, rfl⟩
    obtain ⟨n1, hn1⟩ : ∃ n, l1.length = n := ⟨_, rfl⟩
    rw [hn0] at HFO ⊢
    rw [hn1] at HAD ⊢
    clear h hr0_0 hc0_0 hr1 hc1 q1 q2 q3 q4 q5 q6 q7 q8 hn0 hn1
    go_enter Try.func6, Try.ntmps6
    go_upto_region 1 with ((with_reducible refine at_dst (N := 2) rfl ?_); refine wpList_run rfl _ (run_boxed 25 (.tmp 0) rfl #[.slice A0_0 n0 c0_0, .int .u32 n, .int .u32 a0_2] rfl) ?_)
    obtain ⟨w1, hw1⟩ : ∃ x, (w.alloc (.cells #[.slice A0_0 n0 c0_0, .int .u32 n, .int .u32 a0_2] 25 (0, 0))).alloc (.cells #[.slice none 0 0, .int .u32 0, .int .u32 0] 25 (0, 0)) = x := ⟨_, rfl⟩
    have HB1 : Aside0 (Below w.heap.size w w1) := ⟨by rw [← hw1]; exact below_alloc (below_alloc (Below.refl _ _) _) _⟩
    have HS1 : Aside0 (w1.heap.size = w.heap.size + 2) := ⟨by rw [← hw1]; simp⟩
    have HP1 : Aside0 (w1.heap[w.heap.size]? = some (.cells #[.slice A0_0 n0 c0_0, .int .u32 n, .int .u32 a0_2] 25 (0, 0))) := ⟨by rw [← hw1]; exact heap_alloc_lt (heap_alloc_new w _) _⟩
    have HR1 : Aside0 (w1.heap[w.heap.size + 1]? = some (.cells #[.slice none 0 0, .int .u32 0, .int .u32 0] 25 (0, 0))) := ⟨by
      rw [← hw1]
      have hh := heap_alloc_new (w.alloc (.cells #[.slice A0_0 n0 c0_0, .int .u32 n, .int .u32 a0_2] 25 (0, 0))) (.cells #[.slice none 0 0, .int .u32 0, .int .u32 0] 25 (0, 0))
      rw [show (w.alloc (.cells #[.slice A0_0 n0 c0_0, .int .u32 n, .int .u32 a0_2] 25 (0, 0))).heap.size = w.heap.size + 1 by simp] at hh
      exact hh⟩
    rw [hw1]
    clear hw1
    have k0 := cell_of HP1.out (j := 0) rfl
    have k1 := cell_of HP1.out (j := 1) rfl
    have k2 := cell_of HP1.out (j := 2) rfl
    go_wp2_with fail
    go_at_call 11
    refine (HFO.out w1 HB1.out).mono ?_
    rintro e w2 ⟨f, m, g, cc, rfl, hf, hfs, hms, hgs, hb⟩
    have HF2 := Aside0.mk hf
    have HS2 := Aside0.mk (And.intro hfs hgs)
    have HB2 := Aside0.mk hb
    have HW2 : Aside0 (Below w.heap.size w w2) := ⟨HB1.out.trans ⟨hb.os, hb.tape, hb.output, hb.size, fun k hk => hb.block k (Nat.lt_of_lt_of_le hk HB1.out.size)⟩⟩
    clear hf hfs hms hgs hb k0 k1 k2
    go_wp2_with fail
    go_at_call 12
    refine (HAD.out w2 f m g cc HF2.out HW2.out (by have := HS2.out.2; have := HS1.out; omega) (by have := HS2.out.1; have := HS1.out; omega) w1 HB2.out HS1.out HB1.out).mono ?_
    rintro e w3 ⟨rfl, hf, hb⟩
    have HF3 := Aside0.mk hf
    have HB3 := Aside0.mk hb
    clear hf hb
    go_wp2_with fail
    go_at_call 13
    refine (ofFilterC f m g cc (addF a0_2 l1 l0_0 n) n a0_2 w1 w3 HF3.out HB3.out HS2.out.1 (by rw [addF_len]; exact HL.out)).mono ?_
    rintro e w4 ⟨v, rfl, hR, hb⟩
    obtain ⟨Av, cv, rfl⟩ := Kd.R_slice hR
    obtain ⟨nv, hnv⟩ : ∃ x, (addF a0_2 l1 l0_0 n).length = x := ⟨_, rfl⟩
    rw [hnv] at hR ⊢
    have HR4 := Aside0.mk hR
    have HC4 : Aside0 (w4.heap[w.heap.size + 1]? = some (.cells #[.slice none 0 0, .int .u32 0, .int .u32 0] 25 (0, 0))) := ⟨(hb.block _ (blk_lt' HR1.out)).trans HR1.out⟩
    have HB4 : Aside0 (Below w.heap.size w w4) := ⟨HB1.out.trans ⟨hb.os, hb.tape, hb.output, hb.size, fun k hk => hb.block k (Nat.lt_of_lt_of_le hk HB1.out.size)⟩⟩
    clear hR hb hnv
    obtain ⟨rb, hrb⟩ : ∃ g, w.heap.size + 1 = g := ⟨_, rfl⟩
    have HRB : Aside0 (w.heap.size ≤ rb) := ⟨by omega⟩
    rw [hrb] at HC4 ⊢
    clear hrb
    have k0 := cell_of HC4.out (j := 0) rfl
    have k1 := cell_of HC4.out (j := 1) rfl
    have k2 := cell_of HC4.out (j := 2) rfl
    have z0 : w4.frozen? ⟨rb, 0, none⟩ = false := by simp [World.frozen?, HC4.out]
    have z1 : w4.frozen? ⟨rb, 1, none⟩ = false := by simp [World.frozen?, HC4.out]
    have z2 : w4.frozen? ⟨rb, 2, none⟩ = false := by simp [World.frozen?, HC4.out]
    go_wp2_with fail
    obtain ⟨m1, m2⟩ := R_store3 (a := .slice Av nv cv) (b := .int .u32 n) (c := .int .u32 a0_2) HR4.out HC4.out
    refine bodyPost_ret (results_cell_row rfl _ _ rb 25 #[.slice Av nv cv, .int .u32 n, .int .u32 a0_2] (0, 0) _ rfl m2 Try.underlying25 rfl (by kernel_rfl)) rfl ?_
    exact ⟨_, rfl, Kd.R_lower m1 HB1.out.size, below_set (below_set (below_set HB4.out HRB.out) HRB.out) HRB.out⟩
  · cases h
set_option maxRecDepth 100000 in
set_option maxHeartbeats 4000000 in
theorem impl_BloomHas.calls (A0_0 : Option Addr) (c0_0 : Nat) (l0_0 : List Int) (a0_1 : Int) (a0_2 : Int) (A1 : Option Addr) (c1 : Nat) (l1 : List Int) (r : Bool) (w : World) (hr0_0 : Kd.C (Kd.int .u8) w A0_0 l0_0.length l0_0) (hc0_0 : l0_0.length ≤ c0_0) (hr1 : Kd.C (Kd.int .u8) w A1 l1.length l1) (hc1 : l1.length ≤ c1) (h : impl_BloomHas.f l0_0 a0_1 a0_2 l1 = some r) :
    Calls Try.prog 9 #[.agg #[.slice A0_0 l0_0.length c0_0, .int .u32 a0_1, .int .u32 a0_2], .slice A1 l1.length c1] w fun e w' => e = .returned (.bool r) ∧ Below w.heap.size w w' := by
  unfold impl_BloomHas.f at h
  split at h
  · rename_i hok
    obtain ⟨q1, q2, q3, q4, q5, q6, q7, q8⟩ := hok
    obtain rfl := Option.some.inj h
    obtain ⟨n, rfl⟩ : ∃ n : Nat, a0_1 = (n : Int) := ⟨a0_1.toNat, by omega⟩
    rw [Int.toNat_natCast]
    have HFO : Aside0 (∀ wr, Below w.heap.size w wr → Calls Try.prog 11 #[.agg #[.slice A0_0 l0_0.length c0_0, .int .u32 n, .int .u32 a0_2], .int .u8 0] wr fun e w' => ∃ f m g cc, e = .returned (.pointer (some ⟨f, 0, none⟩)) ∧ FilAt w' f m g cc 0 l0_0 n a0_2 ∧ wr.heap.size ≤ f ∧ wr.heap.size ≤ m ∧ wr.heap.size ≤ g ∧ Below wr.heap.size wr w') := ⟨fun wr hb => filterOfC A0_0 c0_0 l0_0 n a0_2 wr (Kd.C_below hr0_0 hb) hc0_0 q1 q2⟩
    have HAD : Aside0 (∀ wr f m g cc, FilAt wr f m g cc 0 l0_0 n a0_2 → Below w.heap.size w wr → w.heap.size ≤ f → Calls Try.prog 16 #[.pointer (some ⟨f, 0, none⟩), .slice A1 l1.length c1] wr fun e w' => e = .returned (.bool (hasF a0_2 l1 l0_0 n)) ∧ Below w.heap.size w w') := ⟨fun wr f m g cc hf hb hff => matchLC f m g cc l0_0 n a0_2 q5 q6 w wr hf q1 q2 (by omega) (by omega) hb hff A1 l1 c1 hr1 hc1 q7 q8⟩
    obtain ⟨n0, hn0⟩ : ∃ n, l0_0.length = n := ⟨_, rfl⟩
    obtain ⟨n1, hn1⟩ : ∃ n, l1.length = n := ⟨_, rfl⟩
    rw [hn0] at HFO ⊢
    rw [hn1] at HAD ⊢
    clear h hr0_0 hc0_0 hr1 hc1 q1 q2 q3 q4 q5 q6 q7 q8 hn0 hn1
    go_enter Try.func9, Try.ntmps9
    go_upto_region 1 with ((with_reducible refine at_dst (N := 2) rfl ?_); refine wpList_run rfl _ (run_boxed 25 (.tmp 0) rfl #[.slice A0_0 n0 c0_0, .int .u32 n, .int .u32 a0_2] rfl) ?_)
    obtain ⟨w1, hw1⟩ : ∃ x, w.alloc (.cells #[.slice A0_0 n0 c0_0, .int .u32 n, .int .u32 a0_2] 25 (0, 0)) = x := ⟨_, rfl⟩
    have HB1 : Aside0 (Below w.heap.size w w1) := ⟨by rw [← hw1]; exact below_alloc (Below.refl _ _) _⟩
    have HP1 : Aside0 (w1.heap[w.heap.size]? = some (.cells #[.slice A0_0 n0 c0_0, .int .u32 n, .int .u32 a0_2] 25 (0, 0))) := ⟨by rw [← hw1]; exact heap_alloc_new w _⟩
    rw [hw1]
    clear hw1
    have k0 := cell_of HP1.out (j := 0) rfl
    have k1 := cell_of HP1.out (j := 1) rfl
    have k2 := cell_of HP1.out (j := 2) rfl
    go_wp2_with fail
    go_at_call 11
    refine (HFO.out w1 HB1.out).mono ?_
    rintro e w2 ⟨f, m, g, cc, rfl, hf, hfs, hms, hgs, hb⟩
    have HF2 := Aside0.mk hf
    have HS2 := Aside0.mk hfs
    have HW2 : Aside0 (Below w.heap.size w w2) := ⟨HB1.out.trans ⟨hb.os, hb.tape, hb.output, hb.size, fun k hk => hb.block k (Nat.lt_of_lt_of_le hk HB1.out.size)⟩⟩
    clear hf hfs hms hgs hb k0 k1 k2
    go_wp2_with fail
    go_at_call 16
    refine (HAD.out w2 f m g cc HF2.out HW2.out (by have := HS2.out; have := HB1.out.size; omega)).mono ?_
    rintro e w3 ⟨rfl, hb⟩
    have HB3 := Aside0.mk hb
    clear hb
    go_wp2_with fail
    go_ret
    exact ⟨rfl, HB3.out⟩
  · cases h
end Go.Proofs.Ytbbeedclkfcmeaa.KFnBloom
