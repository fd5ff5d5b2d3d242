/- Bits of the package's whole numbers: its first word. -/
import Derived.Test.YtdmpjoglejnpbaaBack
namespace Go.Proofs.Ytdmpjoglejnpbaa.Big
open Go.RowKit Go.Proofs.YtdmpjoglejnpbaaW.PrintWords Go.Proofs.YtdmpjoglejnpbaaW.PrintLast Go.Proofs.YtdmpjoglejnpbaaW.PrintMore Go.Proofs.Ytdmpjoglejnpbaa.QFnTargetBack
set_option linter.unusedVariables false
set_option linter.unusedSimpArgs false
theorem low_first (a : Int) (h0 : 0 ≤ a) (h1 : a < 4294967296) : Go.bits .or .u64 0 (shl .u64 (IntKind.u64.wrap a) (wrap64 (32 * 0))) = a := by
  have e : shl .u64 (IntKind.u64.wrap a) (wrap64 (32 * 0)) = a := by
    rw [u64w h0 (by omega), w64 (by omega) (by omega)]
    simp [shl]
    exact u64w h0 (by omega)
  rw [e]
  have := bits_join_low .u64 64 (by decide) (fun n h0 h1 => by simp [IntKind.wrap, IntKind.signed, IntKind.bits]; omega) 32 0 0 (by decide) (by decide) (by decide) (by decide) (by decide) (by decide)
  have h2 := or32 a 0 h0 h1 (by omega) (by omega)
  have h3 := bits_join .u64 64 (by decide) (fun n h0 h1 => by simp [IntKind.wrap, IntKind.signed, IntKind.bits]; omega) 32 0 a (by decide) (by decide) (by decide) (by omega) (by omega) (by omega)
  rw [h3]; omega
theorem low_next (a b : Int) (a0 : 0 ≤ a) (a1 : a < 4294967296) (b0 : 0 ≤ b) (b1 : b < 4294967296) : Go.bits .or .u64 a (shl .u64 (IntKind.u64.wrap b) (wrap64 (32 * 1))) = a + b * 4294967296 := by
  have e : shl .u64 (IntKind.u64.wrap b) (wrap64 (32 * 1)) = b * 4294967296 := by
    rw [u64w b0 (by omega), w64 (by omega) (by omega)]
    show IntKind.u64.wrap (b * 4294967296) = _
    exact u64w (by omega) (by omega)
  rw [e]; exact or32 a b a0 a1 b0 b1
theorem ev_low64 (l : List Int) (hd : Dig l) : Ev (fun k => smallbig_nat_low64.f k l) (nv (l.take 2)) := by
  have w0 : wrap64 (0 + 1) = 1 := w64 (by omega) (by omega)
  have w1 : wrap64 (1 + 1) = 2 := w64 (by omega) (by omega)
  have w2 : (0 : Int) ≤ wrap64 (32 * 0) := by rw [w64 (by omega) (by omega)]; decide
  have w3 : (0 : Int) ≤ wrap64 (32 * 1) := by rw [w64 (by omega) (by omega)]; decide
  match l, hd with
  | [], _ =>
    refine Ev.congr (f := fun k => smallbig_nat_low64.l0 k [] 0 0) (fun k => rfl) (Ev.step (fun k => ?_) (Ev.now _))
    rw [smallbig_nat_low64.l0, if_neg (by simp)]; rfl
  | [a], hd =>
    have ha := hd a (by simp)
    refine Ev.congr (f := fun k => smallbig_nat_low64.l0 k [a] 0 0) (fun k => rfl) (Ev.step (fun k => ?_) (Ev.step (g := fun k => smallbig_nat_low64.l0 k [a] a 1) (fun k => ?_) (Ev.now _)))
    · rw [smallbig_nat_low64.l0, if_pos (by simp), if_pos (by decide), if_pos (by decide), if_pos w2, show rd [a] 0 = a from rfl, low_first a ha.1 ha.2, w0]
    · rw [smallbig_nat_low64.l0, if_neg (by simp)]; simp [nv]
  | a :: b :: r, hd =>
    have ha := hd a (by simp)
    have hb := hd b (by simp)
    refine Ev.congr (f := fun k => smallbig_nat_low64.l0 k (a :: b :: r) 0 0) (fun k => rfl) (Ev.step (fun k => ?_) (Ev.step (g := fun k => smallbig_nat_low64.l0 k (a :: b :: r) a 1) (fun k => ?_) (Ev.step (g := fun k => smallbig_nat_low64.l0 k (a :: b :: r) (a + b * 4294967296) 2) (fun k => ?_) (Ev.now _))))
    · rw [smallbig_nat_low64.l0, if_pos (by simp; omega), if_pos (by decide), if_pos (by decide), if_pos w2, show rd (a :: b :: r) 0 = a from rfl, low_first a ha.1 ha.2, w0]
    · rw [smallbig_nat_low64.l0, if_pos (by simp; omega), if_pos (by decide), if_pos (by decide), if_pos w3, show rd (a :: b :: r) 1 = b from rfl, low_next a b ha.1 ha.2 hb.1 hb.2, w1]
    · have e : nv ((a :: b :: r).take 2) = a + b * 4294967296 := by simp [nv]; omega
      rw [e, smallbig_nat_low64.l0]
      by_cases c : (2 : Int) < ((a :: b :: r).length : Int)
      · rw [if_pos c, if_neg (by decide)]
      · rw [if_neg c]

set_option maxRecDepth 100000 in
set_option maxHeartbeats 4000000 in
theorem bitsC (g : Nat) (okx : Nat → Prop) (neg : Bool) (l : List Int) (w : World) (hd : Dig l) (hl : l.length ≤ 1000000) (hI : Is w g okx neg l) (hok : ∀ k, okx k → k < w.heap.size) :
    Calls Try.prog 59 #[.pointer (some ⟨g, 0, none⟩)] w fun e w' => ∃ v ys, e = .returned v ∧ Kd.R (Kd.int .u64) 117 w' w.heap.size (fun _ => True) v ys ∧ (0 < l.length → ys[0]? = some (nv (l.take 2))) ∧ Below w.heap.size w w' := by
  obtain ⟨v, hg, hv⟩ := hI
  obtain ⟨A9, c9, rfl, hl9, hF⟩ := hv
  have HG := Aside0.mk hg
  have HL := Aside0.mk hl9
  have HC := Aside0.mk (Kd.F_now hF)
  have HD := Aside0.mk hd
  clear hg hF hl9 hd hok
  go_enter Try.func59, Try.ntmps59
  go_wp2
  go_loopw [3, 4] (fun v3 v4 wr => ∃ (j : Nat) (ys : List Int), 2 * j ≤ l.length + 1 ∧ v4 = .int .i64 ((2 * j : Nat) : Int) ∧ Aside0 (Kd.R (Kd.int .u64) 117 wr w.heap.size (fun _ => True) v3 ys) ∧ Aside0 (ys.length = j) ∧ Aside0 (0 < j → ys[0]? = some (nv (l.take 2))) ∧ Aside0 (Below w.heap.size w wr)) (fun _ v4 _ => l.length + 1 - (intOf v4).toNat)
  case atStart => exact ⟨0, [], Nat.zero_le _, rfl, ⟨Kd.R_nil _ _ _ _ _⟩, ⟨rfl⟩, ⟨fun h => absurd h (Nat.lt_irrefl 0)⟩, ⟨Below.refl _ _⟩⟩
  case round =>
    obtain ⟨j, ys, hj, rfl, HRj, HY, HF, HBj⟩ := hrel
    obtain ⟨i, hi⟩ : ∃ i, 2 * j = i := ⟨_, rfl⟩
    rw [hi] at hj ⊢
    have HI := Aside0.mk hi
    clear hi
    have hg1 := (HBj.out.block g (blk_lt' HG.out)).trans HG.out
    have hc1 := cell_of hg1 (j := 1) (v := .slice A9 l.length c9) rfl
    clear hg1
    by_cases hlt : i < l.length
    · have b0 : decide ((i : Int) < l.length) = true := decide_eq_true (by omega)
      have b1 : decide (i < l.length) = true := decide_eq_true hlt
      obtain ⟨i09, hi09, _, hsz9, _⟩ := info_parts info24
      obtain ⟨A8, hcut9, hA9, hC9⟩ := print_drop_of (P := Try.prog) (Value.int .u32) 0 103 24 .i64 Try.underlying103 hi09 hsz9 A9 c9 l (i : Int) (by omega) (by omega) HL.out
      rw [Int.toNat_natCast] at hcut9 hA9 hC9
      have hx := Kd.C_of_reads (h1 := fun _ => rfl) (hA9 _ (Kd.reads_of_C (Kd.C_below HC.out HBj.out)))
      obtain ⟨xs, hxs⟩ : ∃ xs, l.drop i = xs := ⟨_, rfl⟩
      rw [hxs] at hcut9 hC9 hx
      have hdx : Dig xs := fun d h => HD.out d (by rw [← hxs] at h; exact List.mem_of_mem_drop h)
      obtain ⟨k, hk⟩ := ev_low64 xs hdx
      obtain ⟨y, hy⟩ : ∃ y, nv (xs.take 2) = y := ⟨_, rfl⟩
      rw [hy] at hk
      have HLOW := Aside0.mk (smallbig_nat_low64.calls k A8 _ xs y wr hx hC9 (hk k (Nat.le_refl _)))
      have HXS := Aside0.mk hxs
      have HYY := Aside0.mk hy
      clear hk hx hC9 hA9 hi09 hsz9 hxs hdx hy
      have info9 : (Try.prog.info? 117).map (fun i => (i.zero, i.size, i.bytes)) = some (some (.int .u64 0), 1, 8) := by kernel_rfl
      have HINFO := Aside0.mk info9
      clear info9
      go_wp2_with (first
        | ((with_reducible refine at_dst (N := 20) rfl ?_); refine wpList_run rfl (.slice A8 xs.length (c9 - i)) (w' := wr) (by unfold execOp; go_simp; rfl) ?_)
        | (go_at_call 68; refine HLOW.out.mono ?_; rintro e w3 ⟨rfl, ⟨⟨nd, rfl⟩⟩⟩)
        | ((with_reducible refine gate_builtin (b := .append) (xs := #[.tmp 14, .tmp 22]) rfl ?_); at_builtin; refine Kd.R_append (Kd.int .u64) (w0 := w) w.heap.size rfl (.tmp 14) (.tmp 22) 118 117 (.int .u64 0) 8 rfl Try.underlying118 HINFO.out rfl (by decide) (by omega) u3 ys y [.int .u64 y] (fun _ => True) (fun _ => False) rfl rfl ?aP (fun _ hk => hk.elim) ?aF ?aO ?aB ?aS ?aL ?_; (case aP => exact rfl); (case aB => exact pw_below_drewN HBj.out nd); (case aF => exact (fun _ _ => trivial)); (case aO => exact Kd.R_drewN HRj.out nd); (case aS => exact HBj.out.size); (case aL => have := HY.out; have := HI.out; omega); intro v1 w1 ho hb hg hat; have HO := Aside0.mk ho; have HB1 := Aside0.mk hb; clear ho hb hg hat))
      have h1 := HI.out
      refine ⟨⟨j + 1, ys ++ [y], by omega, by congr 1; omega, HO, ⟨by rw [List.length_append, HY.out]; rfl⟩, ⟨fun _ => ?_⟩, HB1⟩, by simp only [intOf]; omega⟩
      by_cases c : 0 < j
      · rw [List.getElem?_append_left (by rw [HY.out]; exact c)]
        exact HF.out c
      · have hj0 : j = 0 := by omega
        have hy0 : ys = [] := List.eq_nil_of_length_eq_zero (by rw [HY.out, hj0])
        have hi0 : i = 0 := by omega
        have h2 := HXS.out
        rw [hi0, List.drop_zero] at h2
        rw [hy0, h2, HYY.out]; rfl
    · have b0 : decide ((i : Int) < l.length) = false := decide_eq_false (by omega)
      have b1 : decide (i < l.length) = false := decide_eq_false hlt
      go_wp2
      go_ret
      have h1 := HI.out
      exact ⟨_, ys, rfl, HRj.out, fun h => HF.out (by omega), HBj.out⟩
end Go.Proofs.Ytdmpjoglejnpbaa.Big
