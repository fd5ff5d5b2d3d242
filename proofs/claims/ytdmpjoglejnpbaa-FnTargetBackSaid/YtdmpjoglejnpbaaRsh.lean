/- Shifting a number's digits right. -/
import Derived.Test.YtdmpjoglejnpbaaSetBytes
import Derived.Lib.EndianBits
namespace Go.Proofs.Ytdmpjoglejnpbaa.Big
open Go.RowKit Go.Proofs.YtdmpjoglejnpbaaW.PrintWords Go.Proofs.YtdmpjoglejnpbaaW.PrintLast Go.Proofs.YtdmpjoglejnpbaaW.PrintMore Go.Proofs.Ytdmpjoglejnpbaa.QFnTargetBack
set_option linter.unusedVariables false
set_option linter.unusedSimpArgs false
theorem nv_drop (l : List Int) (hd : Dig l) : ∀ j, nv (l.drop j) = nv l / 2 ^ (32 * j) := by
  intro j
  rcases Nat.lt_or_ge j l.length with h | h
  · have e : l = l.take j ++ l.drop j := (List.take_append_drop j l).symm
    have hl : (l.take j).length = j := by rw [List.length_take]; omega
    have h1 := nv_range (l := l.take j) (fun d hd' => hd d (List.mem_of_mem_take hd'))
    rw [hl] at h1
    conv => rhs; rw [e, nv_append, hl]
    rw [Int.add_mul_ediv_left _ _ (Int.ne_of_gt (pow_pos2 _)), Int.ediv_eq_zero_of_lt h1.1 h1.2]; omega
  · have h1 := nv_range hd
    have h2 : (2 : Int) ^ (32 * l.length) ≤ 2 ^ (32 * j) := pow_le2 (by omega)
    rw [List.drop_of_length_le h, Int.ediv_eq_zero_of_lt h1.1 (by omega)]; rfl
/-- One digit of a number that is shifted by less than a digit. -/
def rsAt (x : List Int) (s j : Nat) : Int := (x.getD j 0 + (if j + 1 < x.length then x.getD (j + 1) 0 * 4294967296 else 0)) / 2 ^ s % 4294967296
theorem rsAt_eq (x : List Int) (hd : Dig x) (s j : Nat) (hs : s < 32) (hj : j < x.length) : rsAt x s j = nv x / 2 ^ s / 2 ^ (32 * j) % 4294967296 := by
  rw [Int.ediv_ediv_of_nonneg (Int.le_of_lt (pow_pos2 s)), Int.mul_comm, ← Int.ediv_ediv_of_nonneg (Int.le_of_lt (pow_pos2 (32 * j))), ← nv_drop x hd j]
  have e1 : x.drop j = x.getD j 0 :: x.drop (j + 1) := by
    rw [List.drop_eq_getElem_cons hj, List.getD_eq_getElem?_getD, List.getElem?_eq_getElem hj]; rfl
  rw [e1, nv]
  unfold rsAt
  by_cases c : j + 1 < x.length
  · have e2 : x.drop (j + 1) = x.getD (j + 1) 0 :: x.drop (j + 2) := by
      rw [List.drop_eq_getElem_cons c, List.getD_eq_getElem?_getD, List.getElem?_eq_getElem c]; rfl
    rw [if_pos c, e2, nv]
    generalize x.getD j 0 = a
    generalize x.getD (j + 1) 0 = b
    generalize nv (x.drop (j + 2)) = y
    have e3 : a + 4294967296 * (b + 4294967296 * y) = (a + b * 4294967296) + 2 ^ s * (2 ^ (32 - s) * y * 4294967296) := by
      rw [← Int.mul_assoc, ← Int.mul_assoc, ← Int.pow_add, show s + (32 - s) = 32 by omega, show (2 : Int) ^ 32 = 4294967296 from rfl]
      omega
    rw [e3, Int.add_mul_ediv_left _ _ (Int.ne_of_gt (pow_pos2 s)), Int.add_mul_emod_self_right]
  · rw [if_neg c, List.drop_of_length_le (by omega)]; simp [nv]
/-- The row after i rounds. -/
def rsRow (V : Int) (m i : Nat) : List Int := (dg V m).take i ++ List.replicate (m - i) 0
theorem rsRow_length (V : Int) (m i : Nat) (h : i ≤ m) : (rsRow V m i).length = m := by simp [rsRow, dg_length]; omega
theorem rsRow_set (V : Int) (m i : Nat) (h : i < m) : (rsRow V m i).set i (V / 2 ^ (32 * i) % 4294967296) = rsRow V m (i + 1) := by
  unfold rsRow
  have h1 : ((dg V m).take i).length = i := by rw [List.length_take, dg_length]; omega
  rw [List.set_append_right _ _ (by omega), h1, Nat.sub_self, show m - i = (m - (i + 1)) + 1 by omega, List.replicate_succ, List.set_cons_zero, List.take_add_one,
    List.getElem?_eq_getElem (by rw [dg_length]; exact h), Option.toList_some, List.append_assoc]
  simp [dg]

theorem or32 (a b : Int) (a0 : 0 ≤ a) (a1 : a < 4294967296) (b0 : 0 ≤ b) (b1 : b < 4294967296) : Go.bits .or .u64 a (b * 4294967296) = a + b * 4294967296 := by
  have := bits_join_low .u64 64 (by decide) (fun n h0 h1 => by simp [IntKind.wrap, IntKind.signed, IntKind.bits]; omega) 32 a (b * 4294967296) a0 (by omega) (by omega) (by omega) (by omega) (by omega)
  exact this
theorem u32w_ (y : Int) : IntKind.u32.wrap y = y % 4294967296 := by simp [IntKind.wrap, IntKind.signed, IntKind.bits]

set_option maxRecDepth 100000 in
set_option maxHeartbeats 4000000 in
theorem rshC (A0 : Option Addr) (c0 : Nat) (l0 : List Int) (n W s : Nat) (k : Nat) (r : List Int) (w : World) (hn : n = 32 * W + s) (hs : s < 32) (hW : W < l0.length) (hl : l0.length ≤ 1000000) (hd : Dig l0) (hc : l0.length ≤ c0)
    (hC : (Kd.int .u32).C w A0 l0.length l0) (hr : smallbig_nat_norm.f k (dg (nv (l0.drop W) / 2 ^ s) (l0.length - W)) = some r) :
    Calls Try.prog 71 #[.slice A0 l0.length c0, .int .u64 n] w fun e w' => ∃ v, e = .returned v ∧ Kd.V (Kd.int .u32) 24 w' w.heap.size (fun k => w.heap.size ≤ k) v r ∧ Below w.heap.size w w' := by
  obtain ⟨i09, hi09, _, hsz9, _⟩ := info_parts info24
  obtain ⟨A9, hcut9, hA9, hC9⟩ := print_drop_of (P := Try.prog) (Value.int .u32) 0 103 24 .u64 Try.underlying103 hi09 hsz9 A0 c0 l0 (W : Int) (by omega) (by omega) hc
  rw [Int.toNat_natCast] at hcut9 hA9 hC9
  obtain ⟨xs, hxs⟩ : ∃ xs, l0.drop W = xs := ⟨_, rfl⟩
  have hm : xs.length = l0.length - W := by rw [← hxs, List.length_drop]
  rw [hxs] at hcut9 hA9 hC9 hr
  rw [← hm] at hr
  have hdx : Dig xs := fun d h => hd d (by rw [← hxs] at h; exact List.mem_of_mem_drop h)
  have HX := Aside0.mk (Kd.C_of_reads (h1 := fun _ => rfl) (hA9 _ (Kd.reads_of_C hC)))
  have HC := Aside0.mk hC9
  have HR := Aside0.mk hr
  have HD := Aside0.mk hdx
  have hx0 : 0 < xs.length := by omega
  have hx1 : xs.length ≤ 1000000 := by omega
  have q1 : (n : Int) / 32 = (W : Int) := by omega
  have q2 : (n : Int) % 32 = (s : Int) := by omega
  have q3 : Int.tdiv (n : Int) 32 = (W : Int) := by rw [Int.tdiv_eq_ediv_of_nonneg (by omega)]; omega
  have q4 : Int.tmod (n : Int) 32 = (s : Int) := by rw [Int.tmod_eq_emod_of_nonneg (by omega)]; omega
  have q5 : IntKind.u64.wrap (l0.length : Int) = (l0.length : Int) := u64w (by omega) (by omega)
  have q6 : IntKind.u64.wrap (W : Int) = (W : Int) := u64w (by omega) (by omega)
  have q7 : IntKind.u64.wrap (s : Int) = (s : Int) := u64w (by omega) (by omega)
  have b0 : decide ((l0.length : Int) ≤ (W : Int)) = false := decide_eq_false (by omega)
  have b1 : decide (l0.length ≤ W) = false := decide_eq_false (by omega)
  have HN := Aside0.mk hn
  have HXS := Aside0.mk hxs
  clear hr hC hA9 hC9 hi09 hsz9 hd hn hxs hdx hm
  go_enter Try.func71, Try.ntmps71
  go_wp2_with (first
    | ((with_reducible refine at_dst (N := 21) rfl ?_); refine wpList_run rfl (.slice A9 xs.length (c0 - W)) (w' := w) (by unfold execOp; go_simp; rfl) ?_)
    | ((with_reducible refine at_dst (N := 24) rfl ?_); refine Kd.R_make (Kd.int .u32) (w0 := w) w.heap.size 24 rfl (N := 24) rfl 103 _ _ rfl (xs.length : Int) rfl rfl Try.underlying103 (.int .u32 0) 4 (by kernel_rfl) rfl (by decide) (by omega) 0 (ok := fun k => w.heap.size ≤ k) (okp := fun k => w.heap.size ≤ k) rfl (fun _ hk => hk) (Nat.le_refl _) (by omega) (by omega) ⟨rfl, rfl, rfl, Nat.le_refl _, fun _ _ => rfl⟩ (Nat.le_refl _) ?_; intro v2 w2 ho hb hg hnew; obtain ⟨b, hob, hbge⟩ := hnew; obtain ⟨cap, rfl, hcap, hbase, hblt, hcells⟩ := Kd.R_first_ ho hob; have HO := Aside0.mk ho; have HB2 := Aside0.mk hb; have HOB := Aside0.mk hbge; clear ho hb hg hob hcells hbase hblt; rw [List.length_replicate, Int.toNat_natCast] at HO hcap ⊢))
  have hbs := HOB.out
  have HRR := Aside0.mk (show smallbig_nat_norm.f k (dg (nv xs / 2 ^ s) xs.length) = some r from HR.out)
  clear q1 q2 q3 q4 q5 q6 b0 b1
  go_loopw [27] (fun v27 wr => ∃ i : Nat, i ≤ xs.length ∧ v27 = .int .i64 i ∧ Aside0 (Kd.R (Kd.int .u32) 24 wr w.heap.size (fun k => w.heap.size ≤ k) (.slice (some ⟨b, 0, none⟩) xs.length cap) (rsRow (nv xs / 2 ^ s) xs.length i)) ∧ Aside0 (Below w.heap.size w wr)) (fun v27 _ => xs.length - (intOf v27).toNat)
  case atStart => exact ⟨0, Nat.zero_le _, rfl, ⟨by simpa [rsRow] using HO.out⟩, HB2⟩
  case round =>
    clear HB2 HO
    obtain ⟨i, hi, rfl, HRi, HBi⟩ := hrel
    have HX1 := Aside0.mk (Kd.C_below HX.out HBi.out)
    by_cases hlt : i < xs.length
    · have b0 : decide ((i : Int) < xs.length) = true := decide_eq_true (by omega)
      have b1 : decide (i < xs.length) = true := decide_eq_true hlt
      obtain ⟨ad, hA, hy⟩ := Kd.at_int HX1.out (i : Int) (by omega) (by omega)
      rw [Int.toNat_natCast, show rd xs (i : Int) = xs.getD i 0 by unfold rd; rw [Int.toNat_natCast]] at hy
      have ha := HD.out (xs.getD i 0) (by rw [List.getD_eq_getElem?_getD, List.getElem?_eq_getElem hlt]; exact List.getElem_mem _)
      have hrs := rsAt_eq xs HD.out s i hs hlt
      have hset := rsRow_set (nv xs / 2 ^ s) xs.length i hlt
      rw [← hrs] at hset
      unfold rsAt at hset
      obtain ⟨hz1, hz2⟩ := Kd.R_celln 0 HRi.out (i : Int) (by omega) (by omega)
      have HP := fun y : Int => (Kd.R_putg HRi.out (i : Int) y).1
      simp only [Int.toNat_natCast] at hz1 hz2 HP
      obtain ⟨a, ha9⟩ : ∃ a, xs.getD i 0 = a := ⟨_, rfl⟩
      rw [ha9] at ha hy hset
      obtain ⟨a0, a1⟩ := ha
      subst hA
      have HPP := Aside0.mk HP
      have s0 : (0 : Int) ≤ (s : Int) := by omega
      have s1 : (s : Int) < 64 := by omega
      by_cases c : i + 1 < xs.length
      · have b2 : decide ((i : Int) + 1 < xs.length) = true := decide_eq_true (by omega)
        obtain ⟨ad2, hA2, hy2⟩ := Kd.at_int HX1.out ((i + 1 : Nat) : Int) (by omega) (by omega)
        obtain rfl := Option.some.inj hA2
        rw [Int.toNat_natCast, show rd xs ((i + 1 : Nat) : Int) = xs.getD (i + 1) 0 by unfold rd; rw [Int.toNat_natCast]] at hy2
        have hb := HD.out (xs.getD (i + 1) 0) (by rw [List.getD_eq_getElem?_getD, List.getElem?_eq_getElem c]; exact List.getElem_mem _)
        rw [if_pos c] at hset
        obtain ⟨d, hd9⟩ : ∃ d, xs.getD (i + 1) 0 = d := ⟨_, rfl⟩
        rw [hd9] at hb hy2 hset
        obtain ⟨d0, d1⟩ := hb
        have hy3 : wr.cell? ⟨ad.block, ad.off + (i + 1), none⟩ = some (.int .u32 d) := by simpa [Addr.add] using hy2
        clear hy2
        have w1 : IntKind.u64.wrap a = a := u64w a0 (by omega)
        have w2 : IntKind.u64.wrap d = d := u64w d0 (by omega)
        have w3 : IntKind.u64.wrap (d * 4294967296) = d * 4294967296 := u64w (by omega) (by omega)
        have HOR := Aside0.mk (or32 a d a0 a1 d0 d1)
        have HSET := Aside0.mk hset
        clear hset hrs ha9 hd9 hA2 HP
        go_wp2
        refine ⟨⟨i + 1, by omega, by go_num, ⟨?_⟩, ⟨HBi.out.setCell (p := ⟨b, i, none⟩) hbs _⟩⟩, by simp only [intOf]; omega⟩
        have h2 := HPP.out (Go.bits .or .u64 a (d * 4294967296) / 2 ^ s % 4294967296)
        rw [HOR.out] at h2 ⊢
        rw [HSET.out] at h2
        exact h2
      · have b2 : decide ((i : Int) + 1 < xs.length) = false := decide_eq_false (by omega)
        rw [if_neg c] at hset
        have w1 : IntKind.u64.wrap a = a := u64w a0 (by omega)
        have HSET := Aside0.mk hset
        clear hset hrs ha9 HP
        go_wp2
        refine ⟨⟨i + 1, by omega, by go_num, ⟨?_⟩, ⟨HBi.out.setCell (p := ⟨b, i, none⟩) hbs _⟩⟩, by simp only [intOf]; omega⟩
        have h2 := HPP.out (a / 2 ^ s % 4294967296)
        have h3 := HSET.out
        rw [Int.add_zero] at h3
        rw [h3] at h2
        exact h2
    · have b0 : decide ((i : Int) < xs.length) = false := decide_eq_false (by omega)
      have b1 : decide (i < xs.length) = false := decide_eq_false hlt
      obtain rfl : i = xs.length := by omega
      have hR := HRi.out
      rw [show rsRow (nv xs / 2 ^ s) xs.length xs.length = dg (nv xs / 2 ^ s) xs.length by unfold rsRow; rw [List.take_of_length_le (by rw [dg_length]; exact Nat.le_refl _), Nat.sub_self]; simp] at hR
      have hV : Kd.V (Kd.int .u32) 24 wr wr.heap.size (fun k_ => w.heap.size ≤ k_) (.slice (some ⟨b, 0, none⟩) (dg (nv xs / 2 ^ s) xs.length).length cap) (dg (nv xs / 2 ^ s) xs.length) := by rw [dg_length]; exact Kd.V_any (Kd.R_V (base' := 0) hR)
      have HN2 := Aside0.mk (smallbig_nat_norm.calls k _ _ _ _ r wr hV HRR.out)
      rw [dg_length] at HN2
      clear hV hR
      go_wp2_with (go_at_call 62; refine HN2.out.mono ?_; rintro e w3 ⟨v3, rfl, hv3, hb3⟩; have HV3 := Aside0.mk hv3; have HB3 := Aside0.mk (HBi.out.trans (hb3.mono HBi.out.size)); clear hv3 hb3)
      go_ret
      have hws := HBi.out.size
      exact ⟨_, rfl, Kd.V_mono (Kd.V_any HV3.out) (fun k hk => by omega), HB3.out⟩
end Go.Proofs.Ytdmpjoglejnpbaa.Big
