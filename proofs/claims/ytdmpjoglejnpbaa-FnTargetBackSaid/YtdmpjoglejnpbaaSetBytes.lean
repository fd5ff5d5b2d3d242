/- SetBytes of the package's whole numbers. -/
import Derived.Test.YtdmpjoglejnpbaaDigits
namespace Go.Proofs.Ytdmpjoglejnpbaa.Big
open Go.RowKit Go.Proofs.YtdmpjoglejnpbaaW.PrintWords Go.Proofs.YtdmpjoglejnpbaaW.PrintLast Go.Proofs.YtdmpjoglejnpbaaW.PrintMore Go.Proofs.Ytdmpjoglejnpbaa.QFnTargetBack
set_option linter.unusedVariables false
set_option linter.unusedSimpArgs false

/-- m digits of a number. -/
def dg (V : Int) (m : Nat) : List Int := (List.range m).map fun j => V / 2 ^ (32 * j) % 4294967296
theorem dg_length (V : Int) (m : Nat) : (dg V m).length = m := by simp [dg]
theorem dg_Dig (V : Int) (m : Nat) : Dig (dg V m) := fun d hd => by
  unfold dg at hd
  obtain ⟨j, _, rfl⟩ := List.mem_map.1 hd
  omega
theorem dg_zero (m : Nat) : dg 0 m = List.replicate m 0 := by
  apply List.ext_getElem
  · simp [dg]
  · intro i h1 h2
    simp [dg]
theorem dg_get (V : Int) (m j : Nat) (h : j < m) : (dg V m).getD j 0 = V / 2 ^ (32 * j) % 4294967296 := by
  rw [List.getD_eq_getElem?_getD]; simp [dg, h]
theorem dg_nv (m : Nat) : ∀ V : Int, nv (dg V m) = V % 2 ^ (32 * m) := by
  induction m with
  | zero => intro V; simp [dg, nv, Int.emod_one]
  | succ m ih =>
    intro V
    have e : dg V (m + 1) = (V % 4294967296) :: dg (V / 4294967296) m := by
      unfold dg
      rw [List.range_succ_eq_map, List.map_cons, List.map_map]
      congr 1
      · simp
      · apply List.map_congr_left
        intro j _
        show V / 2 ^ (32 * (j + 1)) % 4294967296 = _
        rw [Nat.mul_succ, Nat.add_comm, Int.pow_add, ← Int.ediv_ediv_of_nonneg (Int.le_of_lt (pow_pos2 32))]; rfl
    rw [e, nv, ih, Nat.mul_succ, Nat.add_comm, Int.pow_add, show (2 : Int) ^ 32 = 4294967296 from rfl]
    have hp := pow_pos2 (32 * m)
    have h1 := Int.mul_ediv_add_emod V 4294967296
    have h2 := Int.mul_ediv_add_emod (V / 4294967296) (2 ^ (32 * m))
    have h3 := Int.emod_nonneg (V / 4294967296) (Int.ne_of_gt hp)
    have h4 := Int.emod_lt_of_pos (V / 4294967296) hp
    have h5 := Int.emod_nonneg V (show (4294967296 : Int) ≠ 0 by decide)
    have h6 := Int.emod_lt_of_pos V (show (0 : Int) < 4294967296 by decide)
    generalize V / 4294967296 = y at *
    generalize V % 4294967296 = x at *
    have e3 : V = (x + 4294967296 * (y % 2 ^ (32 * m))) + (y / 2 ^ (32 * m)) * (4294967296 * 2 ^ (32 * m)) := by
      rw [← h1]
      conv => lhs; rw [← h2]
      rw [Int.mul_add, ← Int.mul_assoc, Int.mul_comm (y / 2 ^ (32 * m)) (4294967296 * 2 ^ (32 * m))]; omega
    generalize hq : y / 2 ^ (32 * m) = q at *
    generalize y % 2 ^ (32 * m) = z at *
    generalize (2 : Int) ^ (32 * m) = p at *
    conv => rhs; rw [e3, Int.add_mul_emod_self_right]
    rw [Int.emod_eq_of_lt (by omega) (by omega)]

theorem or_low (a c : Int) (r : Nat) (ha : a % 2 ^ (r + 8) = 0) (ha0 : 0 ≤ a) (ha1 : a < 4294967296) (hc0 : 0 ≤ c) (hc : c < 256) (hr : r ≤ 24) : Go.bits .or .u32 a (c * 2 ^ r) = a + c * 2 ^ r := by
  have hp := pow_pos2 r
  have hb : c * 2 ^ r < 2 ^ (r + 8) := by
    rw [Int.pow_add, show (2 : Int) ^ 8 = 256 from rfl, Int.mul_comm]
    exact Int.mul_lt_mul_of_pos_left hc hp
  have hq : (2 : Int) ^ (r + 8) ≤ 4294967296 := pow_le2 (a := r + 8) (b := 32) (by omega)
  exact bits_join .u32 32 (by decide) (fun n h0 h1 => by simp [IntKind.wrap, IntKind.signed, IntKind.bits]; omega) (r + 8) a (c * 2 ^ r) ha0 ha (by omega) (Int.mul_nonneg hc0 (by omega)) hb (by omega)

theorem q_div (K : Nat) (h : K ≤ 1000000) : wrap64 ((K : Int) / 4) = ((K / 4 : Nat) : Int) := by rw [w64 (by omega) (by omega)]; omega
theorem q_mod (K : Nat) (h : K ≤ 1000000) : Int.tmod (K : Int) 4 = ((K % 4 : Nat) : Int) := by rw [Int.tmod_eq_emod_of_nonneg (by omega)]; omega
theorem q_shl (c : Int) (r : Nat) (h0 : 0 ≤ c) (h1 : c < 256) (hr : r ≤ 24) : IntKind.u32.wrap (c * 2 ^ r) = c * 2 ^ r := by
  have hp := pow_pos2 r
  have hq : (2 : Int) ^ (r + 8) ≤ 4294967296 := pow_le2 (a := r + 8) (b := 32) (by omega)
  have hb : c * 2 ^ r < 2 ^ (r + 8) := by
    rw [Int.pow_add, show (2 : Int) ^ 8 = 256 from rfl, Int.mul_comm]
    exact Int.mul_lt_mul_of_pos_left h1 hp
  have := Int.mul_nonneg h0 (Int.le_of_lt hp)
  generalize c * 2 ^ r = y at *
  simp [IntKind.wrap, IntKind.signed, IntKind.bits]; omega
theorem q_mul (K : Nat) : wrap64 (8 * ((K % 4 : Nat) : Int)) = ((8 * (K % 4) : Nat) : Int) := by rw [w64 (by omega) (by omega)]; omega
theorem q_wrap (c : Int) (K : Nat) (h0 : 0 ≤ c) (h1 : c < 256) : IntKind.u32.wrap c = c := by simp [IntKind.wrap, IntKind.signed, IntKind.bits]; omega
theorem dg_zero_at (X : Int) (a j : Nat) (h : 32 * j + 32 ≤ a) : X * 2 ^ a / 2 ^ (32 * j) % 4294967296 = 0 := by
  rw [show a = (a - (32 * j + 32)) + 32 + 32 * j by omega, Int.pow_add, Int.pow_add, ← Int.mul_assoc, ← Int.mul_assoc, Int.mul_ediv_cancel _ (Int.ne_of_gt (pow_pos2 _))]
  exact Int.mul_emod_left _ _
theorem dg_high_at (X : Int) (a j : Nat) (h : a ≤ 32 * j) : X * 2 ^ a / 2 ^ (32 * j) = X / 2 ^ (32 * j - a) := by
  conv => lhs; rw [show 32 * j = a + (32 * j - a) by omega]
  rw [Int.pow_add, ← Int.ediv_ediv_of_nonneg (Int.le_of_lt (pow_pos2 a)), Int.mul_ediv_cancel _ (Int.ne_of_gt (pow_pos2 _))]
theorem dg_mid_at (X : Int) (r j : Nat) : X * 2 ^ (32 * j + r) / 2 ^ (32 * j) = X * 2 ^ r := by
  rw [Nat.add_comm, Int.pow_add, ← Int.mul_assoc, Int.mul_ediv_cancel _ (Int.ne_of_gt (pow_pos2 _))]
theorem dg_set (T c : Int) (k m : Nat) (hk : k / 4 < m) (hc0 : 0 ≤ c) (hc : c < 256) :
    dg ((T * 256 + c) * 2 ^ (8 * k)) m = (dg (T * 2 ^ (8 * k + 8)) m).set (k / 4) ((dg (T * 2 ^ (8 * k + 8)) m).getD (k / 4) 0 + c * 2 ^ (8 * (k % 4))) := by
  apply List.ext_getElem
  · simp [dg]
  · intro j h1 h2
    rw [dg_length] at h1
    rw [List.getElem_set]
    by_cases hj : k / 4 = j
    · subst hj
      rw [if_pos rfl, dg_get _ _ _ hk]
      simp only [dg, List.getElem_map, List.getElem_range]
      have e := Nat.div_add_mod k 4
      have hr : k % 4 < 4 := Nat.mod_lt _ (by decide)
      generalize k % 4 = r at *
      generalize k / 4 = j at *
      rw [show 8 * k = 32 * j + 8 * r by omega, Nat.add_assoc, dg_mid_at, dg_mid_at]
      rcases (by omega : r = 0 ∨ r = 1 ∨ r = 2 ∨ r = 3) with rfl | rfl | rfl | rfl
      · show (T * 256 + c) * 1 % _ = T * 256 % _ + c * 1
        omega
      · show (T * 256 + c) * 256 % _ = T * 65536 % _ + c * 256
        omega
      · show (T * 256 + c) * 65536 % _ = T * 16777216 % _ + c * 65536
        omega
      · show (T * 256 + c) * 16777216 % _ = T * 4294967296 % _ + c * 16777216
        omega
    · rw [if_neg hj]
      simp only [dg, List.getElem_map, List.getElem_range]
      rcases Nat.lt_or_gt_of_ne hj with h | h
      · congr 1
        rw [dg_high_at _ _ _ (by omega), dg_high_at _ _ _ (by omega), show 32 * j - 8 * k = 8 + (32 * j - (8 * k + 8)) by omega, Int.pow_add, ← Int.ediv_ediv_of_nonneg (by decide), show (2 : Int) ^ 8 = 256 from rfl]
        congr 1; omega
      · rw [dg_zero_at _ _ _ (by omega), dg_zero_at _ _ _ (by omega)]
theorem dg_low (T : Int) (k m : Nat) (hk : k / 4 < m) : (dg (T * 2 ^ (8 * k + 8)) m).getD (k / 4) 0 % 2 ^ (8 * (k % 4) + 8) = 0 := by
  rw [dg_get _ _ _ hk]
  have e := Nat.div_add_mod k 4
  have hr : k % 4 < 4 := Nat.mod_lt _ (by decide)
  generalize k % 4 = r at *
  generalize k / 4 = j at *
  rw [show 8 * k = 32 * j + 8 * r by omega, Nat.add_assoc, dg_mid_at]
  rcases (by omega : r = 0 ∨ r = 1 ∨ r = 2 ∨ r = 3) with rfl | rfl | rfl | rfl
  · show T * 256 % _ % 256 = 0
    omega
  · show T * 65536 % _ % 65536 = 0
    omega
  · show T * 16777216 % _ % 16777216 = 0
    omega
  · show T * 4294967296 % _ % 4294967296 = 0
    omega
theorem vB_take (xs : List Int) (i : Nat) (h : i < xs.length) : vB (xs.take (i + 1)) = vB (xs.take i) * 256 + xs.getD i 0 := by
  rw [List.take_add_one, List.getElem?_eq_getElem h, Option.toList_some, vB_append, List.getD_eq_getElem?_getD, List.getElem?_eq_getElem h]
  simp [vB]

set_option maxRecDepth 100000 in
set_option maxHeartbeats 4000000 in
theorem setBytes (g : Nat) (okx : Nat → Prop) (neg0 : Bool) (l0 : List Int) (k : Nat) (oks : Nat → Prop) (v : Value) (xs r : List Int) (w : World) (base : Nat)
    (hI : Is w g okx neg0 l0) (hok : ∀ k, oks k → k < w.heap.size) (hv : Kd.V (Kd.int .u8) 5 w base oks v xs) (hx : Bytes xs) (hn : xs.length ≤ 1000000)
    (hr : smallbig_nat_norm.f k (dg (vB xs) ((xs.length + 3) / 4)) = some r) :
    Calls Try.prog 49 #[.pointer (some ⟨g, 0, none⟩), v] w fun e w' =>
      e = .returned (.pointer (some ⟨g, 0, none⟩)) ∧ Is w' g (· ≠ g) false r ∧ Only g w w' := by
  obtain ⟨A9, c9, rfl, hl, hF⟩ := hv
  have HG := Aside0.mk (blk_lt' hI.choose_spec.1)
  have HI := Aside0.mk hI
  have HL := Aside0.mk hl
  have HF := Aside0.mk hF
  have HX := Aside0.mk hx
  have HK := Aside0.mk hok
  have HR := Aside0.mk hr
  have e1 : wrap64 ((xs.length : Int) + 3) = xs.length + 3 := w64 (by omega) (by omega)
  have e2 : wrap64 (Int.tdiv (wrap64 ((xs.length : Int) + 3)) 4) = ((xs.length : Int) + 3) / 4 := by rw [e1, Int.tdiv_eq_ediv_of_nonneg (by omega), w64 (by omega) (by omega)]
  obtain ⟨m, hm⟩ : ∃ m, (xs.length + 3) / 4 = m := ⟨_, rfl⟩
  have hm2 : (((xs.length : Int) + 3) / 4).toNat = m := by omega
  rw [hm] at HR
  clear hl hF hx hok hr hI
  go_enter Try.func49, Try.ntmps49
  go_wp2_with ((with_reducible refine at_dst (N := 13) rfl ?_); refine Kd.R_make (Kd.int .u32) (w0 := w) w.heap.size 24 rfl (N := 13) rfl 103 _ _ rfl (((xs.length : Int) + 3) / 4) (by rw [← e2]; rfl) (by rw [← e2]; rfl) Try.underlying103 (.int .u32 0) 4 (by kernel_rfl) rfl (by decide) (by omega) 0 (ok := fun k => w.heap.size ≤ k) (okp := fun k => w.heap.size ≤ k) rfl (fun _ hk => hk) (Nat.le_refl _) (by omega) (by omega) ⟨rfl, rfl, rfl, Nat.le_refl _, fun _ _ => rfl⟩ (Nat.le_refl _) ?_; intro v2 w2 ho hb hg hnew; obtain ⟨b, hob, hbge⟩ := hnew; obtain ⟨cap, rfl, hcap, hbase, hblt, hcells⟩ := Kd.R_first_ ho hob; have HO := Aside0.mk ho; have HB2 := Aside0.mk hb; have HOB := Aside0.mk hbge; clear ho hb hg hob hcells hbase hblt; rw [List.length_replicate, hm2] at HO hcap ⊢)
  have hbs := HOB.out
  go_loopw [16] (fun v16 wr => ∃ i : Nat, i ≤ xs.length ∧ v16 = .int .i64 i ∧ Aside0 (Kd.R (Kd.int .u32) 24 wr w.heap.size (fun k => w.heap.size ≤ k) (.slice (some ⟨b, 0, none⟩) m cap) (dg (vB (xs.take i) * 2 ^ (8 * (xs.length - i))) m)) ∧ Aside0 (Below w.heap.size w wr)) (fun v16 _ => xs.length - (intOf v16).toNat)
  case atStart => exact ⟨0, Nat.zero_le _, rfl, ⟨by rw [show vB (xs.take 0) * 2 ^ (8 * (xs.length - 0)) = 0 by simp [vB], dg_zero]; exact HO.out⟩, HB2⟩
  case round =>
    clear HB2 HO
    obtain ⟨i, hi, rfl, HRi, HBi⟩ := hrel
    have HF1 := Aside0.mk (Kd.F_below HF.out HBi.out)
    by_cases hlt : i < xs.length
    · have b0 : decide ((i : Int) < xs.length) = true := decide_eq_true (by omega)
      have b1 : decide (i < xs.length) = true := decide_eq_true hlt
      obtain ⟨ad, hA, hy⟩ := Kd.at_int (Kd.F_now HF1.out) (i : Int) (by omega) (by omega)
      rw [Int.toNat_natCast, show rd xs (i : Int) = xs.getD i 0 by unfold rd; rw [Int.toNat_natCast]] at hy
      have hc := HX.out (xs.getD i 0) (by rw [List.getD_eq_getElem?_getD, List.getElem?_eq_getElem hlt]; exact List.getElem_mem _)
      obtain ⟨c, hc9⟩ : ∃ c, xs.getD i 0 = c := ⟨_, rfl⟩
      rw [hc9] at hc hy
      have HC9 := Aside0.mk hc9
      clear hc9
      obtain ⟨c0, c1⟩ := hc
      subst hA
      obtain ⟨K, hK⟩ : ∃ K, xs.length - 1 - i = K := ⟨_, rfl⟩
      have hKi : (xs.length : Int) - 1 - i = (K : Int) := by omega
      rw [show xs.length - i = K + 1 by omega] at HRi
      have pl := dg_length (vB (xs.take i) * 2 ^ (8 * (K + 1))) m
      obtain ⟨hy1, hz1⟩ := Kd.R_celln 0 HRi.out ((K / 4 : Nat) : Int) (by omega) (by omega)
      have HP := Aside0.mk (Kd.R_putg HRi.out ((K / 4 : Nat) : Int) ((dg (vB (xs.take i) * 2 ^ (8 * (K + 1))) m).getD (K / 4) 0 + c * 2 ^ (8 * (K % 4))))
      simp only [Int.toNat_natCast] at hy1 hz1
      rw [show rdOf 0 (dg (vB (xs.take i) * 2 ^ (8 * (K + 1))) m) ((K / 4 : Nat) : Int) = (dg (vB (xs.take i) * 2 ^ (8 * (K + 1))) m).getD (K / 4) 0 by unfold rdOf; rw [Int.toNat_natCast]] at hy1
      have hd := dg_Dig (vB (xs.take i) * 2 ^ (8 * (K + 1))) m ((dg (vB (xs.take i) * 2 ^ (8 * (K + 1))) m).getD (K / 4) 0) (by rw [List.getD_eq_getElem?_getD, List.getElem?_eq_getElem (by omega)]; exact List.getElem_mem _)
      have hlow := dg_low (vB (xs.take i)) K m (by omega)
      rw [show 8 * K + 8 = 8 * (K + 1) by omega] at hlow
      obtain ⟨d, hd9⟩ : ∃ d, (dg (vB (xs.take i) * 2 ^ (8 * (K + 1))) m).getD (K / 4) 0 = d := ⟨_, rfl⟩
      rw [hd9] at hd hlow hy1
      have HOR := Aside0.mk (or_low d c (8 * (K % 4)) hlow hd.1 hd.2 c0 c1 (by omega))
      have HD9 := Aside0.mk hd9
      have HY := Aside0.mk (show wr.drew.cell? _ = _ from hy1)
      have HFZ := Aside0.mk (show wr.drew.frozen? _ = _ from hz1)
      obtain ⟨d0, d1⟩ := hd
      have p1 : ((K / 4 : Nat) : Int) < (m : Int) := by omega
      have p4 : (0 : Int) ≤ ((K / 4 : Nat) : Int) := by omega
      have HKi := Aside0.mk hKi
      have HKb := Aside0.mk (show K ≤ 1000000 by omega)
      have HK0 := Aside0.mk hK
      clear hd9 hlow hy1 hz1 pl hKi hK hm hm2 e1 e2
      obtain ⟨q, hq⟩ : ∃ q, K / 4 = q := ⟨_, rfl⟩
      obtain ⟨r8, hr8⟩ : ∃ r8, K % 4 = r8 := ⟨_, rfl⟩
      obtain ⟨s8, hs8⟩ : ∃ s8, 8 * r8 = s8 := ⟨_, rfl⟩
      have h24 : s8 ≤ 24 := by omega
      have H24 := Aside0.mk h24
      rw [hq] at p1 p4 HP HY HFZ HD9
      rw [hr8] at HP HOR
      rw [hs8] at HP HOR
      have HQ := Aside0.mk hq
      have HR8 := Aside0.mk hr8
      have HS8 := Aside0.mk hs8
      clear hq hr8 hs8 h24
      go_wp2
      rw [HKi.out]
      have q1 := q_div K HKb.out
      have q2 := q_mod K HKb.out
      have q3 := q_mul K
      rw [HQ.out] at q1
      rw [HR8.out] at q2 q3
      rw [HS8.out] at q3
      have q4 := q_wrap c K c0 c1
      have q5 := q_shl c s8 c0 c1 H24.out
      have s0 : (0 : Int) ≤ (s8 : Int) := Int.natCast_nonneg _
      have s1 : (s8 : Int) < 32 := Int.lt_of_le_of_lt (Int.ofNat_le.mpr H24.out) (by decide)
      refine start_ (n := 14) (S := fun w' => w'.cell? ⟨b, q, none⟩ = some (.int .u32 d)) (ds := [13]) #[false, false, false, false, false, false, false, false, false, false, false, false, false, false] (by kernel_rfl) rfl rfl HY.out (fun hHeld => ?_)
      refine pure_ (i := 0) (N := some 26) (v := ?_) (a' := ?_) #[true, false, false, false, false, false, false, false, false, false, false, false, false, false] rfl rfl (by kernel_rfl) (fun _ _ _ h => h) (Or.inl ⟨by rfl, ?_⟩) ?_ ?_
      rotate_left
      · intro w'
        go_simp
        with_reducible rfl
      rotate_left
      · simp only [Act.put, List.setIfInBounds_toArray, List.set_cons_zero, List.set_cons_succ, i64_w, i32_w]
        rfl
      refine pure_ (i := 1) (N := some 27) (v := ?_) (a' := ?_) #[true, true, false, false, false, false, false, false, false, false, false, false, false, false] rfl rfl (by kernel_rfl) (fun _ _ _ h => h) (Or.inl ⟨by rfl, ?_⟩) ?_ ?_
      rotate_left
      · intro w'
        go_simp
        with_reducible rfl
      rotate_left
      · simp only [Act.put, List.setIfInBounds_toArray, List.set_cons_zero, List.set_cons_succ, i64_w, i32_w]
        rfl
      refine pure_ (i := 2) (N := some 28) (v := ?_) (a' := ?_) #[true, true, true, false, false, false, false, false, false, false, false, false, false, false] rfl rfl (by kernel_rfl) (fun _ _ _ h => h) (Or.inl ⟨by rfl, ?_⟩) ?_ ?_
      rotate_left
      · intro w'
        go_simp
        with_reducible rfl
      rotate_left
      · simp only [Act.put, List.setIfInBounds_toArray, List.set_cons_zero, List.set_cons_succ, i64_w, i32_w]
        rfl
      refine pure_ (i := 3) (N := some 29) (v := ?_) (a' := ?_) #[true, true, true, true, false, false, false, false, false, false, false, false, false, false] rfl rfl (by kernel_rfl) (fun _ _ _ h => h) (Or.inl ⟨by rfl, ?_⟩) ?_ ?_
      rotate_left
      · intro w'
        go_simp
        with_reducible rfl
      rotate_left
      · simp only [Act.put, List.setIfInBounds_toArray, List.set_cons_zero, List.set_cons_succ, i64_w, i32_w]
        rfl
      refine take_ (i := 4) (N := some 30) (v := ?_) (a' := ?_) #[true, true, true, true, true, false, false, false, false, false, false, false, false, false] rfl rfl (by kernel_rfl) (fun _ _ _ h => h) (Or.inl ⟨by rfl, ?_⟩) hHeld ?_ ?_
      rotate_left
      · rintro w' s0
        go_simp
        with_reducible rfl
      rotate_left
      · simp only [Act.put, List.setIfInBounds_toArray, List.set_cons_zero, List.set_cons_succ, i64_w, i32_w]
        rfl
      refine pure_ (i := 5) (N := some 31) (v := ?_) (a' := ?_) #[true, true, true, true, true, true, false, false, false, false, false, false, false, false] rfl rfl (by kernel_rfl) (fun _ _ _ h => h) (Or.inl ⟨by rfl, ?_⟩) ?_ ?_
      rotate_left
      · intro w'
        go_simp
        with_reducible rfl
      rotate_left
      · simp only [Act.put, List.setIfInBounds_toArray, List.set_cons_zero, List.set_cons_succ, i64_w, i32_w]
        rfl
      refine pure_ (i := 6) (N := some 32) (v := ?_) (a' := ?_) #[true, true, true, true, true, true, true, false, false, false, false, false, false, false] rfl rfl (by kernel_rfl) (fun _ _ _ h => h) (Or.inl ⟨by rfl, ?_⟩) ?_ ?_
      rotate_left
      · intro w'
        go_simp
        with_reducible rfl
      rotate_left
      · simp only [Act.put, List.setIfInBounds_toArray, List.set_cons_zero, List.set_cons_succ, i64_w, i32_w]
        rfl
      refine pure_ (i := 7) (N := some 33) (v := ?_) (a' := ?_) #[true, true, true, true, true, true, true, true, false, false, false, false, false, false] rfl rfl (by kernel_rfl) (fun _ _ _ h => h) (Or.inl ⟨by rfl, ?_⟩) ?_ ?_
      rotate_left
      · intro w'
        go_simp
        with_reducible rfl
      rotate_left
      · simp only [Act.put, List.setIfInBounds_toArray, List.set_cons_zero, List.set_cons_succ, i64_w, i32_w]
        rfl
      refine pure_ (i := 8) (N := some 34) (v := ?_) (a' := ?_) #[true, true, true, true, true, true, true, true, true, false, false, false, false, false] rfl rfl (by kernel_rfl) (fun _ _ _ h => h) (Or.inl ⟨by rfl, ?_⟩) ?_ ?_
      rotate_left
      · intro w'
        go_simp
        with_reducible rfl
      rotate_left
      · simp only [Act.put, List.setIfInBounds_toArray, List.set_cons_zero, List.set_cons_succ, i64_w, i32_w]
        rfl
      refine pure_ (i := 9) (N := some 35) (v := ?_) (a' := ?_) #[true, true, true, true, true, true, true, true, true, true, false, false, false, false] rfl rfl (by kernel_rfl) (fun _ _ _ h => h) (Or.inl ⟨by rfl, ?_⟩) ?_ ?_
      rotate_left
      · intro w'
        go_simp
        with_reducible rfl
      rotate_left
      · simp only [Act.put, List.setIfInBounds_toArray, List.set_cons_zero, List.set_cons_succ, i64_w, i32_w]
        rfl
      refine pure_ (i := 10) (N := some 36) (v := ?_) (a' := ?_) #[true, true, true, true, true, true, true, true, true, true, true, false, false, false] rfl rfl (by kernel_rfl) (fun _ _ _ h => h) (Or.inl ⟨by rfl, ?_⟩) ?_ ?_
      rotate_left
      · intro w'
        go_simp
        with_reducible rfl
      rotate_left
      · simp only [Act.put, List.setIfInBounds_toArray, List.set_cons_zero, List.set_cons_succ, i64_w, i32_w]
        rfl
      refine pure_ (i := 11) (N := some 37) (v := ?_) (a' := ?_) #[true, true, true, true, true, true, true, true, true, true, true, true, false, false] rfl rfl (by kernel_rfl) (fun _ _ _ h => h) (Or.inl ⟨by rfl, ?_⟩) ?_ ?_
      rotate_left
      · intro w'
        go_simp
        with_reducible rfl
      rotate_left
      · simp only [Act.put, List.setIfInBounds_toArray, List.set_cons_zero, List.set_cons_succ, i64_w, i32_w]
        rfl
      refine pure_ (i := 12) (N := some 38) (v := ?_) (a' := ?_) #[true, true, true, true, true, true, true, true, true, true, true, true, true, false] rfl rfl (by kernel_rfl) (fun _ _ _ h => h) (Or.inl ⟨by rfl, ?_⟩) ?_ ?_
      rotate_left
      · intro w'
        go_simp
        with_reducible rfl
      rotate_left
      · simp only [Act.put, List.setIfInBounds_toArray, List.set_cons_zero, List.set_cons_succ, i64_w, i32_w]
        rfl
      refine last_ (i := 13) (N := none) #[true, true, true, true, true, true, true, true, true, true, true, true, true, true] rfl rfl (by kernel_rfl) (by decide) (fun K hK => ?_)
      have hf2 := HFZ.out
      have hy2 := HY.out
      refine skip_ (w1 := ?_) (by rfl) rfl ?_ ?_
      rotate_left
      · go_simp
        rfl
      refine hK.out _ _ ?_
      clear hK K
      refine norm_ (a' := ?_) ?_ ?_
      rotate_left
      · rfl
      refine done_ (by kernel_rfl) ?_
      clear hHeld q1 q2 q3 q4 q5 s0 s1 HY HFZ
      have HHI := Aside0.mk hi
      go_wp2
      go_roundw
      case rel =>
        refine ⟨i + 1, by have := HK0.out; omega, by go_num, ⟨?_⟩, ⟨?_⟩⟩
        · have h2 := HP.out.1
          have e3 := dg_set (vB (xs.take i)) c K m (by have := HQ.out; omega) c0 c1
          rw [show 8 * K + 8 = 8 * (K + 1) by omega, HQ.out, HR8.out, HS8.out] at e3
          simp only [Int.toNat_natCast] at h2
          rw [← e3, HD9.out] at h2
          rw [HOR.out, vB_take xs i hlt, HC9.out, show xs.length - (i + 1) = K by have := HK0.out; omega]
          exact Kd.R_drew h2
        · exact below_drew (HBi.out.setCell (p := ⟨b, q, none⟩) hbs _)
      case measure => simp [intOf]; have := HK0.out; omega
    · have b0 : decide ((i : Int) < xs.length) = false := decide_eq_false (by omega)
      have b1 : decide (i < xs.length) = false := decide_eq_false hlt
      obtain rfl : i = xs.length := by omega
      rw [List.take_of_length_le (Nat.le_refl _), Nat.sub_self, show vB xs * 2 ^ (8 * 0) = vB xs by simp] at HRi
      have hV : Kd.V (Kd.int .u32) 24 wr wr.heap.size (fun k_ => w.heap.size ≤ k_) (.slice (some ⟨b, 0, none⟩) (dg (vB xs) m).length cap) (dg (vB xs) m) := by rw [dg_length]; exact Kd.V_any (Kd.R_V (base' := 0) HRi.out)
      have HN := Aside0.mk (smallbig_nat_norm.calls k _ _ _ _ r wr hV HR.out)
      rw [dg_length] at HN
      clear hV
      go_wp2_with fail
      refine HN.out.mono ?_
      rintro e w3 ⟨v3, rfl, hv3, hb3⟩
      have HV3 := Aside0.mk hv3
      have HB3 := Aside0.mk (HBi.out.trans (hb3.mono HBi.out.size))
      clear hv3 hb3
      obtain ⟨v0, hg0, _⟩ := HI.out
      have hg1 := (HB3.out.block g (blk_lt' hg0)).trans hg0
      have hc0 := cell_of hg1 (j := 0) (v := .bool neg0) rfl
      have hc1 := cell_of hg1 (j := 1) (v := v0) rfl
      have hf0 := frozen_of hg1 0
      have hf1 := frozen_of hg1 1
      have HG1 := Aside0.mk hg1
      clear hg1 hg0
      obtain ⟨A9, c9, e9⟩ := Kd.V_slice HV3.out
      subst e9
      go_wp2
      go_ret
      have ho : Only g w3 ((w3.setCell ⟨g, 1, none⟩ (.slice A9 r.length c9)).setCell ⟨g, 0, none⟩ (.bool false)) := ((Only.refl g w3).set 1 _).set 0 _
      have hgl := HG.out
      have hws := HBi.out.size
      refine ⟨rfl, ⟨.slice A9 r.length c9, heap_set_same (heap_set_same HG1.out _) _, ?_⟩, (Only.of_below HB3.out).trans ho⟩
      exact Kd.V_mono (Kd.V_only (Kd.V_any HV3.out) ho (fun k hk => by omega)) (fun k hk => by omega)
end Go.Proofs.Ytdmpjoglejnpbaa.Big
