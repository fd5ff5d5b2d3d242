/- Contracts of FillBytes and Bytes of the package's whole numbers. -/
import Derived.Test.YtdmpjoglejnpbaaBig
namespace Go.Proofs.Ytdmpjoglejnpbaa.Big
open Go.RowKit Go.Proofs.YtdmpjoglejnpbaaW.PrintWords Go.Proofs.YtdmpjoglejnpbaaW.PrintLast Go.Proofs.YtdmpjoglejnpbaaW.PrintMore Go.Proofs.Ytdmpjoglejnpbaa.QFnTargetBack
set_option linter.unusedVariables false
set_option linter.unusedSimpArgs false

/-- The k-th byte of a number, the least first. -/
def byteAt (l : List Int) (k : Nat) : Int := l.getD (k / 4) 0 / 2 ^ (8 * (k % 4)) % 256
/-- Its last n bytes, the highest first. -/
def bytesOf (l : List Int) (n : Nat) : List Int := (List.range n).map fun i => byteAt l (n - 1 - i)
theorem bytesOf_length (l : List Int) (n : Nat) : (bytesOf l n).length = n := by simp [bytesOf]
def part (l xs : List Int) (n i : Nat) : List Int := (bytesOf l n).take i ++ xs.drop i
theorem part_length (l xs : List Int) (n i : Nat) (hx : xs.length = n) (hi : i ≤ n) : (part l xs n i).length = n := by
  simp [part, bytesOf_length, hx]; omega
theorem part_set (l xs : List Int) (n i : Nat) (hx : xs.length = n) (hi : i < n) : (part l xs n i).set i (byteAt l (n - 1 - i)) = part l xs n (i + 1) := by
  have hl := bytesOf_length l n
  apply List.ext_getElem?
  intro j
  unfold part
  have h1 : ((bytesOf l n).take i).length = i := by rw [List.length_take]; omega
  have h2 : ((bytesOf l n).take (i + 1)).length = i + 1 := by rw [List.length_take]; omega
  rw [List.getElem?_set]
  by_cases hj : i = j
  · subst hj
    rw [if_pos rfl, if_pos (by rw [List.length_append, h1, List.length_drop]; omega), List.getElem?_append_left (by omega), List.getElem?_take_of_lt (by omega)]
    simp [bytesOf, hi]
  · rw [if_neg hj]
    rcases Nat.lt_or_ge j i with h | h
    · rw [List.getElem?_append_left (by omega), List.getElem?_append_left (by omega), List.getElem?_take_of_lt h, List.getElem?_take_of_lt (by omega)]
    · rw [List.getElem?_append_right (by omega), List.getElem?_append_right (by omega), h1, h2, List.getElem?_drop, List.getElem?_drop]
      congr 1; omega
theorem part_set2 (l xs : List Int) (n i : Nat) (hx : xs.length = n) (hi : i < n) : ((part l xs n i).set i 0).set i (byteAt l (n - 1 - i)) = part l xs n (i + 1) := by
  rw [List.set_set]; exact part_set l xs n i hx hi
theorem byteAt_none (l : List Int) (k : Nat) (h : l.length ≤ k / 4) : byteAt l k = 0 := by
  unfold byteAt; rw [List.getD_eq_getElem?_getD, List.getElem?_eq_none h]; simp

set_option maxRecDepth 100000 in
set_option maxHeartbeats 4000000 in
theorem fillBytes (gx : Nat) (okx : Nat → Prop) (neg : Bool) (l : List Int) (k : Nat) (bl : Int) (b n cap : Nat) (xs : List Int) (w : World) (base : Nat) (ok : Nat → Prop)
    (hI : Is w gx okx neg l) (hb : gx ≠ b) (hok : ∀ k, okx k → k ≠ b) (hlen : l.length ≤ 1000000000) (hdig : ∀ x ∈ l, 0 ≤ x ∧ x < 4294967296)
    (hR : Kd.R (Kd.int .u8) 5 w base ok (.slice (some ⟨b, 0, none⟩) n cap) xs) (hn : xs.length = n) (hn2 : n ≤ 4000000001)
    (hbl : smallbig_nat_bitLen.f k l = some bl) (hbl0 : 0 ≤ bl) (hbl1 : (bl + 7) / 8 ≤ n) :
    Calls Try.prog 46 #[.pointer (some ⟨gx, 0, none⟩), .slice (some ⟨b, 0, none⟩) n cap] w fun e w' =>
      e = .returned (.slice (some ⟨b, 0, none⟩) n cap) ∧ Kd.R (Kd.int .u8) 5 w' base ok (.slice (some ⟨b, 0, none⟩) n cap) (bytesOf l n) ∧ Only b w w' := by
  obtain ⟨v, hg, hv⟩ := hI
  have HV := Aside0.mk hv
  obtain ⟨A9, c9, rfl, hl, hF⟩ := hv
  have hc1 := cell_of hg (j := 1) (v := .slice A9 l.length c9) rfl
  have HL := Aside0.mk hl
  have HC := Aside0.mk (Kd.F_now hF)
  have HF := Aside0.mk hF
  have HG := Aside0.mk hg
  have HB := Aside0.mk hbl
  have HR := Aside0.mk hR
  have HN := Aside0.mk hn
  have HD := Aside0.mk hdig
  clear hg hF hl hbl hR hn hdig
  have HK := Aside0.mk hok
  clear hok
  go_enter Try.func46, Try.ntmps46
  go_wp2_with fail
  refine (smallbig_nat_bitLen.calls k A9 c9 l bl w HC.out HL.out HB.out).mono ?_
  rintro e w1 ⟨rfl, ⟨⟨nd, rfl⟩⟩⟩
  have hq : wrap64 (Int.tdiv (wrap64 (bl + 7)) 8) = (bl + 7) / 8 := by
    have h1 : wrap64 (bl + 7) = bl + 7 := by unfold wrap64; omega
    rw [h1, Int.tdiv_eq_ediv_of_nonneg (by omega)]; unfold wrap64; omega
  go_wp2_with fail
  have HS0 := Aside0.mk (show Only b w (w.drewN nd) from (Only.refl b w).drewN nd)
  have HR0 := Aside0.mk (Kd.R_drewN HR.out nd)
  go_loopw [20] (fun v20 wr => ∃ i : Nat, i ≤ n ∧ v20 = .int .i64 i ∧ Aside0 (Kd.R (Kd.int .u8) 5 wr base ok (.slice (some ⟨b, 0, none⟩) n cap) (part l xs n i)) ∧ Aside0 (Only b w wr)) (fun v20 _ => n - (intOf v20).toNat)
  case atStart => exact ⟨0, Nat.zero_le _, rfl, ⟨by rw [show part l xs n 0 = xs by simp [part]]; exact HR0.out⟩, HS0⟩
  case round =>
    clear HS0 HR0 hc1
    obtain ⟨i, hi, rfl, HRi, HSi⟩ := hrel
    have hc1 : wr.cell? ⟨gx, 1, none⟩ = some (.slice A9 l.length c9) := HSi.out.cell (p := ⟨gx, 1, none⟩) hb (cell_of HG.out rfl)
    by_cases hlt : i < n
    · have b0 : decide ((i : Int) < n) = true := decide_eq_true (by omega)
      have b1 : decide (i < n) = true := decide_eq_true hlt
      have pl := part_length l xs n i HN.out hi
      obtain ⟨hy, hz⟩ := Kd.R_celln 0 HRi.out (i : Int) (by omega) (by omega)
      have HP := Aside0.mk (Kd.R_putg HRi.out (i : Int) 0)
      simp only [Int.toNat_natCast] at hy hz
      have hs1 : Only b w (wr.setCell ⟨b, i, none⟩ (.int .u8 0)) := HSi.out.set i _
      have hF1 := Kd.F_step HF.out (W1 := wr.setCell ⟨b, i, none⟩ (.int .u8 0)) (fun k hk hlt => hs1.block k hlt (HK.out k hk))
      have HS1 := Aside0.mk hs1
      clear hs1
      by_cases hk : (n - 1 - i) / 4 < l.length
      · have b2 : decide (((n : Int) - 1 - i) / 4 < (l.length : Int)) = true := decide_eq_true (by omega)
        obtain ⟨ad, hA, hx⟩ := Kd.at_int (Kd.F_now hF1) (((n - 1 - i) / 4 : Nat) : Int) (by omega) (by omega)
        clear hF1
        have hd := HD.out (l.getD ((n - 1 - i) / 4) 0) (by
          rw [List.getD_eq_getElem?_getD, List.getElem?_eq_getElem hk]
          exact List.getElem_mem _)
        rw [Int.toNat_natCast, show rd l (((n - 1 - i) / 4 : Nat) : Int) = l.getD ((n - 1 - i) / 4) 0 by unfold rd; rw [Int.toNat_natCast]] at hx
        obtain ⟨d, hd9⟩ : ∃ d, l.getD ((n - 1 - i) / 4) 0 = d := ⟨_, rfl⟩
        rw [hd9] at hd hx
        have HD9 := Aside0.mk hd9
        clear hd9
        obtain ⟨d0, d1⟩ := hd
        subst hA
        have p0 : (0 : Int) ≤ ((n : Int) - 1 - i) / 4 := by omega
        have p1 : ((n : Int) - 1 - i) / 4 < (l.length : Int) := by omega
        have m0 : (0 : Int) ≤ 8 * (((n : Int) - 1 - i) % 4) := by omega
        have m1 : 8 * (((n : Int) - 1 - i) % 4) < 32 := by omega
        obtain ⟨hy1, hz1⟩ := Kd.R_celln 0 HP.out.1 (i : Int) (by omega) (by omega)
        simp only [Int.toNat_natCast] at hy1 hz1
        have HP2 := Aside0.mk (Kd.R_putg HP.out.1 (i : Int) (byteAt l (n - 1 - i)))
        have HI1 := Aside0.mk hi
        clear hi
        go_wp2
        go_roundw
        case rel =>
          have h2 := HP2.out.1
          have hbv : byteAt l (n - 1 - i) = d / 2 ^ (8 * ((n - 1 - i) % 4)) % 256 := by unfold byteAt; rw [HD9.out]
          simp only [Int.toNat_natCast] at h2
          rw [part_set2 l xs n i HN.out hlt, hbv] at h2
          exact ⟨i + 1, by have := HI1.out; omega, by go_num, ⟨h2⟩, ⟨HS1.out.set i _⟩⟩
        case measure => simp [intOf]; omega
      · have b2 : decide (((n : Int) - 1 - i) / 4 < (l.length : Int)) = false := decide_eq_false (by omega)
        clear hF1
        go_wp2
        go_roundw
        case rel =>
          refine ⟨i + 1, by omega, by go_num, ⟨?_⟩, HS1⟩
          have h1 := HP.out.1
          simp only [Int.toNat_natCast] at h1
          rw [← part_set l xs n i HN.out hlt, byteAt_none l (n - 1 - i) (by omega)]
          exact h1
        case measure => simp [intOf]; omega
    · have b0 : decide ((i : Int) < n) = false := decide_eq_false (by omega)
      have b1 : decide (i < n) = false := decide_eq_false hlt
      go_wp2
      go_ret
      obtain rfl : i = n := by omega
      refine ⟨rfl, ?_, HSi.out⟩
      have e : part l xs i i = bytesOf l i := by
        unfold part
        rw [List.take_of_length_le (by rw [bytesOf_length]; omega), List.drop_of_length_le (by have := HN.out; omega), List.append_nil]
      rw [← e]; exact HRi.out

set_option maxRecDepth 100000 in
set_option maxHeartbeats 2000000 in
theorem bytes (gx : Nat) (okx : Nat → Prop) (neg : Bool) (l : List Int) (k : Nat) (bl : Int) (w : World)
    (hI : Is w gx okx neg l) (hok : ∀ k, okx k → k < w.heap.size) (hlen : l.length ≤ 1000000000) (hdig : ∀ x ∈ l, 0 ≤ x ∧ x < 4294967296)
    (hbl : smallbig_nat_bitLen.f k l = some bl) (hbl0 : 0 ≤ bl) (hbl1 : bl ≤ 32000000000) :
    Calls Try.prog 26 #[.pointer (some ⟨gx, 0, none⟩)] w fun e w' =>
      ∃ v, e = .returned v ∧ Kd.R (Kd.int .u8) 5 w' w.heap.size (fun k => w.heap.size ≤ k) v (bytesOf l ((bl + 7) / 8).toNat) ∧ Below w.heap.size w w' := by
  have hI2 := hI
  obtain ⟨v, hg, hv⟩ := hI
  obtain ⟨A9, c9, rfl, hl, hF⟩ := hv
  have hc1 := cell_of hg (j := 1) (v := .slice A9 l.length c9) rfl
  have HL := Aside0.mk hl
  have HC := Aside0.mk (Kd.F_now hF)
  have HB := Aside0.mk hbl
  have HI := Aside0.mk hI2
  have HG := Aside0.mk (blk_lt' hg)
  have HK := Aside0.mk hok
  have HD := Aside0.mk hdig
  clear hg hF hl hbl hI2 hok hdig
  go_enter Try.func26, Try.ntmps26
  go_wp2_with fail
  refine (smallbig_nat_bitLen.calls k A9 c9 l bl w HC.out HL.out HB.out).mono ?_
  rintro e w1 ⟨rfl, ⟨⟨nd, rfl⟩⟩⟩
  go_wp2_with ((with_reducible refine at_dst (N := 11) rfl ?_); refine Kd.R_make (Kd.int .u8) (w0 := w) w.heap.size 5 rfl (N := 11) rfl 33 _ _ rfl ((bl + 7) / 8) rfl rfl Try.underlying33 (.int .u8 0) 1 (by kernel_rfl) rfl (by decide) (by omega) 0 (ok := fun k => w.heap.size ≤ k) (okp := fun k => w.heap.size ≤ k) rfl (fun _ hk => hk) (Nat.le_refl _) (by omega) (by omega) ⟨rfl, rfl, rfl, Nat.le_refl _, fun _ _ => rfl⟩ (Nat.le_refl _) ?_; intro v2 w2 ho hb hg hnew; obtain ⟨b, hob, hbge⟩ := hnew; obtain ⟨cap, rfl, hcap, hbase, hblt, hcells⟩ := Kd.R_first_ ho hob; have HO := Aside0.mk ho; have HB2 := Aside0.mk hb; have HOB := Aside0.mk hbge; clear ho hb hg hob hcells hbase hblt; rw [List.length_replicate] at HO hcap ⊢)
  have hbge := HOB.out
  have hsz : w.heap.size ≤ b := hbge
  refine (fillBytes gx okx neg l k bl b ((bl + 7) / 8).toNat cap _ w2 w.heap.size (fun k => w.heap.size ≤ k) (Is.below HI.out HB2.out) (by have := HG.out; omega) (fun k hk => by have := HK.out k hk; omega) hlen HD.out HO.out (by simp) (by omega) HB.out hbl0 (by omega)).mono ?_
  rintro e w3 ⟨rfl, hR, hO⟩
  have HR3 := Aside0.mk hR
  have HO3 := Aside0.mk hO
  clear hR hO
  go_wp2
  go_ret
  exact ⟨_, rfl, HR3.out, HO3.out.below HB2.out hsz HB2.out.size⟩
end Go.Proofs.Ytdmpjoglejnpbaa.Big
