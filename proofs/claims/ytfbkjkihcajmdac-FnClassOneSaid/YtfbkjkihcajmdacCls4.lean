/- The anchor: the script of four bytes. -/
import Derived.Test.YtfbkjkihcajmdacCls3
import Derived.Lib.Bytes
namespace Go.Proofs.Ytfbkjkihcajmdac.Tok
open Go.RowKit Go.Proofs.YtfbkjkihcajmdacW.PrintWords Go.Proofs.YtfbkjkihcajmdacW.PrintLast Go.Proofs.YtfbkjkihcajmdacW.PrintMore Go.Proofs.Ytfbkjkihcajmdac.QFnClasses
set_option linter.unusedVariables false
set_option linter.unusedSimpArgs false
def AnchorP (s : List Int) : Prop := s = [81, 2, 78, 115]
instance (s : List Int) : Decidable (AnchorP s) := by unfold AnchorP; infer_instance
theorem bytes_inj : ∀ {s t : List Int}, ByteL s → ByteL t → s.map (fun n => UInt8.ofNat n.toNat) = t.map (fun n => UInt8.ofNat n.toNat) → s = t
  | [], [], _, _, _ => rfl
  | [], _ :: _, _, _, h => by simp at h
  | _ :: _, [], _, _, h => by simp at h
  | x :: s, y :: t, hs, ht, h => by
    simp only [List.map_cons, List.cons.injEq] at h
    have h1 := congrArg UInt8.toNat h.1
    simp only [UInt8.toNat_ofNat'] at h1
    have hx := hs x (by simp)
    have hy := ht y (by simp)
    have e : x = y := by omega
    rw [e, bytes_inj (fun d hd => hs d (by simp [hd])) (fun d hd => ht d (by simp [hd])) h.2]
theorem equal_f (s t : List Int) (hs : ByteL s) (ht : ByteL t) : bytes_Equal.f s t = some (decide (s = t)) := by
  unfold bytes_Equal.f
  congr 1
  by_cases h : s = t
  · rw [decide_eq_true h, h]; simp
  · rw [decide_eq_false h]
    refine Bool.eq_false_iff.2 (fun h2 => h ?_)
    have h3 := eq_of_beq h2
    rw [Go.Lib.strOfNums_toList, Go.Lib.strOfNums_toList] at h3
    exact bytes_inj hs ht h3
set_option maxRecDepth 100000 in
set_option maxHeartbeats 8000000 in
theorem xanchor (A : Option Addr) (s : List Int) (c : Nat) (w : World) (hC : Kd.C (Kd.int .u8) w A s.length s) (hc : s.length ≤ c) (hB : ByteL s) :
    Calls Try.prog 39 #[.slice A s.length c] w fun e w' => (AnchorP s → ∃ ad n c', e = .returned (.slice (some ad) n c')) ∧ (¬ AnchorP s → e = .returned (.slice none 0 0)) ∧ Below w.heap.size w w' := by
  have hE := equal_f s [81, 2, 78, 115] hB (by intro d hd; simp at hd; omega)
  have HC := Aside0.mk hC
  have HL := Aside0.mk hc
  obtain ⟨ys, hys⟩ : ∃ ys : List Int, ys = [81, 2, 78, 115] := ⟨_, rfl⟩
  have HY := Aside0.mk hys
  rw [← hys] at hE
  obtain ⟨i05, hi05, _, hsz5, _⟩ := info_parts info5
  by_cases hp : AnchorP s
  · have HP := Aside0.mk hp
    have h1 : s.length = 4 := by rw [hp]; rfl
    rw [hys, decide_eq_true (show s = [81, 2, 78, 115] from hp), ← hys] at hE
    have HE := Aside0.mk hE
    obtain ⟨A1, hcut, hA1, _⟩ := print_mid_of (P := Try.prog) (Value.int .u8) 0 22 5 .i64 .i64 Try.underlying22 hi05 hsz5 A c s 2 4 (by omega) (by omega) (by omega) hc
    obtain ⟨a1, ea1, -⟩ := (hA1 w (Kd.reads_of_C hC)).2.2 (by simp; omega)
    subst ea1
    obtain ⟨m, hm⟩ : ∃ m, ((s.take (4 : Int).toNat).drop (2 : Int).toNat).length = m := ⟨_, rfl⟩
    rw [hm] at hcut
    clear hp hC hc hB hE hys hm hA1 h1
    go_enter Try.func39, Try.ntmps39
    go_wp2_with (first | ((with_reducible refine gate_dst (N := 4) rfl ?_); refine Kd.R_lit (Kd.int .u8) _ 5 ?hg (N := 4) ?hd (xs := ([81, 2, 78, 115] : List Int)) (inner := [.int .u8 81, .int .u8 2, .int .u8 78, .int .u8 115]) (ok := fun _ => True) (okp := fun _ => True) ?hr ?hp (fun _ hk => hk) trivial (Below.refl _ _) (Nat.le_refl _) (by simp) ?_; (case hd => rfl); (case hg => rfl); (case hr => first | (go_simp; done) | (go_simp; rfl)); (case hp => exact (Reps.one (show Kd.M (Kd.int .u8) _ _ _ 81 [.int .u8 81] from rfl) (Reps.one (show Kd.M (Kd.int .u8) _ _ _ 2 [.int .u8 2] from rfl) (Reps.one (show Kd.M (Kd.int .u8) _ _ _ 78 [.int .u8 78] from rfl) (Reps.one (show Kd.M (Kd.int .u8) _ _ _ 115 [.int .u8 115] from rfl) (Reps.none _ _)))))); intro v3 w3 ho4 hb hg_ hnew_; clear hg_ hnew_; rw [← HY.out] at ho4; have HB := Aside0.mk hb; obtain ⟨Ao, co, eo⟩ := Kd.R_slice ho4; subst eo; have HO := Aside0.mk ho4; clear hb ho4) | (go_at_call 54; refine (bytes_Equal.calls A c s Ao co ys true _ (Kd.C_below HC.out HB.out) HL.out (Kd.R_reads' HO.out).2.2 (Kd.R_reads' HO.out).2.1 HE.out).mono ?_; rintro e w4 ⟨rfl, ⟨nd, rfl⟩⟩))
    go_ret
    exact ⟨fun _ => ⟨_, _, _, rfl⟩, fun h => absurd HP.out h, (by repeat (first | (with_reducible first | exact HB.out | apply below_alloc | apply pw_below_drewN | apply below_drew1) | exact HB.out))⟩
  · have HP := Aside0.mk hp
    rw [hys, decide_eq_false (show ¬ s = [81, 2, 78, 115] from hp), ← hys] at hE
    have HE := Aside0.mk hE
    clear hp hC hc hB hE hys
    go_enter Try.func39, Try.ntmps39
    go_wp2_with (first | ((with_reducible refine gate_dst (N := 4) rfl ?_); refine Kd.R_lit (Kd.int .u8) _ 5 ?hg (N := 4) ?hd (xs := ([81, 2, 78, 115] : List Int)) (inner := [.int .u8 81, .int .u8 2, .int .u8 78, .int .u8 115]) (ok := fun _ => True) (okp := fun _ => True) ?hr ?hp (fun _ hk => hk) trivial (Below.refl _ _) (Nat.le_refl _) (by simp) ?_; (case hd => rfl); (case hg => rfl); (case hr => first | (go_simp; done) | (go_simp; rfl)); (case hp => exact (Reps.one (show Kd.M (Kd.int .u8) _ _ _ 81 [.int .u8 81] from rfl) (Reps.one (show Kd.M (Kd.int .u8) _ _ _ 2 [.int .u8 2] from rfl) (Reps.one (show Kd.M (Kd.int .u8) _ _ _ 78 [.int .u8 78] from rfl) (Reps.one (show Kd.M (Kd.int .u8) _ _ _ 115 [.int .u8 115] from rfl) (Reps.none _ _)))))); intro v3 w3 ho4 hb hg_ hnew_; clear hg_ hnew_; rw [← HY.out] at ho4; have HB := Aside0.mk hb; obtain ⟨Ao, co, eo⟩ := Kd.R_slice ho4; subst eo; have HO := Aside0.mk ho4; clear hb ho4) | (go_at_call 54; refine (bytes_Equal.calls A c s Ao co ys false _ (Kd.C_below HC.out HB.out) HL.out (Kd.R_reads' HO.out).2.2 (Kd.R_reads' HO.out).2.1 HE.out).mono ?_; rintro e w4 ⟨rfl, ⟨nd, rfl⟩⟩))
    go_ret
    exact ⟨fun h => absurd h HP.out, fun _ => rfl, (by repeat (first | (with_reducible first | exact HB.out | apply below_alloc | apply pw_below_drewN | apply below_drew1) | exact HB.out))⟩
set_option maxRecDepth 100000 in
set_option maxHeartbeats 4000000 in
theorem payAnchorC (A : Option Addr) (s : List Int) (c : Nat) (w : World) (hC : Kd.C (Kd.int .u8) w A s.length s) (hc : s.length ≤ c) (hB : ByteL s) :
    Calls Try.prog 27 #[.slice A s.length c] w fun e w' => e = .returned (.bool (decide (AnchorP s))) ∧ Below w.heap.size w w' := by
  have H := Aside0.mk (xanchor A s c w hC hc hB)
  clear hC hc hB
  by_cases hp : AnchorP s
  · rw [decide_eq_true hp]
    have HP := Aside0.mk hp
    clear hp
    go_enter Try.func27, Try.ntmps27
    go_wp2_with fail
    go_at_call 39
    refine H.out.mono ?_
    rintro e w1 ⟨h1, h2, hb⟩
    obtain ⟨ad, n, c', rfl⟩ := h1 HP.out
    have HB := Aside0.mk hb
    clear h1 h2 hb
    go_wp2_with fail
    go_ret
    exact ⟨rfl, HB.out⟩
  · rw [decide_eq_false hp]
    have HP := Aside0.mk hp
    clear hp
    go_enter Try.func27, Try.ntmps27
    go_wp2_with fail
    go_at_call 39
    refine H.out.mono ?_
    rintro e w1 ⟨h1, h2, hb⟩
    obtain rfl := h2 HP.out
    have HB := Aside0.mk hb
    clear h1 h2 hb
    go_wp2_with fail
    go_ret
    exact ⟨rfl, HB.out⟩
set_option maxRecDepth 100000 in
set_option maxHeartbeats 4000000 in
theorem implAnchorC (A : Option Addr) (s : List Int) (c : Nat) (w : World) (hC : Kd.C (Kd.int .u8) w A s.length s) (hc : s.length ≤ c) (hB : ByteL s) :
    Calls Try.prog 12 #[.slice A s.length c] w fun e w' => e = .returned (.bool (decide (AnchorP s))) ∧ Below w.heap.size w w' := by
  have H := Aside0.mk (payAnchorC A s c w hC hc hB)
  clear hC hc hB
  go_enter Try.func12, Try.ntmps12
  go_wp2_with fail
  go_at_call 27
  refine H.out.mono ?_
  rintro e w1 ⟨rfl, hb⟩
  have HB := Aside0.mk hb
  clear hb
  go_wp2_with fail
  go_ret
  exact ⟨rfl, HB.out⟩
end Go.Proofs.Ytfbkjkihcajmdac.Tok
