/- The anchor: the script of four bytes. -/
import Derived.Test.YtfbkjkihcajmdacCls3
import Derived.Lib.Bytes
namespace Go.Proofs.Ytfbkjkihcajmdac.Tok
open Go.RowKit Go.Proofs.YtfbkjkihcajmdacW.PrintWords Go.Proofs.YtfbkjkihcajmdacW.PrintLast Go.Proofs.YtfbkjkihcajmdacW.PrintMore Go.Proofs.Ytfbkjkihcajmdac.QFnClasses
set_option linter.unusedVariables false
set_option linter.unusedSimpArgs false
def AnchorP (s : List Int) : Prop := s = [81, 2, 78, 115]
instance (s : List Int) : Decidable (AnchorP s) := by unfold AnchorP; infer_instance
theorem bytes_inj : ∀ {s t : List Int}, ByteL s → ByteL t → s.map (fun n => UInt8.ofNat n.toNat) = t.map (fun n => UInt8.ofNat n.toNat) → s = t
  | [], [], _, _, _ => rfl
  | [], _ :: _, _, _, h => by simp at h
  | _ :: _, [], _, _, h => by simp at h
  | x :: s, y :: t, hs, ht, h => by
    simp only [List.map_cons, List.cons.injEq] at h
    have h1 := congrArg UInt8.toNat h.1
    simp only [UInt8.toNat_ofNat'] at h1
    have hx := hs x (by simp)
    have hy := ht y (by simp)
    have e : x = y := by omega
    rw [e, bytes_inj (fun d hd => hs d (by simp [hd])) (fun d hd => ht d (by simp [hd])) h.2]
theorem equal_f (s t : List Int) (hs : ByteL s) (ht : ByteL t) : bytes_Equal.f s t = some (decide (s = t)) := by
  unfold bytes_Equal.f
  congr 1
  by_cases h : s = t
  · rw [decide_eq_true h, h]; simp
  · rw [decide_eq_false h]
    refine Bool.eq_false_iff.2 (fun h2 => h ?_)
    have h3 := eq_of_beq h2
    rw [Go.Lib.strOfNums_toList, Go.Lib.strOfNums_toList] at h3
    exact bytes_inj hs ht h3
theorem ev_anchor (s : List Int) (hB : ByteL s) : Ev (fun k => spec_IsAnchor.f k s) (decide (AnchorP s)) := by
  refine Ev.congr (f := fun k => (spec_like.f k s [81, 2, 78, 115]).bind fun t => some t) (fun k => rfl) (Ev.bind ?_ (Ev.now _))
  by_cases hl : s.length = 4
  · match s, hl with
    | [a, b, c, d], _ =>
      have ha := hB a (by simp)
      have hb := hB b (by simp)
      have hc := hB c (by simp)
      have hd := hB d (by simp)
      have w0 : wrap64 (rd [a, b, c, d] 0) = a := tokW64 (x := a) (by omega) (by omega)
      have w1 : wrap64 (rd [a, b, c, d] 1) = b := tokW64 (x := b) (by omega) (by omega)
      have w2 : wrap64 (rd [a, b, c, d] 2) = c := tokW64 (x := c) (by omega) (by omega)
      have w3 : wrap64 (rd [a, b, c, d] 3) = d := tokW64 (x := d) (by omega) (by omega)
      have r0 : rd [81, 2, 78, 115] 0 = 81 := rfl
      have r1 : rd [81, 2, 78, 115] 1 = 2 := rfl
      have r2 : rd [81, 2, 78, 115] 2 = 78 := rfl
      have r3 : rd [81, 2, 78, 115] 3 = 115 := rfl
      have i0 : wrap64 (0 + 1) = 1 := by unfold wrap64; decide
      have i1 : wrap64 (1 + 1) = 2 := by unfold wrap64; decide
      have i2 : wrap64 (2 + 1) = 3 := by unfold wrap64; decide
      have i3 : wrap64 (3 + 1) = 4 := by unfold wrap64; decide
      refine Ev.congr (f := fun k => spec_like.l0 k [a, b, c, d] [81, 2, 78, 115] 0) (fun k => by unfold spec_like.f; rw [if_pos (by simp)]) ?_
      have no : ¬ AnchorP [a, b, c, d] → ∀ f, (∀ k, f (k + 1) = some false) → Ev f (decide (AnchorP [a, b, c, d])) := by
        intro h f hf
        rw [decide_eq_false h]
        exact Ev.step (f := fun _ => some false) hf (Ev.now _)
      by_cases c0 : a = 81
      · refine Ev.step (f := fun k => spec_like.l0 k [a, b, c, d] [81, 2, 78, 115] 1) (fun k => by rw [spec_like.l0, if_pos (by simp), if_pos (by omega), r0, if_pos (by omega), if_pos (by simp), w0, if_pos (by omega), i0]) ?_
        by_cases c1 : b = 2
        · refine Ev.step (f := fun k => spec_like.l0 k [a, b, c, d] [81, 2, 78, 115] 2) (fun k => by rw [spec_like.l0, if_pos (by simp), if_pos (by omega), r1, if_pos (by omega), if_pos (by simp), w1, if_pos (by omega), i1]) ?_
          by_cases c2 : c = 78
          · refine Ev.step (f := fun k => spec_like.l0 k [a, b, c, d] [81, 2, 78, 115] 3) (fun k => by rw [spec_like.l0, if_pos (by simp), if_pos (by omega), r2, if_pos (by omega), if_pos (by simp), w2, if_pos (by omega), i2]) ?_
            by_cases c3 : d = 115
            · refine Ev.step (f := fun k => spec_like.l0 k [a, b, c, d] [81, 2, 78, 115] 4) (fun k => by rw [spec_like.l0, if_pos (by simp), if_pos (by omega), r3, if_pos (by omega), if_pos (by simp), w3, if_pos (by omega), i3]) ?_
              rw [decide_eq_true (p := AnchorP [a, b, c, d]) (by unfold AnchorP; rw [c0, c1, c2, c3])]
              exact Ev.step (f := fun _ => some true) (fun k => by rw [spec_like.l0, if_neg (by simp)]) (Ev.now _)
            · exact no (fun h => c3 (by unfold AnchorP at h; simp at h; exact h.2.2.2)) _ (fun k => by rw [spec_like.l0, if_pos (by simp), if_pos (by omega), r3, if_pos (by omega), if_pos (by simp), w3, if_neg (by omega)])
          · exact no (fun h => c2 (by unfold AnchorP at h; simp at h; exact h.2.2.1)) _ (fun k => by rw [spec_like.l0, if_pos (by simp), if_pos (by omega), r2, if_pos (by omega), if_pos (by simp), w2, if_neg (by omega)])
        · exact no (fun h => c1 (by unfold AnchorP at h; simp at h; exact h.2.1)) _ (fun k => by rw [spec_like.l0, if_pos (by simp), if_pos (by omega), r1, if_pos (by omega), if_pos (by simp), w1, if_neg (by omega)])
      · exact no (fun h => c0 (by unfold AnchorP at h; simp at h; exact h.1)) _ (fun k => by rw [spec_like.l0, if_pos (by simp), if_pos (by omega), r0, if_pos (by omega), if_pos (by simp), w0, if_neg (by omega)])
  · rw [decide_eq_false (p := AnchorP s) (fun h => hl (by rw [h]; rfl))]
    refine Ev.congr (f := fun _ => some false) (fun k => ?_) (Ev.now _)
    unfold spec_like.f
    rw [if_neg (by simp; omega)]
set_option maxRecDepth 100000 in
set_option maxHeartbeats 8000000 in
theorem xanchor (A : Option Addr) (s : List Int) (c : Nat) (w : World) (hC : Kd.C (Kd.int .u8) w A s.length s) (hc : s.length ≤ c) (hB : ByteL s) :
    Calls Try.prog 39 #[.slice A s.length c] w fun e w' => (AnchorP s → ∃ ad n c', e = .returned (.slice (some ad) n c')) ∧ (¬ AnchorP s → e = .returned (.slice none 0 0)) ∧ Below w.heap.size w w' := by
  have hE := equal_f s [81, 2, 78, 115] hB (by intro d hd; simp at hd; omega)
  have HC := Aside0.mk hC
  have HL := Aside0.mk hc
  obtain ⟨ys, hys⟩ : ∃ ys : List Int, ys = [81, 2, 78, 115] := ⟨_, rfl⟩
  have HY := Aside0.mk hys
  rw [← hys] at hE
  obtain ⟨i05, hi05, _, hsz5, _⟩ := info_parts info5
  by_cases hp : AnchorP s
  · have HP := Aside0.mk hp
    have h1 : s.length = 4 := by rw [hp]; rfl
    rw [hys, decide_eq_true (show s = [81, 2, 78, 115] from hp), ← hys] at hE
    have HE := Aside0.mk hE
    obtain ⟨A1, hcut, hA1, _⟩ := print_mid_of (P := Try.prog) (Value.int .u8) 0 22 5 .i64 .i64 Try.underlying22 hi05 hsz5 A c s 2 4 (by omega) (by omega) (by omega) hc
    obtain ⟨a1, ea1, -⟩ := (hA1 w (Kd.reads_of_C hC)).2.2 (by simp; omega)
    subst ea1
    obtain ⟨m, hm⟩ : ∃ m, ((s.take (4 : Int).toNat).drop (2 : Int).toNat).length = m := ⟨_, rfl⟩
    rw [hm] at hcut
    clear hp hC hc hB hE hys hm hA1 h1
    go_enter Try.func39, Try.ntmps39
    go_wp2_with (first | ((with_reducible refine gate_dst (N := 4) rfl ?_); refine Kd.R_lit (Kd.int .u8) _ 5 ?hg (N := 4) ?hd (xs := ([81, 2, 78, 115] : List Int)) (inner := [.int .u8 81, .int .u8 2, .int .u8 78, .int .u8 115]) (ok := fun _ => True) (okp := fun _ => True) ?hr ?hp (fun _ hk => hk) trivial (Below.refl _ _) (Nat.le_refl _) (by simp) ?_; (case hd => rfl); (case hg => rfl); (case hr => first | (go_simp; done) | (go_simp; rfl)); (case hp => exact (Reps.one (show Kd.M (Kd.int .u8) _ _ _ 81 [.int .u8 81] from rfl) (Reps.one (show Kd.M (Kd.int .u8) _ _ _ 2 [.int .u8 2] from rfl) (Reps.one (show Kd.M (Kd.int .u8) _ _ _ 78 [.int .u8 78] from rfl) (Reps.one (show Kd.M (Kd.int .u8) _ _ _ 115 [.int .u8 115] from rfl) (Reps.none _ _)))))); intro v3 w3 ho4 hb hg_ hnew_; clear hg_ hnew_; rw [← HY.out] at ho4; have HB := Aside0.mk hb; obtain ⟨Ao, co, eo⟩ := Kd.R_slice ho4; subst eo; have HO := Aside0.mk ho4; clear hb ho4) | (go_at_call 54; refine (bytes_Equal.calls A c s Ao co ys true _ (Kd.C_below HC.out HB.out) HL.out (Kd.R_reads' HO.out).2.2 (Kd.R_reads' HO.out).2.1 HE.out).mono ?_; rintro e w4 ⟨rfl, ⟨nd, rfl⟩⟩))
    go_ret
    exact ⟨fun _ => ⟨_, _, _, rfl⟩, fun h => absurd HP.out h, (by repeat (first | (with_reducible first | exact HB.out | apply below_alloc | apply pw_below_drewN | apply below_drew1) | exact HB.out))⟩
  · have HP := Aside0.mk hp
    rw [hys, decide_eq_false (show ¬ s = [81, 2, 78, 115] from hp), ← hys] at hE
    have HE := Aside0.mk hE
    clear hp hC hc hB hE hys
    go_enter Try.func39, Try.ntmps39
    go_wp2_with (first | ((with_reducible refine gate_dst (N := 4) rfl ?_); refine Kd.R_lit (Kd.int .u8) _ 5 ?hg (N := 4) ?hd (xs := ([81, 2, 78, 115] : List Int)) (inner := [.int .u8 81, .int .u8 2, .int .u8 78, .int .u8 115]) (ok := fun _ => True) (okp := fun _ => True) ?hr ?hp (fun _ hk => hk) trivial (Below.refl _ _) (Nat.le_refl _) (by simp) ?_; (case hd => rfl); (case hg => rfl); (case hr => first | (go_simp; done) | (go_simp; rfl)); (case hp => exact (Reps.one (show Kd.M (Kd.int .u8) _ _ _ 81 [.int .u8 81] from rfl) (Reps.one (show Kd.M (Kd.int .u8) _ _ _ 2 [.int .u8 2] from rfl) (Reps.one (show Kd.M (Kd.int .u8) _ _ _ 78 [.int .u8 78] from rfl) (Reps.one (show Kd.M (Kd.int .u8) _ _ _ 115 [.int .u8 115] from rfl) (Reps.none _ _)))))); intro v3 w3 ho4 hb hg_ hnew_; clear hg_ hnew_; rw [← HY.out] at ho4; have HB := Aside0.mk hb; obtain ⟨Ao, co, eo⟩ := Kd.R_slice ho4; subst eo; have HO := Aside0.mk ho4; clear hb ho4) | (go_at_call 54; refine (bytes_Equal.calls A c s Ao co ys false _ (Kd.C_below HC.out HB.out) HL.out (Kd.R_reads' HO.out).2.2 (Kd.R_reads' HO.out).2.1 HE.out).mono ?_; rintro e w4 ⟨rfl, ⟨nd, rfl⟩⟩))
    go_ret
    exact ⟨fun h => absurd h HP.out, fun _ => rfl, (by repeat (first | (with_reducible first | exact HB.out | apply below_alloc | apply pw_below_drewN | apply below_drew1) | exact HB.out))⟩
set_option maxRecDepth 100000 in
set_option maxHeartbeats 4000000 in
theorem payAnchorC (A : Option Addr) (s : List Int) (c : Nat) (w : World) (hC : Kd.C (Kd.int .u8) w A s.length s) (hc : s.length ≤ c) (hB : ByteL s) :
    Calls Try.prog 27 #[.slice A s.length c] w fun e w' => e = .returned (.bool (decide (AnchorP s))) ∧ Below w.heap.size w w' := by
  have H := Aside0.mk (xanchor A s c w hC hc hB)
  clear hC hc hB
  by_cases hp : AnchorP s
  · rw [decide_eq_true hp]
    have HP := Aside0.mk hp
    clear hp
    go_enter Try.func27, Try.ntmps27
    go_wp2_with fail
    go_at_call 39
    refine H.out.mono ?_
    rintro e w1 ⟨h1, h2, hb⟩
    obtain ⟨ad, n, c', rfl⟩ := h1 HP.out
    have HB := Aside0.mk hb
    clear h1 h2 hb
    go_wp2_with fail
    go_ret
    exact ⟨rfl, HB.out⟩
  · rw [decide_eq_false hp]
    have HP := Aside0.mk hp
    clear hp
    go_enter Try.func27, Try.ntmps27
    go_wp2_with fail
    go_at_call 39
    refine H.out.mono ?_
    rintro e w1 ⟨h1, h2, hb⟩
    obtain rfl := h2 HP.out
    have HB := Aside0.mk hb
    clear h1 h2 hb
    go_wp2_with fail
    go_ret
    exact ⟨rfl, HB.out⟩
set_option maxRecDepth 100000 in
set_option maxHeartbeats 4000000 in
theorem implAnchorC (A : Option Addr) (s : List Int) (c : Nat) (w : World) (hC : Kd.C (Kd.int .u8) w A s.length s) (hc : s.length ≤ c) (hB : ByteL s) :
    Calls Try.prog 12 #[.slice A s.length c] w fun e w' => e = .returned (.bool (decide (AnchorP s))) ∧ Below w.heap.size w w' := by
  have H := Aside0.mk (payAnchorC A s c w hC hc hB)
  clear hC hc hB
  go_enter Try.func12, Try.ntmps12
  go_wp2_with fail
  go_at_call 27
  refine H.out.mono ?_
  rintro e w1 ⟨rfl, hb⟩
  have HB := Aside0.mk hb
  clear hb
  go_wp2_with fail
  go_ret
  exact ⟨rfl, HB.out⟩
end Go.Proofs.Ytfbkjkihcajmdac.Tok
