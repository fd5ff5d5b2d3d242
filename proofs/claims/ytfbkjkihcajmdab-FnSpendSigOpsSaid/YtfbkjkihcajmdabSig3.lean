/- The law FnSpendSigOps: its walk. -/
import Derived.Test.YtfbkjkihcajmdabSig2
namespace Go.Proofs.Ytfbkjkihcajmdab.Tok
open Go.RowKit Go.Proofs.YtfbkjkihcajmdabW.PrintWords Go.Proofs.YtfbkjkihcajmdabW.PrintLast Go.Proofs.YtfbkjkihcajmdabW.PrintMore Go.Proofs.Ytfbkjkihcajmdab.QFnSpendSigOps
set_option linter.unusedVariables false
set_option linter.unusedSimpArgs false
/-- What is counted for a spend. -/
def SigN (s0 s1 : List Int) (n : Int) : Prop :=
  (¬ P2SH s1 ∧ ∃ l b, Toks s1 0 l b ∧ n = cnt 255 l) ∨ (P2SH s1 ∧ s0 = [] ∧ n = 0) ∨ (P2SH s1 ∧ 0 < s0.length ∧ Push s0 0 false ∧ n = 0) ∨
  (P2SH s1 ∧ 0 < s0.length ∧ Push s0 0 true ∧ ∃ l b lx bx, Toks s0 0 l b ∧ b < 0 ∧ Toks (lastFrom [] l) 0 lx bx ∧ n = cnt 255 lx)
theorem sigN_some (s0 s1 : List Int) : ∃ n, SigN s0 s1 n := by
  by_cases hp : P2SH s1
  · by_cases h0 : s0 = []
    · exact ⟨0, Or.inr (Or.inl ⟨hp, h0, rfl⟩)⟩
    · have hl := List.length_pos_iff.2 h0
      obtain ⟨r, hr⟩ := push_total s0 s0.length 0 (by omega)
      cases r with
      | false => exact ⟨0, Or.inr (Or.inr (Or.inl ⟨hp, hl, hr, rfl⟩))⟩
      | true =>
        obtain ⟨l, b, ht, _⟩ := toks_total s0 s0.length 0 (by omega)
        have hb := push_toks s0 ht hr
        have hb' : b < 0 := by
          rcases Int.lt_or_le b 0 with h | h
          · exact h
          · rw [decide_eq_false (by omega), Bool.and_false] at hb; cases hb
        obtain ⟨lx, bx, hx, _⟩ := toks_total (lastFrom [] l) (lastFrom [] l).length 0 (by omega)
        exact ⟨_, Or.inr (Or.inr (Or.inr ⟨hp, hl, hr, l, b, lx, bx, ht, hb', hx, rfl⟩))⟩
  · obtain ⟨l, b, ht, _⟩ := toks_total s1 s1.length 0 (by omega)
    exact ⟨_, Or.inl ⟨hp, l, b, ht, rfl⟩⟩
theorem toks_some {s : List Int} {l : List S34} {b : Int} (h : Toks s 0 l b) (hb : b < 0) (hs : 0 < s.length) : l ≠ [] := by
  cases h with
  | done h1 => omega
  | bad h1 h2 => omega
  | step h1 h2 h3 => simp
theorem ev_Spend (s0 s1 : List Int) (hn0 : s0.length ≤ 1000000) (hn1 : s1.length ≤ 1000000) (hB0 : ByteL s0) (hB1 : ByteL s1) (n : Int) (h : SigN s0 s1 n) : Ev (fun k => spec_SpendSigOps.f k s0 s1) n := by
  have lp : ∀ X, Ev (fun k => spec_lastPush.f k s0) X → P2SH s1 → Ev (fun k => if X.2 = true then ((spec_SigOps.f k X.1 true).bind fun t172 => (some t172)) else (some 0)) n → Ev (fun k => spec_SpendSigOps.f k s0 s1) n := by
    intro X hX hp hn
    refine Ev.congr (f := fun k => (spec_lastPush.f k s0).bind fun bt => (if bt.2 = true then ((spec_SigOps.f k bt.1 true).bind fun t172 => (some t172)) else (some 0))) (fun k => ?_) (Ev.bind hX hn)
    unfold spec_SpendSigOps.f
    rw [pays_f, Option.bind_some, decide_eq_true hp, if_pos rfl]
  rcases h with ⟨hp, l, b, ht, rfl⟩ | ⟨hp, h0, rfl⟩ | ⟨hp, hl, hr, rfl⟩ | ⟨hp, hl, hr, l, b, lx, bx, ht, hb, hx, rfl⟩
  · refine Ev.congr (f := fun k => (spec_SigOps.f k s1 true).bind fun t167 => (some t167)) (fun k => ?_) (Ev.bind (ev_SigOps s1 hn1 hB1 ht) (Ev.now _))
    unfold spec_SpendSigOps.f
    rw [pays_f, Option.bind_some, decide_eq_false hp, if_neg (by decide)]
  · subst h0
    have e := ev_lastPush [] hn0 hB0 (l := []) (b := -1) (.done (Nat.le_refl _)) true (.done (Nat.le_refl _))
    rw [if_neg (fun h => h.2 rfl)] at e
    exact lp _ e hp (Ev.congr (f := fun _ => some 0) (fun k => by rw [if_neg (by decide)]) (Ev.now _))
  · obtain ⟨l, b, ht, _⟩ := toks_total s0 s0.length 0 (by omega)
    have e := ev_lastPush s0 hn0 hB0 ht false hr
    rw [if_neg (fun h => by cases h.1)] at e
    exact lp _ e hp (Ev.congr (f := fun _ => some 0) (fun k => by rw [if_neg (by decide)]) (Ev.now _))
  · have e := ev_lastPush s0 hn0 hB0 ht true hr
    have hl0 := toks_some ht hb hl
    rw [if_pos ⟨rfl, hl0⟩, ← lastFrom_getD l [] hl0] at e
    obtain ⟨q1, q2⟩ := last_data hB0 ht
    refine lp _ e hp (Ev.congr (f := fun k => (spec_SigOps.f k (lastFrom [] l) true).bind fun t172 => some t172) (fun k => by rw [if_pos rfl]) (Ev.bind (ev_SigOps _ (by omega) q1 hx) (Ev.now _)))
set_option maxRecDepth 100000 in
set_option maxHeartbeats 8000000 in
theorem preciseC (A0 : Option Addr) (s0 : List Int) (c0 : Nat) (A1 : Option Addr) (s1 : List Int) (c1 : Nat) (oks : Nat → Prop) (base : Nat) (w : World) (n : Int)
    (hok : ∀ k, oks k → k < w.heap.size) (hV0 : Kd.V (Kd.int .u8) 5 w base oks (.slice A0 s0.length c0) s0) (hV1 : Kd.V (Kd.int .u8) 5 w base oks (.slice A1 s1.length c1) s1)
    (hn0 : s0.length ≤ 1000000) (hn1 : s1.length ≤ 1000000) (hB0 : ByteL s0) (hB1 : ByteL s1) (h : SigN s0 s1 n) :
    Calls Try.prog 17 #[.slice A0 s0.length c0, .slice A1 s1.length c1, .bool true] w fun e w' => e = .returned (.int .i64 n) ∧ Below w.heap.size w w' := by
  have HI := ishashC A1 s1 c1 w (Kd.F_now (Kd.V_at hV1).2.2) (Kd.V_at hV1).2.1
  have HV0 := Aside0.mk hV0
  have HV1 := Aside0.mk hV1
  have HOK := Aside0.mk hok
  have HB0 := Aside0.mk hB0
  have HB1 := Aside0.mk hB1
  clear hok hV0 hV1 hB0 hB1
  rcases h with ⟨hp, l, b, ht, rfl⟩ | ⟨hp, h0, rfl⟩ | ⟨hp, hl, hr, rfl⟩ | ⟨hp, hl, hr, l, b, lx, bx, ht, hb, hx, rfl⟩
  · rw [decide_eq_false hp] at HI
    have HI := Aside0.mk HI
    have HT := Aside0.mk ht
    clear hp ht
    go_enter Try.func17, Try.ntmps17
    go_wp2_with fail
    go_at_call 25
    refine HI.out.mono ?_
    rintro e w1 ⟨rfl, rfl⟩
    go_wp2_with fail
    go_at_call 26
    refine (countC A1 s1 c1 oks base _ l b HOK.out HV1.out hn1 HB1.out HT.out).mono ?_
    rintro e w2 ⟨rfl, hb⟩
    have HB2 := Aside0.mk hb
    clear hb
    go_wp2_with fail
    go_ret
    exact ⟨rfl, HB2.out⟩
  · subst h0
    rw [decide_eq_true hp] at HI
    have HI := Aside0.mk HI
    clear hp
    go_enter Try.func17, Try.ntmps17
    go_wp2_with fail
    go_at_call 25
    refine HI.out.mono ?_
    rintro e w1 ⟨rfl, rfl⟩
    go_wp2_with fail
    go_ret
    exact ⟨rfl, Below.refl _ _⟩
  · rw [decide_eq_true hp] at HI
    have HI := Aside0.mk HI
    have HR := Aside0.mk hr
    have d1 : decide ((s0.length : Int) = 0) = false := decide_eq_false (by omega)
    have d2 : decide (s0.length = 0) = false := decide_eq_false (by omega)
    have d5 : ¬ s0.length = 0 := by omega
    have d6 : ¬ (s0.length : Int) = 0 := by omega
    clear hp hr hl
    go_enter Try.func17, Try.ntmps17
    go_wp2_with (first
      | (go_at_call 25; refine HI.out.mono ?_; rintro e w1 ⟨rfl, rfl⟩)
      | (go_at_call 27; refine (isPushC A0 s0 c0 oks base _ false HOK.out HV0.out hn0 HB0.out HR.out).mono ?_; rintro e w2 ⟨rfl, hb⟩; have HB2 := Aside0.mk hb; clear hb))
    go_ret
    exact ⟨rfl, HB2.out⟩
  · rw [decide_eq_true hp] at HI
    have HI := Aside0.mk HI
    have HR := Aside0.mk hr
    have HT := Aside0.mk ht
    have hq := last_data HB0.out ht
    obtain ⟨x, hxe⟩ : ∃ x, lastFrom [] l = x := ⟨_, rfl⟩
    rw [hxe] at hx hq
    have HX := Aside0.mk hx
    have HE := Aside0.mk hxe
    have HD := Aside0.mk hq
    have HN : Aside0 (b < 0 ∧ 0 < s0.length) := ⟨hb, hl⟩
    have d1 : decide ((s0.length : Int) = 0) = false := decide_eq_false (by omega)
    have d2 : decide (s0.length = 0) = false := decide_eq_false (by omega)
    have d5 : ¬ s0.length = 0 := by omega
    have d6 : ¬ (s0.length : Int) = 0 := by omega
    clear hp hr hl ht hb hxe hq
    by_cases hx0 : x.length = 0
    · have HZ : Aside0 (cnt 255 lx = 0) := ⟨by rw [(toks_end (by omega) hx).1]; rfl⟩
      have d3 : decide ((x.length : Int) = 0) = true := decide_eq_true (by omega)
      have d4 : decide (x.length = 0) = true := decide_eq_true hx0
      have d7 : (x.length : Int) = 0 := by omega
      clear hx
      go_enter Try.func17, Try.ntmps17
      go_wp2_with (first
        | (go_at_call 25; refine HI.out.mono ?_; rintro e w1 ⟨rfl, rfl⟩)
        | (go_at_call 27; refine (isPushC A0 s0 c0 oks base _ true HOK.out HV0.out hn0 HB0.out HR.out).mono ?_; rintro e w2 ⟨rfl, hb⟩; have HB2 := Aside0.mk hb; have HV2 := Aside0.mk (Kd.V_below HV0.out hb); clear hb)
        | (go_at_call 28; refine (finalC A0 s0 c0 oks base _ l b (fun k hk => Nat.lt_of_lt_of_le (HOK.out k hk) HB2.out.size) HV2.out hn0 HB0.out HT.out HN.out.1 HN.out.2).mono ?_; rintro e w3 ⟨v, rfl, hv, hb⟩; rw [HE.out] at hv; obtain ⟨Ax, cx, ev⟩ := Kd.V_slice hv; subst ev; have HV3 := Aside0.mk hv; have HB3 := Aside0.mk (HB2.out.trans (hb.mono HB2.out.size)); clear hv hb))
      go_ret
      exact ⟨by rw [HZ.out]; rfl, HB3.out⟩
    · have d3 : decide ((x.length : Int) = 0) = false := decide_eq_false (by omega)
      have d4 : decide (x.length = 0) = false := decide_eq_false hx0
      have d7 : ¬ (x.length : Int) = 0 := by omega
      clear hx
      go_enter Try.func17, Try.ntmps17
      go_wp2_with (first
        | (go_at_call 25; refine HI.out.mono ?_; rintro e w1 ⟨rfl, rfl⟩)
        | (go_at_call 27; refine (isPushC A0 s0 c0 oks base _ true HOK.out HV0.out hn0 HB0.out HR.out).mono ?_; rintro e w2 ⟨rfl, hb⟩; have HB2 := Aside0.mk hb; have HV2 := Aside0.mk (Kd.V_below HV0.out hb); clear hb)
        | (go_at_call 28; refine (finalC A0 s0 c0 oks base _ l b (fun k hk => Nat.lt_of_lt_of_le (HOK.out k hk) HB2.out.size) HV2.out hn0 HB0.out HT.out HN.out.1 HN.out.2).mono ?_; rintro e w3 ⟨v, rfl, hv, hb⟩; rw [HE.out] at hv; obtain ⟨Ax, cx, ev⟩ := Kd.V_slice hv; subst ev; have HV3 := Aside0.mk hv; have HB3 := Aside0.mk (HB2.out.trans (hb.mono HB2.out.size)); clear hv hb))
      go_at_call 26
      refine (countC Ax x cx oks base _ lx bx (fun k hk => Nat.lt_of_lt_of_le (HOK.out k hk) HB3.out.size) HV3.out (by have := HD.out.2; omega) HD.out.1 HX.out).mono ?_
      rintro e w4 ⟨rfl, hb⟩
      have HB4 := Aside0.mk (HB3.out.trans (hb.mono HB3.out.size))
      clear hb
      go_wp2_with fail
      go_ret
      exact ⟨rfl, HB4.out⟩
theorem reads_V {w : World} {e base : Nat} {A : Option Addr} {c : Nat} {xs : List Int} (h : ReadsInt w .u8 A xs.length xs) (hc : xs.length ≤ c) : Kd.V (Kd.int .u8) e w base (fun k => k < w.heap.size) (.slice A xs.length c) xs := by
  refine Kd.V_mk hc (fun W' hW => ?_)
  refine Kd.C_of_reads (enc := Value.int .u8) (d := 0) ⟨rfl, h.2.1, fun hn => ?_⟩
  obtain ⟨ad, e1, hcell⟩ := h.2.2 hn
  refine ⟨ad, e1, fun j hj => ?_⟩
  have h1 := hcell j hj
  have hlt := World.block_lt_of_cell? w _ h1
  exact (World.cell?_of_block (w := w) (hW _ hlt hlt)).trans h1
set_option maxRecDepth 100000 in
set_option maxHeartbeats 4000000 in
theorem implSpend (A0 : Option Addr) (s0 : List Int) (c0 : Nat) (A1 : Option Addr) (s1 : List Int) (c1 : Nat) (oks : Nat → Prop) (base : Nat) (w : World) (n : Int)
    (hok : ∀ k, oks k → k < w.heap.size) (hV0 : Kd.V (Kd.int .u8) 5 w base oks (.slice A0 s0.length c0) s0) (hV1 : Kd.V (Kd.int .u8) 5 w base oks (.slice A1 s1.length c1) s1)
    (hn0 : s0.length ≤ 1000000) (hn1 : s1.length ≤ 1000000) (hB0 : ByteL s0) (hB1 : ByteL s1) (h : SigN s0 s1 n) :
    Calls Try.prog 9 #[.slice A0 s0.length c0, .slice A1 s1.length c1] w fun e w' => e = .returned (.int .i64 n) ∧ Below w.heap.size w w' := by
  have H := Aside0.mk (preciseC A0 s0 c0 A1 s1 c1 oks base w n hok hV0 hV1 hn0 hn1 hB0 hB1 h)
  clear hok hV0 hV1 hB0 hB1 h
  go_enter Try.func9, Try.ntmps9
  go_wp2_with (go_at_call 17; refine H.out.mono ?_; rintro e w1 ⟨rfl, hb⟩; have HB1 := Aside0.mk hb; clear hb)
  go_ret
  exact ⟨rfl, HB1.out⟩
set_option maxRecDepth 100000 in
set_option maxHeartbeats 4000000 in
theorem walkSpend (A0 : Option Addr) (c0 : Nat) (s0 : List Int) (A1 : Option Addr) (c1 : Nat) (s1 : List Int) (w : World) (hR0 : ReadsInt w .u8 A0 s0.length s0) (hc0 : s0.length ≤ c0) (hB0 : ByteL s0) (hR1 : ReadsInt w .u8 A1 s1.length s1) (hc1 : s1.length ≤ c1) (hB1 : ByteL s1) :
    Calls Try.prog 4 #[.slice A0 s0.length c0, .slice A1 s1.length c1] w fun e w' => e = .returned (.bool true) ∧ Below w.heap.size w w' := by
  by_cases hm0 : s0.length ≤ 2147483647
  · have b1 : decide ((2147483647 : Int) < s0.length) = false := decide_eq_false (by omega)
    have b2 : decide (2147483647 < s0.length) = false := decide_eq_false (by omega)
    by_cases hm1 : s1.length ≤ 2147483647
    · have b3 : decide ((2147483647 : Int) < s1.length) = false := decide_eq_false (by omega)
      have b4 : decide (2147483647 < s1.length) = false := decide_eq_false (by omega)
      have q : IntKind.i64.wrap ((s0.length : Int) + s1.length) = ((s0.length + s1.length : Nat) : Int) := by
        rw [i64_w, tokW64 (by omega) (by omega)]; omega
      by_cases hn : s0.length + s1.length ≤ 100000
      · have b5 : decide ((100000 : Int) < ((s0.length + s1.length : Nat) : Int)) = false := decide_eq_false (by omega)
        have b6 : decide (100000 < s0.length + s1.length) = false := decide_eq_false (by omega)
        have b7 : decide ((100000 : Int) < (s0.length : Int) + s1.length) = false := decide_eq_false (by omega)
        obtain ⟨n, hs⟩ := sigN_some s0 s1
        obtain ⟨k, hk⟩ := (ev_Spend s0 s1 (by omega) (by omega) hB0 hB1 n hs).rounds
        have HC0 := Aside0.mk (Kd.C_of_reads (enc := Value.int .u8) (d := (0 : Int)) (h1 := fun _ => rfl) hR0)
        have HC1 := Aside0.mk (Kd.C_of_reads (enc := Value.int .u8) (d := (0 : Int)) (h1 := fun _ => rfl) hR1)
        have H := Aside0.mk (implSpend A0 s0 c0 A1 s1 c1 (fun k => k < w.heap.size) 0 w n (fun k hk => hk) (reads_V hR0 hc0) (reads_V hR1 hc1) (by omega) (by omega) hB0 hB1 hs)
        have HK := Aside0.mk hk
        have HL := Aside0.mk (And.intro hc0 hc1)
        clear hR0 hR1 hc0 hc1 hB0 hB1 hs hk hm0 hm1 hn
        go_enter Try.func4, Try.ntmps4
        go_wp2_with (first
          | (go_at_call 9; refine H.out.mono ?_; rintro e w1 ⟨rfl, hb⟩; have HB1 := Aside0.mk hb; clear hb)
          | (go_at_call 10; refine (spec_SpendSigOps.calls k A0 c0 s0 A1 c1 s1 n _ (Kd.C_below HC0.out HB1.out) HL.out.1 (Kd.C_below HC1.out HB1.out) HL.out.2 HK.out).mono ?_; rintro e w2 ⟨rfl, hb⟩; have HB2 := Aside0.mk (HB1.out.trans (hb.mono HB1.out.size)); clear hb))
        go_ret
        exact ⟨by simp, HB2.out⟩
      · have b5 : decide ((100000 : Int) < ((s0.length + s1.length : Nat) : Int)) = true := decide_eq_true (by omega)
        have b6 : decide (100000 < s0.length + s1.length) = true := decide_eq_true (by omega)
        have b7 : decide ((100000 : Int) < (s0.length : Int) + s1.length) = true := decide_eq_true (by omega)
        clear hR0 hc0 hB0 hR1 hc1 hB1 hm0 hm1 hn
        go_enter Try.func4, Try.ntmps4
        go_wp2
        go_ret
        exact ⟨rfl, Below.refl _ _⟩
    · have b3 : decide ((2147483647 : Int) < s1.length) = true := decide_eq_true (by omega)
      have b4 : decide (2147483647 < s1.length) = true := decide_eq_true (by omega)
      clear hR0 hc0 hB0 hR1 hc1 hB1 hm0 hm1
      go_enter Try.func4, Try.ntmps4
      go_wp2
      go_ret
      exact ⟨rfl, Below.refl _ _⟩
  · have b1 : decide ((2147483647 : Int) < s0.length) = true := decide_eq_true (by omega)
    have b2 : decide (2147483647 < s0.length) = true := decide_eq_true (by omega)
    clear hR0 hc0 hB0 hR1 hc1 hB1 hm0
    go_enter Try.func4, Try.ntmps4
    go_wp2
    go_ret
    exact ⟨rfl, Below.refl _ _⟩
end Go.Proofs.Ytfbkjkihcajmdab.Tok
