/- Which scripts are programs: by their bytes, and by their tokens. -/
import Derived.Test.YtfbkjkihcajmdabTok7
namespace Go.Proofs.Ytfbkjkihcajmdab.Tok
open Go.RowKit Go.Proofs.YtfbkjkihcajmdabW.PrintWords Go.Proofs.YtfbkjkihcajmdabW.PrintLast Go.Proofs.YtfbkjkihcajmdabW.PrintMore Go.Proofs.Ytfbkjkihcajmdab.QFnProgram
set_option linter.unusedVariables false
set_option linter.unusedSimpArgs false
def Small (v : Int) : Prop := v = 0 ∨ (81 ≤ v ∧ v ≤ 96)
instance (v : Int) : Decidable (Small v) := by unfold Small; infer_instance
def smallNum (v : Int) : Int := if v = 0 then 0 else v - 80
/-- A small number, and a push of 2 to 40 bytes that fills the script. -/
def IsProg (s : List Int) : Prop := Small (s.getD 0 0) ∧ 2 ≤ s.getD 1 0 ∧ s.getD 1 0 ≤ 40 ∧ s.length = (s.getD 1 0).toNat + 2
instance (s : List Int) : Decidable (IsProg s) := by unfold IsProg; infer_instance
theorem dat_small {s : List Int} {i a d : Nat} (h : Small (s.getD i 0)) (hd : dat s i = some (a, d)) : a = i + 1 ∧ d = 0 := by
  unfold Small at h
  unfold dat at hd
  rw [if_neg (by omega), if_neg (by omega), if_neg (by omega), if_neg (by omega)] at hd
  injection hd with hd; injection hd with h1 h2
  exact ⟨h1.symm, h2.symm⟩
theorem dat_small_some {s : List Int} {i : Nat} (h : Small (s.getD i 0)) : dat s i = some (i + 1, 0) := by
  unfold Small at h
  unfold dat
  rw [if_neg (by omega), if_neg (by omega), if_neg (by omega), if_neg (by omega)]
theorem dat_push {s : List Int} {i : Nat} (h1 : 1 ≤ s.getD i 0) (h2 : s.getD i 0 < 76) : dat s i = if i + 1 + (s.getD i 0).toNat ≤ s.length then some (i + 1, (s.getD i 0).toNat) else none := by
  unfold dat
  rw [if_neg (by omega), if_neg (by omega), if_neg (by omega), if_pos ⟨h1, h2⟩]
theorem prog_toks {s : List Int} (hl : 4 ≤ s.length) (h : IsProg s) : Toks s 0 [⟨s.getD 0 0, [], 0⟩, ⟨s.getD 1 0, s.drop 2, 1⟩] (-1) := by
  obtain ⟨h1, h2, h3, h4⟩ := h
  have e0 : (⟨s.getD 0 0, [], 0⟩ : S34) = ⟨s.getD 0 0, (s.drop 1).take 0, ((0 : Nat) : Int)⟩ := by simp
  have e1 : (⟨s.getD 1 0, s.drop 2, 1⟩ : S34) = ⟨s.getD 1 0, (s.drop 2).take (s.getD 1 0).toNat, ((1 : Nat) : Int)⟩ := by
    rw [List.take_of_length_le (by rw [List.length_drop]; omega)]; rfl
  rw [e0, e1]
  refine .step (by omega) (dat_small_some h1) (.step (by omega) ?_ (.done ?_))
  · have e := dat_push (s := s) (i := 1) (by omega) (by omega)
    rw [if_pos (by omega)] at e
    exact e
  · omega
theorem toks_prog {s : List Int} (hl : 4 ≤ s.length) {t0 t1 : S34} {b : Int} (h : Toks s 0 [t0, t1] b) (hb : b < 0) (h0 : Small t0.f0) (h1 : 2 ≤ t1.f0) (h2 : t1.f0 ≤ 40) : IsProg s := by
  cases h with
  | step a1 a2 a3 =>
    obtain ⟨rfl, rfl⟩ := dat_small h0 a2
    cases a3 with
    | step b1 b2 b3 =>
      have e := dat_push (s := s) (i := 0 + 1 + 0) (show 1 ≤ s.getD (0 + 1 + 0) 0 by have : 2 ≤ s.getD (0 + 1 + 0) 0 := h1; omega) (show s.getD (0 + 1 + 0) 0 < 76 by have : s.getD (0 + 1 + 0) 0 ≤ 40 := h2; omega)
      rw [b2] at e
      split at e
      · injection e with e; injection e with e1 e2
        cases b3 with
        | done c1 => exact ⟨h0, h1, h2, by have : s.getD 1 0 = s.getD (0 + 1 + 0) 0 := rfl; omega⟩
        | bad c1 c2 => omega
      · cases e
theorem toks_len {s : List Int} (hn : s.length ≤ 1000000) : ∀ {i : Nat} {l : List S34} {b : Int}, Toks s i l b → ∀ t ∈ l, t.f1.length ≤ 1000000 := by
  intro i l b h
  induction h with
  | done _ => simp
  | bad _ _ => simp
  | step h1 h2 h3 ih =>
    intro t ht
    rcases List.mem_cons.1 ht with rfl | ht
    · show (List.take _ (List.drop _ s)).length ≤ _
      rw [List.length_take, List.length_drop]; omega
    · exact ih t ht
theorem isProg_len {s : List Int} (h : IsProg s) : 4 ≤ s.length ∧ s.length ≤ 42 := by
  obtain ⟨_, h2, h3, h4⟩ := h
  omega
theorem small_f {v : Int} (h : Small v) : spec_Small.f v = some (smallNum v, true) := by
  unfold Small at h
  unfold spec_Small.f smallNum
  by_cases h0 : v = 0
  · rw [if_pos h0, if_pos h0]
  · rw [if_neg h0, if_neg h0, if_pos (by omega), if_pos (by omega), show wrap64 (wrap64 (v - 81) + 1) = v - 80 by rw [tokW64 (x := v - 81) (by omega) (by omega), tokW64 (x := v - 81 + 1) (by omega) (by omega)]; omega]
theorem small_n {v : Int} (h : ¬ Small v) : spec_Small.f v = some (0, false) := by
  unfold Small at h
  unfold spec_Small.f
  rw [if_neg (by omega)]
  by_cases h1 : v ≥ 81
  · rw [if_pos h1, if_neg (by omega)]
  · rw [if_neg h1]
/-- What the reference says of a script. -/
theorem ev_Program (s : List Int) (hn : s.length ≤ 1000000) (hB : ByteL s) : ∃ r1 r2, Ev (fun k => spec_Program.f k s) (r1, r2, decide (IsProg s)) ∧ (IsProg s → r1 = smallNum (s.getD 0 0) ∧ r2 = s.drop 2) ∧ r2.length ≤ 1000000 := by
  by_cases hp : IsProg s
  · obtain ⟨l4, l42⟩ := isProg_len hp
    have ht := prog_toks l4 hp
    refine ⟨smallNum (s.getD 0 0), s.drop 2, ?_, fun _ => ⟨rfl, rfl⟩, by rw [List.length_drop]; omega⟩
    refine Ev.bind (ev_Tokens s hn hB ht (by simp)) ?_
    refine Ev.congr (f := fun _ => some (smallNum (s.getD 0 0), s.drop 2, decide (IsProg s))) (fun k => ?_) (Ev.now _)
    obtain ⟨h1, h2, h3, h4⟩ := hp
    have hp' : IsProg s := ⟨h1, h2, h3, h4⟩
    have e1 : (rd_T34 [⟨s.getD 0 0, [], 0⟩, ⟨s.getD 1 0, s.drop 2, 1⟩] 1) = (⟨s.getD 1 0, s.drop 2, 1⟩ : S34) := rfl
    have e0 : (rd_T34 [⟨s.getD 0 0, [], 0⟩, ⟨s.getD 1 0, s.drop 2, 1⟩] 0) = (⟨s.getD 0 0, [], 0⟩ : S34) := rfl
    simp only [e0, e1]
    rw [if_neg (by decide), if_pos (by simp), if_neg (by omega), if_neg (by omega), if_pos (by simp), if_neg (by omega), if_neg (by omega), if_pos (by simp), small_f h1, Option.bind_some, decide_eq_true hp']
  · obtain ⟨l, b, hl, hle⟩ := toks_total s s.length 0 (by omega)
    rw [decide_eq_false hp]
    have nope : ∃ r1 r2, (Ev (fun k => spec_Program.f k s) (r1, r2, false)) ∧ r2.length ≤ 1000000 := by
      have hev := ev_Tokens s hn hB hl (by omega)
      by_cases c1 : b ≥ 0
      · exact ⟨0, [], Ev.bind hev (Ev.congr (f := fun _ => some (0, [], false)) (fun k => by simp only []; rw [if_pos c1]) (Ev.now _)), by simp⟩
      by_cases c2 : (l.length : Int) = 2
      · by_cases c3 : (s.length : Int) < 4
        · exact ⟨0, [], Ev.bind hev (Ev.congr (f := fun _ => some (0, [], false)) (fun k => by simp only []; rw [if_neg c1, if_pos c2, if_pos c3]) (Ev.now _)), by simp⟩
        by_cases c4 : (s.length : Int) > 42
        · exact ⟨0, [], Ev.bind hev (Ev.congr (f := fun _ => some (0, [], false)) (fun k => by simp only []; rw [if_neg c1, if_pos c2, if_neg c3, if_pos c4]) (Ev.now _)), by simp⟩
        obtain ⟨t0, t1, rfl⟩ : ∃ t0 t1, l = [t0, t1] := by
          match l, c2 with
          | [t0, t1], _ => exact ⟨t0, t1, rfl⟩
          | [], h => simp at h
          | [_], h => simp at h
          | _ :: _ :: _ :: _, h => simp at h; omega
        have e1 : rd_T34 [t0, t1] 1 = t1 := rfl
        have e0 : rd_T34 [t0, t1] 0 = t0 := rfl
        by_cases c5 : t1.f0 < 2
        · exact ⟨0, [], Ev.bind hev (Ev.congr (f := fun _ => some (0, [], false)) (fun k => by simp only [e0, e1]; rw [if_neg c1, if_pos c2, if_neg c3, if_neg c4, if_pos (by simp), if_pos c5]) (Ev.now _)), by simp⟩
        by_cases c6 : t1.f0 > 40
        · exact ⟨0, [], Ev.bind hev (Ev.congr (f := fun _ => some (0, [], false)) (fun k => by simp only [e0, e1]; rw [if_neg c1, if_pos c2, if_neg c3, if_neg c4, if_pos (by simp), if_neg c5, if_pos c6]) (Ev.now _)), by simp⟩
        by_cases c7 : Small t0.f0
        · exact absurd (toks_prog (by omega) hl (by omega) c7 (by omega) (by omega)) hp
        · refine ⟨0, t1.f1, Ev.bind hev (Ev.congr (f := fun _ => some (0, t1.f1, false)) (fun k => by simp only [e0, e1]; rw [if_neg c1, if_pos c2, if_neg c3, if_neg c4, if_pos (by simp), if_neg c5, if_neg c6, if_pos (by simp), small_n c7, Option.bind_some]) (Ev.now _)), ?_⟩
          exact toks_len hn hl t1 (by simp)
      · exact ⟨0, [], Ev.bind hev (Ev.congr (f := fun _ => some (0, [], false)) (fun k => by simp only []; rw [if_neg c1, if_neg c2]) (Ev.now _)), by simp⟩
    obtain ⟨r1, r2, h, hr⟩ := nope
    exact ⟨r1, r2, h, fun h => absurd h hp, hr⟩
/-- Whether a push is as short as can be. -/
def canonR (v n : Int) (b : Bool) : Bool := if b = true then false else if v = 76 ∧ n < 76 then false else if v = 77 ∧ n ≤ 255 then false else if v = 78 ∧ n ≤ 65535 then false else true
theorem ev_j0 (v n : Int) (b : Bool) : Ev (fun k => btcdtxscript_isCanonicalPush.j0 k v n b) (canonR v n b) := by
  unfold canonR
  cases b with
  | true => exact Ev.step (f := fun _ => some false) (fun k => by rw [btcdtxscript_isCanonicalPush.j0, if_pos rfl]) (Ev.now _)
  | false =>
    rw [if_neg (by decide)]
    refine Ev.step (f := fun k => btcdtxscript_isCanonicalPush.j1 k v n (decide (v = 76 ∧ n < 76))) (fun k => ?_) ?_
    · rw [btcdtxscript_isCanonicalPush.j0, if_neg (by decide)]
      by_cases h : v = 76
      · rw [if_pos h]; simp [h]
      · rw [if_neg h]; simp [h]
    by_cases c1 : v = 76 ∧ n < 76
    · rw [if_pos c1, decide_eq_true c1]
      exact Ev.step (f := fun _ => some false) (fun k => by rw [btcdtxscript_isCanonicalPush.j1, if_pos rfl]) (Ev.now _)
    rw [if_neg c1, decide_eq_false c1]
    refine Ev.step (f := fun k => btcdtxscript_isCanonicalPush.j2 k v n (decide (v = 77 ∧ n ≤ 255))) (fun k => ?_) ?_
    · rw [btcdtxscript_isCanonicalPush.j1, if_neg (by decide)]
      by_cases h : v = 77
      · rw [if_pos h]; simp [h]
      · rw [if_neg h]; simp [h]
    by_cases c2 : v = 77 ∧ n ≤ 255
    · rw [if_pos c2, decide_eq_true c2]
      exact Ev.step (f := fun _ => some false) (fun k => by rw [btcdtxscript_isCanonicalPush.j2, if_pos rfl]) (Ev.now _)
    rw [if_neg c2, decide_eq_false c2]
    by_cases c3 : v = 78 ∧ n ≤ 65535
    · rw [if_pos c3]
      exact Ev.step (f := fun _ => some false) (fun k => by rw [btcdtxscript_isCanonicalPush.j2, if_neg (by decide), if_pos c3.1, if_pos c3.2]) (Ev.now _)
    · rw [if_neg c3]
      refine Ev.step (f := fun _ => some true) (fun k => ?_) (Ev.now _)
      rw [btcdtxscript_isCanonicalPush.j2, if_neg (by decide)]
      by_cases h : v = 78
      · rw [if_pos h, if_neg (fun h2 => c3 ⟨h, h2⟩)]
      · rw [if_neg h]
theorem ev_canon (v : Int) (l : List Int) : ∃ r, Ev (fun k => btcdtxscript_isCanonicalPush.f k v l) r ∧ (2 ≤ l.length → v < 76 → r = true) ∧ (v = 76 → l.length < 76 → r = false) ∧ (v = 77 → l.length ≤ 255 → r = false) ∧ (v = 78 → l.length ≤ 65535 → r = false) := by
  have key : ∀ b, ((∃ r, Ev (fun k => btcdtxscript_isCanonicalPush.j0 k v (l.length : Int) b) r ∧ (b = false → v < 76 → r = true) ∧ (v = 76 → l.length < 76 → r = false) ∧ (v = 77 → l.length ≤ 255 → r = false) ∧ (v = 78 → l.length ≤ 65535 → r = false))) := by
    intro b
    refine ⟨_, ev_j0 v l.length b, ?_, ?_, ?_, ?_⟩
    · intro h1 h2; unfold canonR; rw [h1, if_neg (by decide), if_neg (by omega), if_neg (by omega), if_neg (by omega)]
    · intro h1 h2; unfold canonR; split
      · rfl
      · rw [if_pos (by omega)]
    · intro h1 h2; unfold canonR; split
      · rfl
      · rw [if_neg (by omega), if_pos (by omega)]
    · intro h1 h2; unfold canonR; split
      · rfl
      · rw [if_neg (by omega), if_neg (by omega), if_pos (by omega)]
  by_cases c1 : v > 96
  · exact ⟨true, Ev.congr (f := fun _ => some true) (fun k => by unfold btcdtxscript_isCanonicalPush.f; rw [if_pos c1]) (Ev.now _), fun _ h => by omega, fun h _ => by omega, fun h _ => by omega, fun h _ => by omega⟩
  by_cases c2 : v < 76 ∧ v > 0 ∧ (l.length : Int) = 1
  · obtain ⟨r, hr, _, h2, h3, h4⟩ := key (decide (rd l 0 ≤ 16))
    refine ⟨r, Ev.congr (fun k => ?_) hr, fun h _ => by omega, h2, h3, h4⟩
    unfold btcdtxscript_isCanonicalPush.f
    rw [if_neg c1, if_pos c2.1, if_pos c2.2.1, if_pos c2.2.2, if_pos (by omega)]
  · obtain ⟨r, hr, h1, h2, h3, h4⟩ := key false
    refine ⟨r, Ev.congr (fun k => ?_) hr, fun _ => h1 rfl, h2, h3, h4⟩
    unfold btcdtxscript_isCanonicalPush.f
    rw [if_neg c1]
    by_cases d1 : v < 76
    · rw [if_pos d1]
      by_cases d2 : v > 0
      · rw [if_pos d2, if_neg (fun h => c2 ⟨d1, d2, h⟩)]
      · rw [if_neg d2]
    · rw [if_neg d1]
end Go.Proofs.Ytfbkjkihcajmdab.Tok
