/- Scripts that push alone: the walk of the package's question. -/
import Derived.Test.YtnnegacjgpejdaaTok5
namespace Go.Proofs.Ytnnegacjgpejdaa.Tok
open Go.RowKit Go.Proofs.YtnnegacjgpejdaaW.PrintWords Go.Proofs.YtnnegacjgpejdaaW.PrintLast Go.Proofs.YtnnegacjgpejdaaW.PrintMore Go.Proofs.Ytnnegacjgpejdaa.QFnTokensJoined
set_option linter.unusedVariables false
set_option linter.unusedSimpArgs false
set_option maxRecDepth 100000 in
set_option maxHeartbeats 4000000 in
theorem nextEnd (g : Nat) (A : Option Addr) (n c i : Nat) (pos : Int) (op data : Value) (w : World) (hT : Tk w g A n c i pos op data .nilIface) (hn : n ≤ 1000000) (hi : n ≤ i) :
    Calls Try.prog 8 #[.pointer (some ⟨g, 0, none⟩)] w fun e w' => e = .returned (.bool false) ∧ Below w.heap.size w w' := by
  have HD := Aside0.mk (doneC g A n c i pos op data w (by omega) hT)
  rw [show decide ((n : Int) ≤ (i : Int)) = true from decide_eq_true (by omega)] at HD
  clear hT
  go_enter Try.func8, Try.ntmps8
  go_wp2_with (go_at_call 16; refine HD.out.mono ?_; rintro e w1 ⟨rfl, hb⟩; have HB1 := Aside0.mk hb; clear hb)
  go_ret
  exact ⟨rfl, HB1.out⟩
/-- The step, wherever the tokenizer stands. -/
theorem nextAny (g : Nat) (A : Option Addr) (s : List Int) (c i : Nat) (pos : Int) (op data : Value) (oks : Nat → Prop) (base : Nat) (w : World)
    (hok : ∀ k, oks k → k ≠ g) (hV : Kd.V (Kd.int .u8) 5 w base oks (.slice A s.length c) s) (hT : Tk w g A s.length c i pos op data .nilIface) (hn : s.length ≤ 1000000) (hB : ByteL s) :
    Calls Try.prog 8 #[.pointer (some ⟨g, 0, none⟩)] w fun e w' =>
      (s.length ≤ i ∧ e = .returned (.bool false) ∧ Tk w' g A s.length c i pos op data .nilIface ∧ Only g w w') ∨ (i < s.length ∧ ((∃ a d, dat s i = some (a, d) ∧ Step g A s c i oks base w a d e w') ∨ (dat s i = none ∧ Halt g A s c i w e w'))) := by
  rcases Nat.lt_or_ge i s.length with hi | hi
  · obtain ⟨ad, rfl, _⟩ := Kd.at_int (Kd.F_now (Kd.V_at hV).2.2) (0 : Int) (by omega) (by omega)
    refine (nextC g ad s c i pos op data oks base w hok hV hT hn hi hB).mono ?_
    intro e w' h
    exact Or.inr ⟨hi, h⟩
  · refine (nextEnd g A s.length c i pos op data w hT hn hi).mono ?_
    rintro e w' ⟨rfl, hb⟩
    exact Or.inl ⟨hi, rfl, hT.below hb, Only.of_below hb⟩
/-- Whether the tokens from i on push alone. -/
inductive Push (s : List Int) : Nat → Bool → Prop
  | done {i : Nat} : s.length ≤ i → Push s i true
  | bad {i : Nat} : i < s.length → dat s i = none → Push s i false
  | high {i a d : Nat} : i < s.length → dat s i = some (a, d) → 96 < s.getD i 0 → Push s i false
  | step {i a d : Nat} {r : Bool} : i < s.length → dat s i = some (a, d) → s.getD i 0 ≤ 96 → Push s (a + d) r → Push s i r
theorem push_total (s : List Int) : ∀ n i, s.length ≤ i + n → ∃ r, Push s i r
  | 0, i, h => ⟨true, .done (by omega)⟩
  | n + 1, i, h => by
    rcases Nat.lt_or_ge i s.length with hi | hi
    · rcases hd : dat s i with _ | ⟨a, d⟩
      · exact ⟨false, .bad hi hd⟩
      · obtain ⟨h1, h2⟩ := dat_le hi hd
        rcases Int.lt_or_le 96 (s.getD i 0) with hv | hv
        · exact ⟨false, .high hi hd hv⟩
        · obtain ⟨r, hr⟩ := push_total s n (a + d) (by omega)
          exact ⟨r, .step hi hd hv hr⟩
    · exact ⟨true, .done hi⟩
theorem push_done {s : List Int} {i : Nat} {r : Bool} (h : s.length ≤ i) (hp : Push s i r) : r = true := by
  cases hp with
  | done _ => rfl
  | bad h1 _ => omega
  | high h1 _ _ => omega
  | step h1 _ _ _ => omega
theorem push_bad {s : List Int} {i : Nat} {r : Bool} (h : i < s.length) (hd : dat s i = none) (hp : Push s i r) : r = false := by
  cases hp with
  | done _ => omega
  | bad h1 _ => rfl
  | high _ _ _ => rfl
  | step _ h2 _ _ => rw [hd] at h2; cases h2
theorem push_high {s : List Int} {i a d : Nat} {r : Bool} (h : i < s.length) (hd : dat s i = some (a, d)) (hv : 96 < s.getD i 0) (hp : Push s i r) : r = false := by
  cases hp with
  | done _ => omega
  | bad _ _ => rfl
  | high _ _ _ => rfl
  | step _ _ h3 _ => omega
theorem push_step {s : List Int} {i a d : Nat} {r : Bool} (h : i < s.length) (hd : dat s i = some (a, d)) (hv : s.getD i 0 ≤ 96) (hp : Push s i r) : Push s (a + d) r := by
  cases hp with
  | done _ => omega
  | bad _ h2 => rw [hd] at h2; cases h2
  | high _ _ h3 => omega
  | step _ h2 _ h4 => rw [hd] at h2; injection h2 with h2; injection h2 with h5 h6; subst h5; subst h6; exact h4
end Go.Proofs.Ytnnegacjgpejdaa.Tok
