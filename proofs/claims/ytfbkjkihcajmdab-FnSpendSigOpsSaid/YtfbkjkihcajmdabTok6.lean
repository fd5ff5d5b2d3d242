/- Scripts that push alone: the walk of the package's question. -/
import Derived.Test.YtfbkjkihcajmdabTok5
namespace Go.Proofs.Ytfbkjkihcajmdab.Tok
open Go.RowKit Go.Proofs.YtfbkjkihcajmdabW.PrintWords Go.Proofs.YtfbkjkihcajmdabW.PrintLast Go.Proofs.YtfbkjkihcajmdabW.PrintMore Go.Proofs.Ytfbkjkihcajmdab.QFnSpendSigOps
set_option linter.unusedVariables false
set_option linter.unusedSimpArgs false
set_option maxRecDepth 100000 in
set_option maxHeartbeats 4000000 in
theorem nextEnd (g : Nat) (A : Option Addr) (n c i : Nat) (pos : Int) (op data : Value) (w : World) (hT : Tk w g A n c i pos op data .nilIface) (hn : n ≤ 1000000) (hi : n ≤ i) :
    Calls Try.prog 31 #[.pointer (some ⟨g, 0, none⟩)] w fun e w' => e = .returned (.bool false) ∧ Below w.heap.size w w' := by
  have HD := Aside0.mk (doneC g A n c i pos op data w (by omega) hT)
  rw [show decide ((n : Int) ≤ (i : Int)) = true from decide_eq_true (by omega)] at HD
  clear hT
  go_enter Try.func31, Try.ntmps31
  go_wp2_with (go_at_call 37; refine HD.out.mono ?_; rintro e w1 ⟨rfl, hb⟩; have HB1 := Aside0.mk hb; clear hb)
  go_ret
  exact ⟨rfl, HB1.out⟩
/-- The step, wherever the tokenizer stands. -/
theorem nextAny (g : Nat) (A : Option Addr) (s : List Int) (c i : Nat) (pos : Int) (op data : Value) (oks : Nat → Prop) (base : Nat) (w : World)
    (hok : ∀ k, oks k → k ≠ g) (hV : Kd.V (Kd.int .u8) 5 w base oks (.slice A s.length c) s) (hT : Tk w g A s.length c i pos op data .nilIface) (hn : s.length ≤ 1000000) (hB : ByteL s) :
    Calls Try.prog 31 #[.pointer (some ⟨g, 0, none⟩)] w fun e w' =>
      (s.length ≤ i ∧ e = .returned (.bool false) ∧ Tk w' g A s.length c i pos op data .nilIface ∧ Only g w w') ∨ (i < s.length ∧ ((∃ a d, dat s i = some (a, d) ∧ Step g A s c i oks base w a d e w') ∨ (dat s i = none ∧ Halt g A s c i w e w'))) := by
  rcases Nat.lt_or_ge i s.length with hi | hi
  · obtain ⟨ad, rfl, _⟩ := Kd.at_int (Kd.F_now (Kd.V_at hV).2.2) (0 : Int) (by omega) (by omega)
    refine (nextC g ad s c i pos op data oks base w hok hV hT hn hi hB).mono ?_
    intro e w' h
    exact Or.inr ⟨hi, h⟩
  · refine (nextEnd g A s.length c i pos op data w hT hn hi).mono ?_
    rintro e w' ⟨rfl, hb⟩
    exact Or.inl ⟨hi, rfl, hT.below hb, Only.of_below hb⟩
/-- Whether the tokens from i on push alone. -/
inductive Push (s : List Int) : Nat → Bool → Prop
  | done {i : Nat} : s.length ≤ i → Push s i true
  | bad {i : Nat} : i < s.length → dat s i = none → Push s i false
  | high {i a d : Nat} : i < s.length → dat s i = some (a, d) → 96 < s.getD i 0 → Push s i false
  | step {i a d : Nat} {r : Bool} : i < s.length → dat s i = some (a, d) → s.getD i 0 ≤ 96 → Push s (a + d) r → Push s i r
theorem push_total (s : List Int) : ∀ n i, s.length ≤ i + n → ∃ r, Push s i r
  | 0, i, h => ⟨true, .done (by omega)⟩
  | n + 1, i, h => by
    rcases Nat.lt_or_ge i s.length with hi | hi
    · rcases hd : dat s i with _ | ⟨a, d⟩
      · exact ⟨false, .bad hi hd⟩
      · obtain ⟨h1, h2⟩ := dat_le hi hd
        rcases Int.lt_or_le 96 (s.getD i 0) with hv | hv
        · exact ⟨false, .high hi hd hv⟩
        · obtain ⟨r, hr⟩ := push_total s n (a + d) (by omega)
          exact ⟨r, .step hi hd hv hr⟩
    · exact ⟨true, .done hi⟩
theorem push_done {s : List Int} {i : Nat} {r : Bool} (h : s.length ≤ i) (hp : Push s i r) : r = true := by
  cases hp with
  | done _ => rfl
  | bad h1 _ => omega
  | high h1 _ _ => omega
  | step h1 _ _ _ => omega
theorem push_bad {s : List Int} {i : Nat} {r : Bool} (h : i < s.length) (hd : dat s i = none) (hp : Push s i r) : r = false := by
  cases hp with
  | done _ => omega
  | bad h1 _ => rfl
  | high _ _ _ => rfl
  | step _ h2 _ _ => rw [hd] at h2; cases h2
theorem push_high {s : List Int} {i a d : Nat} {r : Bool} (h : i < s.length) (hd : dat s i = some (a, d)) (hv : 96 < s.getD i 0) (hp : Push s i r) : r = false := by
  cases hp with
  | done _ => omega
  | bad _ _ => rfl
  | high _ _ _ => rfl
  | step _ _ h3 _ => omega
theorem push_step {s : List Int} {i a d : Nat} {r : Bool} (h : i < s.length) (hd : dat s i = some (a, d)) (hv : s.getD i 0 ≤ 96) (hp : Push s i r) : Push s (a + d) r := by
  cases hp with
  | done _ => omega
  | bad _ h2 => rw [hd] at h2; cases h2
  | high _ _ h3 => omega
  | step _ h2 _ h4 => rw [hd] at h2; injection h2 with h2; injection h2 with h5 h6; subst h5; subst h6; exact h4
set_option maxRecDepth 100000 in
set_option maxHeartbeats 8000000 in
theorem isPushC (A : Option Addr) (s : List Int) (c : Nat) (oks : Nat → Prop) (base : Nat) (w : World) (r : Bool)
    (hok : ∀ k, oks k → k < w.heap.size) (hV : Kd.V (Kd.int .u8) 5 w base oks (.slice A s.length c) s) (hn : s.length ≤ 1000000) (hB : ByteL s) (hr : Push s 0 r) :
    Calls Try.prog 27 #[.slice A s.length c] w fun e w' => e = .returned (.bool r) ∧ Below w.heap.size w w' := by
  have HV := Aside0.mk hV
  have HOK := Aside0.mk hok
  have HB := Aside0.mk hB
  have HR := Aside0.mk hr
  clear hV hok hB hr
  go_enter Try.func27, Try.ntmps27
  go_wp2_with (go_at_call 30; refine (makeC A s.length c _).mono ?_; rintro e w1 ⟨rfl, hb⟩; have HB1 := Aside0.mk hb; clear hb)
  obtain ⟨g, hg⟩ : ∃ g, w1.heap.size = g := ⟨_, rfl⟩
  obtain ⟨w2, hw2⟩ : ∃ w2, w1.alloc (.cells #[.slice A s.length c, .int .u16 0, .int .i32 0, .int .i32 (-1), .pointer none, .slice none 0 0, .nilIface] 57) = w2 := ⟨_, rfl⟩
  have HT2 : Aside0 (Tk w2 g A s.length c ((0 : Nat) : Int) (-1) (.pointer none) (.slice none 0 0) .nilIface) := ⟨by rw [← hw2, ← hg]; exact heap_alloc_new w1 _⟩
  have HB2 : Aside0 (Below w.heap.size w w2) := ⟨by rw [← hw2]; exact HB1.out.alloc HB1.out.size _⟩
  have HG : Aside0 (w.heap.size ≤ g) := ⟨by rw [← hg]; exact HB1.out.size⟩
  have HV2 : Aside0 (Kd.V (Kd.int .u8) 5 w2 base oks (.slice A s.length c) s) := ⟨by rw [← hw2]; exact Kd.V_alloc (Kd.V_step HV.out (fun k hk hlt => HB1.out.block k hlt)) _⟩
  have HOK2 : Aside0 (∀ k, oks k → k ≠ g) := ⟨fun k hk => by have := HOK.out k hk; have := HG.out; omega⟩
  rw [hg, hw2]
  clear hg hw2 HB1
  go_loopg [] (s.length + 1) (fun kq w' => ∃ (i : Nat) (pos : Int) (op data : Value), Aside0 (s.length + 1 ≤ i + kq) ∧ Aside0 (Push s i r) ∧ Aside0 (Tk w' g A s.length c i pos op data .nilIface) ∧ Aside0 (Kd.V (Kd.int .u8) 5 w' base oks (.slice A s.length c) s) ∧ Aside0 (Below w.heap.size w w'))
  case atStart => exact ⟨0, -1, .pointer none, .slice none 0 0, ⟨by omega⟩, HR, HT2, HV2, HB2⟩
  case round =>
    clear HT2 HV2 HB2 HR
    obtain ⟨i, pos, op, data, HK, HR, HT, HVi, HBi⟩ := hrel
    go_wp2_with (first
      | (go_at_call 31; refine (nextAny g A s c i pos op data oks base _ HOK2.out HVi.out HT.out hn HB.out).mono ?_; rintro e w5 (⟨h1, rfl, h2, h3⟩ | ⟨hi, (⟨a, d, hd, rfl, pos', o, dv, nm, ol, r1, r2, r3, r4, r5⟩ | ⟨hd, rfl, pos', op', data', x, r1, r2⟩)⟩); all_goals (first
           | (have HT5 := Aside0.mk h2; have HN5 := Aside0.mk h3; have C1 := Aside0.mk h1; clear h1 h2 h3)
           | (have HV5 := Aside0.mk r4; have HT5 := Aside0.mk r1; have HN5 := Aside0.mk r5; have C2 := Aside0.mk (And.intro hi hd); clear r1 r5 hi hd r4 r3; obtain ⟨v, hgv⟩ : ∃ v, s.getD i 0 = v := ⟨_, rfl⟩; rw [hgv] at r2; have HO5 := Aside0.mk r2; have HGV := Aside0.mk hgv; clear r2 hgv; rcases Int.lt_or_le 96 v with hv | hv)
           | (have HT5 := Aside0.mk r1; have HN5 := Aside0.mk r2; have C3 := Aside0.mk (And.intro hi hd); clear r1 r2 hi hd)))
      | (go_at_call 33; refine (opC g o A s.length c _ _ _ _ nm _ _ _ HT5.out HO5.out).mono ?_; rintro e w6 ⟨rfl, rfl⟩)
      | (go_at_call 38; refine (getErrC g A s.length c _ _ _ _ _ _ HT5.out).mono ?_; rintro e w6 ⟨rfl, rfl⟩))
    · go_ret
      exact ⟨by rw [push_done C1.out HR.out]; rfl, HN5.out.below HBi.out HG.out HBi.out.size⟩
    · go_ret
      exact ⟨by rw [push_high C2.out.1 C2.out.2 (by rw [HGV.out]; exact hv) HR.out]; rfl, HN5.out.below HBi.out HG.out HBi.out.size⟩
    · go_roundg (gk - 1)
      case measure => have := HK.out; have := C2.out.1; omega
      case rel =>
        obtain ⟨k1, k2⟩ := dat_le C2.out.1 C2.out.2
        exact ⟨a + d, pos', _, dv, ⟨by have := HK.out; have := C2.out.1; omega⟩, ⟨push_step C2.out.1 C2.out.2 (by rw [HGV.out]; exact hv) HR.out⟩, HT5, ⟨Kd.V_only HVi.out HN5.out HOK2.out⟩, ⟨HN5.out.below HBi.out HG.out HBi.out.size⟩⟩
    · go_ret
      exact ⟨by rw [push_bad C3.out.1 C3.out.2 HR.out]; rfl, HN5.out.below HBi.out HG.out HBi.out.size⟩
end Go.Proofs.Ytfbkjkihcajmdab.Tok
