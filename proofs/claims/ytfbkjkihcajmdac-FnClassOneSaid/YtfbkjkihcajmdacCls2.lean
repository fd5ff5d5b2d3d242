/- Scripts of many signatures, and scripts that hold data: what the package's functions say of them. -/
import Derived.Test.YtfbkjkihcajmdacCls1
namespace Go.Proofs.Ytfbkjkihcajmdac.Tok
open Go.RowKit Go.Proofs.YtfbkjkihcajmdacW.PrintWords Go.Proofs.YtfbkjkihcajmdacW.PrintLast Go.Proofs.YtfbkjkihcajmdacW.PrintMore Go.Proofs.Ytfbkjkihcajmdac.QFnClasses
set_option linter.unusedVariables false
set_option linter.unusedSimpArgs false
set_option maxRecDepth 100000 in
set_option maxHeartbeats 4000000 in
theorem doneErrC (g : Nat) (A : Option Addr) (n c : Nat) (off pos : Int) (op data x : Value) (w : World) (h : Tk w g A n c off pos op data (.iface 67 x)) :
    Calls Try.prog 50 #[.pointer (some ⟨g, 0, none⟩)] w fun e w' => e = .returned (.bool true) ∧ Below w.heap.size w w' := by
  have HS := Aside0.mk (cell_of (w := w.drew) h (j := 6) (v := .iface 67 x) rfl)
  clear h
  go_enter Try.func50, Try.ntmps50
  go_wp2
  refine start_ (n := 19) (S := fun w' => w'.cell? ⟨g, 6, none⟩ = some (.iface 67 x)) (ds := []) #[false, false, false, false, false, false, false, false, false, false, false, false, false, false, false, false, false, false, false] (by kernel_rfl) rfl rfl HS.out (fun hHeld => ?_)
  refine pure_ (i := 0) (N := some 3) (v := ?_) (a' := ?_) #[true, false, false, false, false, false, false, false, false, false, false, false, false, false, false, false, false, false, false] rfl rfl (by kernel_rfl) (fun _ _ _ h => h) (Or.inl ⟨by rfl, ?_⟩) ?_ ?_
  rotate_left
  · intro w'
    go_simp
    with_reducible rfl
  rotate_left
  · simp only [Act.put, List.setIfInBounds_toArray, List.set_cons_zero, List.set_cons_succ, i64_w, i32_w]
    rfl
  refine pure_ (i := 1) (N := some 4) (v := ?_) (a' := ?_) #[true, true, false, false, false, false, false, false, false, false, false, false, false, false, false, false, false, false, false] rfl rfl (by kernel_rfl) (fun _ _ _ h => h) (Or.inl ⟨by rfl, ?_⟩) ?_ ?_
  rotate_left
  · intro w'
    go_simp
    with_reducible rfl
  rotate_left
  · simp only [Act.put, List.setIfInBounds_toArray, List.set_cons_zero, List.set_cons_succ, i64_w, i32_w]
    rfl
  refine pure_ (i := 2) (N := some 5) (v := ?_) (a' := ?_) #[true, true, true, false, false, false, false, false, false, false, false, false, false, false, false, false, false, false, false] rfl rfl (by kernel_rfl) (fun _ _ _ h => h) (Or.inl ⟨by rfl, ?_⟩) ?_ ?_
  rotate_left
  · intro w'
    go_simp
    with_reducible rfl
  rotate_left
  · simp only [Act.put, List.setIfInBounds_toArray, List.set_cons_zero, List.set_cons_succ, i64_w, i32_w]
    rfl
  refine take_ (i := 3) (N := some 6) (v := ?_) (a' := ?_) #[true, true, true, true, false, false, false, false, false, false, false, false, false, false, false, false, false, false, false] rfl rfl (by kernel_rfl) (fun _ _ _ h => h) (Or.inl ⟨by rfl, ?_⟩) hHeld ?_ ?_
  rotate_left
  · rintro w' s0
    go_simp
    with_reducible rfl
  rotate_left
  · simp only [Act.put, List.setIfInBounds_toArray, List.set_cons_zero, List.set_cons_succ, i64_w, i32_w]
    rfl
  refine pure_ (i := 4) (N := some 7) (v := ?_) (a' := ?_) #[true, true, true, true, true, false, false, false, false, false, false, false, false, false, false, false, false, false, false] rfl rfl (by kernel_rfl) (fun _ _ _ h => h) (Or.inl ⟨by rfl, ?_⟩) ?_ ?_
  rotate_left
  · intro w'
    go_simp
    with_reducible rfl
  rotate_left
  · simp only [Act.put, List.setIfInBounds_toArray, List.set_cons_zero, List.set_cons_succ, i64_w, i32_w]
    rfl
  refine pure_ (i := 5) (N := some 8) (v := ?_) (a' := ?_) #[true, true, true, true, true, true, false, false, false, false, false, false, false, false, false, false, false, false, false] rfl rfl (by kernel_rfl) (fun _ _ _ h => h) (Or.inl ⟨by rfl, ?_⟩) ?_ ?_
  rotate_left
  · intro w'
    go_simp
    with_reducible rfl
  rotate_left
  · simp only [Act.put, List.setIfInBounds_toArray, List.set_cons_zero, List.set_cons_succ, i64_w, i32_w]
    rfl
  refine pure_ (i := 6) (N := some 9) (v := undef) (a' := ?_) #[true, true, true, true, true, true, true, false, false, false, false, false, false, false, false, false, false, false, false] rfl rfl (by kernel_rfl) (fun _ _ _ h => h) (Or.inr ⟨by rfl, rfl⟩) ?_ ?_
  rotate_left
  · simp only [Act.put, List.setIfInBounds_toArray, List.set_cons_zero, List.set_cons_succ, i64_w, i32_w]
    rfl
  refine pure_ (i := 7) (N := some 10) (v := undef) (a' := ?_) #[true, true, true, true, true, true, true, true, false, false, false, false, false, false, false, false, false, false, false] rfl rfl (by kernel_rfl) (fun _ _ _ h => h) (Or.inr ⟨by rfl, rfl⟩) ?_ ?_
  rotate_left
  · simp only [Act.put, List.setIfInBounds_toArray, List.set_cons_zero, List.set_cons_succ, i64_w, i32_w]
    rfl
  refine pure_ (i := 8) (N := some 11) (v := undef) (a' := ?_) #[true, true, true, true, true, true, true, true, true, false, false, false, false, false, false, false, false, false, false] rfl rfl (by kernel_rfl) (fun _ _ _ h => h) (Or.inr ⟨by rfl, rfl⟩) ?_ ?_
  rotate_left
  · simp only [Act.put, List.setIfInBounds_toArray, List.set_cons_zero, List.set_cons_succ, i64_w, i32_w]
    rfl
  refine pure_ (i := 9) (N := some 12) (v := undef) (a' := ?_) #[true, true, true, true, true, true, true, true, true, true, false, false, false, false, false, false, false, false, false] rfl rfl (by kernel_rfl) (fun _ _ _ h => h) (Or.inr ⟨by rfl, rfl⟩) ?_ ?_
  rotate_left
  · simp only [Act.put, List.setIfInBounds_toArray, List.set_cons_zero, List.set_cons_succ, i64_w, i32_w]
    rfl
  refine pure_ (i := 10) (N := some 13) (v := undef) (a' := ?_) #[true, true, true, true, true, true, true, true, true, true, true, false, false, false, false, false, false, false, false] rfl rfl (by kernel_rfl) (fun _ _ _ h => h) (Or.inr ⟨by rfl, rfl⟩) ?_ ?_
  rotate_left
  · simp only [Act.put, List.setIfInBounds_toArray, List.set_cons_zero, List.set_cons_succ, i64_w, i32_w]
    rfl
  refine pure_ (i := 11) (N := some 14) (v := undef) (a' := ?_) #[true, true, true, true, true, true, true, true, true, true, true, true, false, false, false, false, false, false, false] rfl rfl (by kernel_rfl) (fun _ _ _ h => h) (Or.inr ⟨by rfl, rfl⟩) ?_ ?_
  rotate_left
  · simp only [Act.put, List.setIfInBounds_toArray, List.set_cons_zero, List.set_cons_succ, i64_w, i32_w]
    rfl
  refine pure_ (i := 12) (N := some 15) (v := undef) (a' := ?_) #[true, true, true, true, true, true, true, true, true, true, true, true, true, false, false, false, false, false, false] rfl rfl (by kernel_rfl) (fun _ _ _ h => h) (Or.inr ⟨by rfl, rfl⟩) ?_ ?_
  rotate_left
  · simp only [Act.put, List.setIfInBounds_toArray, List.set_cons_zero, List.set_cons_succ, i64_w, i32_w]
    rfl
  refine pure_ (i := 13) (N := some 16) (v := undef) (a' := ?_) #[true, true, true, true, true, true, true, true, true, true, true, true, true, true, false, false, false, false, false] rfl rfl (by kernel_rfl) (fun _ _ _ h => h) (Or.inr ⟨by rfl, rfl⟩) ?_ ?_
  rotate_left
  · simp only [Act.put, List.setIfInBounds_toArray, List.set_cons_zero, List.set_cons_succ, i64_w, i32_w]
    rfl
  refine pure_ (i := 14) (N := some 17) (v := undef) (a' := ?_) #[true, true, true, true, true, true, true, true, true, true, true, true, true, true, true, false, false, false, false] rfl rfl (by kernel_rfl) (fun _ _ _ h => h) (Or.inr ⟨by rfl, rfl⟩) ?_ ?_
  rotate_left
  · simp only [Act.put, List.setIfInBounds_toArray, List.set_cons_zero, List.set_cons_succ, i64_w, i32_w]
    rfl
  refine pure_ (i := 15) (N := some 18) (v := undef) (a' := ?_) #[true, true, true, true, true, true, true, true, true, true, true, true, true, true, true, true, false, false, false] rfl rfl (by kernel_rfl) (fun _ _ _ h => h) (Or.inr ⟨by rfl, rfl⟩) ?_ ?_
  rotate_left
  · simp only [Act.put, List.setIfInBounds_toArray, List.set_cons_zero, List.set_cons_succ, i64_w, i32_w]
    rfl
  refine pure_ (i := 16) (N := some 19) (v := undef) (a' := ?_) #[true, true, true, true, true, true, true, true, true, true, true, true, true, true, true, true, true, false, false] rfl rfl (by kernel_rfl) (fun _ _ _ h => h) (Or.inr ⟨by rfl, rfl⟩) ?_ ?_
  rotate_left
  · simp only [Act.put, List.setIfInBounds_toArray, List.set_cons_zero, List.set_cons_succ, i64_w, i32_w]
    rfl
  refine pure_ (i := 17) (N := some 20) (v := ?_) (a' := ?_) #[true, true, true, true, true, true, true, true, true, true, true, true, true, true, true, true, true, true, false] rfl rfl (by kernel_rfl) (fun _ _ _ h => h) (Or.inl ⟨by rfl, ?_⟩) ?_ ?_
  rotate_left
  · intro w'
    go_simp
    with_reducible rfl
  rotate_left
  · simp only [Act.put, List.setIfInBounds_toArray, List.set_cons_zero, List.set_cons_succ, i64_w, i32_w]
    rfl
  refine pure_ (i := 18) (N := some 2) (v := ?_) (a' := ?_) #[true, true, true, true, true, true, true, true, true, true, true, true, true, true, true, true, true, true, true] rfl rfl (by kernel_rfl) (fun _ _ _ h => h) (Or.inl ⟨by rfl, ?_⟩) ?_ ?_
  rotate_left
  · intro w'
    go_simp
    with_reducible rfl
  rotate_left
  · simp only [Act.put, List.setIfInBounds_toArray, List.set_cons_zero, List.set_cons_succ, i64_w, i32_w]
    rfl
  refine done_ (by kernel_rfl) ?_
  go_wp2
  go_ret
  exact ⟨rfl, (Below.refl _ _).drew⟩
theorem dataC (g : Nat) (A : Option Addr) (n c : Nat) (off pos : Int) (op data err : Value) (w : World) (h : Tk w g A n c off pos op data err) :
    Calls Try.prog 53 #[.pointer (some ⟨g, 0, none⟩)] w fun e w' => e = .returned data ∧ w' = w := by
  have h1 := cell_of h (j := 5) (v := data) rfl
  go_enter Try.func53, Try.ntmps53
  go_wp2
  go_ret
  exact ⟨rfl, rfl⟩
def Small (v : Int) : Prop := v = 0 ∨ (81 ≤ v ∧ v ≤ 96)
instance (v : Int) : Decidable (Small v) := by unfold Small; infer_instance
def smallNum (v : Int) : Int := if v = 0 then 0 else v - 80
theorem dat_small {s : List Int} {i a d : Nat} (h : Small (s.getD i 0)) (hd : dat s i = some (a, d)) : a = i + 1 ∧ d = 0 := by
  unfold Small at h
  unfold dat at hd
  rw [if_neg (by omega), if_neg (by omega), if_neg (by omega), if_neg (by omega)] at hd
  injection hd with hd; injection hd with h1 h2
  exact ⟨h1.symm, h2.symm⟩
theorem dat_small_some {s : List Int} {i : Nat} (h : Small (s.getD i 0)) : dat s i = some (i + 1, 0) := by
  unfold Small at h
  unfold dat
  rw [if_neg (by omega), if_neg (by omega), if_neg (by omega), if_neg (by omega)]
theorem isSmall_t {v : Int} (h : Small v) : btcdtxscript_IsSmallInt.f v = some true := by
  unfold Small at h
  unfold btcdtxscript_IsSmallInt.f
  by_cases h0 : v = 0
  · rw [if_pos h0]
  · rw [if_neg h0, if_pos (by omega), decide_eq_true (by omega)]
theorem isSmall_f {v : Int} (h : ¬ Small v) : btcdtxscript_IsSmallInt.f v = some false := by
  unfold Small at h
  unfold btcdtxscript_IsSmallInt.f
  rw [if_neg (by omega)]
  by_cases h1 : v ≥ 81
  · rw [if_pos h1, decide_eq_false (by omega)]
  · rw [if_neg h1]
theorem asSmall {v : Int} (h : Small v) : btcdtxscript_AsSmallInt.f v = some (smallNum v) := by
  unfold Small at h
  unfold btcdtxscript_AsSmallInt.f smallNum
  by_cases h0 : v = 0
  · rw [if_pos h0, if_pos h0]
  · rw [if_neg h0, if_neg h0]; congr 1; omega
theorem heapN_ (w : World) (m : Nat) : (w.drewN m).heap = w.heap := by
  first | rfl | (induction m with | zero => rfl | succ m ih => simpa using ih)
theorem heapN {w : World} {o : Nat} {x : Obj} (h : w.heap[o]? = some x) (m : Nat) : (w.drewN m).heap[o]? = some x := by rw [heapN_]; exact h
theorem Tk.drewN {w : World} {g : Nat} {A : Option Addr} {n c : Nat} {off pos : Int} {op data err : Value} (h : Tk w g A n c off pos op data err) (m : Nat) : Tk (w.drewN m) g A n c off pos op data err := heapN h m
theorem toks_inv {s : List Int} {i a d : Nat} {l : List S36} {b : Int} (hi : i < s.length) (hd : dat s i = some (a, d)) (h : Toks s i l b) : ∃ l', l = ⟨s.getD i 0, (s.drop a).take d, i⟩ :: l' ∧ Toks s (a + d) l' b := by
  cases h with
  | done _ => omega
  | bad _ h2 => rw [hd] at h2; cases h2
  | step _ h2 h3 => rw [hd] at h2; injection h2 with h2; injection h2 with h5 h6; subst h5; subst h6; exact ⟨_, rfl, h3⟩
theorem toks_end {s : List Int} {i : Nat} {l : List S36} {b : Int} (hi : s.length ≤ i) (h : Toks s i l b) : l = [] ∧ b = -1 := by
  cases h with
  | done _ => exact ⟨rfl, rfl⟩
  | bad h1 _ => omega
  | step h1 _ _ => omega
theorem toks_halt {s : List Int} {i : Nat} {l : List S36} {b : Int} (hi : i < s.length) (hd : dat s i = none) (h : Toks s i l b) : l = [] ∧ b = i := by
  cases h with
  | done _ => omega
  | bad _ _ => exact ⟨rfl, rfl⟩
  | step _ h2 _ => rw [hd] at h2; cases h2
theorem i64w {x : Int} (h0 : 0 ≤ x) (h1 : x ≤ 9223372036854775807) : IntKind.i64.wrap x = x := by
  rw [i64_w]; exact tokW64 h0 h1
theorem scriptC (g : Nat) (A : Option Addr) (n c : Nat) (off pos : Int) (op data err : Value) (w : World) (h : Tk w g A n c off pos op data err) :
    Calls Try.prog 64 #[.pointer (some ⟨g, 0, none⟩)] w fun e w' => e = .returned (.slice A n c) ∧ w' = w := by
  have h1 := cell_of h (j := 0) (v := .slice A n c) rfl
  go_enter Try.func64, Try.ntmps64
  go_wp2
  go_ret
  exact ⟨rfl, rfl⟩
theorem byteIndexC (g : Nat) (A : Option Addr) (n c : Nat) (off pos : Int) (op data err : Value) (w : World) (h : Tk w g A n c off pos op data err) :
    Calls Try.prog 65 #[.pointer (some ⟨g, 0, none⟩)] w fun e w' => e = .returned (.int .i32 off) ∧ w' = w := by
  have h1 := cell_of h (j := 2) (v := .int .i32 off) rfl
  go_enter Try.func65, Try.ntmps65
  go_wp2
  go_ret
  exact ⟨rfl, rfl⟩
/-- A script that holds data: by its bytes. -/
def NullP (s : List Int) : Prop := 1 ≤ s.length ∧ s.getD 0 0 = 106 ∧ (s.length = 1 ∨ ∃ a d, 1 < s.length ∧ dat s 1 = some (a, d) ∧ a + d = s.length ∧ (Small (s.getD 1 0) ∨ s.getD 1 0 ≤ 78) ∧ d ≤ 80)
theorem dat_shift (s : List Int) (h : 1 < s.length) : dat s 1 = (dat (s.drop 1) 0).map (fun p => (p.1 + 1, p.2)) := by
  have hl : (s.drop 1).length = s.length - 1 := by rw [List.length_drop]
  have g : ∀ j, (s.drop 1).getD j 0 = s.getD (1 + j) 0 := fun j => getD_drop s 1 j
  have w2 : word2 (s.drop 1) 0 = word2 s 1 := by unfold word2; rw [g, g]
  have w4 : word4 (s.drop 1) 0 = word4 s 1 := by unfold word4; rw [g, g, g, g]
  unfold dat
  rw [w2, w4, g, g, hl, show 1 + 0 = 1 from rfl, show 1 + (0 + 1 + 0) = 1 + 1 + 0 from rfl]
  by_cases h1 : s.getD 1 0 = 76
  · rw [if_pos h1, if_pos h1]
    by_cases q : 1 + 2 ≤ s.length ∧ 1 + 2 + (s.getD (1 + 1 + 0) 0).toNat ≤ s.length
    · rw [if_pos q, if_pos (by omega)]; rfl
    · rw [if_neg q, if_neg (by omega)]; rfl
  rw [if_neg h1, if_neg h1]
  by_cases h2 : s.getD 1 0 = 77
  · rw [if_pos h2, if_pos h2]
    by_cases q : 1 + 3 ≤ s.length ∧ 1 + 3 + (word2 s 1).toNat ≤ s.length
    · rw [if_pos q, if_pos (by omega)]; rfl
    · rw [if_neg q, if_neg (by omega)]; rfl
  rw [if_neg h2, if_neg h2]
  by_cases h3 : s.getD 1 0 = 78
  · rw [if_pos h3, if_pos h3]
    by_cases q : 1 + 5 ≤ s.length ∧ 1 + 5 + (word4 s 1).toNat ≤ s.length
    · rw [if_pos q, if_pos (by omega)]; rfl
    · rw [if_neg q, if_neg (by omega)]; rfl
  rw [if_neg h3, if_neg h3]
  by_cases h4 : 1 ≤ s.getD 1 0 ∧ s.getD 1 0 < 76
  · rw [if_pos h4, if_pos h4]
    by_cases q : 1 + 1 + (s.getD 1 0).toNat ≤ s.length
    · rw [if_pos q, if_pos (by omega)]; rfl
    · rw [if_neg q, if_neg (by omega)]; rfl
  rw [if_neg h4, if_neg h4]; rfl
set_option maxRecDepth 100000 in
set_option maxHeartbeats 8000000 in
theorem nullC (A : Option Addr) (s : List Int) (c : Nat) (oks : Nat → Prop) (base : Nat) (w : World)
    (hok : ∀ k, oks k → k < w.heap.size) (hV : Kd.V (Kd.int .u8) 5 w base oks (.slice A s.length c) s) (hn : s.length ≤ 1000000) (hB : ByteL s) :
    Calls Try.prog 38 #[.int .u16 0, .slice A s.length c] w fun e w' => ∃ b, e = .returned (.bool b) ∧ (b = true ↔ NullP s) ∧ Below w.heap.size w w' := by
  have HV := Aside0.mk hV
  have HOK := Aside0.mk hok
  have HB := Aside0.mk hB
  by_cases h0 : s.length < 1
  · have b1 : decide ((s.length : Int) < 1) = true := decide_eq_true (by omega)
    have b2 : decide (s.length < 1) = true := decide_eq_true h0
    have b3 : s.length = 0 := by omega
    have HNO : Aside0 (¬ NullP s) := ⟨fun h => by have := h.1; omega⟩
    clear hV hok hB
    go_enter Try.func38, Try.ntmps38
    go_wp2
    go_ret
    exact ⟨false, rfl, ⟨fun h => (by cases h), fun h => absurd h HNO.out⟩, Below.refl _ _⟩
  have b1 : decide ((s.length : Int) < 1) = false := decide_eq_false (by omega)
  have b2 : decide (s.length < 1) = false := decide_eq_false h0
  obtain ⟨ad, rfl, k0⟩ := Kd.at_int (Kd.F_now (Kd.V_at hV).2.2) (0 : Int) (by omega) (by omega)
  rw [show rd s 0 = s.getD 0 0 from rd_nat s 0] at k0
  obtain ⟨v0, hv0⟩ : ∃ v, s.getD 0 0 = v := ⟨_, rfl⟩
  rw [hv0] at k0
  have k0 : w.cell? ad = some (.int .u8 v0) := by have h := k0; rwa [show ad.add (Int.toNat 0) = ad from add_zero_ ad] at h
  have b4 : 0 < s.length := by omega
  have b5 : (0 : Int) < s.length := by omega
  rcases Classical.em (v0 = 106) with q0 | q0
  rotate_left
  · have HNO : Aside0 (¬ NullP s) := ⟨fun h => q0 (by rw [← hv0]; exact h.2.1)⟩
    have d0 : decide (v0 = 106) = false := decide_eq_false q0
    clear hV hok hB hv0
    go_enter Try.func38, Try.ntmps38
    go_wp2
    go_ret
    exact ⟨false, rfl, ⟨fun h => (by cases h), fun h => absurd h HNO.out⟩, Below.refl _ _⟩
  subst q0
  by_cases h1 : s.length = 1
  · have HYES : Aside0 (NullP s) := ⟨⟨by omega, hv0, Or.inl h1⟩⟩
    have b6 : (s.length : Int) = 1 := by omega
    have b7 : decide ((s.length : Int) = 1) = true := decide_eq_true b6
    clear hV hok hB hv0
    go_enter Try.func38, Try.ntmps38
    go_wp2
    go_ret
    exact ⟨true, rfl, ⟨fun _ => HYES.out, fun _ => rfl⟩, Below.refl _ _⟩
  have b6 : ¬ (s.length : Int) = 1 := by omega
  have b7 : decide ((s.length : Int) = 1) = false := decide_eq_false b6
  have hc9 := (Kd.V_at hV).2.1
  obtain ⟨i05, hi05, _, hsz5, _⟩ := info_parts info5
  obtain ⟨A1, hcut1, hA1, hC1⟩ := print_drop_of (P := Try.prog) (Value.int .u8) 0 22 5 .i64 Try.underlying22 hi05 hsz5 (some ad) c s (1 : Int) (by omega) (by omega) hc9
  rw [show (1 : Int).toNat = 1 from rfl] at hcut1 hA1 hC1
  have hsh := dat_shift s (by omega)
  have hx0 : (s.drop 1).getD 0 0 = s.getD 1 0 := getD_drop s 1 0
  have hxl : (s.drop 1).length = s.length - 1 := by rw [List.length_drop]
  have hxB : ByteL (s.drop 1) := hB.drop 1
  obtain ⟨xs, hxs⟩ : ∃ xs, s.drop 1 = xs := ⟨_, rfl⟩
  rw [hxs] at hcut1 hA1 hC1 hsh hx0 hxl hxB
  have HVX := Aside0.mk (V_cut hV hA1 hC1)
  have HXB := Aside0.mk hxB
  have HS := Aside0.mk (And.intro hsh (And.intro hx0 (And.intro hxl hv0)))
  have hxn : xs.length ≤ 1000000 := by omega
  obtain ⟨c1, hc1⟩ : ∃ c1, c - 1 = c1 := ⟨_, rfl⟩
  rw [hc1] at hcut1 HVX
  have hxp : 0 < xs.length := by omega
  clear hV hok hB hv0 hA1 hC1 hsh hx0 hxl hxB hxs hc1 HV
  go_enter Try.func38, Try.ntmps38
  go_wp2_with (go_at_call 48; refine (makeC A1 xs.length c1 _).mono ?_; rintro e w1 ⟨rfl, hb⟩; have HB1 := Aside0.mk hb; clear hb)
  have HT2 : Aside0 (Tk (w1.alloc (.cells #[.slice A1 xs.length c1, .int .u16 0, .int .i32 0, .int .i32 (-1), .pointer none, .slice none 0 0, .nilIface] 57)) w1.heap.size A1 xs.length c1 ((0 : Nat) : Int) (-1) (.pointer none) (.slice none 0 0) .nilIface) := ⟨heap_alloc_new w1 _⟩
  have HV2 : Aside0 (Kd.V (Kd.int .u8) 5 (w1.alloc (.cells #[.slice A1 xs.length c1, .int .u16 0, .int .i32 0, .int .i32 (-1), .pointer none, .slice none 0 0, .nilIface] 57)) base oks (.slice A1 xs.length c1) xs) := ⟨Kd.V_alloc (Kd.V_step HVX.out (fun k hk hlt => HB1.out.block k hlt)) _⟩
  have HB2 : Aside0 (Below w.heap.size w (w1.alloc (.cells #[.slice A1 xs.length c1, .int .u16 0, .int .i32 0, .int .i32 (-1), .pointer none, .slice none 0 0, .nilIface] 57))) := ⟨HB1.out.alloc HB1.out.size _⟩
  have HG : Aside0 (w.heap.size ≤ w1.heap.size) := ⟨HB1.out.size⟩
  have HOK2 : Aside0 (∀ k, oks k → k ≠ w1.heap.size) := ⟨fun k hk => by have := HOK.out k hk; have := HG.out; omega⟩
  obtain ⟨g, hg⟩ : ∃ g, w1.heap.size = g := ⟨_, rfl⟩
  rw [hg] at HT2 HG HOK2
  rw [hg]
  generalize w1.alloc (.cells #[.slice A1 xs.length c1, .int .u16 0, .int .i32 0, .int .i32 (-1), .pointer none, .slice none 0 0, .nilIface] 57) = w2 at HT2 HV2 HB2 ⊢
  clear hg HB1 HVX HOK
  go_wp2_with fail
  go_at_call 49
  refine (nextAny g A1 xs c1 0 (-1) (.pointer none) (.slice none 0 0) oks base _ HOK2.out HV2.out HT2.out hxn HXB.out).mono ?_
  rintro e w5 (⟨h1, rfl, h2, h3⟩ | ⟨hi, (⟨a, d, hd, rfl, pos', o, dv, nm, ol, r1, r2, r3, r4, r5⟩ | ⟨hd, rfl, pos', op', data', x, r1, r2⟩)⟩)
  · exfalso; omega
  · obtain ⟨Ad, cd, ed⟩ := Kd.V_slice r4
    subst ed
    have hl := (show ((xs.drop a).take d).length = d by have h := dat_le hi hd; rw [List.length_take, List.length_drop]; omega)
    obtain ⟨ys, hys⟩ : ∃ ys, (xs.drop a).take d = ys := ⟨_, rfl⟩
    rw [hys] at r4 hl r1
    obtain ⟨v, hgv⟩ : ∃ v, xs.getD 0 0 = v := ⟨_, rfl⟩
    rw [hgv] at r2
    have hd1 : dat s 1 = some (a + 1, d) := by rw [HS.out.1, hd]; rfl
    have hv1 : s.getD 1 0 = v := by rw [← HS.out.2.1]; exact hgv
    have HP : Aside0 (NullP s ↔ (a + d = xs.length ∧ (Small v ∨ v ≤ 78) ∧ ys.length ≤ 80)) := ⟨by
      have hz := HS.out.2.2
      constructor
      · rintro ⟨_, _, q | ⟨a2, d2, q1, q2, q3, q4, q5⟩⟩
        · exact absurd q h1
        · rw [hd1] at q2; injection q2 with q2; injection q2 with q6 q7
          subst q6; subst q7
          rw [hv1] at q4
          exact ⟨by omega, q4, by omega⟩
      · rintro ⟨q1, q2, q3⟩
        exact ⟨by omega, hz.2, Or.inr ⟨a + 1, d, by omega, hd1, by omega, by rw [hv1]; exact q2, by omega⟩⟩⟩
    have HT5 := Aside0.mk r1
    have HO5 := Aside0.mk r2
    have HB5 := Aside0.mk (r5.below HB2.out HG.out HB2.out.size)
    have hle := (dat_le hi hd).2
    clear r1 r2 r3 r4 r5 HT2 HV2 hys hgv hd1 hv1 hd hi hl
    go_wp2_with fail
    go_at_call 50
    refine (doneC g A1 xs.length c1 _ _ _ _ _ (by omega) HT5.out).mono ?_
    rintro e w6 ⟨rfl, hb⟩
    have HT6 := Aside0.mk (Tk.below HT5.out hb)
    have HO6 : Aside0 (w6.heap[o]? = some (.cells #[.int .u8 v, .string nm, .int .i64 ol] 72 (0, 0))) := ⟨(hb.block o (blk_lt' HO5.out)).trans HO5.out⟩
    have HB6 := Aside0.mk (HB5.out.trans (hb.mono HB5.out.size))
    clear hb HT5 HO5 HB5
    by_cases hq : a + d = xs.length
    · rw [decide_eq_true (show ((xs.length : Nat) : Int) ≤ ((a + d : Nat) : Int) by omega)]
      rcases Classical.em (Small v) with hs | hs
      · have HSV := Aside0.mk hs
        clear hs
        by_cases hy : ys.length ≤ 80
        · have e1 : decide ((ys.length : Int) ≤ 80) = true := decide_eq_true (by omega)
          have e2 : decide (ys.length ≤ 80) = true := decide_eq_true hy
          have HYES : Aside0 (NullP s) := ⟨HP.out.2 ⟨hq, Or.inl HSV.out, hy⟩⟩
          go_wp2_with fail
          go_at_call 52
          refine (opC g o A1 xs.length c1 _ _ _ _ nm _ _ _ HT6.out HO6.out).mono ?_
          rintro e w7 ⟨rfl, rfl⟩
          go_wp2_with fail
          go_at_call 51
          refine (btcdtxscript_IsSmallInt.calls _ true _ (isSmall_t HSV.out)).mono ?_
          rintro e w8 ⟨rfl, ⟨nd, rfl⟩⟩
          have HT7 := Aside0.mk (HT6.out.drewN nd)
          have HO7 := Aside0.mk (heapN HO6.out nd)
          have HB7 := Aside0.mk (pw_below_drewN HB6.out nd)
          clear HT6 HO6 HB6
          have HT6 := HT7
          have HO6 := HO7
          have HB6 := HB7
          clear HT7 HO7 HB7
          go_wp2_with fail
          go_at_call 53
          refine (dataC g A1 xs.length c1 _ _ _ _ _ _ HT6.out).mono ?_
          rintro e w9 ⟨rfl, rfl⟩
          go_wp2_with fail
          go_ret
          exact ⟨true, rfl, ⟨fun _ => HYES.out, fun _ => rfl⟩, HB6.out⟩
        · have e1 : decide ((ys.length : Int) ≤ 80) = false := decide_eq_false (by omega)
          have e2 : decide (ys.length ≤ 80) = false := decide_eq_false hy
          have HNO : Aside0 (¬ NullP s) := ⟨fun h => hy (HP.out.1 h).2.2⟩
          go_wp2_with fail
          go_at_call 52
          refine (opC g o A1 xs.length c1 _ _ _ _ nm _ _ _ HT6.out HO6.out).mono ?_
          rintro e w7 ⟨rfl, rfl⟩
          go_wp2_with fail
          go_at_call 51
          refine (btcdtxscript_IsSmallInt.calls _ true _ (isSmall_t HSV.out)).mono ?_
          rintro e w8 ⟨rfl, ⟨nd, rfl⟩⟩
          have HT7 := Aside0.mk (HT6.out.drewN nd)
          have HO7 := Aside0.mk (heapN HO6.out nd)
          have HB7 := Aside0.mk (pw_below_drewN HB6.out nd)
          clear HT6 HO6 HB6
          have HT6 := HT7
          have HO6 := HO7
          have HB6 := HB7
          clear HT7 HO7 HB7
          go_wp2_with fail
          go_at_call 53
          refine (dataC g A1 xs.length c1 _ _ _ _ _ _ HT6.out).mono ?_
          rintro e w9 ⟨rfl, rfl⟩
          go_wp2_with fail
          go_ret
          exact ⟨false, rfl, ⟨fun h => (by cases h), fun h => absurd h HNO.out⟩, HB6.out⟩
      · have HSV := Aside0.mk hs
        rcases Classical.em (v ≤ 78) with hv | hv
        · have HVL := Aside0.mk hv
          have e3 : decide (v ≤ 78) = true := decide_eq_true hv
          clear hs
          by_cases hy : ys.length ≤ 80
          · have e1 : decide ((ys.length : Int) ≤ 80) = true := decide_eq_true (by omega)
            have e2 : decide (ys.length ≤ 80) = true := decide_eq_true hy
            have HYES : Aside0 (NullP s) := ⟨HP.out.2 ⟨hq, Or.inr HVL.out, hy⟩⟩
            go_wp2_with fail
            go_at_call 52
            refine (opC g o A1 xs.length c1 _ _ _ _ nm _ _ _ HT6.out HO6.out).mono ?_
            rintro e w7 ⟨rfl, rfl⟩
            go_wp2_with fail
            go_at_call 51
            refine (btcdtxscript_IsSmallInt.calls _ false _ (isSmall_f HSV.out)).mono ?_
            rintro e w8 ⟨rfl, ⟨nd, rfl⟩⟩
            have HT7 := Aside0.mk (HT6.out.drewN nd)
            have HO7 := Aside0.mk (heapN HO6.out nd)
            have HB7 := Aside0.mk (pw_below_drewN HB6.out nd)
            clear HT6 HO6 HB6
            have HT6 := HT7
            have HO6 := HO7
            have HB6 := HB7
            clear HT7 HO7 HB7
            go_wp2_with fail
            go_at_call 52
            refine (opC g o A1 xs.length c1 _ _ _ _ nm _ _ _ HT6.out HO6.out).mono ?_
            rintro e w85 ⟨rfl, rfl⟩
            go_wp2_with fail
            go_at_call 53
            refine (dataC g A1 xs.length c1 _ _ _ _ _ _ HT6.out).mono ?_
            rintro e w9 ⟨rfl, rfl⟩
            go_wp2_with fail
            go_ret
            exact ⟨true, rfl, ⟨fun _ => HYES.out, fun _ => rfl⟩, HB6.out⟩
          · have e1 : decide ((ys.length : Int) ≤ 80) = false := decide_eq_false (by omega)
            have e2 : decide (ys.length ≤ 80) = false := decide_eq_false hy
            have HNO : Aside0 (¬ NullP s) := ⟨fun h => hy (HP.out.1 h).2.2⟩
            go_wp2_with fail
            go_at_call 52
            refine (opC g o A1 xs.length c1 _ _ _ _ nm _ _ _ HT6.out HO6.out).mono ?_
            rintro e w7 ⟨rfl, rfl⟩
            go_wp2_with fail
            go_at_call 51
            refine (btcdtxscript_IsSmallInt.calls _ false _ (isSmall_f HSV.out)).mono ?_
            rintro e w8 ⟨rfl, ⟨nd, rfl⟩⟩
            have HT7 := Aside0.mk (HT6.out.drewN nd)
            have HO7 := Aside0.mk (heapN HO6.out nd)
            have HB7 := Aside0.mk (pw_below_drewN HB6.out nd)
            clear HT6 HO6 HB6
            have HT6 := HT7
            have HO6 := HO7
            have HB6 := HB7
            clear HT7 HO7 HB7
            go_wp2_with fail
            go_at_call 52
            refine (opC g o A1 xs.length c1 _ _ _ _ nm _ _ _ HT6.out HO6.out).mono ?_
            rintro e w85 ⟨rfl, rfl⟩
            go_wp2_with fail
            go_at_call 53
            refine (dataC g A1 xs.length c1 _ _ _ _ _ _ HT6.out).mono ?_
            rintro e w9 ⟨rfl, rfl⟩
            go_wp2_with fail
            go_ret
            exact ⟨false, rfl, ⟨fun h => (by cases h), fun h => absurd h HNO.out⟩, HB6.out⟩
        · have e3 : decide (v ≤ 78) = false := decide_eq_false hv
          have HNO : Aside0 (¬ NullP s) := ⟨fun h => (HP.out.1 h).2.1.elim hs hv⟩
          clear hs
          go_wp2_with fail
          go_at_call 52
          refine (opC g o A1 xs.length c1 _ _ _ _ nm _ _ _ HT6.out HO6.out).mono ?_
          rintro e w7 ⟨rfl, rfl⟩
          go_wp2_with fail
          go_at_call 51
          refine (btcdtxscript_IsSmallInt.calls _ false _ (isSmall_f HSV.out)).mono ?_
          rintro e w8 ⟨rfl, ⟨nd, rfl⟩⟩
          have HT7 := Aside0.mk (HT6.out.drewN nd)
          have HO7 := Aside0.mk (heapN HO6.out nd)
          have HB7 := Aside0.mk (pw_below_drewN HB6.out nd)
          clear HT6 HO6 HB6
          have HT6 := HT7
          have HO6 := HO7
          have HB6 := HB7
          clear HT7 HO7 HB7
          go_wp2_with fail
          go_at_call 52
          refine (opC g o A1 xs.length c1 _ _ _ _ nm _ _ _ HT6.out HO6.out).mono ?_
          rintro e w85 ⟨rfl, rfl⟩
          go_wp2_with fail
          go_ret
          exact ⟨false, rfl, ⟨fun h => (by cases h), fun h => absurd h HNO.out⟩, HB6.out⟩
    · rw [decide_eq_false (show ¬ ((xs.length : Nat) : Int) ≤ ((a + d : Nat) : Int) by omega)]
      have HNO : Aside0 (¬ NullP s) := ⟨fun h => hq (HP.out.1 h).1⟩
      go_wp2_with fail
      go_ret
      exact ⟨false, rfl, ⟨fun h => (by cases h), fun h => absurd h HNO.out⟩, HB6.out⟩
  · have HNO : Aside0 (¬ NullP s) := ⟨by
      rintro ⟨_, _, q | ⟨a2, d2, q1, q2, _⟩⟩
      · exact absurd q h1
      · rw [HS.out.1, hd] at q2; cases q2⟩
    have HB5 := Aside0.mk (r2.below HB2.out HG.out HB2.out.size)
    clear r1 r2 hd hi HT2 HV2
    go_wp2_with fail
    go_ret
    exact ⟨false, rfl, ⟨fun h => (by cases h), fun h => absurd h HNO.out⟩, HB5.out⟩
end Go.Proofs.Ytfbkjkihcajmdac.Tok
