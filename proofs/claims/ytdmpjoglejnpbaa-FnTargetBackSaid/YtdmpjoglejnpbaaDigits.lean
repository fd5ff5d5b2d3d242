/- Numbers by bytes, the highest first, and by digits of 32 bits, the least first: plain lists and integers. -/
import Derived.Test.YtdmpjoglejnpbaaFill
namespace Go.Proofs.Ytdmpjoglejnpbaa.Big
open Go.RowKit Go.Proofs.YtdmpjoglejnpbaaW.PrintWords Go.Proofs.YtdmpjoglejnpbaaW.PrintLast Go.Proofs.YtdmpjoglejnpbaaW.PrintMore Go.Proofs.Ytdmpjoglejnpbaa.QFnTargetBack
set_option linter.unusedVariables false

theorem w64 {x : Int} (h0 : -9223372036854775808 ≤ x) (h1 : x ≤ 9223372036854775807) : wrap64 x = x := by unfold wrap64; omega
theorem u64w {x : Int} (h0 : 0 ≤ x) (h1 : x < 18446744073709551616) : IntKind.u64.wrap x = x := by simp [IntKind.wrap, IntKind.signed, IntKind.bits]; omega
theorem pow_pos2 (n : Nat) : (0 : Int) < 2 ^ n := Int.pow_pos (by decide)
theorem pow_pos256 (n : Nat) : (0 : Int) < 256 ^ n := Int.pow_pos (by decide)
theorem pow256 (n : Nat) : (256 : Int) ^ n = 2 ^ (8 * n) := by rw [Int.pow_mul]; rfl
theorem pow_le2 {a b : Nat} (h : a ≤ b) : (2 : Int) ^ a ≤ 2 ^ b := by
  obtain ⟨c, rfl⟩ := Nat.exists_eq_add_of_le h
  have h1 := pow_pos2 a
  have h2 := pow_pos2 c
  rw [Int.pow_add]
  have := Int.mul_le_mul_of_nonneg_left (show (1 : Int) ≤ 2 ^ c by omega) (Int.le_of_lt h1)
  omega
theorem pow_le256 {a b : Nat} (h : a ≤ b) : (256 : Int) ^ a ≤ 256 ^ b := by rw [pow256, pow256]; exact pow_le2 (by omega)

/-! bytes, the highest first -/
def vB : List Int → Int
  | [] => 0
  | x :: xs => x * 256 ^ xs.length + vB xs
def Bytes (b : List Int) : Prop := ∀ d ∈ b, 0 ≤ d ∧ d < 256
theorem vB_range {b : List Int} (h : Bytes b) : 0 ≤ vB b ∧ vB b < 256 ^ b.length := by
  induction b with
  | nil => simp [vB]
  | cons x xs ih =>
    have h1 := ih (fun d hd => h d (List.mem_cons_of_mem _ hd))
    have h0 := h x List.mem_cons_self
    have hp := pow_pos256 xs.length
    have h2 : x * 256 ^ xs.length ≤ 255 * 256 ^ xs.length := Int.mul_le_mul_of_nonneg_right (by omega) (Int.le_of_lt hp)
    have h3 : 0 ≤ x * 256 ^ xs.length := Int.mul_nonneg h0.1 (Int.le_of_lt hp)
    rw [vB, List.length_cons, Int.pow_succ]
    omega
theorem vB_append (a b : List Int) : vB (a ++ b) = vB a * 256 ^ b.length + vB b := by
  induction a with
  | nil => simp [vB]
  | cons x xs ih =>
    rw [List.cons_append, vB, ih, vB, List.length_append, Int.pow_add, Int.add_mul, Int.mul_assoc]; omega
theorem uniq {a : List Int} : ∀ {b : List Int}, Bytes a → Bytes b → a.length = b.length → vB a = vB b → a = b := by
  induction a with
  | nil => intro b _ _ hl _; exact (List.eq_nil_of_length_eq_zero hl.symm).symm
  | cons x xs ih =>
    intro b ha hb hl hv
    cases b with
    | nil => simp at hl
    | cons y ys =>
      have hl' : xs.length = ys.length := by simpa using hl
      have h1 := vB_range (b := xs) (fun d hd => ha d (List.mem_cons_of_mem _ hd))
      have h2 := vB_range (b := ys) (fun d hd => hb d (List.mem_cons_of_mem _ hd))
      rw [vB, vB, hl'] at hv
      rw [hl'] at h1
      have hp := pow_pos256 ys.length
      have e1 : (x * 256 ^ ys.length + vB xs) / 256 ^ ys.length = x := by rw [Int.add_comm, Int.add_mul_ediv_right _ _ (by omega), Int.ediv_eq_zero_of_lt h1.1 h1.2]; omega
      have e2 : (y * 256 ^ ys.length + vB ys) / 256 ^ ys.length = y := by rw [Int.add_comm, Int.add_mul_ediv_right _ _ (by omega), Int.ediv_eq_zero_of_lt h2.1 h2.2]; omega
      have e : x = y := by rw [← e1, hv, e2]
      subst e
      have hv2 : vB xs = vB ys := by omega
      rw [ih (fun d hd => ha d (List.mem_cons_of_mem _ hd)) (fun d hd => hb d (List.mem_cons_of_mem _ hd)) hl' hv2]
/-- no zero ahead. -/
def Lead (b : List Int) : Prop := ∀ x xs, b = x :: xs → x ≠ 0
theorem lead_ge {b : List Int} (h : Bytes b) (hl : Lead b) (n : Nat) (hn : n < b.length) : 256 ^ n ≤ vB b := by
  cases b with
  | nil => simp at hn
  | cons x xs =>
    have h0 := h x List.mem_cons_self
    have h1 := hl x xs rfl
    have h2 := vB_range (b := xs) (fun d hd => h d (List.mem_cons_of_mem _ hd))
    have h3 : (256 : Int) ^ n ≤ 256 ^ xs.length := pow_le256 (by simp at hn; omega)
    have h4 : 1 * 256 ^ xs.length ≤ x * 256 ^ xs.length := Int.mul_le_mul_of_nonneg_right (by omega) (Int.le_of_lt (pow_pos256 _))
    rw [vB]; omega
theorem uniq2 {a b : List Int} (ha : Bytes a) (hb : Bytes b) (la : Lead a) (lb : Lead b) (hv : vB a = vB b) : a = b := by
  have h1 := vB_range ha
  have h2 := vB_range hb
  rcases Nat.lt_trichotomy a.length b.length with h | h | h
  · have := lead_ge hb lb a.length h; omega
  · exact uniq ha hb h hv
  · have := lead_ge ha la b.length h; omega
def trimL (b : List Int) : List Int := b.dropWhile (· == 0)
theorem trimL_bytes {b : List Int} (h : Bytes b) : Bytes (trimL b) := fun d hd => h d ((List.dropWhile_sublist _).mem hd)
theorem trimL_len (b : List Int) : (trimL b).length ≤ b.length := (List.dropWhile_sublist _).length_le
theorem trimL_lead (b : List Int) : Lead (trimL b) := by
  induction b with
  | nil => intro x xs h; simp [trimL] at h
  | cons y ys ih =>
    intro x xs h
    unfold trimL at h
    rw [List.dropWhile_cons] at h
    by_cases hy : (y == 0) = true
    · rw [if_pos hy] at h; exact ih x xs h
    · rw [if_neg hy] at h
      injection h with h1 h2
      subst h1
      simpa using hy
theorem trimL_vB (b : List Int) : vB (trimL b) = vB b := by
  induction b with
  | nil => rfl
  | cons y ys ih =>
    unfold trimL at *
    rw [List.dropWhile_cons]
    by_cases hy : (y == 0) = true
    · rw [if_pos hy, ih]; simp at hy; subst hy; simp [vB]
    · rw [if_neg hy]
theorem vB_zero {b : List Int} (h : Bytes b) (hl : Lead b) : vB b = 0 ↔ b = [] := by
  constructor
  · intro hv
    cases b with
    | nil => rfl
    | cons x xs => have := lead_ge h hl 0 (by simp); omega
  · intro e; subst e; rfl
/-! digits of 32 bits, the least first -/
def nv : List Int → Int
  | [] => 0
  | x :: xs => x + 4294967296 * nv xs
def Dig (l : List Int) : Prop := ∀ x ∈ l, 0 ≤ x ∧ x < 4294967296
/-- the highest digit is not zero. -/
def Top (l : List Int) : Prop := ∀ a x, l = a ++ [x] → x ≠ 0
theorem nv_append (a b : List Int) : nv (a ++ b) = nv a + 2 ^ (32 * a.length) * nv b := by
  induction a with
  | nil => simp [nv]
  | cons x xs ih =>
    rw [List.cons_append, nv, ih, nv, List.length_cons, Nat.mul_succ, Int.pow_add, Int.mul_add]
    rw [show (2 : Int) ^ 32 = 4294967296 from rfl, Int.mul_comm (2 ^ (32 * xs.length)) 4294967296, Int.mul_assoc]; omega
theorem nv_range {l : List Int} (h : Dig l) : 0 ≤ nv l ∧ nv l < 2 ^ (32 * l.length) := by
  induction l with
  | nil => simp [nv]
  | cons x xs ih =>
    have h1 := ih (fun d hd => h d (List.mem_cons_of_mem _ hd))
    have h0 := h x List.mem_cons_self
    rw [nv, List.length_cons, Nat.mul_succ, Int.pow_add, show (2 : Int) ^ 32 = 4294967296 from rfl]
    omega
theorem byteAt_nv (l : List Int) (h : Dig l) : ∀ k, byteAt l k = nv l / 256 ^ k % 256 := by
  induction l with
  | nil => intro k; simp [byteAt, nv]
  | cons x xs ih =>
    intro k
    have h0 := h x List.mem_cons_self
    rcases Nat.lt_or_ge k 4 with hk | hk
    · have e1 : byteAt (x :: xs) k = x / 256 ^ k % 256 := by
        unfold byteAt
        rw [show k / 4 = 0 by omega, show k % 4 = k by omega, pow256]; rfl
      rw [e1, nv]
      obtain ⟨j, hj⟩ : ∃ j, 4 = k + (j + 1) := ⟨3 - k, by omega⟩
      have e2 : (4294967296 : Int) = 256 ^ k * (256 ^ j * 256) := by rw [← Int.pow_succ, ← Int.pow_add, ← hj]; rfl
      rw [e2, Int.mul_assoc, Int.mul_comm (256 ^ k), Int.add_mul_ediv_right _ _ (Int.ne_of_gt (pow_pos256 k))]
      rw [show 256 ^ j * 256 * nv xs = (256 ^ j * nv xs) * 256 by rw [Int.mul_assoc, Int.mul_comm 256, ← Int.mul_assoc], Int.add_mul_emod_self_right]
    · have e1 : byteAt (x :: xs) k = byteAt xs (k - 4) := by
        unfold byteAt
        rw [show k / 4 = (k - 4) / 4 + 1 by omega, show (k - 4) % 4 = k % 4 by omega]; rfl
      rw [e1, ih (fun d hd => h d (List.mem_cons_of_mem _ hd)), nv]
      obtain ⟨j, rfl⟩ : ∃ j, k = 4 + j := ⟨k - 4, by omega⟩
      rw [show 4 + j - 4 = j by omega, Int.pow_add, ← Int.ediv_ediv_of_nonneg (Int.le_of_lt (pow_pos256 4))]
      rw [show (256 : Int) ^ 4 = 4294967296 from rfl, Int.mul_comm 4294967296, Int.add_mul_ediv_right _ _ (by decide), Int.ediv_eq_zero_of_lt h0.1 h0.2, Int.zero_add]
theorem bytesOf_succ (l : List Int) (n : Nat) : bytesOf l (n + 1) = byteAt l n :: bytesOf l n := by
  unfold bytesOf
  rw [List.range_succ_eq_map, List.map_cons, List.map_map]
  congr 1
  apply List.map_congr_left
  intro i hi
  rw [List.mem_range] at hi
  show byteAt l (n + 1 - 1 - (i + 1)) = byteAt l (n - 1 - i)
  congr 1; omega
theorem bytesOf_bytes (l : List Int) (n : Nat) : Bytes (bytesOf l n) := fun d hd => by
  unfold bytesOf at hd
  obtain ⟨i, _, rfl⟩ := List.mem_map.1 hd
  unfold byteAt
  omega
theorem bytesOf_vB (l : List Int) (h : Dig l) (n : Nat) : vB (bytesOf l n) = nv l % 256 ^ n := by
  induction n with
  | zero => simp [bytesOf, vB, Int.emod_one]
  | succ n ih =>
    rw [bytesOf_succ, vB, bytesOf_length, ih, byteAt_nv l h]
    have hp := pow_pos256 n
    have h1 := Int.mul_ediv_add_emod (nv l) (256 ^ n)
    have h2 := Int.mul_ediv_add_emod (nv l / 256 ^ n) 256
    have h6 := Int.mul_ediv_add_emod (nv l) (256 ^ (n + 1))
    have h5 : nv l / 256 ^ (n + 1) = nv l / 256 ^ n / 256 := by rw [Int.pow_succ, ← Int.ediv_ediv_of_nonneg (Int.le_of_lt hp)]
    rw [h5] at h6
    generalize nv l / 256 ^ n = y at *
    generalize y / 256 = z at *
    generalize y % 256 = b at *
    rw [Int.pow_succ] at h6 ⊢
    generalize nv l % 256 ^ n = m at *
    generalize (256 : Int) ^ n = p at *
    subst h2
    rw [show p * 256 * z = 256 * (p * z) by rw [Int.mul_comm p 256, Int.mul_assoc]] at h6
    rw [Int.mul_add, show p * (256 * z) = 256 * (p * z) by rw [← Int.mul_assoc, Int.mul_comm p 256, Int.mul_assoc], Int.mul_comm p b] at h1
    omega
theorem ev_norm (n : Nat) : ∀ l : List Int, l.length = n → l.length < 1000000 → Dig l → ∃ r, Ev (fun k => smallbig_nat_norm.f k l) r ∧ nv r = nv l ∧ Dig r ∧ Top r ∧ r.length ≤ l.length := by
  induction n with
  | zero =>
    intro l hl _ hd
    have : l = [] := List.eq_nil_of_length_eq_zero hl
    subst this
    refine ⟨[], Ev.step (fun k => ?_) (Ev.now _), rfl, hd, fun a x h => by simp at h, Nat.le_refl _⟩
    rw [smallbig_nat_norm.f, smallbig_nat_norm.l0, if_neg (by simp)]
  | succ n ih =>
    intro l hl hb hd
    obtain ⟨a, x, rfl⟩ : ∃ a x, l = a ++ [x] := ⟨l.dropLast, l.getLast (by intro h; subst h; simp at hl), (List.dropLast_concat_getLast _).symm⟩
    have hla : a.length = n := by simp at hl; exact hl
    have e1 : wrap64 (((a ++ [x]).length : Int) - 1) = (a.length : Int) := by
      have : ((a ++ [x]).length : Int) = a.length + 1 := by simp
      rw [w64 (by omega) (by omega)]; omega
    have e2 : rd (a ++ [x]) (a.length : Int) = x := by simp [rd]
    have hlen : ((a ++ [x]).length : Int) = a.length + 1 := by simp
    by_cases c : x = 0
    · obtain ⟨r, h1, h2, h3, h4, h5⟩ := ih a hla (by simp at hb; omega) (fun d hd' => hd d (List.mem_append_left _ hd'))
      refine ⟨r, Ev.step (fun k => ?_) h1, ?_, h3, h4, by simp; omega⟩
      · rw [smallbig_nat_norm.f, smallbig_nat_norm.l0, if_pos (by omega), e1, if_pos (by omega), if_pos (by omega), e2, if_pos c, if_pos (by omega)]
        rw [Int.toNat_natCast, List.take_left]; rfl
      · rw [h2, nv_append, c]; simp [nv]
    · refine ⟨a ++ [x], Ev.step (fun k => ?_) (Ev.now _), rfl, hd, ?_, Nat.le_refl _⟩
      · rw [smallbig_nat_norm.f, smallbig_nat_norm.l0, if_pos (by omega), e1, if_pos (by omega), if_pos (by omega), e2, if_neg c]
      · intro b y h
        have := List.append_inj' h rfl
        have h2 := this.2
        injection h2 with h2
        rw [← h2]; exact c
theorem ev_natOf (x : Int) (h0 : 0 ≤ x) (h1 : x < 18446744073709551616) : ∃ r, Ev (fun k => smallbig_natOf.f k x) r ∧ nv r = x ∧ Dig r ∧ Top r ∧ r.length ≤ 2 := by
  obtain ⟨r, e1, e2, e3, e4, e5⟩ := ev_norm 2 [x % 4294967296, (x / 4294967296) % 4294967296] rfl (by simp) (by
    intro d hd
    simp at hd
    rcases hd with rfl | rfl <;> omega)
  refine ⟨r, Ev.congr (fun k => ?_) (Ev.bind (f := fun _ t151 => some t151) e1 (Ev.now _)), ?_, e3, e4, e5⟩
  · unfold smallbig_natOf.f; rfl
  · rw [e2]; simp only [nv]; omega
theorem ev_bits : ∀ (m : Nat) (n d : Int), 0 ≤ n → n + m ≤ 40000000000 → 0 ≤ d → d < 2 ^ m → ∃ b : Nat, Ev (fun k => smallbig_nat_bitLen.l0 k n d) (n + b) ∧ d < 2 ^ b ∧ (0 < d → 2 ^ b ≤ 2 * d) ∧ b ≤ m ∧ (d = 0 → b = 0) := by
  intro m
  induction m with
  | zero =>
    intro n d hn hn2 h0 h1
    have : d = 0 := by simp at h1; omega
    subst this
    refine ⟨0, Ev.step (fun k => ?_) (by simpa using Ev.now n), by simp, fun h => by omega, Nat.le_refl _, fun _ => rfl⟩
    rw [smallbig_nat_bitLen.l0, if_pos rfl]
  | succ m ih =>
    intro n d hn hn2 h0 h1
    by_cases c : d = 0
    · subst c
      refine ⟨0, Ev.step (fun k => ?_) (by simpa using Ev.now n), by simp, fun h => by omega, Nat.zero_le _, fun _ => rfl⟩
      rw [smallbig_nat_bitLen.l0, if_pos rfl]
    · rw [Int.pow_succ] at h1
      obtain ⟨b, e1, e2, e3, e4, e5⟩ := ih (n + 1) (d / 2) (by omega) (by omega) (by omega) (by omega)
      refine ⟨b + 1, Ev.step (fun k => ?_) (show Ev (fun k => smallbig_nat_bitLen.l0 k (n + 1) (d / 2)) (n + ((b + 1 : Nat) : Int)) by rw [show n + ((b + 1 : Nat) : Int) = n + 1 + b by omega]; exact e1), ?_, ?_, by omega, fun h => absurd h c⟩
      · rw [smallbig_nat_bitLen.l0, if_neg c, w64 (by omega) (by omega)]
      · rw [Int.pow_succ]; omega
      · intro _
        rw [Int.pow_succ]
        rcases (show d / 2 = 0 ∨ 0 < d / 2 by omega) with h | h
        · rw [e5 h]; simp; omega
        · have := e3 h; omega

/-- bitLen tells how many bits there are. -/
theorem ev_bitLen (l : List Int) (hd : Dig l) (ht : Top l) (hl : l.length ≤ 1000000000) : ∃ b : Nat, Ev (fun k => smallbig_nat_bitLen.f k l) b ∧ nv l < 2 ^ b ∧ (0 < nv l → 2 ^ b ≤ 2 * nv l) ∧ b ≤ 32 * l.length ∧ (nv l = 0 → b = 0) := by
  by_cases c : l = []
  · subst c
    refine ⟨0, Ev.congr (f := fun _ => some (0 : Int)) (fun k => ?_) (Ev.now _), by simp [nv], fun h => by simp [nv] at h, Nat.le_refl _, fun _ => rfl⟩
    rw [smallbig_nat_bitLen.f, if_pos (by simp)]
  · obtain ⟨a, x, rfl⟩ : ∃ a x, l = a ++ [x] := ⟨l.dropLast, l.getLast c, (List.dropLast_concat_getLast _).symm⟩
    have hx := hd x (by simp)
    have hx0 := ht a x rfl
    have hlen : ((a ++ [x]).length : Int) = a.length + 1 := by simp
    have hlenN : (a ++ [x]).length = a.length + 1 := by simp
    have hna := nv_range (l := a) (fun d hd' => hd d (List.mem_append_left _ hd'))
    obtain ⟨b, e1, e2, e3, e4, e5⟩ := ev_bits 32 (32 * (a.length : Int)) x (by omega) (by omega) hx.1 (by simpa using hx.2)
    have hn : nv (a ++ [x]) = nv a + 2 ^ (32 * a.length) * x := by rw [nv_append]; simp [nv]
    have hp := pow_pos2 (32 * a.length)
    have h3 := e3 (by omega)
    refine ⟨32 * a.length + b, Ev.congr (fun k => ?_) (show Ev (fun k => smallbig_nat_bitLen.l0 k (32 * (a.length : Int)) x) ((32 * a.length + b : Nat) : Int) by rw [show ((32 * a.length + b : Nat) : Int) = 32 * (a.length : Int) + b by omega]; exact e1), ?_, ?_, by omega, ?_⟩
    · rw [smallbig_nat_bitLen.f, if_neg (by omega), w64 (x := ((a ++ [x]).length : Int) - 1) (by omega) (by omega), if_pos (by omega), if_pos (by omega)]
      rw [show ((a ++ [x]).length : Int) - 1 = (a.length : Int) by omega, w64 (by omega) (by omega)]
      congr 1
      simp [rd]
    · rw [hn, Int.pow_add]
      have h4 : 2 ^ (32 * a.length) * x ≤ 2 ^ (32 * a.length) * (2 ^ b - 1) := Int.mul_le_mul_of_nonneg_left (by omega) (Int.le_of_lt hp)
      rw [Int.mul_sub, Int.mul_one] at h4
      omega
    · intro _
      rw [hn, Int.pow_add]
      have h4 : 2 ^ (32 * a.length) * 2 ^ b ≤ 2 ^ (32 * a.length) * (2 * x) := Int.mul_le_mul_of_nonneg_left h3 (Int.le_of_lt hp)
      rw [show (2 : Int) ^ (32 * a.length) * (2 * x) = 2 * (2 ^ (32 * a.length) * x) by rw [← Int.mul_assoc, Int.mul_comm _ 2, Int.mul_assoc]] at h4
      omega
    · intro h
      have h4 : 2 ^ (32 * a.length) * 1 ≤ 2 ^ (32 * a.length) * x := Int.mul_le_mul_of_nonneg_left (by omega) (Int.le_of_lt hp)
      omega
/-- so Bytes tells the number, with no zero ahead. -/
theorem bytes_of (l : List Int) (hd : Dig l) (b : Nat) (h1 : nv l < 2 ^ b) (h2 : 0 < nv l → 2 ^ b ≤ 2 * nv l) (h3 : nv l = 0 → b = 0) :
    vB (bytesOf l (((b : Int) + 7) / 8).toNat) = nv l ∧ Lead (bytesOf l (((b : Int) + 7) / 8).toNat) := by
  obtain ⟨n, hn⟩ : ∃ n, (((b : Int) + 7) / 8).toNat = n := ⟨_, rfl⟩
  rw [hn]
  have hr := nv_range hd
  have hv := bytesOf_vB l hd n
  have hle : (2 : Int) ^ b ≤ 256 ^ n := by rw [pow256]; exact pow_le2 (by omega)
  rw [Int.emod_eq_of_lt hr.1 (by omega)] at hv
  refine ⟨hv, ?_⟩
  intro x xs he hx
  cases n with
  | zero => simp [bytesOf] at he
  | succ n =>
    rw [bytesOf_succ] at he
    injection he with he1 he2
    have h0 : vB (bytesOf l (n + 1)) = vB (bytesOf l n) := by rw [bytesOf_succ, vB, he1, hx]; omega
    have h4 := vB_range (bytesOf_bytes l n)
    rw [bytesOf_length] at h4
    rw [hv] at h0
    rcases (show nv l = 0 ∨ 0 < nv l by omega) with h | h
    · have := h3 h; omega
    · have h5 := h2 h
      have h6 : (256 : Int) ^ n * 2 ≤ 2 ^ b := by
        rw [pow256, ← Int.pow_succ]
        exact pow_le2 (by omega)
      omega
end Go.Proofs.Ytdmpjoglejnpbaa.Big
