/- FnReadBech32: the plain law. -/
import Derived.Test.YtbbeedclkfcmeaaDoorRb5
namespace Go.Proofs.YtbbeedclkfcmeaaDoor.KFnReadBech32
open Go.RowKit Go.Proofs.YtbbeedclkfcmeaaDoorW.PrintWords Go.Proofs.YtbbeedclkfcmeaaDoorW.PrintLast Go.Proofs.YtbbeedclkfcmeaaDoorW.PrintMore Go.Proofs.YtbbeedclkfcmeaaDoor.Snk
set_option linter.unusedVariables false
set_option linter.unusedSimpArgs false
theorem bt_nat (s : ByteArray) (i : Nat) : bt s (i : Int) = (bytesOf s).getD i 0 := by
  rw [← rd_bytesOf]; unfold rd; rw [Int.toNat_natCast]
theorem bt_in (s : ByteArray) (i : Nat) {x : Int} (h : bt s (i : Int) = x) : 0 ≤ x ∧ x ≤ 255 := by rw [← h]; exact bt_range s _
theorem drop_cons {L : List Int} {i : Nat} (h : i < L.length) : L.drop i = L.getD i 0 :: L.drop (i + 1) := by
  rw [List.drop_eq_getElem_cons h, List.getD_eq_getElem?_getD, List.getElem?_eq_getElem h]; rfl
theorem wsucc {i : Nat} {n : Nat} (h : i < n) (hn : n ≤ 1000000) : wrap64 ((i : Int) + 1) = ((i + 1 : Nat) : Int) := by
  rw [w64 (by omega) (by omega)]; omega
def isLow (x : Int) : Bool := decide (97 ≤ x) && decide (x ≤ 122)
def isUp (x : Int) : Bool := decide (65 ≤ x) && decide (x ≤ 90)
def bad (x : Int) : Bool := decide (x < 33) || decide (126 < x)
theorem mixed_step (s : ByteArray) (a b : Bool) (i k : Nat) (h : i < s.size) (hn : s.size ≤ 1000000) :
    spec_mixed.l0 (k + 1) s a b (i : Int) = spec_mixed.l0 k s (a || isLow ((bytesOf s).getD i 0)) (b || isUp ((bytesOf s).getD i 0)) ((i + 1 : Nat) : Int) := by
  rw [spec_mixed.l0, if_pos (by omega), bt_nat, wsucc h hn]
  generalize (bytesOf s).getD i 0 = x
  have h0 : 0 ≤ (i : Int) := Int.natCast_nonneg i
  simp only [if_pos h0, ge_iff_le]
  unfold isLow isUp
  cases a <;> cases b <;> by_cases h1 : 97 ≤ x <;> by_cases h2 : 65 ≤ x <;> simp [h1, h2] <;> omega
theorem ev_mixed (s : ByteArray) (hn : s.size ≤ 1000000) : Ev (fun k => spec_mixed.f k s) ((bytesOf s).any isLow && (bytesOf s).any isUp) := by
  have go : ∀ m i, i + m = s.size → ∀ a b, Ev (fun k => spec_mixed.l0 k s a b (i : Int)) ((a || ((bytesOf s).drop i).any isLow) && (b || ((bytesOf s).drop i).any isUp)) := by
    intro m
    induction m with
    | zero =>
      intro i hi a b
      refine Ev.step (f := fun _ => some _) (fun k => ?_) (Ev.now _)
      rw [spec_mixed.l0, if_neg (by omega), List.drop_eq_nil_of_le (by rw [bytesOf_length]; omega)]
      cases a <;> simp
    | succ m ih =>
      intro i hi a b
      refine Ev.step (fun k => mixed_step s a b i k (by omega) hn) ?_
      rw [drop_cons (show i < (bytesOf s).length by rw [bytesOf_length]; omega), List.any_cons, List.any_cons, ← Bool.or_assoc, ← Bool.or_assoc]
      exact ih (i + 1) (by omega) _ _
  have := go s.size 0 (by omega) false false
  rw [List.drop_zero, Bool.false_or, Bool.false_or] at this
  exact this
abbrev noR : ByteArray × List Int × Int × Bool := ((⟨#[]⟩ : ByteArray), ([] : List Int), 0, false)
def lastIx (one : Int) (i : Nat) : List Int → Int
  | [] => one
  | x :: M => lastIx (if x = 49 then (i : Int) else one) (i + 1) M
theorem ev_spec_loop (s : ByteArray) (hn : s.size ≤ 1000000) : ∀ m i, i + m = s.size → ∀ one : Int,
    (((bytesOf s).drop i).any bad = true → Ev (fun k => spec_ReadBech32.l0 k s [] one (i : Int)) noR) ∧
    (((bytesOf s).drop i).any bad = false → ∀ R, Ev (fun k => spec_ReadBech32.l0 k s [] (lastIx one i ((bytesOf s).drop i)) (s.size : Int)) R → Ev (fun k => spec_ReadBech32.l0 k s [] one (i : Int)) R) := by
  intro m
  induction m with
  | zero =>
    intro i hi one
    have e : i = s.size := by omega
    subst e
    have hd : (bytesOf s).drop s.size = [] := List.drop_eq_nil_of_le (by rw [bytesOf_length]; omega)
    rw [hd]
    exact ⟨fun h => by simp at h, fun _ R h => h⟩
  | succ m ih =>
    intro i hi one
    have hil : i < (bytesOf s).length := by rw [bytesOf_length]; omega
    rw [drop_cons hil, List.any_cons]
    have hx := bt_nat s i
    generalize hb : (bytesOf s).getD i 0 = x at hx ⊢
    have st : ∀ k, spec_ReadBech32.l0 (k + 1) s [] one (i : Int) = spec_ReadBech32.j2 k s [] one (i : Int) (bad x) := fun k => by
      rw [spec_ReadBech32.l0, if_pos (by omega), if_pos (by omega), hx]
      unfold bad
      by_cases h1 : x < 33
      · rw [if_pos h1]; simp [h1]
      · rw [if_neg h1]; simp [h1]
    cases hbx : bad x with
    | true =>
      rw [hbx] at st
      refine ⟨fun _ => Ev.step st (Ev.step (f := fun _ => some noR) (fun k => ?_) (Ev.now _)), fun h => by simp at h⟩
      rw [spec_ReadBech32.j2, if_pos rfl]
    | false =>
      rw [hbx] at st
      have st2 : ∀ k, spec_ReadBech32.j2 (k + 1) s [] one (i : Int) false = spec_ReadBech32.l0 k s [] (if x = 49 then (i : Int) else one) ((i + 1 : Nat) : Int) := fun k => by
        rw [spec_ReadBech32.j2, if_neg (by decide), if_pos (by omega), if_pos (by omega), hx, wsucc (show i < s.size by omega) hn]
        split <;> rfl
      obtain ⟨ih1, ih2⟩ := ih (i + 1) (by omega) (if x = 49 then (i : Int) else one)
      rw [Bool.false_or]
      exact ⟨fun h => Ev.step st (Ev.step st2 (ih1 h)), fun h R hR => Ev.step st (Ev.step st2 (ih2 h R hR))⟩
abbrev noI (q : Nat × Value) : ByteArray × List Int × Int × Option (Nat × Value) := ((⟨#[]⟩ : ByteArray), ([] : List Int), 2, some q)
theorem j1_step (s : ByteArray) (a b : Bool) (i k : Nat) (h : i < s.size) (hn : s.size ≤ 1000000) (hab : (a && b) = false) (x : Int) (hx : bt s (i : Int) = x) :
    bech32_DecodeNoLimitWithVersion.j1 (k + 1) s a b (i : Int) false = if ((a || isLow x) && (b || isUp x)) = true then some (noI (45, .agg #[])) else bech32_DecodeNoLimitWithVersion.l0 k s (a || isLow x) (b || isUp x) ((i + 1 : Nat) : Int) := by
  rw [bech32_DecodeNoLimitWithVersion.j1, if_neg (by decide), hx, wsucc h hn]
  have h0 : 0 ≤ (i : Int) := Int.natCast_nonneg i
  have h1 : (i : Int) < (s.size : Int) := by omega
  simp only [if_pos h0, if_pos h1, ge_iff_le]
  unfold isLow isUp
  cases a <;> cases b <;> by_cases h1 : 97 ≤ x <;> by_cases h2 : 65 ≤ x <;> by_cases h3 : x ≤ 122 <;> by_cases h4 : x ≤ 90 <;> simp [h1, h2, h3, h4] at hab ⊢ <;> omega
theorem ev_impl_loop (s : ByteArray) (hn : s.size ≤ 1000000) : ∀ m i, i + m = s.size → ∀ a b : Bool, (a && b) = false →
    ((((bytesOf s).drop i).any bad || ((a || ((bytesOf s).drop i).any isLow) && (b || ((bytesOf s).drop i).any isUp))) = true → ∃ q, Ev (fun k => bech32_DecodeNoLimitWithVersion.l0 k s a b (i : Int)) (noI q)) ∧
    ((((bytesOf s).drop i).any bad || ((a || ((bytesOf s).drop i).any isLow) && (b || ((bytesOf s).drop i).any isUp))) = false → ∀ R, Ev (fun k => bech32_DecodeNoLimitWithVersion.l0 k s (a || ((bytesOf s).drop i).any isLow) (b || ((bytesOf s).drop i).any isUp) (s.size : Int)) R → Ev (fun k => bech32_DecodeNoLimitWithVersion.l0 k s a b (i : Int)) R) := by
  intro m
  induction m with
  | zero =>
    intro i hi a b hab
    have e : i = s.size := by omega
    subst e
    have hd : (bytesOf s).drop s.size = [] := List.drop_eq_nil_of_le (by rw [bytesOf_length]; omega)
    rw [hd]
    simp only [List.any_nil, Bool.or_false, Bool.false_or]
    exact ⟨fun h => absurd h (by rw [hab]; decide), fun _ R h => h⟩
  | succ m ih =>
    intro i hi a b hab
    have hil : i < (bytesOf s).length := by rw [bytesOf_length]; omega
    rw [drop_cons hil, List.any_cons, List.any_cons, List.any_cons]
    have hx := bt_nat s i
    generalize hb : (bytesOf s).getD i 0 = x at hx ⊢
    have st : ∀ k, bech32_DecodeNoLimitWithVersion.l0 (k + 1) s a b (i : Int) = bech32_DecodeNoLimitWithVersion.j1 k s a b (i : Int) (bad x) := fun k => by
      rw [bech32_DecodeNoLimitWithVersion.l0, if_pos (by omega), if_pos (by omega), hx]
      unfold bad
      by_cases h1 : x < 33
      · rw [if_pos h1]; simp [h1]
      · rw [if_neg h1]; simp [h1]
    cases hbx : bad x with
    | true =>
      rw [hbx] at st
      refine ⟨fun _ => ⟨(43, .int .i32 (wrap32 x)), Ev.step st (Ev.step (f := fun _ => some (noI _)) (fun k => ?_) (Ev.now _))⟩, fun h => by simp at h⟩
      rw [bech32_DecodeNoLimitWithVersion.j1, if_pos rfl, if_pos (by omega), if_pos (by omega), hx]
    | false =>
      rw [hbx] at st
      have st2 := fun k => j1_step s a b i k (by omega) hn hab x hx
      rw [Bool.false_or, ← Bool.or_assoc, ← Bool.or_assoc]
      cases hm : ((a || isLow x) && (b || isUp x)) with
      | true =>
        simp only [hm, if_true] at st2
        refine ⟨fun _ => ⟨_, Ev.step st (Ev.step (f := fun _ => some (noI _)) st2 (Ev.now _))⟩, fun h => ?_⟩
        rw [Bool.and_eq_true] at hm
        rw [hm.1, hm.2] at h
        simp at h
      | false =>
        simp only [hm] at st2
        obtain ⟨ih1, ih2⟩ := ih (i + 1) (by omega) _ _ hm
        refine ⟨fun h => ?_, fun h R hR => Ev.step st (Ev.step st2 (ih2 h R hR))⟩
        obtain ⟨q, hq⟩ := ih1 h
        exact ⟨q, Ev.step st (Ev.step st2 hq)⟩
theorem bytes_low {L : List Int} (h : ByteL L) : bytesOf (strOfNums L) = L := nums_data h
/-- The text in small letters. -/
def lowS (s : ByteArray) : ByteArray := strOfNums ((bytesOf s).map lowB)
theorem lowS_bytes (s : ByteArray) : bytesOf (lowS s) = (bytesOf s).map lowB := bytes_low (low_bytes (bytesOf_byte s))
theorem lowS_size (s : ByteArray) : (lowS s).size = s.size := by
  rw [← bytesOf_length, lowS_bytes, List.length_map, bytesOf_length]
theorem lowS_id {s : ByteArray} (h : (bytesOf s).any isUp = false) : lowS s = s := by
  have e : (bytesOf s).map lowB = bytesOf s := by
    rw [List.any_eq_false] at h
    refine (List.map_congr_left fun x hx => ?_).trans (List.map_id _)
    have := h x hx
    unfold isUp at this
    unfold lowB
    rw [if_neg (by rintro ⟨a, b⟩; exact this (by simp [a, b]))]
    rfl
  unfold lowS; rw [e, str_bytesOf]
theorem lastIx_app (M : List Int) : ∀ (one : Int) (i : Nat) (x : Int), lastIx one i (M ++ [x]) = if x = 49 then ((i + M.length : Nat) : Int) else lastIx one i M := by
  induction M with
  | nil => intro one i x; rfl
  | cons y M ih =>
    intro one i x
    rw [List.cons_append, lastIx, ih, List.length_cons, show i + 1 + M.length = i + (M.length + 1) by omega]; rfl
theorem lastIx_map (M : List Int) : ∀ (one : Int) (i : Nat), lastIx one i (M.map lowB) = lastIx one i M := by
  induction M with
  | nil => intro one i; rfl
  | cons y M ih =>
    intro one i
    have e : (lowB y = 49) = (y = 49) := by unfold lowB; split <;> (apply propext; constructor <;> intro h <;> omega)
    rw [List.map_cons, lastIx, lastIx, ih]
    simp only [e]
theorem lastIx_range (M : List Int) : ∀ (one : Int) (i : Nat), -1 ≤ one → one < i → -1 ≤ lastIx one i M ∧ lastIx one i M < i + M.length := by
  induction M with
  | nil => intro one i h1 h2; exact ⟨h1, by simpa [lastIx] using h2⟩
  | cons y M ih =>
    intro one i h1 h2
    rw [lastIx, List.length_cons]
    have := ih (if y = 49 then (i : Int) else one) (i + 1) (by split <;> omega) (by split <;> omega)
    omega
theorem ev_last (s : ByteArray) (hn : s.size ≤ 1000000) : Ev (fun k => strings_LastIndexByte.f k s 49) (lastIx (-1) 0 (bytesOf s)) := by
  have go : ∀ j, j ≤ s.size → Ev (fun k => bytealg_LastIndexByteString.l0 k s 49 ((j : Int) - 1)) (lastIx (-1) 0 ((bytesOf s).take j)) := by
    intro j
    induction j with
    | zero =>
      intro _
      refine Ev.step (f := fun _ => some _) (fun k => ?_) (Ev.now _)
      rw [bytealg_LastIndexByteString.l0, if_neg (by omega)]; rfl
    | succ j ih =>
      intro hj
      have hjl : j < (bytesOf s).length := by rw [bytesOf_length]; omega
      have e : (((j + 1 : Nat) : Int) - 1) = (j : Int) := by omega
      have et : (bytesOf s).take (j + 1) = (bytesOf s).take j ++ [(bytesOf s).getD j 0] := by
        rw [List.take_add_one, List.getD_eq_getElem?_getD, List.getElem?_eq_getElem hjl]; rfl
      rw [e, et, lastIx_app, List.length_take, Nat.min_eq_left (by omega), Nat.zero_add]
      have st : ∀ k, bytealg_LastIndexByteString.l0 (k + 1) s 49 (j : Int) = if (bytesOf s).getD j 0 = 49 then some (j : Int) else bytealg_LastIndexByteString.l0 k s 49 ((j : Int) - 1) := fun k => by
        rw [bytealg_LastIndexByteString.l0, if_pos (by omega), if_pos (by omega), if_pos (by omega), bt_nat, w64 (by omega) (by omega)]
      by_cases h : (bytesOf s).getD j 0 = 49
      · simp only [if_pos h] at st ⊢
        exact Ev.step (f := fun _ => some _) st (Ev.now _)
      · simp only [if_neg h] at st ⊢
        exact Ev.step st (ih (by omega))
  have h := go s.size (Nat.le_refl _)
  rw [List.take_of_length_le (by rw [bytesOf_length]; exact Nat.le_refl _)] at h
  refine Ev.congr (f := fun k => (bytealg_LastIndexByteString.f k s 49).bind fun t => some t) (fun k => rfl) (Ev.bind (Ev.congr (fun k => ?_) h) (Ev.now _))
  show bytealg_LastIndexByteString.f k s 49 = _
  unfold bytealg_LastIndexByteString.f
  rw [w64 (by omega) (by omega)]
/-- The digits of bech32. -/
abbrev csB : ByteArray := ⟨#[113, 112, 122, 114, 121, 57, 120, 56, 103, 102, 50, 116, 118, 100, 119, 48, 115, 51, 106, 110, 53, 52, 107, 104, 99, 101, 54, 109, 117, 97, 55, 108]⟩
def dg (c : Int) : Int := Go.Lib.indexByte csB.data.toList c.toNat.toUInt8
theorem indexByte_le (l : List UInt8) (c : UInt8) : Go.Lib.indexByte l c < l.length ∨ Go.Lib.indexByte l c = -1 := by
  induction l with
  | nil => exact .inr rfl
  | cons b l ih =>
    unfold Go.Lib.indexByte
    rw [List.length_cons]
    split
    · left; omega
    · split
      · exact .inr rfl
      · rename_i h; left; simp at h; omega
theorem dg_range (c : Int) : -1 ≤ dg c ∧ dg c < 32 := by
  refine ⟨Go.Lib.indexByte_ge _ _, ?_⟩
  rcases indexByte_le csB.data.toList c.toNat.toUInt8 with h | h
  · exact Int.lt_of_lt_of_le h (by decide)
  · unfold dg; omega
theorem ev_place (cs : ByteArray) (hn : cs.size ≤ 1000) (c : Int) (h0 : 0 ≤ c) (h1 : c < 256) : Ev (fun k => spec_place.f k cs c) (Go.Lib.indexByte cs.data.toList c.toNat.toUInt8) := by
  have hcs : ∀ i : Nat, (h : i < cs.size) → cs.data.toList.drop i = cs[i] :: cs.data.toList.drop (i + 1) := fun i h => List.drop_eq_getElem_cons (l := cs.data.toList) (by rw [data_length]; exact h)
  have go : ∀ m i, i + m = cs.size → Ev (fun k => spec_place.l0 k cs c (i : Int)) (if Go.Lib.indexByte (cs.data.toList.drop i) c.toNat.toUInt8 = -1 then -1 else Go.Lib.indexByte (cs.data.toList.drop i) c.toNat.toUInt8 + i) := by
    intro m
    induction m with
    | zero =>
      intro i hi
      rw [List.drop_eq_nil_of_le (by rw [data_length]; omega)]
      refine Ev.step (f := fun _ => some _) (fun k => ?_) (Ev.now _)
      rw [spec_place.l0, if_neg (by omega)]; rfl
    | succ m ih =>
      intro i hi
      have hil : i < cs.size := by omega
      rw [hcs i hil]
      have hb : bt cs (i : Int) = (cs[i].toNat : Int) := by
        rw [← bt_at cs (i : Int) (by simpa using hil)]; rfl
      have st : ∀ k, spec_place.l0 (k + 1) cs c (i : Int) = if (cs[i].toNat : Int) = c then some (i : Int) else spec_place.l0 k cs c ((i + 1 : Nat) : Int) := fun k => by
        rw [spec_place.l0, if_pos (by omega), if_pos (by omega), hb, wsucc hil (by omega)]
      have eb : (cs[i] == c.toNat.toUInt8) = decide ((cs[i].toNat : Int) = c) := by
        have e : c.toNat.toUInt8.toNat = c.toNat := by
          rw [show c.toNat.toUInt8.toNat = c.toNat % 256 from UInt8.toNat_ofNat']; omega
        rw [Bool.eq_iff_iff, beq_iff_eq, decide_eq_true_iff]
        constructor
        · intro h; rw [h, e]; omega
        · intro h; exact UInt8.toNat_inj.1 (by rw [e]; omega)
      rw [Go.Lib.indexByte, eb]
      by_cases h : (cs[i].toNat : Int) = c
      · simp only [if_pos h] at st
        rw [if_pos (show decide ((cs[i].toNat : Int) = c) = true by simp [h])]
        rw [if_neg (by decide), Int.zero_add]
        exact Ev.step (f := fun _ => some _) st (Ev.now _)
      · simp only [if_neg h] at st
        rw [if_neg (show ¬ decide ((cs[i].toNat : Int) = c) = true by simp [h])]
        have := ih (i + 1) (by omega)
        refine Ev.step st ?_
        by_cases h2 : Go.Lib.indexByte (cs.data.toList.drop (i + 1)) c.toNat.toUInt8 = -1
        · rw [if_pos h2] at this
          rw [h2]
          exact this
        · rw [if_neg h2] at this
          have h3 : (Go.Lib.indexByte (cs.data.toList.drop (i + 1)) c.toNat.toUInt8 == -1) = false := by simp [h2]
          have h4 := Go.Lib.indexByte_ge (cs.data.toList.drop (i + 1)) c.toNat.toUInt8
          rw [show (if (Go.Lib.indexByte (cs.data.toList.drop (i + 1)) c.toNat.toUInt8 == -1) = true then -1 else Go.Lib.indexByte (cs.data.toList.drop (i + 1)) c.toNat.toUInt8 + 1) = Go.Lib.indexByte (cs.data.toList.drop (i + 1)) c.toNat.toUInt8 + 1 by rw [h3]; rfl]
          rw [if_neg (by omega)]
          rw [show Go.Lib.indexByte (cs.data.toList.drop (i + 1)) c.toNat.toUInt8 + 1 + (i : Int) = Go.Lib.indexByte (cs.data.toList.drop (i + 1)) c.toNat.toUInt8 + ((i + 1 : Nat) : Int) by omega]
          exact this
  have h := go cs.size 0 (by omega)
  rw [List.drop_zero] at h
  refine Ev.congr (f := fun k => spec_place.l0 k cs c ((0 : Nat) : Int)) (fun k => rfl) ?_
  by_cases h2 : Go.Lib.indexByte cs.data.toList c.toNat.toUInt8 = -1
  · rw [if_pos h2] at h; rw [h2]; exact h
  · rw [if_neg h2] at h; simpa using h
end Go.Proofs.YtbbeedclkfcmeaaDoor.KFnReadBech32
