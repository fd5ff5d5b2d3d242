/- FnReadBech32: digits, sums, and the law. -/
import Derived.Test.YtbbeedclkfcmeaaDoorRb6
namespace Go.Proofs.YtbbeedclkfcmeaaDoor.KFnReadBech32
open Go.RowKit Go.Proofs.YtbbeedclkfcmeaaDoorW.PrintWords Go.Proofs.YtbbeedclkfcmeaaDoorW.PrintLast Go.Proofs.YtbbeedclkfcmeaaDoorW.PrintMore Go.Proofs.YtbbeedclkfcmeaaDoor.Snk
set_option linter.unusedVariables false
set_option linter.unusedSimpArgs false
theorem bytesOf_extract (s : ByteArray) (a b : Nat) : bytesOf (s.extract a b) = ((bytesOf s).take b).drop a := by
  unfold bytesOf
  rw [ByteArray.data_extract, Array.toList_extract, List.extract_eq_take_drop, List.map_take, List.map_drop, List.drop_take]
def noDg (c : Int) : Bool := decide (dg c < 0)
/-- The end of spec.ReadBech32. -/
theorem ev_digits (t H : ByteArray) (hn : t.size ≤ 1000000) : ∀ m i, i + m = t.size → ∀ acc : List Int, acc.length ≤ i →
    (((bytesOf t).drop i).any noDg = true → Ev (fun k => spec_ReadBech32.l1 k t H acc (i : Int)) noR) ∧
    (((bytesOf t).drop i).any noDg = false → ∀ R, Ev (fun k => spec_ReadBech32.l1 k t H (acc ++ ((bytesOf t).drop i).map dg) (t.size : Int)) R → Ev (fun k => spec_ReadBech32.l1 k t H acc (i : Int)) R) := by
  intro m
  induction m with
  | zero =>
    intro i hi acc ha
    have e : i = t.size := by omega
    subst e
    rw [List.drop_eq_nil_of_le (by rw [bytesOf_length]; omega)]
    exact ⟨fun h => by simp at h, fun _ R h => by simpa using h⟩
  | succ m ih =>
    intro i hi acc ha
    have hil : i < (bytesOf t).length := by rw [bytesOf_length]; omega
    rw [drop_cons hil, List.any_cons]
    have hx := bt_nat t i
    generalize hb : (bytesOf t).getD i 0 = x at hx ⊢
    have hr := bt_in t i hx
    have hp := ev_place csB (by decide) x hr.1 (by omega)
    have hd := dg_range x
    have st : ∀ k, spec_ReadBech32.l1 (k + 1) t H acc (i : Int) = (spec_place.f k csB x).bind fun t120 => (if t120 < 0 then (some ((⟨#[]⟩ : ByteArray), ([] : List Int), 0, false)) else (if acc.length < 140737488355328 then (spec_ReadBech32.l1 k t H (acc ++ [(t120) % 256]) (wrap64 ((i : Int) + 1))) else (none))) := fun k => by
      rw [spec_ReadBech32.l1, if_pos (by omega), if_pos (by omega), hx]
    by_cases hdx : dg x < 0
    · have : noDg x = true := by unfold noDg; simp [hdx]
      rw [this]
      refine ⟨fun _ => Ev.step st (Ev.bind hp ?_), fun h => by simp at h⟩
      refine Ev.congr (f := fun _ => some noR) (fun k => ?_) (Ev.now _)
      exact if_pos hdx
    · have : noDg x = false := by unfold noDg; simp [hdx]
      rw [this, Bool.false_or, List.map_cons]
      obtain ⟨ih1, ih2⟩ := ih (i + 1) (by omega) (acc ++ [dg x]) (by rw [List.length_append, List.length_singleton]; omega)
      have st2 : ∀ k, (if Go.Lib.indexByte csB.data.toList x.toNat.toUInt8 < 0 then (some ((⟨#[]⟩ : ByteArray), ([] : List Int), 0, false)) else (if acc.length < 140737488355328 then (spec_ReadBech32.l1 k t H (acc ++ [(Go.Lib.indexByte csB.data.toList x.toNat.toUInt8) % 256]) (wrap64 ((i : Int) + 1))) else (none))) = spec_ReadBech32.l1 k t H (acc ++ [dg x]) ((i + 1 : Nat) : Int) := fun k => by
        have e : Go.Lib.indexByte csB.data.toList x.toNat.toUInt8 = dg x := rfl
        rw [e, if_neg hdx, if_pos (by omega), Int.emod_eq_of_lt (by omega) (by omega), wsucc (show i < t.size by omega) hn]
      refine ⟨fun h => Ev.step st (Ev.bind hp (Ev.congr st2 (ih1 h))), fun h R hR => Ev.step st (Ev.bind hp (Ev.congr st2 (ih2 h R ?_)))⟩
      rw [List.append_assoc]
      exact hR
theorem ev_toBytes (t : ByteArray) (hn : t.size ≤ 1000000) :
    ((bytesOf t).any noDg = true → ∃ q, Ev (fun k => bech32_toBytes.f k t) (([] : List Int), some q)) ∧
    ((bytesOf t).any noDg = false → Ev (fun k => bech32_toBytes.f k t) ((bytesOf t).map dg, none)) := by
  have go : ∀ m i, i + m = t.size → ∀ acc : List Int, acc.length ≤ i →
    (((bytesOf t).drop i).any noDg = true → ∃ q, Ev (fun k => bech32_toBytes.l0 k t acc (i : Int)) (([] : List Int), some q)) ∧
    (((bytesOf t).drop i).any noDg = false → Ev (fun k => bech32_toBytes.l0 k t acc (i : Int)) (acc ++ ((bytesOf t).drop i).map dg, none)) := by
    intro m
    induction m with
    | zero =>
      intro i hi acc ha
      rw [List.drop_eq_nil_of_le (by rw [bytesOf_length]; omega)]
      refine ⟨fun h => by simp at h, fun _ => Ev.step (f := fun _ => some (acc, none)) (fun k => ?_) (by simpa using Ev.now _)⟩
      rw [bech32_toBytes.l0, if_neg (by omega)]
    | succ m ih =>
      intro i hi acc ha
      have hil : i < (bytesOf t).length := by rw [bytesOf_length]; omega
      rw [drop_cons hil, List.any_cons]
      have hx := bt_nat t i
      generalize hb : (bytesOf t).getD i 0 = x at hx ⊢
      have hd := dg_range x
      have st : ∀ k, bech32_toBytes.l0 (k + 1) t acc (i : Int) = if dg x < 0 then some (([] : List Int), some (59, .int .i32 (wrap32 x))) else bech32_toBytes.l0 k t (acc ++ [dg x]) ((i + 1 : Nat) : Int) := fun k => by
        rw [bech32_toBytes.l0, if_pos (by omega), if_pos (by omega), hx, wsucc (show i < t.size by omega) hn]
        show (if dg x < 0 then _ else if acc.length < _ then bech32_toBytes.l0 k t (acc ++ [dg x % 256]) _ else _) = _
        by_cases hdx : dg x < 0
        · rw [if_pos hdx, if_pos hdx]
        · rw [if_neg hdx, if_neg hdx, if_pos (by omega), Int.emod_eq_of_lt (by omega) (by omega)]
      by_cases hdx : dg x < 0
      · have : noDg x = true := by unfold noDg; simp [hdx]
        rw [this]
        simp only [if_pos hdx] at st
        exact ⟨fun _ => ⟨_, Ev.step (f := fun _ => some _) st (Ev.now _)⟩, fun h => by simp at h⟩
      · have : noDg x = false := by unfold noDg; simp [hdx]
        rw [this, Bool.false_or, List.map_cons]
        simp only [if_neg hdx] at st
        obtain ⟨ih1, ih2⟩ := ih (i + 1) (by omega) (acc ++ [dg x]) (by rw [List.length_append, List.length_singleton]; omega)
        refine ⟨fun h => ?_, fun h => ?_⟩
        · obtain ⟨q, hq⟩ := ih1 h
          exact ⟨q, Ev.step st hq⟩
        · have := ih2 h
          rw [List.append_assoc] at this
          exact Ev.step st this
  have h := go t.size 0 (by omega) [] (Nat.le_refl _)
  rw [List.drop_zero, List.nil_append] at h
  have e : ∀ k, bech32_toBytes.f k t = bech32_toBytes.l0 k t [] ((0 : Nat) : Int) := fun k => by
    unfold bech32_toBytes.f
    rw [if_pos (Int.natCast_nonneg _), if_pos (by omega)]; rfl
  refine ⟨fun hh => ?_, fun hh => Ev.congr e (h.2 hh)⟩
  obtain ⟨q, hq⟩ := h.1 hh
  exact ⟨q, Ev.congr e hq⟩
theorem ev_expand (s : ByteArray) (hn : s.size ≤ 1000000) : Ev (fun k => spec_expand.f k s) ((bytesOf s).map (fun x => ((hiN x : Nat) : Int)) ++ 0 :: (bytesOf s).map (fun x => ((loN x : Nat) : Int))) := by
  have go1 : ∀ m i, i + m = s.size → ∀ acc : List Int, acc.length ≤ i + s.size + 1 → Ev (fun k => spec_expand.l1 k s acc (i : Int)) (acc ++ ((bytesOf s).drop i).map (fun x => ((loN x : Nat) : Int))) := by
    intro m
    induction m with
    | zero =>
      intro i hi acc ha
      rw [List.drop_eq_nil_of_le (by rw [bytesOf_length]; omega)]
      refine Ev.step (f := fun _ => some acc) (fun k => ?_) (by simpa using Ev.now _)
      rw [spec_expand.l1, if_neg (by omega)]
    | succ m ih =>
      intro i hi acc ha
      have hil : i < (bytesOf s).length := by rw [bytesOf_length]; omega
      rw [drop_cons hil, List.map_cons]
      have hx := bt_nat s i
      generalize hb : (bytesOf s).getD i 0 = x at hx ⊢
      have hr := bt_in s i hx
      have := ih (i + 1) (by omega) (acc ++ [((loN x : Nat) : Int)]) (by rw [List.length_append, List.length_singleton]; omega)
      rw [List.append_assoc] at this
      refine Ev.step (fun k => ?_) this
      rw [spec_expand.l1, if_pos (by omega), if_pos (by omega), if_pos (by omega), hx, wsucc (show i < s.size by omega) hn]
      rw [show Int.tmod x 32 = ((loN x : Nat) : Int) by unfold loN; rw [Int.tmod_eq_emod_of_nonneg hr.1]; omega]
  have go0 : ∀ m i, i + m = s.size → ∀ acc : List Int, acc.length ≤ i → Ev (fun k => spec_expand.l0 k s acc (i : Int)) (acc ++ ((bytesOf s).drop i).map (fun x => ((hiN x : Nat) : Int)) ++ 0 :: (bytesOf s).map (fun x => ((loN x : Nat) : Int))) := by
    intro m
    induction m with
    | zero =>
      intro i hi acc ha
      rw [List.drop_eq_nil_of_le (by rw [bytesOf_length]; omega)]
      have := go1 s.size 0 (by omega) (acc ++ [0]) (by rw [List.length_append, List.length_singleton]; omega)
      rw [List.drop_zero, List.append_assoc] at this
      rw [List.map_nil, List.append_nil]
      refine Ev.step (fun k => ?_) this
      rw [spec_expand.l0, if_neg (by omega), if_pos (by omega)]; rfl
    | succ m ih =>
      intro i hi acc ha
      have hil : i < (bytesOf s).length := by rw [bytesOf_length]; omega
      rw [drop_cons hil, List.map_cons]
      have hx := bt_nat s i
      generalize hb : (bytesOf s).getD i 0 = x at hx ⊢
      have hr := bt_in s i hx
      have := ih (i + 1) (by omega) (acc ++ [((hiN x : Nat) : Int)]) (by rw [List.length_append, List.length_singleton]; omega)
      rw [List.append_assoc acc] at this
      refine Ev.step (fun k => ?_) this
      rw [spec_expand.l0, if_pos (by omega), if_pos (by omega), if_pos (by omega), hx, wsucc (show i < s.size by omega) hn]
      rw [show (Int.tdiv x 32) % 256 = ((hiN x : Nat) : Int) by unfold hiN; rw [Int.tdiv_eq_ediv_of_nonneg hr.1]; omega]
  have h := go0 s.size 0 (by omega) [] (Nat.le_refl _)
  rw [List.drop_zero, List.nil_append] at h
  exact h
end Go.Proofs.YtbbeedclkfcmeaaDoor.KFnReadBech32
