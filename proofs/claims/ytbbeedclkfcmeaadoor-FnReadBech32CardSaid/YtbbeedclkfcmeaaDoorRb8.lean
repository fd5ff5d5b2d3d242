/- FnReadBech32: the sum, and the law. -/
import Derived.Test.YtbbeedclkfcmeaaDoorRb7
namespace Go.Proofs.YtbbeedclkfcmeaaDoor.KFnReadBech32
open Go.RowKit Go.Proofs.YtbbeedclkfcmeaaDoorW.PrintWords Go.Proofs.YtbbeedclkfcmeaaDoorW.PrintLast Go.Proofs.YtbbeedclkfcmeaaDoorW.PrintMore Go.Proofs.YtbbeedclkfcmeaaDoor.Snk
set_option linter.unusedVariables false
set_option linter.unusedSimpArgs false
theorem wraps_u32' (n : Int) (h₀ : 0 ≤ n) (h₁ : n < 2 ^ 32) : IntKind.u32.wrap n = n := by rw [IntKind.wrap_u32]; omega
theorem xor32 (a b : Nat) (ha : a < 2 ^ 30) (hb : b < 2 ^ 30) : bits .xor .u32 (a : Int) (b : Int) = ((a ^^^ b : Nat) : Int) := by
  have ha' : a % 2 ^ IntKind.u32.bits = a := Nat.mod_eq_of_lt (Nat.lt_of_lt_of_le ha (by decide))
  have hb' : b % 2 ^ IntKind.u32.bits = b := Nat.mod_eq_of_lt (Nat.lt_of_lt_of_le hb (by decide))
  simp only [bits, BitVec.ofInt_natCast, BitVec.toNat_xor, BitVec.toNat_ofNat, ha', hb']
  have h := Nat.xor_lt_two_pow ha hb
  exact wraps_u32' _ (Int.natCast_nonneg _) (by omega)
theorem and32 (x : Int) (i : Nat) (hi : i ≤ 32) (h0 : 0 ≤ x) (h1 : x < 2 ^ 32) : bits .and .u32 x (2 ^ i - 1) = x % 2 ^ i := bits_mask .u32 32 (by decide) wraps_u32' i hi x h0 h1
abbrev GL : List Int := [996825010, 642813549, 513874426, 1027748829, 705979059]
theorem rd_GL (j : Nat) (hj : j < 5) : rd GL (j : Int) = (gens j : Nat) := by
  unfold rd; rw [Int.toNat_natCast]
  rcases j with _ | _ | _ | _ | _ | j
  iterate 5 rfl
  omega
theorem test32 {b : Nat} (hb : b < 32) (j : Nat) (hj : j < 5) : bits .and .u32 (shr .u32 (b : Int) (j : Int)) 1 = ((b / 2 ^ j % 2 : Nat) : Int) := by
  have e : shr .u32 (b : Int) (j : Int) = ((b / 2 ^ j : Nat) : Int) := by
    unfold shr
    rw [Int.toNat_natCast, Nat.min_eq_left (show j ≤ IntKind.u32.bits by have : IntKind.u32.bits = 32 := rfl; omega), Int.natCast_ediv, Int.natCast_pow]; rfl
  have hl : b / 2 ^ j ≤ b := Nat.div_le_self _ _
  have h := and32 ((b / 2 ^ j : Nat) : Int) 1 (by decide) (Int.natCast_nonneg _) (by omega)
  rw [e]
  refine (show bits .and .u32 ((b / 2 ^ j : Nat) : Int) 1 = _ from h).trans ?_
  omega
theorem ev_inner (l : List Int) (i : Nat) (hi : i < l.length) (hl : l.length ≤ 1000000) (c b : Nat) (hc : c < 2 ^ 30) (hb : b < 32) (R : Int) (h : Ev (fun k => spec_polymod.l0 k l GL (gfold b c 5 : Nat) ((i + 1 : Nat) : Int)) R) :
    Ev (fun k => spec_polymod.l1 k l GL (c : Nat) (i : Int) (b : Nat) 0) R := by
  have go : ∀ m j, j + m = 5 → Ev (fun k => spec_polymod.l1 k l GL (gfold b c j : Nat) (i : Int) (b : Nat) (j : Int)) R := by
    intro m
    induction m with
    | zero =>
      intro j hj
      obtain rfl : j = 5 := by omega
      refine Ev.step (fun k => ?_) h
      rw [spec_polymod.l1, if_neg (by decide), wsucc hi hl]
    | succ m ih =>
      intro j hj
      refine Ev.step (fun k => ?_) (ih (j + 1) (by omega))
      rw [spec_polymod.l1, if_pos (by omega), if_pos (by omega), test32 hb j (by omega), wsucc (show j < 5 by omega) (by decide), rd_GL j (by omega), xor32 _ _ (gfold_lt hc j) (gens_lt j)]
      show _ = spec_polymod.l1 k l GL (gst b (gfold b c j) j : Nat) _ _ _
      unfold gst
      by_cases h2 : b / 2 ^ j % 2 = 1
      · rw [if_pos (show ((b / 2 ^ j % 2 : Nat) : Int) = 1 by rw [h2]; rfl), if_pos (show (j : Int) < (GL.length : Int) from by show (j : Int) < 5; omega), if_pos h2]
      · rw [if_neg (show ¬ ((b / 2 ^ j % 2 : Nat) : Int) = 1 by omega), if_neg h2]
  exact go 5 0 rfl
theorem ev_polymod (l : List Int) (hB : ByteL l) (hl : l.length ≤ 1000000) : Ev (fun k => spec_polymod.f k l) ((pms 1 (l.map Int.toNat) : Nat) : Int) := by
  have hall : ∀ v ∈ l.map Int.toNat, v < 256 := by_all hB
  have go : ∀ m i, i + m = l.length → Ev (fun k => spec_polymod.l0 k l GL (pms 1 ((l.map Int.toNat).take i) : Nat) (i : Int)) ((pms 1 (l.map Int.toNat) : Nat) : Int) := by
    intro m
    induction m with
    | zero =>
      intro i hi
      refine Ev.step (f := fun _ => some _) (fun k => ?_) (Ev.now _)
      rw [spec_polymod.l0, if_neg (by omega), List.take_of_length_le (by rw [List.length_map]; omega)]
    | succ m ih =>
      intro i hi
      have hil : i < l.length := by omega
      have hlt : pms 1 ((l.map Int.toNat).take i) < 2 ^ 30 := pms_lt (by decide) _ fun v hv => hall v (List.mem_of_mem_take hv)
      have hs := @pms_take 1 (l.map Int.toNat) i (by rw [List.length_map]; exact hil)
      rw [map_getN Int.toNat rfl l i] at hs
      have hx := hB.at i
      have hrd : rd l (i : Int) = l.getD i 0 := by unfold rd; rw [Int.toNat_natCast]
      generalize l.getD i 0 = x at hs hx hrd
      have := ih (i + 1) (by omega)
      rw [← hs] at this
      unfold pm at this
      generalize pms 1 ((l.map Int.toNat).take i) = c at hlt this ⊢
      have hm : c % 2 ^ 25 * 32 ^^^ x.toNat < 2 ^ 30 := mix_lt c (by omega)
      refine Ev.step (fun k => ?_) (ev_inner l i hil hl _ _ hm (div_lt hlt) _ this)
      have e1 : (bits .and .u32 (c : Int) 33554431 * 32) % 4294967296 = ((c % 2 ^ 25 * 32 : Nat) : Int) := by
        have h1 : bits .and .u32 (c : Int) 33554431 = (c : Int) % 2 ^ 25 := and32 (c : Int) 25 (by decide) (Int.natCast_nonneg _) (by omega)
        rw [h1]; omega
      have e2 : x % 4294967296 = ((x.toNat : Nat) : Int) := by omega
      have e3 : (c : Int) / 33554432 = ((c / 2 ^ 25 : Nat) : Int) := by omega
      rw [spec_polymod.l0, if_pos (by omega), if_pos (by omega), hrd, e1, e2, e3, xor32 _ _ (by omega) (by omega)]
  have h := go l.length 0 (by omega)
  rw [List.take_zero] at h
  exact h
theorem ev_same (l : List Int) (hl : l.length ≤ 1000000) : Ev (fun k => laws_same.f k l l) true := by
  have key : ∀ d (i : Nat), i + d = l.length → Ev (fun k => laws_same.l0 k l l i) true := by
    intro d
    induction d with
    | zero =>
      intro i hi
      refine Ev.step (fun k => ?_) (Ev.now _)
      rw [laws_same.l0, if_neg (by omega)]
    | succ d ih =>
      intro i hi
      refine Ev.step (fun k => ?_) (ih (i + 1) (by omega))
      rw [laws_same.l0, if_pos (by omega), if_pos (by omega), if_pos (by omega), if_pos rfl, w64 (by omega) (by omega)]
      rfl
  refine Ev.congr (fun k => ?_) (key l.length 0 (by omega))
  unfold laws_same.f
  rw [if_pos rfl]; rfl
/-- What both sides say. -/
def Said (s : ByteArray) : Prop :=
  (Ev (fun k => spec_ReadBech32.f k s 90) noR ∧ ∃ q, Ev (fun k => bech32_DecodeGeneric.f k s) (noI q)) ∨
  ∃ (H : ByteArray) (D : List Int) (S v : Int), D.length ≤ 1000 ∧ Ev (fun k => spec_ReadBech32.f k s 90) (H, D, S, true) ∧ Ev (fun k => bech32_DecodeGeneric.f k s) (H, D, v, none) ∧ (v == 1) = (S == 734539939)
theorem law_of {s : ByteArray} (hs : s.size ≤ 400) (h : Said s) : ∃ k, laws_FnReadBech32.f k s = some true := by
  have e : ∀ k, laws_FnReadBech32.f k s = (spec_ReadBech32.f k s 90).bind fun bt189 => ((impl_ReadBech32.f k s).bind fun bt195 => (if ((bt195.2.2.2 == 0) == bt189.2.2.2) = true then (if bt189.2.2.2 = true then (if bt195.1.toList = bt189.1.toList then ((laws_same.f k bt195.2.1 bt189.2.1).bind fun t201 => (if t201 = true then (some (bt195.2.2.1 == (bt189.2.2.1 == 734539939))) else (some false))) else (some false)) else (some true)) else (some false))) := fun k => by
    unfold laws_FnReadBech32.f
    rw [if_neg (by omega), if_neg (by omega)]
  rcases h with ⟨h1, q, h2⟩ | ⟨H, D, S, v, hD, h1, h2, hv⟩
  · have h3 : Ev (fun k => impl_ReadBech32.f k s) ((⟨#[]⟩ : ByteArray), ([] : List Int), false, 1) := by
      refine Ev.congr (fun k => rfl) (Ev.bind h2 (Ev.congr (fun k => ?_) (Ev.now _)))
      rfl
    obtain ⟨K1, h1⟩ := h1
    obtain ⟨K3, h3⟩ := h3
    refine ⟨max K1 K3, ?_⟩
    have h1' : spec_ReadBech32.f (max K1 K3) s 90 = some noR := h1 _ (Nat.le_max_left _ _)
    have h3' : impl_ReadBech32.f (max K1 K3) s = some _ := h3 _ (Nat.le_max_right _ _)
    rw [e, h1', Option.bind_some, h3', Option.bind_some]
    rfl
  · have h3 : Ev (fun k => impl_ReadBech32.f k s) (H, D, (v == 1), 0) := by
      refine Ev.congr (fun k => rfl) (Ev.bind h2 (Ev.congr (f := fun k => some (H, D, (v == 1), 0)) (fun k => ?_) (Ev.now _)))
      show (if (none : Option (Nat × Value)).isNone = true then ((impl_copied.f D).bind fun t184 => some (H, t184, (v == 1), 0)) else _) = _
      rw [if_pos (show (none : Option (Nat × Value)).isNone = true from rfl)]
      have : impl_copied.f D = some D := by
        unfold impl_copied.f
        show (if ([] : List Int).length + D.length < 140737488355328 then some ([] ++ D) else none) = some D
        rw [if_pos (by rw [List.length_nil]; omega), List.nil_append]
      rw [this]; rfl
    obtain ⟨K1, h1⟩ := h1
    obtain ⟨K3, h3⟩ := h3
    obtain ⟨K4, h4⟩ := ev_same D (by omega)
    refine ⟨max K1 (max K3 K4), ?_⟩
    have h4' : laws_same.f (max K1 (max K3 K4)) D D = some true := h4 _ (by omega)
    have h1' : spec_ReadBech32.f (max K1 (max K3 K4)) s 90 = some (H, D, S, true) := h1 _ (by omega)
    have h3' : impl_ReadBech32.f (max K1 (max K3 K4)) s = some (H, D, (v == 1), 0) := h3 _ (by omega)
    rw [e, h1', Option.bind_some, h3', Option.bind_some]
    show (if ((0 : Int) == 0) == true then (if true = true then (if H.toList = H.toList then ((laws_same.f (max K1 (max K3 K4)) D D).bind fun t201 => (if t201 = true then (some ((v == 1) == (S == 734539939))) else (some false))) else (some false)) else (some true)) else some false) = _
    rw [if_pos (by decide), if_pos rfl, if_pos rfl, h4', Option.bind_some, if_pos rfl, hv, beq_self_eq_true]
theorem generic_of {s : ByteArray} (hs : ¬ (s.size : Int) > 90) {R : ByteArray × List Int × Int × Option (Nat × Value)} (h : Ev (fun k => bech32_DecodeNoLimitWithVersion.f k s) R) : Ev (fun k => bech32_DecodeGeneric.f k s) R := by
  refine Ev.congr (f := fun k => (bech32_DecodeNoLimitWithVersion.f k s).bind fun b => some (b.1, b.2.1, b.2.2.1, b.2.2.2)) (fun k => ?_) (Ev.bind h (Ev.now _))
  unfold bech32_DecodeGeneric.f
  rw [if_neg hs]
/-- The sum of both sides. -/
theorem sums (H : ByteArray) (D : List Int) (hD : ByteL D) (m : Nat) :
    pms 1 (((bytesOf H).map (fun x => ((hiN x : Nat) : Int)) ++ 0 :: (bytesOf H).map (fun x => ((loN x : Nat) : Int)) ++ D).map Int.toNat) = polyN (bytesOf H) (D.take m) ((D.drop m).map Int.toNat) := by
  unfold polyN exN
  rw [← pms_app, ← List.map_append, List.take_append_drop]
  congr 1
  simp [List.map_append, List.map_map, Function.comp_def]
theorem said_end (s : ByteArray) (hn : s.size ≤ 90) (p : Nat) (hp : 1 ≤ p) (hpn : p + 7 ≤ s.size)
    (hS : ∀ R, Ev (fun k => spec_ReadBech32.j3 k s [] (p : Int) false) R → Ev (fun k => spec_ReadBech32.f k s 90) R)
    (hI : ∀ R, Ev (fun k => bech32_DecodeNoLimitWithVersion.j3 k (lowS s) (p : Int) false) R → Ev (fun k => bech32_DecodeGeneric.f k s) R) : Said s := by
  have hts : (lowS s).size = s.size := lowS_size s
  generalize ht : lowS s = t at hts hI
  have hlow : spec_lower.f s = some t := by
    unfold spec_lower.f; rw [if_pos (by omega)]; exact congrArg some ht
  have hbl : (bytesOf t).length = s.size := by rw [bytesOf_length, hts]
  have eT : bytesOf (t.extract (p + 1) t.size) = (bytesOf t).drop (p + 1) := by
    rw [bytesOf_extract, List.take_of_length_le (by rw [bytesOf_length]; exact Nat.le_refl _)]
  have sT : (t.extract (p + 1) t.size).size ≤ 1000000 := by rw [ByteArray.size_extract]; omega
  obtain ⟨d1, d2⟩ := ev_digits t (t.extract 0 p) (by omega) (t.size - (p + 1)) (p + 1) (by omega) [] (Nat.zero_le _)
  obtain ⟨b1, b2⟩ := ev_toBytes (t.extract (p + 1) t.size) sT
  rw [eT] at b1 b2
  have s3 : ∀ k, spec_ReadBech32.j3 (k + 1) s [] (p : Int) false = spec_ReadBech32.l1 k t (t.extract 0 p) [] ((p + 1 : Nat) : Int) := fun k => by
    rw [spec_ReadBech32.j3, if_neg (by decide), hlow, Option.bind_some, if_pos (by omega), if_pos (by omega), w64 (by omega) (by omega), Int.toNat_natCast]; rfl
  have i3 : ∀ k, bech32_DecodeNoLimitWithVersion.j3 (k + 1) t (p : Int) false = ((bech32_toBytes.f k (t.extract (p + 1) t.size)).bind fun bt155 => (if bt155.2.isNone = true then ((bech32_bech32VerifyChecksum.f (t.extract 0 p) bt155.1).bind fun bt160 => (if bt160.2 = true then (if 0 ≤ (wrap64 ((bt155.1.length : Int) - 6)) then (if (wrap64 ((bt155.1.length : Int) - 6)) ≤ (bt155.1.length : Int) then (some (t.extract 0 p, (bt155.1.take ((wrap64 ((bt155.1.length : Int) - 6)) : Int).toNat), bt160.1, none)) else (none)) else (none)) else (some ((⟨#[]⟩ : ByteArray), ([] : List Int), 2, some (42, .int .i64 0))))) else (some ((⟨#[]⟩ : ByteArray), ([] : List Int), 2, some (bt155.2.getD (0, Value.bool false)))))) := fun k => by
    rw [bech32_DecodeNoLimitWithVersion.j3, if_neg (by decide), if_pos (by omega), if_pos (by omega), w64 (by omega) (by omega), if_pos (by omega), if_pos (by omega), Int.toNat_natCast, show ((p : Int) + 1).toNat = p + 1 by omega]
  cases hd : ((bytesOf t).drop (p + 1)).any noDg with
  | true =>
    obtain ⟨q, hq⟩ := b1 hd
    exact .inl ⟨hS _ (Ev.step s3 (d1 hd)), q, hI _ (Ev.step i3 (Ev.bind hq (Ev.congr (f := fun _ => some (noI q)) (fun k => rfl) (Ev.now _))))⟩
  | false =>
    have hq := b2 hd
    have hdd := d2 hd
    obtain ⟨D, hDD⟩ : ∃ D, ((bytesOf t).drop (p + 1)).map dg = D := ⟨_, rfl⟩
    rw [hDD] at hq
    rw [hDD, List.nil_append] at hdd
    have hDl : D.length = s.size - (p + 1) := by rw [← hDD, List.length_map, List.length_drop, hbl]
    have hDB : ByteL D := fun x hx => by
      rw [← hDD] at hx
      obtain ⟨c, hc, rfl⟩ := List.mem_map.1 hx
      have h1 := dg_range c
      have h2 := List.any_eq_false.1 hd c hc
      unfold noDg at h2
      simp at h2
      omega
    obtain ⟨H, hH⟩ : ∃ H, t.extract 0 p = H := ⟨_, rfl⟩
    rw [hH] at s3 i3 hdd
    have hHs : H.size = p := by rw [← hH, ByteArray.size_extract]; omega
    obtain ⟨N, hN⟩ : ∃ N, polyN (bytesOf H) (D.take (D.length - 6)) ((D.drop (D.length - 6)).map Int.toNat) = N := ⟨_, rfl⟩
    have w6 : wrap64 ((D.length : Int) - 6) = ((D.length - 6 : Nat) : Int) := by rw [w64 (by omega) (by omega)]; omega
    have c0 : 0 ≤ ((D.length - 6 : Nat) : Int) := Int.natCast_nonneg _
    have c1 : ((D.length - 6 : Nat) : Int) ≤ (D.length : Int) := by omega
    have hex := ev_expand H (by omega)
    have hEB : ByteL ((bytesOf H).map (fun x => ((hiN x : Nat) : Int)) ++ 0 :: (bytesOf H).map (fun x => ((loN x : Nat) : Int)) ++ D) := fun x hx => by
      rcases List.mem_append.1 hx with hx | hx
      · rcases List.mem_append.1 hx with hx | hx
        · obtain ⟨y, hy, rfl⟩ := List.mem_map.1 hx
          have := bytesOf_byte H y hy
          unfold hiN; omega
        · rcases List.mem_cons.1 hx with rfl | hx
          · decide
          · obtain ⟨y, hy, rfl⟩ := List.mem_map.1 hx
            have := bytesOf_byte H y hy
            unfold loN; omega
      · exact hDB x hx
    have hexl : ((bytesOf H).map (fun x => ((hiN x : Nat) : Int)) ++ 0 :: (bytesOf H).map (fun x => ((loN x : Nat) : Int))).length = 2 * p + 1 := by
      rw [List.length_append, List.length_cons, List.length_map, List.length_map, bytesOf_length, hHs]; omega
    have hpol := ev_polymod _ hEB (by rw [List.length_append, hexl]; omega)
    rw [sums H D hDB (D.length - 6), hN] at hpol
    -- the end of the reference
    have se : ∀ R, (if (N : Int) = 1 then (some (H, D.take (D.length - 6), (N : Int), true)) else (if (N : Int) = 734539939 then (some (H, D.take (D.length - 6), (N : Int), true)) else (some noR))) = some R → Ev (fun k => spec_ReadBech32.f k s 90) R := fun R hR => by
      refine hS R (Ev.step s3 (hdd R (Ev.step (f := fun k => ((spec_expand.f k H).bind fun t124 => (if t124.length + D.length < 140737488355328 then ((spec_polymod.f k (t124 ++ D)).bind fun t130 => (if t130 = 1 then (if 0 ≤ (wrap64 ((D.length : Int) - 6)) then (if (wrap64 ((D.length : Int) - 6)) ≤ (D.length : Int) then (some (H, (D.take ((wrap64 ((D.length : Int) - 6)) : Int).toNat), t130, true)) else (none)) else (none)) else (if t130 = 734539939 then (if 0 ≤ (wrap64 ((D.length : Int) - 6)) then (if (wrap64 ((D.length : Int) - 6)) ≤ (D.length : Int) then (some (H, (D.take ((wrap64 ((D.length : Int) - 6)) : Int).toNat), t130, true)) else (none)) else (none)) else (some ((⟨#[]⟩ : ByteArray), ([] : List Int), 0, false))))) else (none)))) (fun k => ?_) (Ev.bind hex ?_))))
      · rw [spec_ReadBech32.l1, if_neg (by omega)]
      · refine Ev.congr (f := fun k => ((spec_polymod.f k ((bytesOf H).map (fun x => ((hiN x : Nat) : Int)) ++ 0 :: (bytesOf H).map (fun x => ((loN x : Nat) : Int)) ++ D)).bind fun t130 => (if t130 = 1 then (some (H, D.take (D.length - 6), t130, true)) else (if t130 = 734539939 then (some (H, D.take (D.length - 6), t130, true)) else (some noR))))) (fun k => ?_) (Ev.bind hpol (Ev.congr (f := fun _ => some R) (fun k => hR) (Ev.now _)))
        rw [if_pos (by rw [hexl]; omega), w6]
        simp only [if_pos c0, if_pos c1, Int.toNat_natCast]
    have iv : bech32_bech32VerifyChecksum.f H D = (bech32_ConstsToVersion.f (N : Int)).bind fun bt151 => (if bt151.2 = true then (some (bt151.1, true)) else (some (2, false))) := by
      unfold bech32_bech32VerifyChecksum.f
      rw [w6, if_pos (Int.natCast_nonneg _), if_pos (by omega), Int.toNat_natCast]
      have : bech32_bech32Polymod.f H (D.take (D.length - 6)) (D.drop (D.length - 6)) = some (N : Int) := by
        unfold bech32_bech32Polymod.f
        rw [if_pos ⟨by omega, by rw [List.length_take]; omega, by rw [List.length_drop]; omega, fun x hx => hDB x (List.mem_of_mem_take hx), fun x hx => hDB x (List.mem_of_mem_drop hx)⟩, hN]
      rw [this, Option.bind_some]
    have ie : ∀ v b R, bech32_bech32VerifyChecksum.f H D = some (v, b) → (if b = true then some (H, D.take (D.length - 6), v, none) else some (noI (42, .int .i64 0))) = some R → Ev (fun k => bech32_DecodeGeneric.f k s) R := fun v b R hv hR => by
      refine hI R (Ev.step i3 (Ev.bind hq (Ev.congr (f := fun _ => some R) (fun k => ?_) (Ev.now _))))
      show (if (none : Option (Nat × Value)).isNone = true then _ else _) = _
      rw [if_pos (show (none : Option (Nat × Value)).isNone = true from rfl), hv, Option.bind_some, ← hR]
      show (if b = true then (if 0 ≤ (wrap64 ((D.length : Int) - 6)) then (if (wrap64 ((D.length : Int) - 6)) ≤ (D.length : Int) then some (H, D.take (wrap64 ((D.length : Int) - 6)).toNat, v, none) else none) else none) else _) = _
      rw [w6]
      simp only [if_pos c0, if_pos c1, Int.toNat_natCast]
    unfold bech32_ConstsToVersion.f at iv
    by_cases n1 : (N : Int) = 1
    · rw [if_pos n1] at iv
      exact .inr ⟨H, D.take (D.length - 6), N, 0, by rw [List.length_take]; omega, se _ (by rw [if_pos n1]), ie 0 true _ iv rfl, by rw [n1]; rfl⟩
    · rw [if_neg n1] at iv
      by_cases n2 : (N : Int) = 734539939
      · rw [if_pos n2] at iv
        exact .inr ⟨H, D.take (D.length - 6), N, 1, by rw [List.length_take]; omega, se _ (by rw [if_neg n1, if_pos n2]), ie 1 true _ iv rfl, by rw [n2]; rfl⟩
      · rw [if_neg n2] at iv
        exact .inl ⟨se _ (by rw [if_neg n1, if_neg n2]), _, ie 2 false _ iv rfl⟩
theorem said (s : ByteArray) : Said s := by
  by_cases h8 : (s.size : Int) < 8
  · refine .inl ⟨Ev.congr (f := fun k => spec_ReadBech32.j0 k s [] true) (fun k => by unfold spec_ReadBech32.f; rw [if_pos h8]) (Ev.step (f := fun _ => some noR) (fun k => by rw [spec_ReadBech32.j0, if_pos rfl]) (Ev.now _)), _, generic_of (by omega) (Ev.congr (f := fun _ => some (noI _)) (fun k => by unfold bech32_DecodeNoLimitWithVersion.f; rw [if_pos h8]) (Ev.now _))⟩
  by_cases h90 : (s.size : Int) > 90
  · refine .inl ⟨Ev.congr (f := fun k => spec_ReadBech32.j0 k s [] true) (fun k => by unfold spec_ReadBech32.f; rw [if_neg h8, if_pos h90]) (Ev.step (f := fun _ => some noR) (fun k => by rw [spec_ReadBech32.j0, if_pos rfl]) (Ev.now _)), _, Ev.congr (f := fun _ => some (noI _)) (fun k => by unfold bech32_DecodeGeneric.f; rw [if_pos h90]) (Ev.now _)⟩
  have hn : s.size ≤ 90 := by omega
  have hmix := ev_mixed s (by omega)
  have hsp : ∀ b R, ((bytesOf s).any isLow && (bytesOf s).any isUp) = b → Ev (fun k => spec_ReadBech32.j0 k s [] b) R → Ev (fun k => spec_ReadBech32.f k s 90) R := fun b R hb h => by
    rw [hb] at hmix
    refine Ev.congr (f := fun k => (spec_mixed.f k s).bind fun t => spec_ReadBech32.j0 k s [] t) (fun k => by unfold spec_ReadBech32.f; rw [if_neg h8, if_neg h90]) (Ev.bind hmix h)
  obtain ⟨i1, i2⟩ := ev_impl_loop s (by omega) s.size 0 (by omega) false false rfl
  rw [List.drop_zero, Bool.false_or, Bool.false_or] at i1 i2
  have hip : ∀ R, Ev (fun k => bech32_DecodeNoLimitWithVersion.l0 k s false false ((0 : Nat) : Int)) R → Ev (fun k => bech32_DecodeGeneric.f k s) R := fun R h =>
    generic_of h90 (Ev.congr (fun k => by unfold bech32_DecodeNoLimitWithVersion.f; rw [if_neg h8]; rfl) h)
  cases hm : ((bytesOf s).any isLow && (bytesOf s).any isUp) with
  | true =>
    rw [hm, Bool.or_true] at i1
    obtain ⟨q, hq⟩ := i1 rfl
    exact .inl ⟨hsp true _ hm (Ev.step (f := fun _ => some noR) (fun k => by rw [spec_ReadBech32.j0, if_pos rfl]) (Ev.now _)), q, hip _ hq⟩
  | false =>
    rw [hm, Bool.or_false] at i1 i2
    obtain ⟨s1, s2⟩ := ev_spec_loop s (by omega) s.size 0 (by omega) (-1)
    rw [List.drop_zero] at s1 s2
    have hsp2 : ∀ R, Ev (fun k => spec_ReadBech32.l0 k s [] (-1) ((0 : Nat) : Int)) R → Ev (fun k => spec_ReadBech32.f k s 90) R := fun R h =>
      hsp false R hm (Ev.step (fun k => by rw [spec_ReadBech32.j0, if_neg (by decide)]; rfl) h)
    cases hb : (bytesOf s).any bad with
    | true =>
      obtain ⟨q, hq⟩ := i1 hb
      exact .inl ⟨hsp2 _ (s1 hb), q, hip _ hq⟩
    | false =>
      obtain ⟨one, ho⟩ : ∃ one, lastIx (-1) 0 (bytesOf s) = one := ⟨_, rfl⟩
      have hr := lastIx_range (bytesOf s) (-1) 0 (by decide) (by decide)
      rw [ho, bytesOf_length] at hr
      have hlast := ev_last (lowS s) (by rw [lowS_size]; omega)
      rw [lowS_bytes, lastIx_map, ho] at hlast
      have hsp3 : ∀ R, Ev (fun k => spec_ReadBech32.j3 k s [] one (decide (one < 1) || decide (one + 7 > (s.size : Int)))) R → Ev (fun k => spec_ReadBech32.f k s 90) R := fun R h => by
        refine hsp2 R (s2 hb R (Ev.step (fun k => ?_) h))
        rw [ho, spec_ReadBech32.l0, if_neg (by omega), w64 (by omega) (by omega)]
        by_cases h1 : one < 1
        · rw [if_pos h1]; simp [h1]
        · rw [if_neg h1]; simp [h1]
      have hip3 : ∀ R, Ev (fun k => bech32_DecodeNoLimitWithVersion.j3 k (lowS s) one (decide (one < 1) || decide (one + 7 > (s.size : Int)))) R → Ev (fun k => bech32_DecodeGeneric.f k s) R := fun R h => by
        refine hip R (i2 hb R (Ev.step (f := fun k => bech32_DecodeNoLimitWithVersion.j2 k (lowS s)) (fun k => ?_) (Ev.step (f := fun k => (strings_LastIndexByte.f k (lowS s) 49).bind fun t154 => (if t154 < 1 then (bech32_DecodeNoLimitWithVersion.j3 k (lowS s) t154 true) else (bech32_DecodeNoLimitWithVersion.j3 k (lowS s) t154 (decide ((wrap64 (t154 + 7)) > ((lowS s).size : Int)))))) (fun k => by rw [bech32_DecodeNoLimitWithVersion.j2]) (Ev.bind hlast (Ev.congr (fun k => ?_) h)))))
        · rw [bech32_DecodeNoLimitWithVersion.l0, if_neg (by omega)]
          cases hu : (bytesOf s).any isUp with
          | true =>
            rw [if_pos rfl]
            have : bech32_lower.f s = some (lowS s) := by unfold bech32_lower.f; rw [if_pos (by omega)]; rfl
            rw [this, Option.bind_some]
          | false => rw [if_neg (by decide), lowS_id hu]
        · rw [w64 (by omega) (by omega), lowS_size]
          by_cases h1 : one < 1
          · rw [if_pos h1]; simp [h1]
          · rw [if_neg h1]; simp [h1]
      cases hf : (decide (one < 1) || decide (one + 7 > (s.size : Int))) with
      | true =>
        rw [hf] at hsp3 hip3
        exact .inl ⟨hsp3 _ (Ev.step (f := fun _ => some noR) (fun k => by rw [spec_ReadBech32.j3, if_pos rfl]) (Ev.now _)), _, hip3 _ (Ev.step (f := fun _ => some (noI _)) (fun k => by rw [bech32_DecodeNoLimitWithVersion.j3, if_pos rfl]) (Ev.now _))⟩
      | false =>
        rw [hf] at hsp3 hip3
        rw [Bool.or_eq_false_iff, decide_eq_false_iff_not, decide_eq_false_iff_not] at hf
        obtain ⟨p, rfl⟩ : ∃ p : Nat, one = (p : Int) := ⟨one.toNat, by omega⟩
        exact said_end s hn p (by omega) (by omega) hsp3 hip3
theorem pure (s : ByteArray) : ∃ k, laws_FnReadBech32.f k s = some true := by
  by_cases h : (s.size : Int) > 2147483647
  · exact ⟨0, by unfold laws_FnReadBech32.f; rw [if_pos h]⟩
  by_cases h2 : (s.size : Int) > 400
  · exact ⟨0, by unfold laws_FnReadBech32.f; rw [if_neg h, if_pos h2]⟩
  exact law_of (by omega) (said s)
end Go.Proofs.YtbbeedclkfcmeaaDoor.KFnReadBech32
