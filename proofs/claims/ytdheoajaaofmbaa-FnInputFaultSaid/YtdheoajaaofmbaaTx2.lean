/- Transactions: whether they fit. -/
import Derived.Test.YtdheoajaaofmbaaTx1
namespace Go.Proofs.Ytdheoajaaofmbaa.QFnScriptPlaces
open Go.RowKit Go.Proofs.YtdheoajaaofmbaaW.PrintWords Go.Proofs.YtdheoajaaofmbaaW.PrintLast Go.Proofs.YtdheoajaaofmbaaW.PrintMore
set_option linter.unusedVariables false
set_option linter.unusedSimpArgs false
theorem ln64 (x : Int) (h0 : 0 ≤ x) (h1 : x ≤ 9223372036854775807) : wrap64 x = x := by unfold wrap64; omega
def fit5 (l : List (List Int)) : Bool := decide (l.length ≤ 2147483647) && l.all (fun s => decide (s.length ≤ 2147483647))
theorem ev_fits5 (l : List (List Int)) (hl : l.length ≤ 9223372036854775807) : Ev (fun k => laws_zzFits5.f k l) (fit5 l) := by
  unfold fit5
  by_cases h0 : (l.length : Int) > 2147483647
  · rw [decide_eq_false (show ¬ l.length ≤ 2147483647 by omega), Bool.false_and]
    exact Ev.congr (fun k => by unfold laws_zzFits5.f; rw [if_pos h0]) (Ev.now _)
  rw [decide_eq_true (show l.length ≤ 2147483647 by omega), Bool.true_and]
  have rd_in : ∀ i (h : i < l.length), rd_L1 l (i : Int) = l[i] := fun i h => by
    show l.getD (i : Int).toNat _ = _
    rw [Int.toNat_natCast, List.getD_eq_getElem?_getD, List.getElem?_eq_getElem h]; rfl
  have key : ∀ d (i : Nat), i + d = l.length → Ev (fun k => laws_zzFits5.l0 k l (l.length : Int) i) ((l.drop i).all (fun s => decide (s.length ≤ 2147483647))) := by
    intro d
    induction d with
    | zero =>
      intro i hi
      rw [List.drop_eq_nil_of_le (by omega)]
      refine Ev.step (f := fun _ => some true) (fun k => ?_) (Ev.now _)
      rw [laws_zzFits5.l0, if_neg (by omega)]
    | succ d ih =>
      intro i hi
      have hil : i < l.length := by omega
      rw [List.drop_eq_getElem_cons hil, List.all_cons]
      by_cases h1 : ((l[i]).length : Int) > 2147483647
      · rw [decide_eq_false (show ¬ (l[i]).length ≤ 2147483647 by omega), Bool.false_and]
        refine Ev.step (f := fun _ => some false) (fun k => ?_) (Ev.now _)
        rw [laws_zzFits5.l0, if_pos (by omega), if_pos (by omega), if_pos (by omega), rd_in i hil, if_pos h1]
      · rw [decide_eq_true (show (l[i]).length ≤ 2147483647 by omega), Bool.true_and]
        refine Ev.step (fun k => ?_) (ih (i + 1) (by omega))
        rw [laws_zzFits5.l0, if_pos (by omega), if_pos (by omega), if_pos (by omega), rd_in i hil, if_neg h1, ln64 _ (by omega) (by omega)]
        rfl
  exact Ev.congr (fun k => by unfold laws_zzFits5.f; rw [if_neg h0]; rfl) (key l.length 0 (by omega))
/-- An input that fits. -/
def Fits4 (x : S35) : Prop := x.f1.length ≤ 2147483647 ∧ fit5 x.f2 = true
instance (x : S35) : Decidable (Fits4 x) := inferInstanceAs (Decidable (_ ∧ _))
/-- The cells of an input, told apart. -/
structure InCells (w : World) (x : S35) (cs : List Value) (A1 : Option Addr) (c1 : Nat) (A2 : Option Addr) (c2 : Nat) : Prop where
  len : cs.length = 36
  one : cs.toArray.all (·.oneCell') = true
  hash : ∀ j, j < 32 → cs[j]? = some (.int .u8 (x.f0.f0.getD j 0))
  idx : cs[32]? = some (.int .u32 x.f0.f1)
  scr : cs[33]? = some (.slice A1 x.f1.length c1)
  wit : cs[34]? = some (.slice A2 x.f2.length c2)
  seq : cs[35]? = some (.int .u32 x.f3)
  hl : x.f0.f0.length = 32
  l1 : x.f1.length ≤ c1
  g1 : (Kd.int .u8).C w A1 x.f1.length x.f1
  l2 : x.f2.length ≤ c2
  g2 : (Kd.slice 5 (Kd.int .u8)).C w A2 x.f2.length x.f2
  eq : cs = inC x A1 c1 A2 c2
theorem inC_one (x : S35) (A1 : Option Addr) (c1 : Nat) (A2 : Option Addr) (c2 : Nat) : (inC x A1 c1 A2 c2).toArray.all (·.oneCell') = true := by
  rw [List.all_toArray, List.all_eq_true]
  intro u hu
  unfold inC hashC at hu
  rw [List.mem_append, List.mem_map] at hu
  rcases hu with ⟨y, _, rfl⟩ | hu
  · rfl
  · simp at hu
    rcases hu with rfl | rfl | rfl | rfl <;> rfl
theorem InCells.of {w : World} {x : S35} {cs : List Value} (h : k35.K w x cs) : ∃ A1 c1 A2 c2, InCells w x cs A1 c1 A2 c2 := by
  obtain ⟨A1, c1, A2, c2, rfl, hl, l1, g1, l2, g2⟩ := k35_open h
  exact ⟨A1, c1, A2, c2, inC_len hl _ _ _ _, inC_one _ _ _ _ _, inC_hash hl _ _ _ _, inC_at hl _ _ _ _ 0, inC_at hl _ _ _ _ 1, inC_at hl _ _ _ _ 2, inC_at hl _ _ _ _ 3, hl, l1, g1, l2, g2, rfl⟩
theorem InCells.K {w : World} {x : S35} {cs : List Value} {A1 A2 : Option Addr} {c1 c2 : Nat} (h : InCells w x cs A1 c1 A2 c2) : k35.K w x cs := by
  rw [h.eq]; exact k35_mk w x h.hl h.l1 h.g1 h.l2 h.g2
theorem InCells.below {w w1 : World} {x : S35} {cs : List Value} {A1 A2 : Option Addr} {c1 c2 : Nat} (h : InCells w x cs A1 c1 A2 c2) (hb : Below w.heap.size w w1) : InCells w1 x cs A1 c1 A2 c2 :=
  ⟨h.len, h.one, h.hash, h.idx, h.scr, h.wit, h.seq, h.hl, h.l1, Kd.C_below h.g1 hb, h.l2, Kd.C_below h.g2 hb, h.eq⟩
/-- Element i of a row of inputs, as a whole. -/
theorem cells_at {w : World} {A : Option Addr} {n : Nat} {xs : List S35} (h : Kd.C k35 w A n xs) (i : Int) (h0 : 0 ≤ i) (h1 : i < n) :
    ∃ ad cs A1 c1 A2 c2, A = some ad ∧ InCells w (rd_T35 xs i) cs A1 c1 A2 c2 ∧ ∀ j v, cs[j]? = some v → w.cell? ((ad.add (i.toNat * 36)).add j) = some v := by
  obtain ⟨ad, c, rfl, hcl, hK, hcc⟩ := Kd.C_get h z35 i h0 h1
  obtain ⟨A1, c1, A2, c2, hI⟩ := InCells.of hK
  refine ⟨ad, c, A1, c1, A2, c2, rfl, hI, fun j v hv => ?_⟩
  rw [Addr.add_add]
  exact hcc j v hv
set_option maxRecDepth 100000 in
set_option maxHeartbeats 4000000 in
theorem fits4C (x : S35) (cs : List Value) (A1 : Option Addr) (c1 : Nat) (A2 : Option Addr) (c2 : Nat) (w : World) (h : InCells w x cs A1 c1 A2 c2) :
    Calls Try.prog 44 #[.agg cs.toArray] w fun e w' => e = .returned (.bool (decide (Fits4 x))) ∧ Below w.heap.size w w' := by
  have hw0 := heap_alloc_new w (.cells cs.toArray 35)
  have k1 := cell_of hw0 (j := 33) (by rw [List.getElem?_toArray]; exact h.scr)
  have k2 := cell_of hw0 (j := 34) (by rw [List.getElem?_toArray]; exact h.wit)
  obtain ⟨ke, hke⟩ := (ev_fits5 x.f2 h.g2.2.1).rounds
  have HE := Aside0.mk hke
  have HI := Aside0.mk (h.below (below_alloc (Below.refl _ _) (.cells cs.toArray 35)))
  obtain ⟨b5, hb5⟩ : ∃ b, fit5 x.f2 = b := ⟨_, rfl⟩
  have HB5 := Aside0.mk hb5
  rw [hb5] at HE
  have HB0 := Aside0.mk (below_alloc (Below.refl w.heap.size w) (.cells cs.toArray 35))
  clear h hw0 hke hb5
  by_cases c : 2147483647 < (x.f1.length : Int)
  · have HD : Aside0 (decide (Fits4 x) = false) := ⟨decide_eq_false (fun h => by have := h.1; omega)⟩
    have c' : 2147483647 < x.f1.length := by omega
    go_enter Try.func44, Try.ntmps44
    go_wp2
    go_ret
    exact ⟨by rw [HD.out]; rfl, HB0.out⟩
  · have HD : Aside0 (decide (Fits4 x) = b5) := ⟨by
      rw [← HB5.out]
      unfold Fits4
      have h : x.f1.length ≤ 2147483647 := by omega
      simp [h]⟩
    have c' : ¬ 2147483647 < x.f1.length := by omega
    go_enter Try.func44, Try.ntmps44
    go_wp2_with fail
    go_at_call 67
    refine (laws_zzFits5.calls ke A2 c2 x.f2 b5 _ HI.out.g2 HI.out.l2 HE.out).mono ?_
    rintro e w1 ⟨rfl, hd⟩
    have HB1 := Aside0.mk (HB0.out.trans ((show Below _ _ w1 from by first | exact hd.below | exact hd).mono HB0.out.size))
    clear hd
    cases b5
    · go_wp2
      go_ret
      exact ⟨by rw [HD.out]; rfl, HB1.out⟩
    · go_wp2
      go_ret
      exact ⟨by rw [HD.out]; rfl, HB1.out⟩
def Fits3 (l : List S35) : Prop := l.length ≤ 2147483647 ∧ ∀ x ∈ l, Fits4 x
instance (l : List S35) : Decidable (Fits3 l) := inferInstanceAs (Decidable (_ ∧ _))
theorem rd_in35 (l : List S35) (i : Nat) (h : i < l.length) : rd_T35 l (i : Int) = l[i] := by
  show l.getD (i : Int).toNat _ = _
  rw [Int.toNat_natCast, List.getD_eq_getElem?_getD, List.getElem?_eq_getElem h]; rfl
theorem size35 : (Try.prog.info? 35).map (·.size) = some 36 := by kernel_rfl
set_option maxRecDepth 100000 in
set_option maxHeartbeats 8000000 in
theorem fits3C (A : Option Addr) (c : Nat) (l : List S35) (w : World) (hr : Kd.C k35 w A l.length l) (hc : l.length ≤ c) :
    Calls Try.prog 21 #[.slice A l.length c] w fun e w' => e = .returned (.bool (decide (Fits3 l))) ∧ Below w.heap.size w w' := by
  by_cases hb : 2147483647 < (l.length : Int)
  · have HD : Aside0 (decide (Fits3 l) = false) := ⟨decide_eq_false (fun h => by have := h.1; omega)⟩
    have hb' : 2147483647 < l.length := by omega
    clear hr
    go_enter Try.func21, Try.ntmps21
    go_wp2
    go_ret
    exact ⟨by rw [HD.out]; rfl, Below.refl _ _⟩
  have hb' : ¬ 2147483647 < l.length := by omega
  have HR := Aside0.mk hr
  have HLN : Aside0 (l.length ≤ 2147483647) := ⟨by omega⟩
  clear hr hc
  go_enter Try.func21, Try.ntmps21
  go_wp2_with fail
  go_loopg [10] (l.length + 1) (fun kq p10 w' => ∃ i : Nat, p10 = .int .i64 (i : Int) ∧ Aside0 (i ≤ l.length ∧ l.length + 1 ≤ i + kq) ∧ Aside0 (∀ x ∈ l.take i, Fits4 x) ∧ Aside0 (Below w.heap.size w w'))
  case atStart => exact ⟨0, by rfl, ⟨by omega⟩, ⟨fun x hx => by simp at hx⟩, ⟨Below.refl _ _⟩⟩
  case round =>
    obtain ⟨i, rfl, HK, HF, HB⟩ := hrel
    by_cases hi : i < l.length
    · have hi1 : (i : Int) < (l.length : Int) := by omega
      obtain ⟨ad, cs, A1, c1, A2, c2, e2, hI, hcc⟩ := cells_at (Kd.C_below HR.out HB.out) (i : Int) (by omega) hi1
      subst e2
      rw [rd_in35 l i hi] at hI
      have hw1 : wrap64 ((i : Int) + 1) = ((i + 1 : Nat) : Int) := by have := HLN.out; unfold wrap64; omega
      have hw2 : IntKind.i64.wrap ((i : Int) + 1) = ((i + 1 : Nat) : Int) := (i64_w _).trans hw1
      have HI := Aside0.mk hI
      have HCC := Aside0.mk hcc
      have HSZ : Aside0 ((Try.prog.info? 35).map (·.size) = some cs.length) := ⟨by rw [hI.len]; exact size35⟩
      have HHI := Aside0.mk hi
      clear hI hcc
      go_wp2_with (first
        | ((with_reducible refine at_dst (N := 13) rfl ?_); refine wpList_load_at rfl 35 (.tmp 12) rfl _ rfl cs _ HCC.out Try.underlying35 rfl HSZ.out ?_)
        | ((with_reducible refine at_none rfl ?_); refine wpList_store_whole rfl 35 (.tmp 4) (.tmp 13) rfl wr.heap.size cs.toArray rfl rfl 35 _ (heap_alloc_new wr _) ?hi ?ho HI.out.one (w0 := wr) (B := wr.heap.size) (below_alloc (Below.refl _ _) _) (Nat.le_refl _) ?_; (case hi => rw [List.size_toArray]; exact HSZ.out); (case ho => show 36 = cs.toArray.size; rw [List.size_toArray]; exact HI.out.len.symm); intro W1 hg1 hb1 hk1 hz1; have HG1 := Aside0.mk hg1; have HB1 := Aside0.mk hb1; clear hg1 hb1 hk1 hz1)
        | ((with_reducible refine at_dst (N := 14) rfl ?_); refine wpList_load_row rfl 35 (.tmp 4) rfl _ rfl 35 cs.toArray (0, 0) _ HG1.out Try.underlying35 rfl (by rw [List.size_toArray]; exact HSZ.out) ?_))
      go_at_call 44
      refine (fits4C l[i] cs A1 c1 A2 c2 _ (HI.out.below HB1.out)).mono ?_
      rintro e w2 ⟨rfl, hb2⟩
      have HB2 := Aside0.mk (HB.out.trans ((HB1.out.trans (hb2.mono HB1.out.size)).mono HB.out.size))
      clear hb2
      by_cases hf : Fits4 l[i]
      · rw [decide_eq_true hf]
        have HF2 : Aside0 (∀ x ∈ l.take (i + 1), Fits4 x) := ⟨fun x hx => by
          rw [List.take_succ_eq_append_getElem HHI.out, List.mem_append] at hx
          rcases hx with hx | hx
          · exact HF.out x hx
          · simp at hx; subst hx; exact hf⟩
        clear hf
        go_wp2_with fail
        go_roundg (gk - 1)
        case measure => have := HK.out; have := HHI.out; omega
        case rel => exact ⟨i + 1, by rfl, ⟨by have := HK.out; have := HHI.out; omega⟩, HF2, HB2⟩
      · rw [decide_eq_false hf]
        have HD : Aside0 (decide (Fits3 l) = false) := ⟨decide_eq_false (fun h => hf (h.2 _ (List.getElem_mem HHI.out)))⟩
        clear hf
        go_wp2_with fail
        go_ret
        exact ⟨by rw [HD.out]; rfl, HB2.out⟩
    · have hi1 : ¬ (i : Int) < (l.length : Int) := by omega
      have HD : Aside0 (decide (Fits3 l) = true) := ⟨decide_eq_true ⟨HLN.out, by have h := HF.out; rwa [List.take_of_length_le (by omega)] at h⟩⟩
      go_wp2_with fail
      go_ret
      exact ⟨by rw [HD.out]; rfl, HB.out⟩
end Go.Proofs.Ytdheoajaaofmbaa.QFnScriptPlaces
