/- bech32Polymod as a whole. -/
import Derived.Test.YtbbeedclkfcmeaaDoorBl3
import Derived.Lib.BufferMore
namespace Go.Proofs.YtbbeedclkfcmeaaDoor.Snk
open Go.RowKit Go.Proofs.YtbbeedclkfcmeaaDoorW.PrintWords Go.Proofs.YtbbeedclkfcmeaaDoorW.PrintLast Go.Proofs.YtbbeedclkfcmeaaDoorW.PrintMore
set_option linter.unusedVariables false
set_option linter.unusedSimpArgs false
/-- The numbers of the readable part. -/
def exN (L : List Int) : List Nat := L.map hiN ++ 0 :: L.map loN
def polyN (L V : List Int) (C : List Nat) : Nat := pms (pms 1 (exN L)) (V.map Int.toNat ++ C)
theorem pms_app (c : Nat) (a b : List Nat) : pms c (a ++ b) = pms (pms c a) b := by unfold pms; rw [List.foldl_append]
theorem pms_cons (c v : Nat) (b : List Nat) : pms c (v :: b) = pms (pm c v) b := rfl
theorem hi_all {L : List Int} (h : ByteL L) : ∀ v ∈ L.map hiN, v < 256 := fun v hv => by
  obtain ⟨x, hx, rfl⟩ := List.mem_map.1 hv
  have := h x hx; unfold hiN; omega
theorem lo_all {L : List Int} (h : ByteL L) : ∀ v ∈ L.map loN, v < 256 := fun v hv => by
  obtain ⟨x, hx, rfl⟩ := List.mem_map.1 hv
  have := h x hx; unfold loN; omega
theorem by_all {L : List Int} (h : ByteL L) : ∀ v ∈ L.map Int.toNat, v < 256 := fun v hv => by
  obtain ⟨x, hx, rfl⟩ := List.mem_map.1 hv
  have := h x hx; omega
set_option maxRecDepth 100000 in
set_option maxHeartbeats 16000000 in
theorem polySC (L V : List Int) (hL : ByteL L) (hn : L.length ≤ 1000) (hV : ByteL V) (nv : Nat) (hnv : V.length = nv) (hv : nv ≤ 1000) (A1 : Option Addr) (c1 : Nat) (C : List Int) (hC : ByteL C) (nc : Nat) (hnc : C.length = nc) (hcc : nc ≤ 1000) (ad2 : Addr) (c2 : Nat) (w : World) (HR2 : ReadsInt w .u8 (some ad2) nc C) (G : Addr) (cap : Nat) (HG : GenH w G cap) (HR1 : ReadsInt w .u8 A1 nv V) :
    Calls Tryd.prog 24 #[.string (strOfNums L), .slice A1 nv c1, .slice (some ad2) nc c2] w fun e w' => e = .returned (.int .i64 (polyN L V (C.map Int.toNat) : Nat)) ∧ w' = w := by
  have HA := Aside0.mk hL
  have HB := Aside0.mk hV
  have HN := Aside0.mk hn
  have HG2 := Aside0.mk HG
  have H1 : Aside0 (pms 1 (L.map hiN) < 2 ^ 30) := ⟨pms_lt (by decide) _ (hi_all hL)⟩
  have H2 : Aside0 (pms (pms 1 (L.map hiN)) [0] < 2 ^ 30) := ⟨pms_lt H1.out _ (by simp)⟩
  have H3 : Aside0 (pms (pms (pms 1 (L.map hiN)) [0]) (L.map loN) < 2 ^ 30) := ⟨pms_lt H2.out _ (lo_all hL)⟩
  have H4 : Aside0 (pms (pms (pms (pms 1 (L.map hiN)) [0]) (L.map loN)) (V.map Int.toNat) < 2 ^ 30) := ⟨pms_lt H3.out _ (by_all hV)⟩
  have HE : Aside0 (pms (pms (pms (pms (pms 1 (L.map hiN)) [0]) (L.map loN)) (V.map Int.toNat)) (C.map Int.toNat) = polyN L V (C.map Int.toNat)) := ⟨by
    unfold polyN exN
    rw [pms_app, pms_app, pms_cons]; rfl⟩
  obtain ⟨s, hs⟩ : ∃ s, strOfNums L = s := ⟨_, rfl⟩
  have HS := Aside0.mk hs.symm
  have HR := Aside0.mk HR1
  have HNV := Aside0.mk hnv
  have HVV := Aside0.mk hv
  have HC := Aside0.mk hC
  have HNC := Aside0.mk hnc
  have HCC := Aside0.mk hcc
  have HRC := Aside0.mk HR2
  clear hC hnc hcc HR2
  rw [hs]
  clear hL hV hn HG hs HR1 hnv hv
  have h7 : ∀ w : World, (binOp .eql 22 (.slice (some ad2) nc c2) (.slice none 0 0)).run Tryd.prog w = .ok (.bool false) w := fun w => Lib.run_eql_slice_some_nil w _ _ _ Tryd.underlying22
  go_enter Tryd.func24, Tryd.ntmps24
  go_upto_block 0 with fail
  refine ol0 1 (by decide) L HA.out s HS.out HN.out w G cap HG2.out _ (by intro _ _ n _ _ h; cases n <;> exact h) _ (by rfl) _ _ _ _ _ _ _ _ _ _ _ _ _ _ _ _ _ _ _ _ _ _ _ _ _ _ _ _ _ _ _ _ _ _ _ _ _ _ _ _ _ _ _ _ _ _ _ _ _ _ _ _ _ _ _ _ _ _ _ _ _ _ _ _ _ _ _ _ _ _ _ _ _ _ _ _ _ _ _ _ _ _ _ _ _ _ _ _ _ _ _ _ _ _ _ _ _ _ _ _ _ _ _ _ _ _ _ _ _ _ _ _ _ _ _ _ _ _ _ _ _ _ _ _ _ _ _ _ _ _ _ _ _ _ _ _ _ _ _ _ _ _ _ _ _ _ _ _ _ _ _ _ _ _ _ _ _ _ _ _ _ _ _ _ _ _ _ _ _ _ _ _ _ _ _ _ _ _ _ _ _ _ _ _ _ _ _ _ _ _ _ _ _ _ _ _ _ _ _ _ _ _ _ _ _ ?_
  intro z8 z9 z10 z11 z29 z30 z31 z32 z33 z34 z35 z36 z37 z38 z39 z40 z41 z42 z43 z44 z45 z46 z47 z48 z49 z50 z51 z52 z53 z54 z55 z56 z57 z58 z59 z60 z61 z62
  go_upto_block 4 with fail
  rw [mix0 H1.out, divE]
  refine in4 (pms 1 (L.map hiN) % 2 ^ 25 * 32 ^^^ 0) (pms 1 (L.map hiN) / 2 ^ 25) (mix_lt _ (by decide)) (div_lt H1.out) w G cap HG2.out _ (by intro _ _ n _ _ h; cases n <;> exact h) _ (by rfl) _ _ _ _ _ _ _ _ _ _ _ _ _ _ _ _ _ _ _ _ _ _ _ _ _ _ _ _ _ _ _ _ _ _ _ _ _ _ _ _ _ _ _ _ _ _ _ _ _ _ _ _ _ _ _ _ _ _ _ _ _ _ _ _ _ _ _ _ _ _ _ _ _ _ _ _ _ _ _ _ _ _ _ _ _ _ _ _ _ _ _ _ _ _ _ _ _ _ _ _ _ _ _ _ _ _ _ _ _ _ _ _ _ _ _ _ _ _ _ _ _ _ _ _ _ _ _ _ _ _ _ _ _ _ _ _ _ _ _ _ _ _ _ _ _ _ _ _ _ _ _ _ _ _ _ _ _ _ _ _ _ _ _ _ _ _ _ _ _ _ _ _ _ _ _ _ _ _ _ _ _ _ _ _ _ _ _ _ _ _ _ _ _ _ _ _ _ _ _ _ _ _ _ _ _ ?_
  intro z13 z68 z69 z70 z71 z72 z73 z74 z75 z76 z77 z78 z79 z80 z81 z82 z83
  have HE1 : Aside0 (gfold (pms 1 (L.map hiN) / 2 ^ 25) (pms 1 (L.map hiN) % 2 ^ 25 * 32 ^^^ 0) 5 = pms (pms 1 (L.map hiN)) [0]) := ⟨rfl⟩
  rw [HE1.out]
  go_upto_block 6 with fail
  refine ol6 (pms (pms 1 (L.map hiN)) [0]) H2.out L HA.out s HS.out HN.out w G cap HG2.out _ (by intro _ _ n _ _ h; cases n <;> exact h) _ (by rfl) _ _ _ _ _ _ _ _ _ _ _ _ _ _ _ _ _ _ _ _ _ _ _ _ _ _ _ _ _ _ _ _ _ _ _ _ _ _ _ _ _ _ _ _ _ _ _ _ _ _ _ _ _ _ _ _ _ _ _ _ _ _ _ _ _ _ _ _ _ _ _ _ _ _ _ _ _ _ _ _ _ _ _ _ _ _ _ _ _ _ _ _ _ _ _ _ _ _ _ _ _ _ _ _ _ _ _ _ _ _ _ _ _ _ _ _ _ _ _ _ _ _ _ _ _ _ _ _ _ _ _ _ _ _ _ _ _ _ _ _ _ _ _ _ _ _ _ _ _ _ _ _ _ _ _ _ _ _ _ _ _ _ _ _ _ _ _ _ _ _ _ _ _ _ _ _ _ _ _ _ _ _ _ _ _ _ _ _ _ _ _ _ _ _ _ _ _ _ _ _ _ _ _ _ _ ?_
  intro z14 z15 z16 z17 z84 z85 z86 z87 z88 z89 z90 z91 z92 z93 z94 z95 z96 z97 z98 z99 z100 z101 z102 z103 z104 z105 z106 z107 z108 z109 z110 z111 z112 z113 z114 z115 z116 z117
  go_upto_block 10 with fail
  refine ol10 (pms (pms (pms 1 (L.map hiN)) [0]) (L.map loN)) H3.out A1 c1 nv V HB.out HNV.out HVV.out w G cap HG2.out HR.out _ (by intro _ _ n _ _ h; cases n <;> exact h) _ (by rfl) _ _ _ _ _ _ _ _ _ _ _ _ _ _ _ _ _ _ _ _ _ _ _ _ _ _ _ _ _ _ _ _ _ _ _ _ _ _ _ _ _ _ _ _ _ _ _ _ _ _ _ _ _ _ _ _ _ _ _ _ _ _ _ _ _ _ _ _ _ _ _ _ _ _ _ _ _ _ _ _ _ _ _ _ _ _ _ _ _ _ _ _ _ _ _ _ _ _ _ _ _ _ _ _ _ _ _ _ _ _ _ _ _ _ _ _ _ _ _ _ _ _ _ _ _ _ _ _ _ _ _ _ _ _ _ _ _ _ _ _ _ _ _ _ _ _ _ _ _ _ _ _ _ _ _ _ _ _ _ _ _ _ _ _ _ _ _ _ _ _ _ _ _ _ _ _ _ _ _ _ _ _ _ _ _ _ _ _ _ _ _ _ _ _ _ _ _ _ _ _ _ _ _ _ ?_
  intro z19 z20 z21 z120 z121 z122 z123 z124 z125 z126 z127 z128 z129 z130 z131 z132 z133 z134 z135 z136 z137 z138 z139 z140 z141 z142 z143 z144 z145 z146 z147 z148
  go_upto_block 18 with fail
  refine ol18 (pms (pms (pms (pms 1 (L.map hiN)) [0]) (L.map loN)) (V.map Int.toNat)) H4.out (some ad2) c2 nc C HC.out HNC.out HCC.out w G cap HG2.out HRC.out _ (by intro _ _ n _ _ h; cases n <;> exact h) _ (by rfl) _ _ _ _ _ _ _ _ _ _ _ _ _ _ _ _ _ _ _ _ _ _ _ _ _ _ _ _ _ _ _ _ _ _ _ _ _ _ _ _ _ _ _ _ _ _ _ _ _ _ _ _ _ _ _ _ _ _ _ _ _ _ _ _ _ _ _ _ _ _ _ _ _ _ _ _ _ _ _ _ _ _ _ _ _ _ _ _ _ _ _ _ _ _ _ _ _ _ _ _ _ _ _ _ _ _ _ _ _ _ _ _ _ _ _ _ _ _ _ _ _ _ _ _ _ _ _ _ _ _ _ _ _ _ _ _ _ _ _ _ _ _ _ _ _ _ _ _ _ _ _ _ _ _ _ _ _ _ _ _ _ _ _ _ _ _ _ _ _ _ _ _ _ _ _ _ _ _ _ _ _ _ _ _ _ _ _ _ _ _ _ _ _ _ _ _ _ _ _ _ _ _ _ _ ?_
  intro z26 z27 z28 z178 z179 z180 z181 z182 z183 z184 z185 z186 z187 z188 z189 z190 z191 z192 z193 z194 z195 z196 z197 z198 z199 z200 z201 z202 z203 z204 z205 z206
  rw [HE.out]
  go_wp2_with fail
  go_ret
  exact ⟨rfl, rfl⟩
set_option maxRecDepth 100000 in
set_option maxHeartbeats 16000000 in
theorem polySN (L V : List Int) (hL : ByteL L) (hn : L.length ≤ 1000) (hV : ByteL V) (nv : Nat) (hnv : V.length = nv) (hv : nv ≤ 1000) (A1 : Option Addr) (c1 : Nat)  (w : World) (G : Addr) (cap : Nat) (HG : GenH w G cap) (HR1 : ReadsInt w .u8 A1 nv V) :
    Calls Tryd.prog 24 #[.string (strOfNums L), .slice A1 nv c1, .slice none 0 0] w fun e w' => e = .returned (.int .i64 (polyN L V (List.replicate 6 0) : Nat)) ∧ w' = w := by
  have HA := Aside0.mk hL
  have HB := Aside0.mk hV
  have HN := Aside0.mk hn
  have HG2 := Aside0.mk HG
  have H1 : Aside0 (pms 1 (L.map hiN) < 2 ^ 30) := ⟨pms_lt (by decide) _ (hi_all hL)⟩
  have H2 : Aside0 (pms (pms 1 (L.map hiN)) [0] < 2 ^ 30) := ⟨pms_lt H1.out _ (by simp)⟩
  have H3 : Aside0 (pms (pms (pms 1 (L.map hiN)) [0]) (L.map loN) < 2 ^ 30) := ⟨pms_lt H2.out _ (lo_all hL)⟩
  have H4 : Aside0 (pms (pms (pms (pms 1 (L.map hiN)) [0]) (L.map loN)) (V.map Int.toNat) < 2 ^ 30) := ⟨pms_lt H3.out _ (by_all hV)⟩
  have HE : Aside0 (pms (pms (pms (pms (pms 1 (L.map hiN)) [0]) (L.map loN)) (V.map Int.toNat)) (List.replicate 6 0) = polyN L V (List.replicate 6 0)) := ⟨by
    unfold polyN exN
    rw [pms_app, pms_app, pms_cons]; rfl⟩
  obtain ⟨s, hs⟩ : ∃ s, strOfNums L = s := ⟨_, rfl⟩
  have HS := Aside0.mk hs.symm
  have HR := Aside0.mk HR1
  have HNV := Aside0.mk hnv
  have HVV := Aside0.mk hv
  rw [hs]
  clear hL hV hn HG hs HR1 hnv hv
  have h7 : ∀ w : World, (binOp .eql 22 (.slice none 0 0) (.slice none 0 0)).run Tryd.prog w = .ok (.bool true) w := fun w => Lib.run_eql_slice_nil_nil w 0 0 Tryd.underlying22
  go_enter Tryd.func24, Tryd.ntmps24
  go_upto_block 0 with fail
  refine ol0 1 (by decide) L HA.out s HS.out HN.out w G cap HG2.out _ (by intro _ _ n _ _ h; cases n <;> exact h) _ (by rfl) _ _ _ _ _ _ _ _ _ _ _ _ _ _ _ _ _ _ _ _ _ _ _ _ _ _ _ _ _ _ _ _ _ _ _ _ _ _ _ _ _ _ _ _ _ _ _ _ _ _ _ _ _ _ _ _ _ _ _ _ _ _ _ _ _ _ _ _ _ _ _ _ _ _ _ _ _ _ _ _ _ _ _ _ _ _ _ _ _ _ _ _ _ _ _ _ _ _ _ _ _ _ _ _ _ _ _ _ _ _ _ _ _ _ _ _ _ _ _ _ _ _ _ _ _ _ _ _ _ _ _ _ _ _ _ _ _ _ _ _ _ _ _ _ _ _ _ _ _ _ _ _ _ _ _ _ _ _ _ _ _ _ _ _ _ _ _ _ _ _ _ _ _ _ _ _ _ _ _ _ _ _ _ _ _ _ _ _ _ _ _ _ _ _ _ _ _ _ _ _ _ _ _ _ _ ?_
  intro z8 z9 z10 z11 z29 z30 z31 z32 z33 z34 z35 z36 z37 z38 z39 z40 z41 z42 z43 z44 z45 z46 z47 z48 z49 z50 z51 z52 z53 z54 z55 z56 z57 z58 z59 z60 z61 z62
  go_upto_block 4 with fail
  rw [mix0 H1.out, divE]
  refine in4 (pms 1 (L.map hiN) % 2 ^ 25 * 32 ^^^ 0) (pms 1 (L.map hiN) / 2 ^ 25) (mix_lt _ (by decide)) (div_lt H1.out) w G cap HG2.out _ (by intro _ _ n _ _ h; cases n <;> exact h) _ (by rfl) _ _ _ _ _ _ _ _ _ _ _ _ _ _ _ _ _ _ _ _ _ _ _ _ _ _ _ _ _ _ _ _ _ _ _ _ _ _ _ _ _ _ _ _ _ _ _ _ _ _ _ _ _ _ _ _ _ _ _ _ _ _ _ _ _ _ _ _ _ _ _ _ _ _ _ _ _ _ _ _ _ _ _ _ _ _ _ _ _ _ _ _ _ _ _ _ _ _ _ _ _ _ _ _ _ _ _ _ _ _ _ _ _ _ _ _ _ _ _ _ _ _ _ _ _ _ _ _ _ _ _ _ _ _ _ _ _ _ _ _ _ _ _ _ _ _ _ _ _ _ _ _ _ _ _ _ _ _ _ _ _ _ _ _ _ _ _ _ _ _ _ _ _ _ _ _ _ _ _ _ _ _ _ _ _ _ _ _ _ _ _ _ _ _ _ _ _ _ _ _ _ _ _ _ _ ?_
  intro z13 z68 z69 z70 z71 z72 z73 z74 z75 z76 z77 z78 z79 z80 z81 z82 z83
  have HE1 : Aside0 (gfold (pms 1 (L.map hiN) / 2 ^ 25) (pms 1 (L.map hiN) % 2 ^ 25 * 32 ^^^ 0) 5 = pms (pms 1 (L.map hiN)) [0]) := ⟨rfl⟩
  rw [HE1.out]
  go_upto_block 6 with fail
  refine ol6 (pms (pms 1 (L.map hiN)) [0]) H2.out L HA.out s HS.out HN.out w G cap HG2.out _ (by intro _ _ n _ _ h; cases n <;> exact h) _ (by rfl) _ _ _ _ _ _ _ _ _ _ _ _ _ _ _ _ _ _ _ _ _ _ _ _ _ _ _ _ _ _ _ _ _ _ _ _ _ _ _ _ _ _ _ _ _ _ _ _ _ _ _ _ _ _ _ _ _ _ _ _ _ _ _ _ _ _ _ _ _ _ _ _ _ _ _ _ _ _ _ _ _ _ _ _ _ _ _ _ _ _ _ _ _ _ _ _ _ _ _ _ _ _ _ _ _ _ _ _ _ _ _ _ _ _ _ _ _ _ _ _ _ _ _ _ _ _ _ _ _ _ _ _ _ _ _ _ _ _ _ _ _ _ _ _ _ _ _ _ _ _ _ _ _ _ _ _ _ _ _ _ _ _ _ _ _ _ _ _ _ _ _ _ _ _ _ _ _ _ _ _ _ _ _ _ _ _ _ _ _ _ _ _ _ _ _ _ _ _ _ _ _ _ _ _ _ ?_
  intro z14 z15 z16 z17 z84 z85 z86 z87 z88 z89 z90 z91 z92 z93 z94 z95 z96 z97 z98 z99 z100 z101 z102 z103 z104 z105 z106 z107 z108 z109 z110 z111 z112 z113 z114 z115 z116 z117
  go_upto_block 10 with fail
  refine ol10 (pms (pms (pms 1 (L.map hiN)) [0]) (L.map loN)) H3.out A1 c1 nv V HB.out HNV.out HVV.out w G cap HG2.out HR.out _ (by intro _ _ n _ _ h; cases n <;> exact h) _ (by rfl) _ _ _ _ _ _ _ _ _ _ _ _ _ _ _ _ _ _ _ _ _ _ _ _ _ _ _ _ _ _ _ _ _ _ _ _ _ _ _ _ _ _ _ _ _ _ _ _ _ _ _ _ _ _ _ _ _ _ _ _ _ _ _ _ _ _ _ _ _ _ _ _ _ _ _ _ _ _ _ _ _ _ _ _ _ _ _ _ _ _ _ _ _ _ _ _ _ _ _ _ _ _ _ _ _ _ _ _ _ _ _ _ _ _ _ _ _ _ _ _ _ _ _ _ _ _ _ _ _ _ _ _ _ _ _ _ _ _ _ _ _ _ _ _ _ _ _ _ _ _ _ _ _ _ _ _ _ _ _ _ _ _ _ _ _ _ _ _ _ _ _ _ _ _ _ _ _ _ _ _ _ _ _ _ _ _ _ _ _ _ _ _ _ _ _ _ _ _ _ _ _ _ _ _ ?_
  intro z19 z20 z21 z120 z121 z122 z123 z124 z125 z126 z127 z128 z129 z130 z131 z132 z133 z134 z135 z136 z137 z138 z139 z140 z141 z142 z143 z144 z145 z146 z147 z148
  go_upto_block 14 with fail
  refine ol14 (pms (pms (pms (pms 1 (L.map hiN)) [0]) (L.map loN)) (V.map Int.toNat)) H4.out w G cap HG2.out _ (by intro _ _ n _ _ h; cases n <;> exact h) _ (by rfl) _ _ _ _ _ _ _ _ _ _ _ _ _ _ _ _ _ _ _ _ _ _ _ _ _ _ _ _ _ _ _ _ _ _ _ _ _ _ _ _ _ _ _ _ _ _ _ _ _ _ _ _ _ _ _ _ _ _ _ _ _ _ _ _ _ _ _ _ _ _ _ _ _ _ _ _ _ _ _ _ _ _ _ _ _ _ _ _ _ _ _ _ _ _ _ _ _ _ _ _ _ _ _ _ _ _ _ _ _ _ _ _ _ _ _ _ _ _ _ _ _ _ _ _ _ _ _ _ _ _ _ _ _ _ _ _ _ _ _ _ _ _ _ _ _ _ _ _ _ _ _ _ _ _ _ _ _ _ _ _ _ _ _ _ _ _ _ _ _ _ _ _ _ _ _ _ _ _ _ _ _ _ _ _ _ _ _ _ _ _ _ _ _ _ _ _ _ _ _ _ _ _ _ _ _ _ ?_
  intro z22 z23 z24 z151 z152 z153 z154 z155 z156 z157 z158 z159 z160 z161 z162 z163 z164 z165 z166 z167 z168 z169 z170 z171 z172 z173 z174 z175
  rw [HE.out]
  go_wp2_with fail
  go_ret
  exact ⟨rfl, rfl⟩
end Go.Proofs.YtbbeedclkfcmeaaDoor.Snk
