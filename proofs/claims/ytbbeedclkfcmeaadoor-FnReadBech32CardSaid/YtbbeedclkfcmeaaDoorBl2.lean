/- bech32Polymod. -/
import Derived.Test.YtbbeedclkfcmeaaDoorBl1
import Derived.Test.YtbbeedclkfcmeaaDoorLay
import Derived.Deep.DeepCutAuto
namespace Go.Proofs.YtbbeedclkfcmeaaDoor.Snk
open Go.RowKit Go.Proofs.YtbbeedclkfcmeaaDoorW.PrintWords Go.Proofs.YtbbeedclkfcmeaaDoorW.PrintLast Go.Proofs.YtbbeedclkfcmeaaDoorW.PrintMore
set_option linter.unusedVariables false
set_option linter.unusedSimpArgs false
/-- Pieces of a function's text, found by number. -/
def findB (n : Nat) : Code → Option Code
  | .block k c => if k = n then some (.block k c) else findB n c
  | .seq a b => (findB n a).orElse fun _ => findB n b
  | .cond _ a b => (findB n a).orElse fun _ => findB n b
  | .loop c => findB n c
  | _ => none
def gens (j : Nat) : Nat := [996825010, 642813549, 513874426, 1027748829, 705979059].getD j 0
theorem gens_lt (j : Nat) : gens j < 2 ^ 30 := by
  unfold gens
  rcases j with _ | _ | _ | _ | _ | j
  iterate 5 decide
  simp
def gst (b c i : Nat) : Nat := if b / 2 ^ i % 2 = 1 then c ^^^ gens i else c
def gfold (b c : Nat) : Nat → Nat
  | 0 => c
  | i + 1 => gst b (gfold b c i) i
/-- One number into the sum. -/
def pm (c v : Nat) : Nat := gfold (c / 2 ^ 25) ((c % 2 ^ 25 * 32) ^^^ v) 5
theorem gst_lt {b c i : Nat} (h : c < 2 ^ 30) : gst b c i < 2 ^ 30 := by
  unfold gst; split
  · exact Nat.xor_lt_two_pow h (gens_lt i)
  · exact h
theorem gfold_lt {b c : Nat} (h : c < 2 ^ 30) : ∀ i, gfold b c i < 2 ^ 30
  | 0 => h
  | i + 1 => gst_lt (gfold_lt h i)
theorem pm_lt (c v : Nat) (hv : v < 2 ^ 30) : pm c v < 2 ^ 30 :=
  gfold_lt (Nat.xor_lt_two_pow (by have := Nat.mod_lt c (show 0 < 2 ^ 25 by decide); omega) hv) 5
/-- The table. -/
structure GenH (w : World) (G : Addr) (cap : Nat) : Prop where
  v : w.cell? ⟨1, 0, none⟩ = some (.slice (some G) 5 cap)
  c : ∀ j, j < 5 → w.cell? (G.add j) = some (.int .i64 (gens j : Nat))
theorem wraps_i64 (n : Int) (h₀ : 0 ≤ n) (h₁ : n < 2 ^ 63) : IntKind.i64.wrap n = n := by rw [IntKind.wrap_i64]; omega
theorem xor64 (a b : Nat) (ha : a < 2 ^ 30) (hb : b < 2 ^ 30) : bits .xor .i64 (a : Int) (b : Int) = ((a ^^^ b : Nat) : Int) := by
  have ha' : a % 2 ^ IntKind.i64.bits = a := Nat.mod_eq_of_lt (Nat.lt_of_lt_of_le ha (by decide))
  have hb' : b % 2 ^ IntKind.i64.bits = b := Nat.mod_eq_of_lt (Nat.lt_of_lt_of_le hb (by decide))
  simp only [bits, BitVec.ofInt_natCast, BitVec.toNat_xor, BitVec.toNat_ofNat, ha', hb']
  have h := Nat.xor_lt_two_pow ha hb
  exact wraps_i64 _ (Int.natCast_nonneg _) (by omega)
theorem and64 (x : Int) (i : Nat) (hi : i ≤ 63) (h0 : 0 ≤ x) (h1 : x < 2 ^ 63) : bits .and .i64 x (2 ^ i - 1) = x % 2 ^ i := bits_mask .i64 63 (by decide) wraps_i64 i hi x h0 h1
theorem tst {b : Nat} (hb : b < 32) (i : Nat) : bits .and .i64 ((b : Int) / 2 ^ i) 1 = ((b / 2 ^ i % 2 : Nat) : Int) := by
  have e : ((b : Int) / 2 ^ i) = ((b / 2 ^ i : Nat) : Int) := by rw [Int.natCast_ediv, Int.natCast_pow]; rfl
  have hl : b / 2 ^ i ≤ b := Nat.div_le_self _ _
  have h := and64 ((b / 2 ^ i : Nat) : Int) 1 (by decide) (Int.natCast_nonneg _) (by omega)
  rw [e]
  refine (show bits .and .i64 ((b / 2 ^ i : Nat) : Int) 1 = _ from h).trans ?_
  omega
theorem gf_no {b c i : Nat} (hb : b < 32) (h : (bits .and .i64 ((b : Int) / 2 ^ i) 1 == 1) = false) : gfold b c (i + 1) = gfold b c i := by
  rw [tst hb] at h
  have h2 : ¬ b / 2 ^ i % 2 = 1 := fun e => by rw [e] at h; exact absurd h (by decide)
  show gst b (gfold b c i) i = _
  unfold gst; rw [if_neg h2]
theorem gf_yes {b c i : Nat} (hc : c < 2 ^ 30) (hb : b < 32) (h : (bits .and .i64 ((b : Int) / 2 ^ i) 1 == 1) = true) : bits .xor .i64 (gfold b c i : Nat) (gens i : Nat) = ((gfold b c (i + 1) : Nat) : Int) := by
  rw [tst hb] at h
  have h2 : b / 2 ^ i % 2 = 1 := by have := eq_of_beq h; omega
  rw [xor64 _ _ (gfold_lt hc i) (gens_lt i)]
  show _ = ((gst b (gfold b c i) i : Nat) : Int)
  unfold gst; rw [if_pos h2]
set_option maxRecDepth 100000 in
set_option maxHeartbeats 16000000 in
theorem in2 (c b : Nat) (hc : c < 2 ^ 30) (hb : b < 32) (w : World) (G : Addr) (cap : Nat) (HG : GenH w G cap) (Q : Exit → Act → World → Prop) (hP : ∀ c a n v w, Q (.panic c) (Act.put a n v) w → Q (.panic c) a w) (cd : Code) (hcd : Tryd.f24.body.bind (findB 2) = some cd) (y0 y1 y2 y3 y4 y5 y6 y8 y10 y12 y13 y14 y15 y16 y17 y18 y19 y20 y21 y22 y23 y24 y25 y26 y27 y28 y29 y30 y31 y32 y33 y34 y35 y36 y37 y38 y39 y40 y41 y42 y43 y44 y45 y46 y47 y48 y49 y50 y51 y52 y53 y54 y55 y56 y57 y58 y59 y60 y61 y62 y63 y64 y65 y66 y67 y68 y69 y70 y71 y72 y73 y74 y75 y76 y77 y78 y79 y80 y81 y82 y83 y84 y85 y86 y87 y88 y89 y90 y91 y92 y93 y94 y95 y96 y97 y98 y99 y100 y101 y102 y103 y104 y105 y106 y107 y108 y109 y110 y111 y112 y113 y114 y115 y116 y117 y118 y119 y120 y121 y122 y123 y124 y125 y126 y127 y128 y129 y130 y131 y132 y133 y134 y135 y136 y137 y138 y139 y140 y141 y142 y143 y144 y145 y146 y147 y148 y149 y150 y151 y152 y153 y154 y155 y156 y157 y158 y159 y160 y161 y162 y163 y164 y165 y166 y167 y168 y169 y170 y171 y172 y173 y174 y175 y176 y177 y178 y179 y180 y181 y182 y183 y184 y185 y186 y187 y188 y189 y190 y191 y192 y193 y194 y195 y196 y197 y198 y199 y200 y201 y202 y203 y204 y205 y206 y207 : Value)
    (hQ : ∀ (x11 x47 x48 x49 x50 x51 x52 x53 x54 x55 x56 x57 x58 x59 x60 x61 x62 : Value), Q .normal { tmps := #[y0, y1, y2, y3, y4, y5, y6, .int .i64 (gfold b c 5 : Nat), y8, .int .i64 (b : Nat), y10, x11, y12, y13, y14, y15, y16, y17, y18, y19, y20, y21, y22, y23, y24, y25, y26, y27, y28, y29, y30, y31, y32, y33, y34, y35, y36, y37, y38, y39, y40, y41, y42, y43, y44, y45, y46, x47, x48, x49, x50, x51, x52, x53, x54, x55, x56, x57, x58, x59, x60, x61, x62, y63, y64, y65, y66, y67, y68, y69, y70, y71, y72, y73, y74, y75, y76, y77, y78, y79, y80, y81, y82, y83, y84, y85, y86, y87, y88, y89, y90, y91, y92, y93, y94, y95, y96, y97, y98, y99, y100, y101, y102, y103, y104, y105, y106, y107, y108, y109, y110, y111, y112, y113, y114, y115, y116, y117, y118, y119, y120, y121, y122, y123, y124, y125, y126, y127, y128, y129, y130, y131, y132, y133, y134, y135, y136, y137, y138, y139, y140, y141, y142, y143, y144, y145, y146, y147, y148, y149, y150, y151, y152, y153, y154, y155, y156, y157, y158, y159, y160, y161, y162, y163, y164, y165, y166, y167, y168, y169, y170, y171, y172, y173, y174, y175, y176, y177, y178, y179, y180, y181, y182, y183, y184, y185, y186, y187, y188, y189, y190, y191, y192, y193, y194, y195, y196, y197, y198, y199, y200, y201, y202, y203, y204, y205, y206, y207], defers := [] } w) :
    Code.wp Tryd.prog cd Q { tmps := #[y0, y1, y2, y3, y4, y5, y6, .int .i64 (c : Nat), y8, .int .i64 (b : Nat), y10, .int .i64 0, y12, y13, y14, y15, y16, y17, y18, y19, y20, y21, y22, y23, y24, y25, y26, y27, y28, y29, y30, y31, y32, y33, y34, y35, y36, y37, y38, y39, y40, y41, y42, y43, y44, y45, y46, y47, y48, y49, y50, y51, y52, y53, y54, y55, y56, y57, y58, y59, y60, y61, y62, y63, y64, y65, y66, y67, y68, y69, y70, y71, y72, y73, y74, y75, y76, y77, y78, y79, y80, y81, y82, y83, y84, y85, y86, y87, y88, y89, y90, y91, y92, y93, y94, y95, y96, y97, y98, y99, y100, y101, y102, y103, y104, y105, y106, y107, y108, y109, y110, y111, y112, y113, y114, y115, y116, y117, y118, y119, y120, y121, y122, y123, y124, y125, y126, y127, y128, y129, y130, y131, y132, y133, y134, y135, y136, y137, y138, y139, y140, y141, y142, y143, y144, y145, y146, y147, y148, y149, y150, y151, y152, y153, y154, y155, y156, y157, y158, y159, y160, y161, y162, y163, y164, y165, y166, y167, y168, y169, y170, y171, y172, y173, y174, y175, y176, y177, y178, y179, y180, y181, y182, y183, y184, y185, y186, y187, y188, y189, y190, y191, y192, y193, y194, y195, y196, y197, y198, y199, y200, y201, y202, y203, y204, y205, y206, y207], defers := [] } w := by
  dsimp only [Tryd.f24, Option.bind, findB, Option.orElse, reduceIte, reduceCtorEq] at hcd
  obtain rfl := Option.some.inj hcd
  have HGV := HG.v
  have HGC := Aside0.mk HG.c
  have HC := Aside0.mk hc
  have HB := Aside0.mk hb
  clear hcd hc hb HG
  go_wp2_with fail
  go_loopg [7, 11] 6 (fun kq p7 pi w' => ∃ (i : Nat), p7 = .int .i64 (gfold b c i : Nat) ∧ pi = .int .i64 (i : Int) ∧ Aside0 (i ≤ 5 ∧ 6 ≤ i + kq) ∧ w' = w)
  case atStart => exact ⟨0, by rfl, by rfl, ⟨by omega⟩, rfl⟩
  case round =>
    obtain ⟨i, rfl, rfl, HKI, rfl⟩ := hrel
    by_cases hi : i < 5
    · have hi1 : (i : Int) < 5 := by omega
      have hcell := HGC.out i hi
      have HB5 := Aside0.mk (show i + 1 ≤ 5 ∧ 6 ≤ i + 1 + (gk - 1) by have := HKI.out; omega)
      have HGT : Aside0 (gk - 1 < gk) := ⟨by have := HKI.out; omega⟩
      go_wp2_with fail
      · rename_i ht
        have HT := Aside0.mk (gf_yes HC.out HB.out ht (c := c))
        clear ht hcell hi hi1
        go_roundg (gk - 1)
        case measure => exact HGT.out
        case rel => exact ⟨i + 1, by rw [← HT.out], by rw [Int.natCast_add]; rfl, HB5, rfl⟩
      · rename_i ht
        have HT := Aside0.mk (gf_no HB.out ht (c := c))
        clear ht hcell hi hi1
        go_roundg (gk - 1)
        case measure => exact HGT.out
        case rel => exact ⟨i + 1, by rw [HT.out], by rw [Int.natCast_add]; rfl, HB5, rfl⟩
    · obtain rfl : i = 5 := by have := HKI.out; omega
      go_wp2_with fail
      exact hQ _ _ _ _ _ _ _ _ _ _ _ _ _ _ _ _ _
set_option maxRecDepth 100000 in
set_option maxHeartbeats 16000000 in
theorem in4 (c b : Nat) (hc : c < 2 ^ 30) (hb : b < 32) (w : World) (G : Addr) (cap : Nat) (HG : GenH w G cap) (Q : Exit → Act → World → Prop) (hP : ∀ c a n v w, Q (.panic c) (Act.put a n v) w → Q (.panic c) a w) (cd : Code) (hcd : Tryd.f24.body.bind (findB 4) = some cd) (y0 y1 y2 y3 y4 y5 y6 y8 y9 y10 y11 y14 y15 y16 y17 y18 y19 y20 y21 y22 y23 y24 y25 y26 y27 y28 y29 y30 y31 y32 y33 y34 y35 y36 y37 y38 y39 y40 y41 y42 y43 y44 y45 y46 y47 y48 y49 y50 y51 y52 y53 y54 y55 y56 y57 y58 y59 y60 y61 y62 y63 y64 y65 y66 y67 y68 y69 y70 y71 y72 y73 y74 y75 y76 y77 y78 y79 y80 y81 y82 y83 y84 y85 y86 y87 y88 y89 y90 y91 y92 y93 y94 y95 y96 y97 y98 y99 y100 y101 y102 y103 y104 y105 y106 y107 y108 y109 y110 y111 y112 y113 y114 y115 y116 y117 y118 y119 y120 y121 y122 y123 y124 y125 y126 y127 y128 y129 y130 y131 y132 y133 y134 y135 y136 y137 y138 y139 y140 y141 y142 y143 y144 y145 y146 y147 y148 y149 y150 y151 y152 y153 y154 y155 y156 y157 y158 y159 y160 y161 y162 y163 y164 y165 y166 y167 y168 y169 y170 y171 y172 y173 y174 y175 y176 y177 y178 y179 y180 y181 y182 y183 y184 y185 y186 y187 y188 y189 y190 y191 y192 y193 y194 y195 y196 y197 y198 y199 y200 y201 y202 y203 y204 y205 y206 y207 : Value)
    (hQ : ∀ (x13 x68 x69 x70 x71 x72 x73 x74 x75 x76 x77 x78 x79 x80 x81 x82 x83 : Value), Q .normal { tmps := #[y0, y1, y2, y3, y4, y5, y6, .int .i64 (gfold b c 5 : Nat), y8, y9, y10, y11, .int .i64 (b : Nat), x13, y14, y15, y16, y17, y18, y19, y20, y21, y22, y23, y24, y25, y26, y27, y28, y29, y30, y31, y32, y33, y34, y35, y36, y37, y38, y39, y40, y41, y42, y43, y44, y45, y46, y47, y48, y49, y50, y51, y52, y53, y54, y55, y56, y57, y58, y59, y60, y61, y62, y63, y64, y65, y66, y67, x68, x69, x70, x71, x72, x73, x74, x75, x76, x77, x78, x79, x80, x81, x82, x83, y84, y85, y86, y87, y88, y89, y90, y91, y92, y93, y94, y95, y96, y97, y98, y99, y100, y101, y102, y103, y104, y105, y106, y107, y108, y109, y110, y111, y112, y113, y114, y115, y116, y117, y118, y119, y120, y121, y122, y123, y124, y125, y126, y127, y128, y129, y130, y131, y132, y133, y134, y135, y136, y137, y138, y139, y140, y141, y142, y143, y144, y145, y146, y147, y148, y149, y150, y151, y152, y153, y154, y155, y156, y157, y158, y159, y160, y161, y162, y163, y164, y165, y166, y167, y168, y169, y170, y171, y172, y173, y174, y175, y176, y177, y178, y179, y180, y181, y182, y183, y184, y185, y186, y187, y188, y189, y190, y191, y192, y193, y194, y195, y196, y197, y198, y199, y200, y201, y202, y203, y204, y205, y206, y207], defers := [] } w) :
    Code.wp Tryd.prog cd Q { tmps := #[y0, y1, y2, y3, y4, y5, y6, .int .i64 (c : Nat), y8, y9, y10, y11, .int .i64 (b : Nat), .int .i64 0, y14, y15, y16, y17, y18, y19, y20, y21, y22, y23, y24, y25, y26, y27, y28, y29, y30, y31, y32, y33, y34, y35, y36, y37, y38, y39, y40, y41, y42, y43, y44, y45, y46, y47, y48, y49, y50, y51, y52, y53, y54, y55, y56, y57, y58, y59, y60, y61, y62, y63, y64, y65, y66, y67, y68, y69, y70, y71, y72, y73, y74, y75, y76, y77, y78, y79, y80, y81, y82, y83, y84, y85, y86, y87, y88, y89, y90, y91, y92, y93, y94, y95, y96, y97, y98, y99, y100, y101, y102, y103, y104, y105, y106, y107, y108, y109, y110, y111, y112, y113, y114, y115, y116, y117, y118, y119, y120, y121, y122, y123, y124, y125, y126, y127, y128, y129, y130, y131, y132, y133, y134, y135, y136, y137, y138, y139, y140, y141, y142, y143, y144, y145, y146, y147, y148, y149, y150, y151, y152, y153, y154, y155, y156, y157, y158, y159, y160, y161, y162, y163, y164, y165, y166, y167, y168, y169, y170, y171, y172, y173, y174, y175, y176, y177, y178, y179, y180, y181, y182, y183, y184, y185, y186, y187, y188, y189, y190, y191, y192, y193, y194, y195, y196, y197, y198, y199, y200, y201, y202, y203, y204, y205, y206, y207], defers := [] } w := by
  dsimp only [Tryd.f24, Option.bind, findB, Option.orElse, reduceIte, reduceCtorEq] at hcd
  obtain rfl := Option.some.inj hcd
  have HGV := HG.v
  have HGC := Aside0.mk HG.c
  have HC := Aside0.mk hc
  have HB := Aside0.mk hb
  clear hcd hc hb HG
  go_wp2_with fail
  go_loopg [7, 13] 6 (fun kq p7 pi w' => ∃ (i : Nat), p7 = .int .i64 (gfold b c i : Nat) ∧ pi = .int .i64 (i : Int) ∧ Aside0 (i ≤ 5 ∧ 6 ≤ i + kq) ∧ w' = w)
  case atStart => exact ⟨0, by rfl, by rfl, ⟨by omega⟩, rfl⟩
  case round =>
    obtain ⟨i, rfl, rfl, HKI, rfl⟩ := hrel
    by_cases hi : i < 5
    · have hi1 : (i : Int) < 5 := by omega
      have hcell := HGC.out i hi
      have HB5 := Aside0.mk (show i + 1 ≤ 5 ∧ 6 ≤ i + 1 + (gk - 1) by have := HKI.out; omega)
      have HGT : Aside0 (gk - 1 < gk) := ⟨by have := HKI.out; omega⟩
      go_wp2_with fail
      · rename_i ht
        have HT := Aside0.mk (gf_yes HC.out HB.out ht (c := c))
        clear ht hcell hi hi1
        go_roundg (gk - 1)
        case measure => exact HGT.out
        case rel => exact ⟨i + 1, by rw [← HT.out], by rw [Int.natCast_add]; rfl, HB5, rfl⟩
      · rename_i ht
        have HT := Aside0.mk (gf_no HB.out ht (c := c))
        clear ht hcell hi hi1
        go_roundg (gk - 1)
        case measure => exact HGT.out
        case rel => exact ⟨i + 1, by rw [HT.out], by rw [Int.natCast_add]; rfl, HB5, rfl⟩
    · obtain rfl : i = 5 := by have := HKI.out; omega
      go_wp2_with fail
      exact hQ _ _ _ _ _ _ _ _ _ _ _ _ _ _ _ _ _
set_option maxRecDepth 100000 in
set_option maxHeartbeats 16000000 in
theorem in8 (c b : Nat) (hc : c < 2 ^ 30) (hb : b < 32) (w : World) (G : Addr) (cap : Nat) (HG : GenH w G cap) (Q : Exit → Act → World → Prop) (hP : ∀ c a n v w, Q (.panic c) (Act.put a n v) w → Q (.panic c) a w) (cd : Code) (hcd : Tryd.f24.body.bind (findB 8) = some cd) (y0 y1 y2 y3 y4 y5 y6 y8 y9 y10 y11 y12 y13 y14 y16 y18 y19 y20 y21 y22 y23 y24 y25 y26 y27 y28 y29 y30 y31 y32 y33 y34 y35 y36 y37 y38 y39 y40 y41 y42 y43 y44 y45 y46 y47 y48 y49 y50 y51 y52 y53 y54 y55 y56 y57 y58 y59 y60 y61 y62 y63 y64 y65 y66 y67 y68 y69 y70 y71 y72 y73 y74 y75 y76 y77 y78 y79 y80 y81 y82 y83 y84 y85 y86 y87 y88 y89 y90 y91 y92 y93 y94 y95 y96 y97 y98 y99 y100 y101 y102 y103 y104 y105 y106 y107 y108 y109 y110 y111 y112 y113 y114 y115 y116 y117 y118 y119 y120 y121 y122 y123 y124 y125 y126 y127 y128 y129 y130 y131 y132 y133 y134 y135 y136 y137 y138 y139 y140 y141 y142 y143 y144 y145 y146 y147 y148 y149 y150 y151 y152 y153 y154 y155 y156 y157 y158 y159 y160 y161 y162 y163 y164 y165 y166 y167 y168 y169 y170 y171 y172 y173 y174 y175 y176 y177 y178 y179 y180 y181 y182 y183 y184 y185 y186 y187 y188 y189 y190 y191 y192 y193 y194 y195 y196 y197 y198 y199 y200 y201 y202 y203 y204 y205 y206 y207 : Value)
    (hQ : ∀ (x17 x102 x103 x104 x105 x106 x107 x108 x109 x110 x111 x112 x113 x114 x115 x116 x117 : Value), Q .normal { tmps := #[y0, y1, y2, y3, y4, y5, y6, .int .i64 (gfold b c 5 : Nat), y8, y9, y10, y11, y12, y13, y14, .int .i64 (b : Nat), y16, x17, y18, y19, y20, y21, y22, y23, y24, y25, y26, y27, y28, y29, y30, y31, y32, y33, y34, y35, y36, y37, y38, y39, y40, y41, y42, y43, y44, y45, y46, y47, y48, y49, y50, y51, y52, y53, y54, y55, y56, y57, y58, y59, y60, y61, y62, y63, y64, y65, y66, y67, y68, y69, y70, y71, y72, y73, y74, y75, y76, y77, y78, y79, y80, y81, y82, y83, y84, y85, y86, y87, y88, y89, y90, y91, y92, y93, y94, y95, y96, y97, y98, y99, y100, y101, x102, x103, x104, x105, x106, x107, x108, x109, x110, x111, x112, x113, x114, x115, x116, x117, y118, y119, y120, y121, y122, y123, y124, y125, y126, y127, y128, y129, y130, y131, y132, y133, y134, y135, y136, y137, y138, y139, y140, y141, y142, y143, y144, y145, y146, y147, y148, y149, y150, y151, y152, y153, y154, y155, y156, y157, y158, y159, y160, y161, y162, y163, y164, y165, y166, y167, y168, y169, y170, y171, y172, y173, y174, y175, y176, y177, y178, y179, y180, y181, y182, y183, y184, y185, y186, y187, y188, y189, y190, y191, y192, y193, y194, y195, y196, y197, y198, y199, y200, y201, y202, y203, y204, y205, y206, y207], defers := [] } w) :
    Code.wp Tryd.prog cd Q { tmps := #[y0, y1, y2, y3, y4, y5, y6, .int .i64 (c : Nat), y8, y9, y10, y11, y12, y13, y14, .int .i64 (b : Nat), y16, .int .i64 0, y18, y19, y20, y21, y22, y23, y24, y25, y26, y27, y28, y29, y30, y31, y32, y33, y34, y35, y36, y37, y38, y39, y40, y41, y42, y43, y44, y45, y46, y47, y48, y49, y50, y51, y52, y53, y54, y55, y56, y57, y58, y59, y60, y61, y62, y63, y64, y65, y66, y67, y68, y69, y70, y71, y72, y73, y74, y75, y76, y77, y78, y79, y80, y81, y82, y83, y84, y85, y86, y87, y88, y89, y90, y91, y92, y93, y94, y95, y96, y97, y98, y99, y100, y101, y102, y103, y104, y105, y106, y107, y108, y109, y110, y111, y112, y113, y114, y115, y116, y117, y118, y119, y120, y121, y122, y123, y124, y125, y126, y127, y128, y129, y130, y131, y132, y133, y134, y135, y136, y137, y138, y139, y140, y141, y142, y143, y144, y145, y146, y147, y148, y149, y150, y151, y152, y153, y154, y155, y156, y157, y158, y159, y160, y161, y162, y163, y164, y165, y166, y167, y168, y169, y170, y171, y172, y173, y174, y175, y176, y177, y178, y179, y180, y181, y182, y183, y184, y185, y186, y187, y188, y189, y190, y191, y192, y193, y194, y195, y196, y197, y198, y199, y200, y201, y202, y203, y204, y205, y206, y207], defers := [] } w := by
  dsimp only [Tryd.f24, Option.bind, findB, Option.orElse, reduceIte, reduceCtorEq] at hcd
  obtain rfl := Option.some.inj hcd
  have HGV := HG.v
  have HGC := Aside0.mk HG.c
  have HC := Aside0.mk hc
  have HB := Aside0.mk hb
  clear hcd hc hb HG
  go_wp2_with fail
  go_loopg [7, 17] 6 (fun kq p7 pi w' => ∃ (i : Nat), p7 = .int .i64 (gfold b c i : Nat) ∧ pi = .int .i64 (i : Int) ∧ Aside0 (i ≤ 5 ∧ 6 ≤ i + kq) ∧ w' = w)
  case atStart => exact ⟨0, by rfl, by rfl, ⟨by omega⟩, rfl⟩
  case round =>
    obtain ⟨i, rfl, rfl, HKI, rfl⟩ := hrel
    by_cases hi : i < 5
    · have hi1 : (i : Int) < 5 := by omega
      have hcell := HGC.out i hi
      have HB5 := Aside0.mk (show i + 1 ≤ 5 ∧ 6 ≤ i + 1 + (gk - 1) by have := HKI.out; omega)
      have HGT : Aside0 (gk - 1 < gk) := ⟨by have := HKI.out; omega⟩
      go_wp2_with fail
      · rename_i ht
        have HT := Aside0.mk (gf_yes HC.out HB.out ht (c := c))
        clear ht hcell hi hi1
        go_roundg (gk - 1)
        case measure => exact HGT.out
        case rel => exact ⟨i + 1, by rw [← HT.out], by rw [Int.natCast_add]; rfl, HB5, rfl⟩
      · rename_i ht
        have HT := Aside0.mk (gf_no HB.out ht (c := c))
        clear ht hcell hi hi1
        go_roundg (gk - 1)
        case measure => exact HGT.out
        case rel => exact ⟨i + 1, by rw [HT.out], by rw [Int.natCast_add]; rfl, HB5, rfl⟩
    · obtain rfl : i = 5 := by have := HKI.out; omega
      go_wp2_with fail
      exact hQ _ _ _ _ _ _ _ _ _ _ _ _ _ _ _ _ _
set_option maxRecDepth 100000 in
set_option maxHeartbeats 16000000 in
theorem in12 (c b : Nat) (hc : c < 2 ^ 30) (hb : b < 32) (w : World) (G : Addr) (cap : Nat) (HG : GenH w G cap) (Q : Exit → Act → World → Prop) (hP : ∀ c a n v w, Q (.panic c) (Act.put a n v) w → Q (.panic c) a w) (cd : Code) (hcd : Tryd.f24.body.bind (findB 12) = some cd) (y0 y1 y2 y3 y4 y5 y6 y8 y9 y10 y11 y12 y13 y14 y15 y16 y17 y18 y19 y22 y23 y24 y25 y26 y27 y28 y29 y30 y31 y32 y33 y34 y35 y36 y37 y38 y39 y40 y41 y42 y43 y44 y45 y46 y47 y48 y49 y50 y51 y52 y53 y54 y55 y56 y57 y58 y59 y60 y61 y62 y63 y64 y65 y66 y67 y68 y69 y70 y71 y72 y73 y74 y75 y76 y77 y78 y79 y80 y81 y82 y83 y84 y85 y86 y87 y88 y89 y90 y91 y92 y93 y94 y95 y96 y97 y98 y99 y100 y101 y102 y103 y104 y105 y106 y107 y108 y109 y110 y111 y112 y113 y114 y115 y116 y117 y118 y119 y120 y121 y122 y123 y124 y125 y126 y127 y128 y129 y130 y131 y132 y133 y134 y135 y136 y137 y138 y139 y140 y141 y142 y143 y144 y145 y146 y147 y148 y149 y150 y151 y152 y153 y154 y155 y156 y157 y158 y159 y160 y161 y162 y163 y164 y165 y166 y167 y168 y169 y170 y171 y172 y173 y174 y175 y176 y177 y178 y179 y180 y181 y182 y183 y184 y185 y186 y187 y188 y189 y190 y191 y192 y193 y194 y195 y196 y197 y198 y199 y200 y201 y202 y203 y204 y205 y206 y207 : Value)
    (hQ : ∀ (x21 x132 x133 x134 x135 x136 x137 x138 x139 x140 x141 x142 x143 x144 x145 x146 x147 : Value), Q .normal { tmps := #[y0, y1, y2, y3, y4, y5, y6, .int .i64 (gfold b c 5 : Nat), y8, y9, y10, y11, y12, y13, y14, y15, y16, y17, y18, y19, .int .i64 (b : Nat), x21, y22, y23, y24, y25, y26, y27, y28, y29, y30, y31, y32, y33, y34, y35, y36, y37, y38, y39, y40, y41, y42, y43, y44, y45, y46, y47, y48, y49, y50, y51, y52, y53, y54, y55, y56, y57, y58, y59, y60, y61, y62, y63, y64, y65, y66, y67, y68, y69, y70, y71, y72, y73, y74, y75, y76, y77, y78, y79, y80, y81, y82, y83, y84, y85, y86, y87, y88, y89, y90, y91, y92, y93, y94, y95, y96, y97, y98, y99, y100, y101, y102, y103, y104, y105, y106, y107, y108, y109, y110, y111, y112, y113, y114, y115, y116, y117, y118, y119, y120, y121, y122, y123, y124, y125, y126, y127, y128, y129, y130, y131, x132, x133, x134, x135, x136, x137, x138, x139, x140, x141, x142, x143, x144, x145, x146, x147, y148, y149, y150, y151, y152, y153, y154, y155, y156, y157, y158, y159, y160, y161, y162, y163, y164, y165, y166, y167, y168, y169, y170, y171, y172, y173, y174, y175, y176, y177, y178, y179, y180, y181, y182, y183, y184, y185, y186, y187, y188, y189, y190, y191, y192, y193, y194, y195, y196, y197, y198, y199, y200, y201, y202, y203, y204, y205, y206, y207], defers := [] } w) :
    Code.wp Tryd.prog cd Q { tmps := #[y0, y1, y2, y3, y4, y5, y6, .int .i64 (c : Nat), y8, y9, y10, y11, y12, y13, y14, y15, y16, y17, y18, y19, .int .i64 (b : Nat), .int .i64 0, y22, y23, y24, y25, y26, y27, y28, y29, y30, y31, y32, y33, y34, y35, y36, y37, y38, y39, y40, y41, y42, y43, y44, y45, y46, y47, y48, y49, y50, y51, y52, y53, y54, y55, y56, y57, y58, y59, y60, y61, y62, y63, y64, y65, y66, y67, y68, y69, y70, y71, y72, y73, y74, y75, y76, y77, y78, y79, y80, y81, y82, y83, y84, y85, y86, y87, y88, y89, y90, y91, y92, y93, y94, y95, y96, y97, y98, y99, y100, y101, y102, y103, y104, y105, y106, y107, y108, y109, y110, y111, y112, y113, y114, y115, y116, y117, y118, y119, y120, y121, y122, y123, y124, y125, y126, y127, y128, y129, y130, y131, y132, y133, y134, y135, y136, y137, y138, y139, y140, y141, y142, y143, y144, y145, y146, y147, y148, y149, y150, y151, y152, y153, y154, y155, y156, y157, y158, y159, y160, y161, y162, y163, y164, y165, y166, y167, y168, y169, y170, y171, y172, y173, y174, y175, y176, y177, y178, y179, y180, y181, y182, y183, y184, y185, y186, y187, y188, y189, y190, y191, y192, y193, y194, y195, y196, y197, y198, y199, y200, y201, y202, y203, y204, y205, y206, y207], defers := [] } w := by
  dsimp only [Tryd.f24, Option.bind, findB, Option.orElse, reduceIte, reduceCtorEq] at hcd
  obtain rfl := Option.some.inj hcd
  have HGV := HG.v
  have HGC := Aside0.mk HG.c
  have HC := Aside0.mk hc
  have HB := Aside0.mk hb
  clear hcd hc hb HG
  go_wp2_with fail
  go_loopg [7, 21] 6 (fun kq p7 pi w' => ∃ (i : Nat), p7 = .int .i64 (gfold b c i : Nat) ∧ pi = .int .i64 (i : Int) ∧ Aside0 (i ≤ 5 ∧ 6 ≤ i + kq) ∧ w' = w)
  case atStart => exact ⟨0, by rfl, by rfl, ⟨by omega⟩, rfl⟩
  case round =>
    obtain ⟨i, rfl, rfl, HKI, rfl⟩ := hrel
    by_cases hi : i < 5
    · have hi1 : (i : Int) < 5 := by omega
      have hcell := HGC.out i hi
      have HB5 := Aside0.mk (show i + 1 ≤ 5 ∧ 6 ≤ i + 1 + (gk - 1) by have := HKI.out; omega)
      have HGT : Aside0 (gk - 1 < gk) := ⟨by have := HKI.out; omega⟩
      go_wp2_with fail
      · rename_i ht
        have HT := Aside0.mk (gf_yes HC.out HB.out ht (c := c))
        clear ht hcell hi hi1
        go_roundg (gk - 1)
        case measure => exact HGT.out
        case rel => exact ⟨i + 1, by rw [← HT.out], by rw [Int.natCast_add]; rfl, HB5, rfl⟩
      · rename_i ht
        have HT := Aside0.mk (gf_no HB.out ht (c := c))
        clear ht hcell hi hi1
        go_roundg (gk - 1)
        case measure => exact HGT.out
        case rel => exact ⟨i + 1, by rw [HT.out], by rw [Int.natCast_add]; rfl, HB5, rfl⟩
    · obtain rfl : i = 5 := by have := HKI.out; omega
      go_wp2_with fail
      exact hQ _ _ _ _ _ _ _ _ _ _ _ _ _ _ _ _ _
set_option maxRecDepth 100000 in
set_option maxHeartbeats 16000000 in
theorem in16 (c b : Nat) (hc : c < 2 ^ 30) (hb : b < 32) (w : World) (G : Addr) (cap : Nat) (HG : GenH w G cap) (Q : Exit → Act → World → Prop) (hP : ∀ c a n v w, Q (.panic c) (Act.put a n v) w → Q (.panic c) a w) (cd : Code) (hcd : Tryd.f24.body.bind (findB 16) = some cd) (y0 y1 y2 y3 y4 y5 y6 y8 y9 y10 y11 y12 y13 y14 y15 y16 y17 y18 y19 y20 y21 y22 y25 y26 y27 y28 y29 y30 y31 y32 y33 y34 y35 y36 y37 y38 y39 y40 y41 y42 y43 y44 y45 y46 y47 y48 y49 y50 y51 y52 y53 y54 y55 y56 y57 y58 y59 y60 y61 y62 y63 y64 y65 y66 y67 y68 y69 y70 y71 y72 y73 y74 y75 y76 y77 y78 y79 y80 y81 y82 y83 y84 y85 y86 y87 y88 y89 y90 y91 y92 y93 y94 y95 y96 y97 y98 y99 y100 y101 y102 y103 y104 y105 y106 y107 y108 y109 y110 y111 y112 y113 y114 y115 y116 y117 y118 y119 y120 y121 y122 y123 y124 y125 y126 y127 y128 y129 y130 y131 y132 y133 y134 y135 y136 y137 y138 y139 y140 y141 y142 y143 y144 y145 y146 y147 y148 y149 y150 y151 y152 y153 y154 y155 y156 y157 y158 y159 y160 y161 y162 y163 y164 y165 y166 y167 y168 y169 y170 y171 y172 y173 y174 y175 y176 y177 y178 y179 y180 y181 y182 y183 y184 y185 y186 y187 y188 y189 y190 y191 y192 y193 y194 y195 y196 y197 y198 y199 y200 y201 y202 y203 y204 y205 y206 y207 : Value)
    (hQ : ∀ (x24 x160 x161 x162 x163 x164 x165 x166 x167 x168 x169 x170 x171 x172 x173 x174 x175 : Value), Q .normal { tmps := #[y0, y1, y2, y3, y4, y5, y6, .int .i64 (gfold b c 5 : Nat), y8, y9, y10, y11, y12, y13, y14, y15, y16, y17, y18, y19, y20, y21, y22, .int .i64 (b : Nat), x24, y25, y26, y27, y28, y29, y30, y31, y32, y33, y34, y35, y36, y37, y38, y39, y40, y41, y42, y43, y44, y45, y46, y47, y48, y49, y50, y51, y52, y53, y54, y55, y56, y57, y58, y59, y60, y61, y62, y63, y64, y65, y66, y67, y68, y69, y70, y71, y72, y73, y74, y75, y76, y77, y78, y79, y80, y81, y82, y83, y84, y85, y86, y87, y88, y89, y90, y91, y92, y93, y94, y95, y96, y97, y98, y99, y100, y101, y102, y103, y104, y105, y106, y107, y108, y109, y110, y111, y112, y113, y114, y115, y116, y117, y118, y119, y120, y121, y122, y123, y124, y125, y126, y127, y128, y129, y130, y131, y132, y133, y134, y135, y136, y137, y138, y139, y140, y141, y142, y143, y144, y145, y146, y147, y148, y149, y150, y151, y152, y153, y154, y155, y156, y157, y158, y159, x160, x161, x162, x163, x164, x165, x166, x167, x168, x169, x170, x171, x172, x173, x174, x175, y176, y177, y178, y179, y180, y181, y182, y183, y184, y185, y186, y187, y188, y189, y190, y191, y192, y193, y194, y195, y196, y197, y198, y199, y200, y201, y202, y203, y204, y205, y206, y207], defers := [] } w) :
    Code.wp Tryd.prog cd Q { tmps := #[y0, y1, y2, y3, y4, y5, y6, .int .i64 (c : Nat), y8, y9, y10, y11, y12, y13, y14, y15, y16, y17, y18, y19, y20, y21, y22, .int .i64 (b : Nat), .int .i64 0, y25, y26, y27, y28, y29, y30, y31, y32, y33, y34, y35, y36, y37, y38, y39, y40, y41, y42, y43, y44, y45, y46, y47, y48, y49, y50, y51, y52, y53, y54, y55, y56, y57, y58, y59, y60, y61, y62, y63, y64, y65, y66, y67, y68, y69, y70, y71, y72, y73, y74, y75, y76, y77, y78, y79, y80, y81, y82, y83, y84, y85, y86, y87, y88, y89, y90, y91, y92, y93, y94, y95, y96, y97, y98, y99, y100, y101, y102, y103, y104, y105, y106, y107, y108, y109, y110, y111, y112, y113, y114, y115, y116, y117, y118, y119, y120, y121, y122, y123, y124, y125, y126, y127, y128, y129, y130, y131, y132, y133, y134, y135, y136, y137, y138, y139, y140, y141, y142, y143, y144, y145, y146, y147, y148, y149, y150, y151, y152, y153, y154, y155, y156, y157, y158, y159, y160, y161, y162, y163, y164, y165, y166, y167, y168, y169, y170, y171, y172, y173, y174, y175, y176, y177, y178, y179, y180, y181, y182, y183, y184, y185, y186, y187, y188, y189, y190, y191, y192, y193, y194, y195, y196, y197, y198, y199, y200, y201, y202, y203, y204, y205, y206, y207], defers := [] } w := by
  dsimp only [Tryd.f24, Option.bind, findB, Option.orElse, reduceIte, reduceCtorEq] at hcd
  obtain rfl := Option.some.inj hcd
  have HGV := HG.v
  have HGC := Aside0.mk HG.c
  have HC := Aside0.mk hc
  have HB := Aside0.mk hb
  clear hcd hc hb HG
  go_wp2_with fail
  go_loopg [7, 24] 6 (fun kq p7 pi w' => ∃ (i : Nat), p7 = .int .i64 (gfold b c i : Nat) ∧ pi = .int .i64 (i : Int) ∧ Aside0 (i ≤ 5 ∧ 6 ≤ i + kq) ∧ w' = w)
  case atStart => exact ⟨0, by rfl, by rfl, ⟨by omega⟩, rfl⟩
  case round =>
    obtain ⟨i, rfl, rfl, HKI, rfl⟩ := hrel
    by_cases hi : i < 5
    · have hi1 : (i : Int) < 5 := by omega
      have hcell := HGC.out i hi
      have HB5 := Aside0.mk (show i + 1 ≤ 5 ∧ 6 ≤ i + 1 + (gk - 1) by have := HKI.out; omega)
      have HGT : Aside0 (gk - 1 < gk) := ⟨by have := HKI.out; omega⟩
      go_wp2_with fail
      · rename_i ht
        have HT := Aside0.mk (gf_yes HC.out HB.out ht (c := c))
        clear ht hcell hi hi1
        go_roundg (gk - 1)
        case measure => exact HGT.out
        case rel => exact ⟨i + 1, by rw [← HT.out], by rw [Int.natCast_add]; rfl, HB5, rfl⟩
      · rename_i ht
        have HT := Aside0.mk (gf_no HB.out ht (c := c))
        clear ht hcell hi hi1
        go_roundg (gk - 1)
        case measure => exact HGT.out
        case rel => exact ⟨i + 1, by rw [HT.out], by rw [Int.natCast_add]; rfl, HB5, rfl⟩
    · obtain rfl : i = 5 := by have := HKI.out; omega
      go_wp2_with fail
      exact hQ _ _ _ _ _ _ _ _ _ _ _ _ _ _ _ _ _
set_option maxRecDepth 100000 in
set_option maxHeartbeats 16000000 in
theorem in20 (c b : Nat) (hc : c < 2 ^ 30) (hb : b < 32) (w : World) (G : Addr) (cap : Nat) (HG : GenH w G cap) (Q : Exit → Act → World → Prop) (hP : ∀ c a n v w, Q (.panic c) (Act.put a n v) w → Q (.panic c) a w) (cd : Code) (hcd : Tryd.f24.body.bind (findB 20) = some cd) (y0 y1 y2 y3 y4 y5 y6 y8 y9 y10 y11 y12 y13 y14 y15 y16 y17 y18 y19 y20 y21 y22 y23 y24 y25 y26 y29 y30 y31 y32 y33 y34 y35 y36 y37 y38 y39 y40 y41 y42 y43 y44 y45 y46 y47 y48 y49 y50 y51 y52 y53 y54 y55 y56 y57 y58 y59 y60 y61 y62 y63 y64 y65 y66 y67 y68 y69 y70 y71 y72 y73 y74 y75 y76 y77 y78 y79 y80 y81 y82 y83 y84 y85 y86 y87 y88 y89 y90 y91 y92 y93 y94 y95 y96 y97 y98 y99 y100 y101 y102 y103 y104 y105 y106 y107 y108 y109 y110 y111 y112 y113 y114 y115 y116 y117 y118 y119 y120 y121 y122 y123 y124 y125 y126 y127 y128 y129 y130 y131 y132 y133 y134 y135 y136 y137 y138 y139 y140 y141 y142 y143 y144 y145 y146 y147 y148 y149 y150 y151 y152 y153 y154 y155 y156 y157 y158 y159 y160 y161 y162 y163 y164 y165 y166 y167 y168 y169 y170 y171 y172 y173 y174 y175 y176 y177 y178 y179 y180 y181 y182 y183 y184 y185 y186 y187 y188 y189 y190 y191 y192 y193 y194 y195 y196 y197 y198 y199 y200 y201 y202 y203 y204 y205 y206 y207 : Value)
    (hQ : ∀ (x28 x190 x191 x192 x193 x194 x195 x196 x197 x198 x199 x200 x201 x202 x203 x204 x205 : Value), Q .normal { tmps := #[y0, y1, y2, y3, y4, y5, y6, .int .i64 (gfold b c 5 : Nat), y8, y9, y10, y11, y12, y13, y14, y15, y16, y17, y18, y19, y20, y21, y22, y23, y24, y25, y26, .int .i64 (b : Nat), x28, y29, y30, y31, y32, y33, y34, y35, y36, y37, y38, y39, y40, y41, y42, y43, y44, y45, y46, y47, y48, y49, y50, y51, y52, y53, y54, y55, y56, y57, y58, y59, y60, y61, y62, y63, y64, y65, y66, y67, y68, y69, y70, y71, y72, y73, y74, y75, y76, y77, y78, y79, y80, y81, y82, y83, y84, y85, y86, y87, y88, y89, y90, y91, y92, y93, y94, y95, y96, y97, y98, y99, y100, y101, y102, y103, y104, y105, y106, y107, y108, y109, y110, y111, y112, y113, y114, y115, y116, y117, y118, y119, y120, y121, y122, y123, y124, y125, y126, y127, y128, y129, y130, y131, y132, y133, y134, y135, y136, y137, y138, y139, y140, y141, y142, y143, y144, y145, y146, y147, y148, y149, y150, y151, y152, y153, y154, y155, y156, y157, y158, y159, y160, y161, y162, y163, y164, y165, y166, y167, y168, y169, y170, y171, y172, y173, y174, y175, y176, y177, y178, y179, y180, y181, y182, y183, y184, y185, y186, y187, y188, y189, x190, x191, x192, x193, x194, x195, x196, x197, x198, x199, x200, x201, x202, x203, x204, x205, y206, y207], defers := [] } w) :
    Code.wp Tryd.prog cd Q { tmps := #[y0, y1, y2, y3, y4, y5, y6, .int .i64 (c : Nat), y8, y9, y10, y11, y12, y13, y14, y15, y16, y17, y18, y19, y20, y21, y22, y23, y24, y25, y26, .int .i64 (b : Nat), .int .i64 0, y29, y30, y31, y32, y33, y34, y35, y36, y37, y38, y39, y40, y41, y42, y43, y44, y45, y46, y47, y48, y49, y50, y51, y52, y53, y54, y55, y56, y57, y58, y59, y60, y61, y62, y63, y64, y65, y66, y67, y68, y69, y70, y71, y72, y73, y74, y75, y76, y77, y78, y79, y80, y81, y82, y83, y84, y85, y86, y87, y88, y89, y90, y91, y92, y93, y94, y95, y96, y97, y98, y99, y100, y101, y102, y103, y104, y105, y106, y107, y108, y109, y110, y111, y112, y113, y114, y115, y116, y117, y118, y119, y120, y121, y122, y123, y124, y125, y126, y127, y128, y129, y130, y131, y132, y133, y134, y135, y136, y137, y138, y139, y140, y141, y142, y143, y144, y145, y146, y147, y148, y149, y150, y151, y152, y153, y154, y155, y156, y157, y158, y159, y160, y161, y162, y163, y164, y165, y166, y167, y168, y169, y170, y171, y172, y173, y174, y175, y176, y177, y178, y179, y180, y181, y182, y183, y184, y185, y186, y187, y188, y189, y190, y191, y192, y193, y194, y195, y196, y197, y198, y199, y200, y201, y202, y203, y204, y205, y206, y207], defers := [] } w := by
  dsimp only [Tryd.f24, Option.bind, findB, Option.orElse, reduceIte, reduceCtorEq] at hcd
  obtain rfl := Option.some.inj hcd
  have HGV := HG.v
  have HGC := Aside0.mk HG.c
  have HC := Aside0.mk hc
  have HB := Aside0.mk hb
  clear hcd hc hb HG
  go_wp2_with fail
  go_loopg [7, 28] 6 (fun kq p7 pi w' => ∃ (i : Nat), p7 = .int .i64 (gfold b c i : Nat) ∧ pi = .int .i64 (i : Int) ∧ Aside0 (i ≤ 5 ∧ 6 ≤ i + kq) ∧ w' = w)
  case atStart => exact ⟨0, by rfl, by rfl, ⟨by omega⟩, rfl⟩
  case round =>
    obtain ⟨i, rfl, rfl, HKI, rfl⟩ := hrel
    by_cases hi : i < 5
    · have hi1 : (i : Int) < 5 := by omega
      have hcell := HGC.out i hi
      have HB5 := Aside0.mk (show i + 1 ≤ 5 ∧ 6 ≤ i + 1 + (gk - 1) by have := HKI.out; omega)
      have HGT : Aside0 (gk - 1 < gk) := ⟨by have := HKI.out; omega⟩
      go_wp2_with fail
      · rename_i ht
        have HT := Aside0.mk (gf_yes HC.out HB.out ht (c := c))
        clear ht hcell hi hi1
        go_roundg (gk - 1)
        case measure => exact HGT.out
        case rel => exact ⟨i + 1, by rw [← HT.out], by rw [Int.natCast_add]; rfl, HB5, rfl⟩
      · rename_i ht
        have HT := Aside0.mk (gf_no HB.out ht (c := c))
        clear ht hcell hi hi1
        go_roundg (gk - 1)
        case measure => exact HGT.out
        case rel => exact ⟨i + 1, by rw [HT.out], by rw [Int.natCast_add]; rfl, HB5, rfl⟩
    · obtain rfl : i = 5 := by have := HKI.out; omega
      go_wp2_with fail
      exact hQ _ _ _ _ _ _ _ _ _ _ _ _ _ _ _ _ _
end Go.Proofs.YtbbeedclkfcmeaaDoor.Snk
