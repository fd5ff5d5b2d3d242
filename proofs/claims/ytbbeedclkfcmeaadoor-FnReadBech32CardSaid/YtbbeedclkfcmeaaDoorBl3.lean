/- bech32Polymod: its outer loops. -/
import Derived.Test.YtbbeedclkfcmeaaDoorBl2
namespace Go.Proofs.YtbbeedclkfcmeaaDoor.Snk
open Go.RowKit Go.Proofs.YtbbeedclkfcmeaaDoorW.PrintWords Go.Proofs.YtbbeedclkfcmeaaDoorW.PrintLast Go.Proofs.YtbbeedclkfcmeaaDoorW.PrintMore
set_option linter.unusedVariables false
set_option linter.unusedSimpArgs false
def pms (c : Nat) (l : List Nat) : Nat := l.foldl pm c
theorem pms_lt {c : Nat} (h : c < 2 ^ 30) : ∀ (l : List Nat), (∀ v ∈ l, v < 256) → pms c l < 2 ^ 30 := by
  intro l
  induction l generalizing c with
  | nil => exact fun _ => h
  | cons v l ih => exact fun hl => ih (pm_lt c v (by have := hl v (by simp); omega)) fun x hx => hl x (by simp [hx])
theorem pms_take {c : Nat} {l : List Nat} {i : Nat} (hi : i < l.length) : pm (pms c (l.take i)) (l.getD i 0) = pms c (l.take (i + 1)) := by
  unfold pms
  rw [List.take_add_one, List.foldl_append, List.getD_eq_getElem?_getD, List.getElem?_eq_getElem hi]
  rfl
def hiN (x : Int) : Nat := x.toNat / 32
def loN (x : Int) : Nat := x.toNat % 32
theorem map_getN (f : Int → Nat) (hf : f 0 = 0) (L : List Int) (i : Nat) : (L.map f).getD i 0 = f (L.getD i 0) := by
  rw [List.getD_eq_getElem?_getD, List.getD_eq_getElem?_getD, List.getElem?_map]
  cases L[i]? with
  | none => exact hf.symm
  | some x => rfl
theorem mixE {ci v : Nat} {V : Int} (hc : ci < 2 ^ 30) (hv : v < 2 ^ 30) (hV : V = (v : Int)) : bits .xor .i64 (wrap64 (bits .and .i64 (ci : Int) 33554431 * 32)) V = ((ci % 2 ^ 25 * 32 ^^^ v : Nat) : Int) := by
  have h : bits .and .i64 (ci : Int) 33554431 = (ci : Int) % 2 ^ 25 := and64 (ci : Int) 25 (by decide) (Int.natCast_nonneg _) (by omega)
  have e : wrap64 ((ci : Int) % 2 ^ 25 * 32) = ((ci % 2 ^ 25 * 32 : Nat) : Int) := by unfold wrap64; omega
  rw [h, e, hV, xor64 _ _ (by omega) hv]
theorem mix0 {ci : Nat} (hc : ci < 2 ^ 30) : wrap64 (bits .and .i64 (ci : Int) 33554431 * 32) = ((ci % 2 ^ 25 * 32 ^^^ 0 : Nat) : Int) := by
  have h : bits .and .i64 (ci : Int) 33554431 = (ci : Int) % 2 ^ 25 := and64 (ci : Int) 25 (by decide) (Int.natCast_nonneg _) (by omega)
  have e : wrap64 ((ci : Int) % 2 ^ 25 * 32) = ((ci % 2 ^ 25 * 32 : Nat) : Int) := by unfold wrap64; omega
  rw [h, e, Nat.xor_zero]
theorem divE (ci : Nat) : (ci : Int) / 33554432 = ((ci / 2 ^ 25 : Nat) : Int) := by omega
theorem mix_lt (ci : Nat) {v : Nat} (hv : v < 2 ^ 30) : ci % 2 ^ 25 * 32 ^^^ v < 2 ^ 30 := Nat.xor_lt_two_pow (by have := Nat.mod_lt ci (show 0 < 2 ^ 25 by decide); omega) hv
theorem div_lt {ci : Nat} (h : ci < 2 ^ 30) : ci / 2 ^ 25 < 32 := by omega
theorem hiV {x : Int} (h : 0 ≤ x ∧ x < 256) : wrap64 x / 32 = (hiN x : Int) := by unfold wrap64 hiN; omega
theorem loV {x : Int} (h : 0 ≤ x ∧ x < 256) : bits .and .i64 (wrap64 x) 31 = (loN x : Int) := by
  have e : wrap64 x = x := by unfold wrap64; omega
  have h1 : bits .and .i64 x 31 = x % 2 ^ 5 := and64 x 5 (by decide) h.1 (by omega)
  rw [e, h1]
  unfold loN; omega
theorem byV {x : Int} (h : 0 ≤ x ∧ x < 256) : wrap64 x = (x.toNat : Int) := by unfold wrap64; omega
theorem hi_lt {x : Int} (h : 0 ≤ x ∧ x < 256) : hiN x < 2 ^ 30 := by unfold hiN; omega
theorem lo_lt {x : Int} (h : 0 ≤ x ∧ x < 256) : loN x < 2 ^ 30 := by unfold loN; omega
theorem by_lt {x : Int} (h : 0 ≤ x ∧ x < 256) : x.toNat < 2 ^ 30 := by omega
set_option maxRecDepth 100000 in
set_option maxHeartbeats 16000000 in
theorem ol0 (c : Nat) (hc : c < 2 ^ 30) (L : List Int) (hL : ByteL L) (s : ByteArray) (hs : s = strOfNums L) (hn : L.length ≤ 1000) (w : World) (G : Addr) (cap : Nat) (HG : GenH w G cap)  (Q : Exit → Act → World → Prop) (hP : ∀ c a n v w, Q (.panic c) (Act.put a n v) w → Q (.panic c) a w) (cd : Code) (hcd : Tryd.f24.body.bind (findB 0) = some cd) (y1 y2 y3 y4 y5 y6 y9 y10 y11 y12 y13 y14 y15 y16 y17 y18 y19 y20 y21 y22 y23 y24 y25 y26 y27 y28 y29 y30 y31 y32 y33 y34 y35 y36 y37 y38 y39 y40 y41 y42 y43 y44 y45 y46 y47 y48 y49 y50 y51 y52 y53 y54 y55 y56 y57 y58 y59 y60 y61 y62 y63 y64 y65 y66 y67 y68 y69 y70 y71 y72 y73 y74 y75 y76 y77 y78 y79 y80 y81 y82 y83 y84 y85 y86 y87 y88 y89 y90 y91 y92 y93 y94 y95 y96 y97 y98 y99 y100 y101 y102 y103 y104 y105 y106 y107 y108 y109 y110 y111 y112 y113 y114 y115 y116 y117 y118 y119 y120 y121 y122 y123 y124 y125 y126 y127 y128 y129 y130 y131 y132 y133 y134 y135 y136 y137 y138 y139 y140 y141 y142 y143 y144 y145 y146 y147 y148 y149 y150 y151 y152 y153 y154 y155 y156 y157 y158 y159 y160 y161 y162 y163 y164 y165 y166 y167 y168 y169 y170 y171 y172 y173 y174 y175 y176 y177 y178 y179 y180 y181 y182 y183 y184 y185 y186 y187 y188 y189 y190 y191 y192 y193 y194 y195 y196 y197 y198 y199 y200 y201 y202 y203 y204 y205 y206 y207 : Value)
    (hQ : ∀ (x8 x9 x10 x11 x29 x30 x31 x32 x33 x34 x35 x36 x37 x38 x39 x40 x41 x42 x43 x44 x45 x46 x47 x48 x49 x50 x51 x52 x53 x54 x55 x56 x57 x58 x59 x60 x61 x62 : Value), Q .normal { tmps := #[.string s, y1, y2, y3, y4, y5, y6, .int .i64 (pms c (L.map hiN) : Nat), x8, x9, x10, x11, y12, y13, y14, y15, y16, y17, y18, y19, y20, y21, y22, y23, y24, y25, y26, y27, y28, x29, x30, x31, x32, x33, x34, x35, x36, x37, x38, x39, x40, x41, x42, x43, x44, x45, x46, x47, x48, x49, x50, x51, x52, x53, x54, x55, x56, x57, x58, x59, x60, x61, x62, y63, y64, y65, y66, y67, y68, y69, y70, y71, y72, y73, y74, y75, y76, y77, y78, y79, y80, y81, y82, y83, y84, y85, y86, y87, y88, y89, y90, y91, y92, y93, y94, y95, y96, y97, y98, y99, y100, y101, y102, y103, y104, y105, y106, y107, y108, y109, y110, y111, y112, y113, y114, y115, y116, y117, y118, y119, y120, y121, y122, y123, y124, y125, y126, y127, y128, y129, y130, y131, y132, y133, y134, y135, y136, y137, y138, y139, y140, y141, y142, y143, y144, y145, y146, y147, y148, y149, y150, y151, y152, y153, y154, y155, y156, y157, y158, y159, y160, y161, y162, y163, y164, y165, y166, y167, y168, y169, y170, y171, y172, y173, y174, y175, y176, y177, y178, y179, y180, y181, y182, y183, y184, y185, y186, y187, y188, y189, y190, y191, y192, y193, y194, y195, y196, y197, y198, y199, y200, y201, y202, y203, y204, y205, y206, y207], defers := [] } w) :
    Code.wp Tryd.prog cd Q { tmps := #[.string s, y1, y2, y3, y4, y5, y6, .int .i64 (c : Nat), .int .i64 0, y9, y10, y11, y12, y13, y14, y15, y16, y17, y18, y19, y20, y21, y22, y23, y24, y25, y26, y27, y28, y29, y30, y31, y32, y33, y34, y35, y36, y37, y38, y39, y40, y41, y42, y43, y44, y45, y46, y47, y48, y49, y50, y51, y52, y53, y54, y55, y56, y57, y58, y59, y60, y61, y62, y63, y64, y65, y66, y67, y68, y69, y70, y71, y72, y73, y74, y75, y76, y77, y78, y79, y80, y81, y82, y83, y84, y85, y86, y87, y88, y89, y90, y91, y92, y93, y94, y95, y96, y97, y98, y99, y100, y101, y102, y103, y104, y105, y106, y107, y108, y109, y110, y111, y112, y113, y114, y115, y116, y117, y118, y119, y120, y121, y122, y123, y124, y125, y126, y127, y128, y129, y130, y131, y132, y133, y134, y135, y136, y137, y138, y139, y140, y141, y142, y143, y144, y145, y146, y147, y148, y149, y150, y151, y152, y153, y154, y155, y156, y157, y158, y159, y160, y161, y162, y163, y164, y165, y166, y167, y168, y169, y170, y171, y172, y173, y174, y175, y176, y177, y178, y179, y180, y181, y182, y183, y184, y185, y186, y187, y188, y189, y190, y191, y192, y193, y194, y195, y196, y197, y198, y199, y200, y201, y202, y203, y204, y205, y206, y207], defers := [] } w := by
  dsimp only [Tryd.f24, Option.bind, findB, Option.orElse, reduceIte, reduceCtorEq] at hcd
  obtain rfl := Option.some.inj hcd
  have hsz : s.size = L.length := by rw [hs]; exact strOfNums_size L
  obtain ⟨nl, hnl⟩ : ∃ n, L.length = n := ⟨_, rfl⟩
  have HLT : Aside0 (∀ i, pms c ((L.map hiN).take i) < 2 ^ 30) := ⟨fun i => pms_lt hc _ fun v hv => by
    obtain ⟨x, hx, rfl⟩ := List.mem_map.1 (List.mem_of_mem_take hv)
    have := hL x hx
    unfold hiN; omega⟩
  have HALL : Aside0 ((L.map hiN).take nl = L.map hiN) := ⟨by rw [← hnl]; exact List.take_of_length_le (by rw [List.length_map]; exact Nat.le_refl _)⟩
  have HST : Aside0 (∀ i, i < nl → pm (pms c ((L.map hiN).take i)) (hiN (L.getD i 0)) = pms c ((L.map hiN).take (i + 1))) := ⟨fun i hi => by rw [← map_getN hiN (by rfl) L i]; exact pms_take (by rw [List.length_map]; omega)⟩
  have HL := Aside0.mk hL
  have HS := Aside0.mk hs
  have HG2 := Aside0.mk HG
  have HN := Aside0.mk hnl
  rw [hnl] at hsz hn
  have HNN := Aside0.mk hn
  clear hc hL hs HG hnl hcd hn
  go_wp2_with fail
  go_loopg [7, 8] (nl + 1) (fun kq p7 pi w' => ∃ (i : Nat), p7 = .int .i64 (pms c ((L.map hiN).take i) : Nat) ∧ pi = .int .i64 (i : Int) ∧ Aside0 (i ≤ nl ∧ nl + 1 ≤ i + kq) ∧ w' = w)
  case atStart => exact ⟨0, by rfl, by rfl, ⟨by omega⟩, rfl⟩
  case round =>
    obtain ⟨i, rfl, rfl, HKI, rfl⟩ := hrel
    have HLI := Aside0.mk (HLT.out i)
    obtain ⟨ci, hci⟩ : ∃ ci, pms c ((L.map hiN).take i) = ci := ⟨_, rfl⟩
    by_cases hi : i < nl
    · have HST1 := Aside0.mk (HST.out i hi)
      have HLT1 := Aside0.mk (HLT.out (i + 1))
      rw [hci] at HST1 HLI ⊢
      have hb := HL.out.at i
      obtain ⟨x, hx⟩ : ∃ x, L.getD i 0 = x := ⟨_, rfl⟩
      have HX := Aside0.mk hx
      rw [hx] at hb HST1
      have HI := Aside0.mk hi
      have hi1 : (i : Int) < (nl : Int) := by omega
      have HB5 := Aside0.mk (show i + 1 ≤ nl ∧ nl + 1 ≤ i + 1 + (gk - 1) by have := HKI.out; omega)
      have HGT : Aside0 (gk - 1 < gk) := ⟨by have := HKI.out; omega⟩
      have HBX := Aside0.mk hb
      clear hb hi hx
      go_upto_block 2 with ((with_reducible refine at_dst (N := 39) rfl ?_); refine wpList_run rfl _ (index_op (.tmp 37) (.tmp 38) rfl HL.out i (i : Int) (by exact congrArg Value.string HS.out) rfl rfl (by rw [HN.out]; exact HI.out) x HX.out _) ?_)
      rw [mixE HLI.out (hi_lt HBX.out) (hiV HBX.out), divE]
      refine in2 (ci % 2 ^ 25 * 32 ^^^ hiN x) (ci / 2 ^ 25) (mix_lt ci (hi_lt HBX.out)) (div_lt HLI.out) wr G cap HG2.out _ (by exact fun _ _ _ _ _ h => hP _ _ _ _ _ h) _ (by rfl) _ _ _ _ _ _ _ _ _ _ _ _ _ _ _ _ _ _ _ _ _ _ _ _ _ _ _ _ _ _ _ _ _ _ _ _ _ _ _ _ _ _ _ _ _ _ _ _ _ _ _ _ _ _ _ _ _ _ _ _ _ _ _ _ _ _ _ _ _ _ _ _ _ _ _ _ _ _ _ _ _ _ _ _ _ _ _ _ _ _ _ _ _ _ _ _ _ _ _ _ _ _ _ _ _ _ _ _ _ _ _ _ _ _ _ _ _ _ _ _ _ _ _ _ _ _ _ _ _ _ _ _ _ _ _ _ _ _ _ _ _ _ _ _ _ _ _ _ _ _ _ _ _ _ _ _ _ _ _ _ _ _ _ _ _ _ _ _ _ _ _ _ _ _ _ _ _ _ _ _ _ _ _ _ _ _ _ _ _ _ _ _ _ _ _ _ _ _ _ _ _ _ _ _ _ ?_
      intro z11 z47 z48 z49 z50 z51 z52 z53 z54 z55 z56 z57 z58 z59 z60 z61 z62
      have HE : Aside0 (gfold (ci / 2 ^ 25) (ci % 2 ^ 25 * 32 ^^^ hiN x) 5 = pms c ((L.map hiN).take (i + 1))) := ⟨HST1.out⟩
      rw [HE.out]
      have hw1 : (i : Int) + 1 ≤ 1000 := by have := HNN.out; have := HB5.out; omega
      go_wp2_with fail
      go_roundg (gk - 1)
      case measure => exact HGT.out
      case rel => exact ⟨i + 1, by rfl, by rw [Int.natCast_add]; rfl, HB5, rfl⟩
    · obtain rfl : i = nl := by have := HKI.out; omega
      rw [HALL.out]
      have hi1 : ¬ (i : Int) < (i : Int) := by omega
      clear hi
      go_wp2_with fail
      exact hQ _ _ _ _ _ _ _ _ _ _ _ _ _ _ _ _ _ _ _ _ _ _ _ _ _ _ _ _ _ _ _ _ _ _ _ _ _ _
set_option maxRecDepth 100000 in
set_option maxHeartbeats 16000000 in
theorem ol6 (c : Nat) (hc : c < 2 ^ 30) (L : List Int) (hL : ByteL L) (s : ByteArray) (hs : s = strOfNums L) (hn : L.length ≤ 1000) (w : World) (G : Addr) (cap : Nat) (HG : GenH w G cap)  (Q : Exit → Act → World → Prop) (hP : ∀ c a n v w, Q (.panic c) (Act.put a n v) w → Q (.panic c) a w) (cd : Code) (hcd : Tryd.f24.body.bind (findB 6) = some cd) (y1 y2 y3 y4 y5 y6 y8 y9 y10 y11 y12 y13 y15 y16 y17 y18 y19 y20 y21 y22 y23 y24 y25 y26 y27 y28 y29 y30 y31 y32 y33 y34 y35 y36 y37 y38 y39 y40 y41 y42 y43 y44 y45 y46 y47 y48 y49 y50 y51 y52 y53 y54 y55 y56 y57 y58 y59 y60 y61 y62 y63 y64 y65 y66 y67 y68 y69 y70 y71 y72 y73 y74 y75 y76 y77 y78 y79 y80 y81 y82 y83 y84 y85 y86 y87 y88 y89 y90 y91 y92 y93 y94 y95 y96 y97 y98 y99 y100 y101 y102 y103 y104 y105 y106 y107 y108 y109 y110 y111 y112 y113 y114 y115 y116 y117 y118 y119 y120 y121 y122 y123 y124 y125 y126 y127 y128 y129 y130 y131 y132 y133 y134 y135 y136 y137 y138 y139 y140 y141 y142 y143 y144 y145 y146 y147 y148 y149 y150 y151 y152 y153 y154 y155 y156 y157 y158 y159 y160 y161 y162 y163 y164 y165 y166 y167 y168 y169 y170 y171 y172 y173 y174 y175 y176 y177 y178 y179 y180 y181 y182 y183 y184 y185 y186 y187 y188 y189 y190 y191 y192 y193 y194 y195 y196 y197 y198 y199 y200 y201 y202 y203 y204 y205 y206 y207 : Value)
    (hQ : ∀ (x14 x15 x16 x17 x84 x85 x86 x87 x88 x89 x90 x91 x92 x93 x94 x95 x96 x97 x98 x99 x100 x101 x102 x103 x104 x105 x106 x107 x108 x109 x110 x111 x112 x113 x114 x115 x116 x117 : Value), Q .normal { tmps := #[.string s, y1, y2, y3, y4, y5, y6, .int .i64 (pms c (L.map loN) : Nat), y8, y9, y10, y11, y12, y13, x14, x15, x16, x17, y18, y19, y20, y21, y22, y23, y24, y25, y26, y27, y28, y29, y30, y31, y32, y33, y34, y35, y36, y37, y38, y39, y40, y41, y42, y43, y44, y45, y46, y47, y48, y49, y50, y51, y52, y53, y54, y55, y56, y57, y58, y59, y60, y61, y62, y63, y64, y65, y66, y67, y68, y69, y70, y71, y72, y73, y74, y75, y76, y77, y78, y79, y80, y81, y82, y83, x84, x85, x86, x87, x88, x89, x90, x91, x92, x93, x94, x95, x96, x97, x98, x99, x100, x101, x102, x103, x104, x105, x106, x107, x108, x109, x110, x111, x112, x113, x114, x115, x116, x117, y118, y119, y120, y121, y122, y123, y124, y125, y126, y127, y128, y129, y130, y131, y132, y133, y134, y135, y136, y137, y138, y139, y140, y141, y142, y143, y144, y145, y146, y147, y148, y149, y150, y151, y152, y153, y154, y155, y156, y157, y158, y159, y160, y161, y162, y163, y164, y165, y166, y167, y168, y169, y170, y171, y172, y173, y174, y175, y176, y177, y178, y179, y180, y181, y182, y183, y184, y185, y186, y187, y188, y189, y190, y191, y192, y193, y194, y195, y196, y197, y198, y199, y200, y201, y202, y203, y204, y205, y206, y207], defers := [] } w) :
    Code.wp Tryd.prog cd Q { tmps := #[.string s, y1, y2, y3, y4, y5, y6, .int .i64 (c : Nat), y8, y9, y10, y11, y12, y13, .int .i64 0, y15, y16, y17, y18, y19, y20, y21, y22, y23, y24, y25, y26, y27, y28, y29, y30, y31, y32, y33, y34, y35, y36, y37, y38, y39, y40, y41, y42, y43, y44, y45, y46, y47, y48, y49, y50, y51, y52, y53, y54, y55, y56, y57, y58, y59, y60, y61, y62, y63, y64, y65, y66, y67, y68, y69, y70, y71, y72, y73, y74, y75, y76, y77, y78, y79, y80, y81, y82, y83, y84, y85, y86, y87, y88, y89, y90, y91, y92, y93, y94, y95, y96, y97, y98, y99, y100, y101, y102, y103, y104, y105, y106, y107, y108, y109, y110, y111, y112, y113, y114, y115, y116, y117, y118, y119, y120, y121, y122, y123, y124, y125, y126, y127, y128, y129, y130, y131, y132, y133, y134, y135, y136, y137, y138, y139, y140, y141, y142, y143, y144, y145, y146, y147, y148, y149, y150, y151, y152, y153, y154, y155, y156, y157, y158, y159, y160, y161, y162, y163, y164, y165, y166, y167, y168, y169, y170, y171, y172, y173, y174, y175, y176, y177, y178, y179, y180, y181, y182, y183, y184, y185, y186, y187, y188, y189, y190, y191, y192, y193, y194, y195, y196, y197, y198, y199, y200, y201, y202, y203, y204, y205, y206, y207], defers := [] } w := by
  dsimp only [Tryd.f24, Option.bind, findB, Option.orElse, reduceIte, reduceCtorEq] at hcd
  obtain rfl := Option.some.inj hcd
  have hsz : s.size = L.length := by rw [hs]; exact strOfNums_size L
  obtain ⟨nl, hnl⟩ : ∃ n, L.length = n := ⟨_, rfl⟩
  have HLT : Aside0 (∀ i, pms c ((L.map loN).take i) < 2 ^ 30) := ⟨fun i => pms_lt hc _ fun v hv => by
    obtain ⟨x, hx, rfl⟩ := List.mem_map.1 (List.mem_of_mem_take hv)
    have := hL x hx
    unfold loN; omega⟩
  have HALL : Aside0 ((L.map loN).take nl = L.map loN) := ⟨by rw [← hnl]; exact List.take_of_length_le (by rw [List.length_map]; exact Nat.le_refl _)⟩
  have HST : Aside0 (∀ i, i < nl → pm (pms c ((L.map loN).take i)) (loN (L.getD i 0)) = pms c ((L.map loN).take (i + 1))) := ⟨fun i hi => by rw [← map_getN loN (by rfl) L i]; exact pms_take (by rw [List.length_map]; omega)⟩
  have HL := Aside0.mk hL
  have HS := Aside0.mk hs
  have HG2 := Aside0.mk HG
  have HN := Aside0.mk hnl
  rw [hnl] at hsz hn
  have HNN := Aside0.mk hn
  clear hc hL hs HG hnl hcd hn
  go_wp2_with fail
  go_loopg [7, 14] (nl + 1) (fun kq p7 pi w' => ∃ (i : Nat), p7 = .int .i64 (pms c ((L.map loN).take i) : Nat) ∧ pi = .int .i64 (i : Int) ∧ Aside0 (i ≤ nl ∧ nl + 1 ≤ i + kq) ∧ w' = w)
  case atStart => exact ⟨0, by rfl, by rfl, ⟨by omega⟩, rfl⟩
  case round =>
    obtain ⟨i, rfl, rfl, HKI, rfl⟩ := hrel
    have HLI := Aside0.mk (HLT.out i)
    obtain ⟨ci, hci⟩ : ∃ ci, pms c ((L.map loN).take i) = ci := ⟨_, rfl⟩
    by_cases hi : i < nl
    · have HST1 := Aside0.mk (HST.out i hi)
      have HLT1 := Aside0.mk (HLT.out (i + 1))
      rw [hci] at HST1 HLI ⊢
      have hb := HL.out.at i
      obtain ⟨x, hx⟩ : ∃ x, L.getD i 0 = x := ⟨_, rfl⟩
      have HX := Aside0.mk hx
      rw [hx] at hb HST1
      have HI := Aside0.mk hi
      have hi1 : (i : Int) < (nl : Int) := by omega
      have HB5 := Aside0.mk (show i + 1 ≤ nl ∧ nl + 1 ≤ i + 1 + (gk - 1) by have := HKI.out; omega)
      have HGT : Aside0 (gk - 1 < gk) := ⟨by have := HKI.out; omega⟩
      have HBX := Aside0.mk hb
      clear hb hi hx
      go_upto_block 8 with ((with_reducible refine at_dst (N := 94) rfl ?_); refine wpList_run rfl _ (index_op (.tmp 92) (.tmp 93) rfl HL.out i (i : Int) (by exact congrArg Value.string HS.out) rfl rfl (by rw [HN.out]; exact HI.out) x HX.out _) ?_)
      rw [mixE HLI.out (lo_lt HBX.out) (loV HBX.out), divE]
      refine in8 (ci % 2 ^ 25 * 32 ^^^ loN x) (ci / 2 ^ 25) (mix_lt ci (lo_lt HBX.out)) (div_lt HLI.out) wr G cap HG2.out _ (by exact fun _ _ _ _ _ h => hP _ _ _ _ _ h) _ (by rfl) _ _ _ _ _ _ _ _ _ _ _ _ _ _ _ _ _ _ _ _ _ _ _ _ _ _ _ _ _ _ _ _ _ _ _ _ _ _ _ _ _ _ _ _ _ _ _ _ _ _ _ _ _ _ _ _ _ _ _ _ _ _ _ _ _ _ _ _ _ _ _ _ _ _ _ _ _ _ _ _ _ _ _ _ _ _ _ _ _ _ _ _ _ _ _ _ _ _ _ _ _ _ _ _ _ _ _ _ _ _ _ _ _ _ _ _ _ _ _ _ _ _ _ _ _ _ _ _ _ _ _ _ _ _ _ _ _ _ _ _ _ _ _ _ _ _ _ _ _ _ _ _ _ _ _ _ _ _ _ _ _ _ _ _ _ _ _ _ _ _ _ _ _ _ _ _ _ _ _ _ _ _ _ _ _ _ _ _ _ _ _ _ _ _ _ _ _ _ _ _ _ _ _ _ _ ?_
      intro z17 z102 z103 z104 z105 z106 z107 z108 z109 z110 z111 z112 z113 z114 z115 z116 z117
      have HE : Aside0 (gfold (ci / 2 ^ 25) (ci % 2 ^ 25 * 32 ^^^ loN x) 5 = pms c ((L.map loN).take (i + 1))) := ⟨HST1.out⟩
      rw [HE.out]
      have hw1 : (i : Int) + 1 ≤ 1000 := by have := HNN.out; have := HB5.out; omega
      go_wp2_with fail
      go_roundg (gk - 1)
      case measure => exact HGT.out
      case rel => exact ⟨i + 1, by rfl, by rw [Int.natCast_add]; rfl, HB5, rfl⟩
    · obtain rfl : i = nl := by have := HKI.out; omega
      rw [HALL.out]
      have hi1 : ¬ (i : Int) < (i : Int) := by omega
      clear hi
      go_wp2_with fail
      exact hQ _ _ _ _ _ _ _ _ _ _ _ _ _ _ _ _ _ _ _ _ _ _ _ _ _ _ _ _ _ _ _ _ _ _ _ _ _ _
set_option maxRecDepth 100000 in
set_option maxHeartbeats 16000000 in
theorem ol10 (c : Nat) (hc : c < 2 ^ 30) (A : Option Addr) (cp nl : Nat) (L : List Int) (hL : ByteL L) (hnl : L.length = nl) (hn : nl ≤ 1000) (w : World) (G : Addr) (cap : Nat) (HG : GenH w G cap) (HR : ReadsInt w .u8 A nl L) (Q : Exit → Act → World → Prop) (hP : ∀ c a n v w, Q (.panic c) (Act.put a n v) w → Q (.panic c) a w) (cd : Code) (hcd : Tryd.f24.body.bind (findB 10) = some cd) (y0 y1 y2 y3 y4 y5 y6 y8 y9 y10 y11 y12 y13 y14 y15 y16 y17 y18 y19 y20 y21 y22 y23 y24 y25 y26 y27 y28 y29 y30 y31 y32 y33 y34 y35 y36 y37 y38 y39 y40 y41 y42 y43 y44 y45 y46 y47 y48 y49 y50 y51 y52 y53 y54 y55 y56 y57 y58 y59 y60 y61 y62 y63 y64 y65 y66 y67 y68 y69 y70 y71 y72 y73 y74 y75 y76 y77 y78 y79 y80 y81 y82 y83 y84 y85 y86 y87 y88 y89 y90 y91 y92 y93 y94 y95 y96 y97 y98 y99 y100 y101 y102 y103 y104 y105 y106 y107 y108 y109 y110 y111 y112 y113 y114 y115 y116 y117 y121 y122 y123 y124 y125 y126 y127 y128 y129 y130 y131 y132 y133 y134 y135 y136 y137 y138 y139 y140 y141 y142 y143 y144 y145 y146 y147 y148 y149 y150 y151 y152 y153 y154 y155 y156 y157 y158 y159 y160 y161 y162 y163 y164 y165 y166 y167 y168 y169 y170 y171 y172 y173 y174 y175 y176 y177 y178 y179 y180 y181 y182 y183 y184 y185 y186 y187 y188 y189 y190 y191 y192 y193 y194 y195 y196 y197 y198 y199 y200 y201 y202 y203 y204 y205 y206 y207 : Value)
    (hQ : ∀ (x19 x20 x21 x120 x121 x122 x123 x124 x125 x126 x127 x128 x129 x130 x131 x132 x133 x134 x135 x136 x137 x138 x139 x140 x141 x142 x143 x144 x145 x146 x147 x148 : Value), Q .normal { tmps := #[y0, y1, y2, y3, y4, y5, y6, .int .i64 (pms c (L.map Int.toNat) : Nat), y8, y9, y10, y11, y12, y13, y14, y15, y16, y17, y18, x19, x20, x21, y22, y23, y24, y25, y26, y27, y28, y29, y30, y31, y32, y33, y34, y35, y36, y37, y38, y39, y40, y41, y42, y43, y44, y45, y46, y47, y48, y49, y50, y51, y52, y53, y54, y55, y56, y57, y58, y59, y60, y61, y62, y63, y64, y65, y66, y67, y68, y69, y70, y71, y72, y73, y74, y75, y76, y77, y78, y79, y80, y81, y82, y83, y84, y85, y86, y87, y88, y89, y90, y91, y92, y93, y94, y95, y96, y97, y98, y99, y100, y101, y102, y103, y104, y105, y106, y107, y108, y109, y110, y111, y112, y113, y114, y115, y116, y117, .slice A nl cp, .int .i64 (nl : Int), x120, x121, x122, x123, x124, x125, x126, x127, x128, x129, x130, x131, x132, x133, x134, x135, x136, x137, x138, x139, x140, x141, x142, x143, x144, x145, x146, x147, x148, y149, y150, y151, y152, y153, y154, y155, y156, y157, y158, y159, y160, y161, y162, y163, y164, y165, y166, y167, y168, y169, y170, y171, y172, y173, y174, y175, y176, y177, y178, y179, y180, y181, y182, y183, y184, y185, y186, y187, y188, y189, y190, y191, y192, y193, y194, y195, y196, y197, y198, y199, y200, y201, y202, y203, y204, y205, y206, y207], defers := [] } w) :
    Code.wp Tryd.prog cd Q { tmps := #[y0, y1, y2, y3, y4, y5, y6, .int .i64 (c : Nat), y8, y9, y10, y11, y12, y13, y14, y15, y16, y17, y18, y19, y20, y21, y22, y23, y24, y25, y26, y27, y28, y29, y30, y31, y32, y33, y34, y35, y36, y37, y38, y39, y40, y41, y42, y43, y44, y45, y46, y47, y48, y49, y50, y51, y52, y53, y54, y55, y56, y57, y58, y59, y60, y61, y62, y63, y64, y65, y66, y67, y68, y69, y70, y71, y72, y73, y74, y75, y76, y77, y78, y79, y80, y81, y82, y83, y84, y85, y86, y87, y88, y89, y90, y91, y92, y93, y94, y95, y96, y97, y98, y99, y100, y101, y102, y103, y104, y105, y106, y107, y108, y109, y110, y111, y112, y113, y114, y115, y116, y117, .slice A nl cp, .int .i64 (nl : Int), .int .i64 0, y121, y122, y123, y124, y125, y126, y127, y128, y129, y130, y131, y132, y133, y134, y135, y136, y137, y138, y139, y140, y141, y142, y143, y144, y145, y146, y147, y148, y149, y150, y151, y152, y153, y154, y155, y156, y157, y158, y159, y160, y161, y162, y163, y164, y165, y166, y167, y168, y169, y170, y171, y172, y173, y174, y175, y176, y177, y178, y179, y180, y181, y182, y183, y184, y185, y186, y187, y188, y189, y190, y191, y192, y193, y194, y195, y196, y197, y198, y199, y200, y201, y202, y203, y204, y205, y206, y207], defers := [] } w := by
  dsimp only [Tryd.f24, Option.bind, findB, Option.orElse, reduceIte, reduceCtorEq] at hcd
  obtain rfl := Option.some.inj hcd
  have HLT : Aside0 (∀ i, pms c ((L.map Int.toNat).take i) < 2 ^ 30) := ⟨fun i => pms_lt hc _ fun v hv => by
    obtain ⟨x, hx, rfl⟩ := List.mem_map.1 (List.mem_of_mem_take hv)
    have := hL x hx
    omega⟩
  have HALL : Aside0 ((L.map Int.toNat).take nl = L.map Int.toNat) := ⟨by rw [← hnl]; exact List.take_of_length_le (by rw [List.length_map]; exact Nat.le_refl _)⟩
  have HST : Aside0 (∀ i, i < nl → pm (pms c ((L.map Int.toNat).take i)) (Int.toNat (L.getD i 0)) = pms c ((L.map Int.toNat).take (i + 1))) := ⟨fun i hi => by rw [← map_getN Int.toNat (by rfl) L i]; exact pms_take (by rw [List.length_map]; omega)⟩
  have HL := Aside0.mk hL
  have HG2 := Aside0.mk HG
  have HN := Aside0.mk hnl
  have HNN := Aside0.mk hn
  have HRR := Aside0.mk HR
  clear hc hL HG hnl hcd hn HR
  go_wp2_with fail
  go_loopg [7, 120] (nl + 1) (fun kq p7 pi w' => ∃ (i : Nat), p7 = .int .i64 (pms c ((L.map Int.toNat).take i) : Nat) ∧ pi = .int .i64 (i : Int) ∧ Aside0 (i ≤ nl ∧ nl + 1 ≤ i + kq) ∧ w' = w)
  case atStart => exact ⟨0, by rfl, by rfl, ⟨by omega⟩, rfl⟩
  case round =>
    obtain ⟨i, rfl, rfl, HKI, rfl⟩ := hrel
    have HLI := Aside0.mk (HLT.out i)
    obtain ⟨ci, hci⟩ : ∃ ci, pms c ((L.map Int.toNat).take i) = ci := ⟨_, rfl⟩
    by_cases hi : i < nl
    · have HST1 := Aside0.mk (HST.out i hi)
      have HLT1 := Aside0.mk (HLT.out (i + 1))
      rw [hci] at HST1 HLI ⊢
      have hb := HL.out.at i
      obtain ⟨x, hx⟩ : ∃ x, L.getD i 0 = x := ⟨_, rfl⟩
      obtain ⟨ad, rfl, hcc⟩ := HRR.out.2.2 (by omega)
      have hcell := hcc i hi
      rw [hx] at hb HST1 hcell
      have HCELL := Aside0.mk hcell
      have hi1 : (i : Int) < (nl : Int) := by omega
      have HB5 := Aside0.mk (show i + 1 ≤ nl ∧ nl + 1 ≤ i + 1 + (gk - 1) by have := HKI.out; omega)
      have HGT : Aside0 (gk - 1 < gk) := ⟨by have := HKI.out; omega⟩
      have HBX := Aside0.mk hb
      clear hb hx hcc
      go_upto_block 12 with fail
      rw [mixE HLI.out (by_lt HBX.out) (byV HBX.out), divE]
      refine in12 (ci % 2 ^ 25 * 32 ^^^ Int.toNat x) (ci / 2 ^ 25) (mix_lt ci (by_lt HBX.out)) (div_lt HLI.out) wr G cap HG2.out _ (by exact fun _ _ _ _ _ h => hP _ _ _ _ _ h) _ (by rfl) _ _ _ _ _ _ _ _ _ _ _ _ _ _ _ _ _ _ _ _ _ _ _ _ _ _ _ _ _ _ _ _ _ _ _ _ _ _ _ _ _ _ _ _ _ _ _ _ _ _ _ _ _ _ _ _ _ _ _ _ _ _ _ _ _ _ _ _ _ _ _ _ _ _ _ _ _ _ _ _ _ _ _ _ _ _ _ _ _ _ _ _ _ _ _ _ _ _ _ _ _ _ _ _ _ _ _ _ _ _ _ _ _ _ _ _ _ _ _ _ _ _ _ _ _ _ _ _ _ _ _ _ _ _ _ _ _ _ _ _ _ _ _ _ _ _ _ _ _ _ _ _ _ _ _ _ _ _ _ _ _ _ _ _ _ _ _ _ _ _ _ _ _ _ _ _ _ _ _ _ _ _ _ _ _ _ _ _ _ _ _ _ _ _ _ _ _ _ _ _ _ _ _ _ _ ?_
      intro z21 z132 z133 z134 z135 z136 z137 z138 z139 z140 z141 z142 z143 z144 z145 z146 z147
      have HE : Aside0 (gfold (ci / 2 ^ 25) (ci % 2 ^ 25 * 32 ^^^ Int.toNat x) 5 = pms c ((L.map Int.toNat).take (i + 1))) := ⟨HST1.out⟩
      rw [HE.out]
      have hw1 : (i : Int) + 1 ≤ 1000 := by have := HNN.out; have := HB5.out; omega
      go_wp2_with fail
      go_roundg (gk - 1)
      case measure => exact HGT.out
      case rel => exact ⟨i + 1, by rfl, by rw [Int.natCast_add]; rfl, HB5, rfl⟩
    · obtain rfl : i = nl := by have := HKI.out; omega
      rw [HALL.out]
      have hi1 : ¬ (i : Int) < (i : Int) := by omega
      clear hi
      go_wp2_with fail
      exact hQ _ _ _ _ _ _ _ _ _ _ _ _ _ _ _ _ _ _ _ _ _ _ _ _ _ _ _ _ _ _ _ _
set_option maxRecDepth 100000 in
set_option maxHeartbeats 16000000 in
theorem ol18 (c : Nat) (hc : c < 2 ^ 30) (A : Option Addr) (cp nl : Nat) (L : List Int) (hL : ByteL L) (hnl : L.length = nl) (hn : nl ≤ 1000) (w : World) (G : Addr) (cap : Nat) (HG : GenH w G cap) (HR : ReadsInt w .u8 A nl L) (Q : Exit → Act → World → Prop) (hP : ∀ c a n v w, Q (.panic c) (Act.put a n v) w → Q (.panic c) a w) (cd : Code) (hcd : Tryd.f24.body.bind (findB 18) = some cd) (y0 y1 y2 y3 y4 y5 y6 y8 y9 y10 y11 y12 y13 y14 y15 y16 y17 y18 y19 y20 y21 y22 y23 y24 y25 y26 y27 y28 y29 y30 y31 y32 y33 y34 y35 y36 y37 y38 y39 y40 y41 y42 y43 y44 y45 y46 y47 y48 y49 y50 y51 y52 y53 y54 y55 y56 y57 y58 y59 y60 y61 y62 y63 y64 y65 y66 y67 y68 y69 y70 y71 y72 y73 y74 y75 y76 y77 y78 y79 y80 y81 y82 y83 y84 y85 y86 y87 y88 y89 y90 y91 y92 y93 y94 y95 y96 y97 y98 y99 y100 y101 y102 y103 y104 y105 y106 y107 y108 y109 y110 y111 y112 y113 y114 y115 y116 y117 y118 y119 y120 y121 y122 y123 y124 y125 y126 y127 y128 y129 y130 y131 y132 y133 y134 y135 y136 y137 y138 y139 y140 y141 y142 y143 y144 y145 y146 y147 y148 y149 y150 y151 y152 y153 y154 y155 y156 y157 y158 y159 y160 y161 y162 y163 y164 y165 y166 y167 y168 y169 y170 y171 y172 y173 y174 y175 y179 y180 y181 y182 y183 y184 y185 y186 y187 y188 y189 y190 y191 y192 y193 y194 y195 y196 y197 y198 y199 y200 y201 y202 y203 y204 y205 y206 y207 : Value)
    (hQ : ∀ (x26 x27 x28 x178 x179 x180 x181 x182 x183 x184 x185 x186 x187 x188 x189 x190 x191 x192 x193 x194 x195 x196 x197 x198 x199 x200 x201 x202 x203 x204 x205 x206 : Value), Q .normal { tmps := #[y0, y1, y2, y3, y4, y5, y6, .int .i64 (pms c (L.map Int.toNat) : Nat), y8, y9, y10, y11, y12, y13, y14, y15, y16, y17, y18, y19, y20, y21, y22, y23, y24, y25, x26, x27, x28, y29, y30, y31, y32, y33, y34, y35, y36, y37, y38, y39, y40, y41, y42, y43, y44, y45, y46, y47, y48, y49, y50, y51, y52, y53, y54, y55, y56, y57, y58, y59, y60, y61, y62, y63, y64, y65, y66, y67, y68, y69, y70, y71, y72, y73, y74, y75, y76, y77, y78, y79, y80, y81, y82, y83, y84, y85, y86, y87, y88, y89, y90, y91, y92, y93, y94, y95, y96, y97, y98, y99, y100, y101, y102, y103, y104, y105, y106, y107, y108, y109, y110, y111, y112, y113, y114, y115, y116, y117, y118, y119, y120, y121, y122, y123, y124, y125, y126, y127, y128, y129, y130, y131, y132, y133, y134, y135, y136, y137, y138, y139, y140, y141, y142, y143, y144, y145, y146, y147, y148, y149, y150, y151, y152, y153, y154, y155, y156, y157, y158, y159, y160, y161, y162, y163, y164, y165, y166, y167, y168, y169, y170, y171, y172, y173, y174, y175, .slice A nl cp, .int .i64 (nl : Int), x178, x179, x180, x181, x182, x183, x184, x185, x186, x187, x188, x189, x190, x191, x192, x193, x194, x195, x196, x197, x198, x199, x200, x201, x202, x203, x204, x205, x206, y207], defers := [] } w) :
    Code.wp Tryd.prog cd Q { tmps := #[y0, y1, y2, y3, y4, y5, y6, .int .i64 (c : Nat), y8, y9, y10, y11, y12, y13, y14, y15, y16, y17, y18, y19, y20, y21, y22, y23, y24, y25, y26, y27, y28, y29, y30, y31, y32, y33, y34, y35, y36, y37, y38, y39, y40, y41, y42, y43, y44, y45, y46, y47, y48, y49, y50, y51, y52, y53, y54, y55, y56, y57, y58, y59, y60, y61, y62, y63, y64, y65, y66, y67, y68, y69, y70, y71, y72, y73, y74, y75, y76, y77, y78, y79, y80, y81, y82, y83, y84, y85, y86, y87, y88, y89, y90, y91, y92, y93, y94, y95, y96, y97, y98, y99, y100, y101, y102, y103, y104, y105, y106, y107, y108, y109, y110, y111, y112, y113, y114, y115, y116, y117, y118, y119, y120, y121, y122, y123, y124, y125, y126, y127, y128, y129, y130, y131, y132, y133, y134, y135, y136, y137, y138, y139, y140, y141, y142, y143, y144, y145, y146, y147, y148, y149, y150, y151, y152, y153, y154, y155, y156, y157, y158, y159, y160, y161, y162, y163, y164, y165, y166, y167, y168, y169, y170, y171, y172, y173, y174, y175, .slice A nl cp, .int .i64 (nl : Int), .int .i64 0, y179, y180, y181, y182, y183, y184, y185, y186, y187, y188, y189, y190, y191, y192, y193, y194, y195, y196, y197, y198, y199, y200, y201, y202, y203, y204, y205, y206, y207], defers := [] } w := by
  dsimp only [Tryd.f24, Option.bind, findB, Option.orElse, reduceIte, reduceCtorEq] at hcd
  obtain rfl := Option.some.inj hcd
  have HLT : Aside0 (∀ i, pms c ((L.map Int.toNat).take i) < 2 ^ 30) := ⟨fun i => pms_lt hc _ fun v hv => by
    obtain ⟨x, hx, rfl⟩ := List.mem_map.1 (List.mem_of_mem_take hv)
    have := hL x hx
    omega⟩
  have HALL : Aside0 ((L.map Int.toNat).take nl = L.map Int.toNat) := ⟨by rw [← hnl]; exact List.take_of_length_le (by rw [List.length_map]; exact Nat.le_refl _)⟩
  have HST : Aside0 (∀ i, i < nl → pm (pms c ((L.map Int.toNat).take i)) (Int.toNat (L.getD i 0)) = pms c ((L.map Int.toNat).take (i + 1))) := ⟨fun i hi => by rw [← map_getN Int.toNat (by rfl) L i]; exact pms_take (by rw [List.length_map]; omega)⟩
  have HL := Aside0.mk hL
  have HG2 := Aside0.mk HG
  have HN := Aside0.mk hnl
  have HNN := Aside0.mk hn
  have HRR := Aside0.mk HR
  clear hc hL HG hnl hcd hn HR
  go_wp2_with fail
  go_loopg [7, 178] (nl + 1) (fun kq p7 pi w' => ∃ (i : Nat), p7 = .int .i64 (pms c ((L.map Int.toNat).take i) : Nat) ∧ pi = .int .i64 (i : Int) ∧ Aside0 (i ≤ nl ∧ nl + 1 ≤ i + kq) ∧ w' = w)
  case atStart => exact ⟨0, by rfl, by rfl, ⟨by omega⟩, rfl⟩
  case round =>
    obtain ⟨i, rfl, rfl, HKI, rfl⟩ := hrel
    have HLI := Aside0.mk (HLT.out i)
    obtain ⟨ci, hci⟩ : ∃ ci, pms c ((L.map Int.toNat).take i) = ci := ⟨_, rfl⟩
    by_cases hi : i < nl
    · have HST1 := Aside0.mk (HST.out i hi)
      have HLT1 := Aside0.mk (HLT.out (i + 1))
      rw [hci] at HST1 HLI ⊢
      have hb := HL.out.at i
      obtain ⟨x, hx⟩ : ∃ x, L.getD i 0 = x := ⟨_, rfl⟩
      obtain ⟨ad, rfl, hcc⟩ := HRR.out.2.2 (by omega)
      have hcell := hcc i hi
      rw [hx] at hb HST1 hcell
      have HCELL := Aside0.mk hcell
      have hi1 : (i : Int) < (nl : Int) := by omega
      have HB5 := Aside0.mk (show i + 1 ≤ nl ∧ nl + 1 ≤ i + 1 + (gk - 1) by have := HKI.out; omega)
      have HGT : Aside0 (gk - 1 < gk) := ⟨by have := HKI.out; omega⟩
      have HBX := Aside0.mk hb
      clear hb hx hcc
      go_upto_block 20 with fail
      rw [mixE HLI.out (by_lt HBX.out) (byV HBX.out), divE]
      refine in20 (ci % 2 ^ 25 * 32 ^^^ Int.toNat x) (ci / 2 ^ 25) (mix_lt ci (by_lt HBX.out)) (div_lt HLI.out) wr G cap HG2.out _ (by exact fun _ _ _ _ _ h => hP _ _ _ _ _ h) _ (by rfl) _ _ _ _ _ _ _ _ _ _ _ _ _ _ _ _ _ _ _ _ _ _ _ _ _ _ _ _ _ _ _ _ _ _ _ _ _ _ _ _ _ _ _ _ _ _ _ _ _ _ _ _ _ _ _ _ _ _ _ _ _ _ _ _ _ _ _ _ _ _ _ _ _ _ _ _ _ _ _ _ _ _ _ _ _ _ _ _ _ _ _ _ _ _ _ _ _ _ _ _ _ _ _ _ _ _ _ _ _ _ _ _ _ _ _ _ _ _ _ _ _ _ _ _ _ _ _ _ _ _ _ _ _ _ _ _ _ _ _ _ _ _ _ _ _ _ _ _ _ _ _ _ _ _ _ _ _ _ _ _ _ _ _ _ _ _ _ _ _ _ _ _ _ _ _ _ _ _ _ _ _ _ _ _ _ _ _ _ _ _ _ _ _ _ _ _ _ _ _ _ _ _ _ _ _ ?_
      intro z28 z190 z191 z192 z193 z194 z195 z196 z197 z198 z199 z200 z201 z202 z203 z204 z205
      have HE : Aside0 (gfold (ci / 2 ^ 25) (ci % 2 ^ 25 * 32 ^^^ Int.toNat x) 5 = pms c ((L.map Int.toNat).take (i + 1))) := ⟨HST1.out⟩
      rw [HE.out]
      have hw1 : (i : Int) + 1 ≤ 1000 := by have := HNN.out; have := HB5.out; omega
      go_wp2_with fail
      go_roundg (gk - 1)
      case measure => exact HGT.out
      case rel => exact ⟨i + 1, by rfl, by rw [Int.natCast_add]; rfl, HB5, rfl⟩
    · obtain rfl : i = nl := by have := HKI.out; omega
      rw [HALL.out]
      have hi1 : ¬ (i : Int) < (i : Int) := by omega
      clear hi
      go_wp2_with fail
      exact hQ _ _ _ _ _ _ _ _ _ _ _ _ _ _ _ _ _ _ _ _ _ _ _ _ _ _ _ _ _ _ _ _
set_option maxRecDepth 100000 in
set_option maxHeartbeats 16000000 in
theorem ol14 (c : Nat) (hc : c < 2 ^ 30)  (w : World) (G : Addr) (cap : Nat) (HG : GenH w G cap)  (Q : Exit → Act → World → Prop) (hP : ∀ c a n v w, Q (.panic c) (Act.put a n v) w → Q (.panic c) a w) (cd : Code) (hcd : Tryd.f24.body.bind (findB 14) = some cd) (y0 y1 y2 y3 y4 y5 y6 y8 y9 y10 y11 y12 y13 y14 y15 y16 y17 y18 y19 y20 y21 y23 y24 y25 y26 y27 y28 y29 y30 y31 y32 y33 y34 y35 y36 y37 y38 y39 y40 y41 y42 y43 y44 y45 y46 y47 y48 y49 y50 y51 y52 y53 y54 y55 y56 y57 y58 y59 y60 y61 y62 y63 y64 y65 y66 y67 y68 y69 y70 y71 y72 y73 y74 y75 y76 y77 y78 y79 y80 y81 y82 y83 y84 y85 y86 y87 y88 y89 y90 y91 y92 y93 y94 y95 y96 y97 y98 y99 y100 y101 y102 y103 y104 y105 y106 y107 y108 y109 y110 y111 y112 y113 y114 y115 y116 y117 y118 y119 y120 y121 y122 y123 y124 y125 y126 y127 y128 y129 y130 y131 y132 y133 y134 y135 y136 y137 y138 y139 y140 y141 y142 y143 y144 y145 y146 y147 y148 y149 y150 y151 y152 y153 y154 y155 y156 y157 y158 y159 y160 y161 y162 y163 y164 y165 y166 y167 y168 y169 y170 y171 y172 y173 y174 y175 y176 y177 y178 y179 y180 y181 y182 y183 y184 y185 y186 y187 y188 y189 y190 y191 y192 y193 y194 y195 y196 y197 y198 y199 y200 y201 y202 y203 y204 y205 y206 y207 : Value)
    (hQ : ∀ (x22 x23 x24 x151 x152 x153 x154 x155 x156 x157 x158 x159 x160 x161 x162 x163 x164 x165 x166 x167 x168 x169 x170 x171 x172 x173 x174 x175 : Value), Q .normal { tmps := #[y0, y1, y2, y3, y4, y5, y6, .int .i64 (pms c (List.replicate 6 0) : Nat), y8, y9, y10, y11, y12, y13, y14, y15, y16, y17, y18, y19, y20, y21, x22, x23, x24, y25, y26, y27, y28, y29, y30, y31, y32, y33, y34, y35, y36, y37, y38, y39, y40, y41, y42, y43, y44, y45, y46, y47, y48, y49, y50, y51, y52, y53, y54, y55, y56, y57, y58, y59, y60, y61, y62, y63, y64, y65, y66, y67, y68, y69, y70, y71, y72, y73, y74, y75, y76, y77, y78, y79, y80, y81, y82, y83, y84, y85, y86, y87, y88, y89, y90, y91, y92, y93, y94, y95, y96, y97, y98, y99, y100, y101, y102, y103, y104, y105, y106, y107, y108, y109, y110, y111, y112, y113, y114, y115, y116, y117, y118, y119, y120, y121, y122, y123, y124, y125, y126, y127, y128, y129, y130, y131, y132, y133, y134, y135, y136, y137, y138, y139, y140, y141, y142, y143, y144, y145, y146, y147, y148, y149, y150, x151, x152, x153, x154, x155, x156, x157, x158, x159, x160, x161, x162, x163, x164, x165, x166, x167, x168, x169, x170, x171, x172, x173, x174, x175, y176, y177, y178, y179, y180, y181, y182, y183, y184, y185, y186, y187, y188, y189, y190, y191, y192, y193, y194, y195, y196, y197, y198, y199, y200, y201, y202, y203, y204, y205, y206, y207], defers := [] } w) :
    Code.wp Tryd.prog cd Q { tmps := #[y0, y1, y2, y3, y4, y5, y6, .int .i64 (c : Nat), y8, y9, y10, y11, y12, y13, y14, y15, y16, y17, y18, y19, y20, y21, .int .i64 0, y23, y24, y25, y26, y27, y28, y29, y30, y31, y32, y33, y34, y35, y36, y37, y38, y39, y40, y41, y42, y43, y44, y45, y46, y47, y48, y49, y50, y51, y52, y53, y54, y55, y56, y57, y58, y59, y60, y61, y62, y63, y64, y65, y66, y67, y68, y69, y70, y71, y72, y73, y74, y75, y76, y77, y78, y79, y80, y81, y82, y83, y84, y85, y86, y87, y88, y89, y90, y91, y92, y93, y94, y95, y96, y97, y98, y99, y100, y101, y102, y103, y104, y105, y106, y107, y108, y109, y110, y111, y112, y113, y114, y115, y116, y117, y118, y119, y120, y121, y122, y123, y124, y125, y126, y127, y128, y129, y130, y131, y132, y133, y134, y135, y136, y137, y138, y139, y140, y141, y142, y143, y144, y145, y146, y147, y148, y149, y150, y151, y152, y153, y154, y155, y156, y157, y158, y159, y160, y161, y162, y163, y164, y165, y166, y167, y168, y169, y170, y171, y172, y173, y174, y175, y176, y177, y178, y179, y180, y181, y182, y183, y184, y185, y186, y187, y188, y189, y190, y191, y192, y193, y194, y195, y196, y197, y198, y199, y200, y201, y202, y203, y204, y205, y206, y207], defers := [] } w := by
  dsimp only [Tryd.f24, Option.bind, findB, Option.orElse, reduceIte, reduceCtorEq] at hcd
  obtain rfl := Option.some.inj hcd
  have HLT : Aside0 (∀ i, pms c ((List.replicate 6 0).take i) < 2 ^ 30) := ⟨fun i => pms_lt hc _ fun v hv => by
    rw [List.eq_of_mem_replicate (List.mem_of_mem_take hv)]; decide⟩
  have HST : Aside0 (∀ i, i < 6 → pm (pms c ((List.replicate 6 0).take i)) 0 = pms c ((List.replicate 6 0).take (i + 1))) := ⟨fun i hi => by
    have h := @pms_take c (List.replicate 6 0) i (by rw [List.length_replicate]; exact hi)
    rw [show (List.replicate 6 0).getD i 0 = 0 by rw [List.getD_eq_getElem?_getD, List.getElem?_replicate]; split <;> rfl] at h
    exact h⟩
  have HG2 := Aside0.mk HG
  clear hc HG hcd
  go_wp2_with fail
  go_loopg [7, 22] 7 (fun kq p7 pi w' => ∃ (i : Nat), p7 = .int .i64 (pms c ((List.replicate 6 0).take i) : Nat) ∧ pi = .int .i64 (i : Int) ∧ Aside0 (i ≤ 6 ∧ 7 ≤ i + kq) ∧ w' = w)
  case atStart => exact ⟨0, by rfl, by rfl, ⟨by omega⟩, rfl⟩
  case round =>
    obtain ⟨i, rfl, rfl, HKI, rfl⟩ := hrel
    have HLI := Aside0.mk (HLT.out i)
    obtain ⟨ci, hci⟩ : ∃ ci, pms c ((List.replicate 6 0).take i) = ci := ⟨_, rfl⟩
    by_cases hi : i < 6
    · have HST1 := Aside0.mk (HST.out i hi)
      have HLT1 := Aside0.mk (HLT.out (i + 1))
      rw [hci] at HST1 HLI ⊢
      have hi1 : (i : Int) < 6 := by omega
      have HB5 := Aside0.mk (show i + 1 ≤ 6 ∧ 7 ≤ i + 1 + (gk - 1) by have := HKI.out; omega)
      have HGT : Aside0 (gk - 1 < gk) := ⟨by have := HKI.out; omega⟩
      clear hi
      go_upto_block 16 with fail
      rw [mix0 HLI.out, divE]
      refine in16 (ci % 2 ^ 25 * 32 ^^^ 0) (ci / 2 ^ 25) (mix_lt ci (by decide)) (div_lt HLI.out) wr G cap HG2.out _ (by exact fun _ _ _ _ _ h => hP _ _ _ _ _ h) _ (by rfl) _ _ _ _ _ _ _ _ _ _ _ _ _ _ _ _ _ _ _ _ _ _ _ _ _ _ _ _ _ _ _ _ _ _ _ _ _ _ _ _ _ _ _ _ _ _ _ _ _ _ _ _ _ _ _ _ _ _ _ _ _ _ _ _ _ _ _ _ _ _ _ _ _ _ _ _ _ _ _ _ _ _ _ _ _ _ _ _ _ _ _ _ _ _ _ _ _ _ _ _ _ _ _ _ _ _ _ _ _ _ _ _ _ _ _ _ _ _ _ _ _ _ _ _ _ _ _ _ _ _ _ _ _ _ _ _ _ _ _ _ _ _ _ _ _ _ _ _ _ _ _ _ _ _ _ _ _ _ _ _ _ _ _ _ _ _ _ _ _ _ _ _ _ _ _ _ _ _ _ _ _ _ _ _ _ _ _ _ _ _ _ _ _ _ _ _ _ _ _ _ _ _ _ _ _ ?_
      intro z24 z160 z161 z162 z163 z164 z165 z166 z167 z168 z169 z170 z171 z172 z173 z174 z175
      have HE : Aside0 (gfold (ci / 2 ^ 25) (ci % 2 ^ 25 * 32 ^^^ 0) 5 = pms c ((List.replicate 6 0).take (i + 1))) := ⟨HST1.out⟩
      rw [HE.out]
      go_wp2_with fail
      go_roundg (gk - 1)
      case measure => exact HGT.out
      case rel => exact ⟨i + 1, by rfl, by rw [Int.natCast_add]; rfl, HB5, rfl⟩
    · obtain rfl : i = 6 := by have := HKI.out; omega
      clear hi
      go_wp2_with fail
      exact hQ _ _ _ _ _ _ _ _ _ _ _ _ _ _ _ _ _ _ _ _ _ _ _ _ _ _ _ _
end Go.Proofs.YtbbeedclkfcmeaaDoor.Snk
