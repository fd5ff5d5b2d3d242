/- The hash: the rounds of a block. -/
import Derived.Deep.DeepCutAuto
import Derived.Laws.CopyOwn
import Derived.Test.YtigpdgfhngknhaaDoorH1
namespace Go.Proofs.YtigpdgfhngknhaaDoor.Sha
open Go.RowKit Go.Proofs.YtigpdgfhngknhaaDoorW.PrintWords Go.Proofs.YtigpdgfhngknhaaDoorW.PrintLast Go.Proofs.YtigpdgfhngknhaaDoorW.PrintMore Go.Proofs.YtigpdgfhngknhaaDoor.QFnTapRoot
set_option linter.unusedVariables false
set_option linter.unusedSimpArgs false
set_option maxRecDepth 100000 in
set_option maxHeartbeats 16000000 in
theorem innerL (gp : Value) (A1 : Option Addr) (m c1 : Nat) (q kl : List Int) (s0 s1 s2 s3 s4 s5 s6 s7 : Int) (w W : World) (Q : Exit → Act → World → Prop) (hP : ∀ c a n v w, Q (.panic c) (Act.put a n v) w → Q (.panic c) a w) (cd : Code) (hcd : Tryd.f64.body.bind (findB 2) = some cd) (y2 y3 y5 y6 y7 y8 y9 y10 y11 y12 y21 y22 y23 y24 y25 y26 y27 y28 y29 y30 y31 y32 y33 y34 y35 y36 y37 y38 y39 y40 y41 y42 y43 y44 y45 y46 y47 y48 y49 y50 y51 y52 y53 y54 y55 y56 y57 y58 y59 y60 y61 y62 y63 y64 y65 y66 y67 y68 y69 y70 y71 y72 y73 y74 y75 y76 y77 y78 y79 y81 y82 y83 y84 y85 y86 y87 y88 y89 y90 y91 y92 y93 y94 y95 y96 y97 y98 y99 y100 y101 y102 y103 y104 y105 y106 y107 y108 y109 y110 y111 y112 y113 y114 y115 y116 y117 y118 y119 y120 y121 y122 y123 y124 y125 y126 y127 y128 y129 y130 y131 y132 y133 y134 y135 y136 y137 y138 y139 y140 y141 y142 y143 y144 y145 y146 y147 y148 y149 y150 y151 y152 y153 y154 y155 y156 y157 y158 y159 y160 y161 y162 y163 y164 y165 y166 y167 y168 y169 y170 y171 y172 y173 y174 y175 y176 y177 y178 y179 y180 y181 y182 y183 y184 y185 y186 y187 y188 y189 y190 y191 y192 y193 y194 y195 y196 y197 y198 y199 y200 y201 y202 y203 y204 y205 y206 y207 y208 y209 y210 y211 y212 y213 y214 y215 y216 y217 y218 y219 y220 y221 y222 y223 y224 y225 y226 y227 y228 y229 y230 y231 y232 y233 y234 y235 y236 y237 y238 y239 y240 y241 y242 y243 y244 y245 y246 y247 y248 y249 y250 y251 y252 y253 y254 y255 y256 y257 y258 y259 y260 y261 y262 y263 y264 y265 y266 y267 y268 y269 y270 y271 y272 y273 y274 y275 y276 y277 y278 y279 y280 y281 y282 : Value)
    (HK : Aside0 (KRow w kl)) (HQ : Aside0 (ReadsInt w .u8 A1 m q)) (HM64 : Aside0 (64 ≤ m)) (HB : Aside0 (Below w.heap.size w W)) (HW : Aside0 (∃ l, l.length = 64 ∧ W.heap[w.heap.size]? = some (.cells (wordC l).toArray 158 (0, 0))))
    (hQ : ∀ (x21 x22 x23 x24 x25 x26 x27 x28 x80 x81 x82 x83 x84 x85 x86 x87 x88 x89 x90 x91 x92 x93 x94 x95 x96 x97 x98 x99 x100 x101 x102 x103 x104 x105 x106 x107 x108 x109 x110 x111 x112 x113 x114 x115 x116 x117 x118 x119 x120 x121 x122 x123 x124 x125 x126 x127 x128 x129 x130 x131 x132 x133 x134 x135 x136 x137 x138 x139 x140 x141 x142 x143 x144 x145 x146 x147 x148 x149 x150 x151 x152 x153 x154 x155 x156 x157 x158 x159 x160 x161 x162 x163 x164 x165 x166 x167 x168 x169 x170 x171 x172 x173 x174 x175 x176 x177 x178 x179 x180 x181 x182 x183 x184 x185 x186 x187 x188 x189 x190 x191 x192 x193 x194 x195 x196 x197 x198 x199 x200 x201 x202 x203 x204 x205 x206 x207 x208 x209 x210 x211 x212 x213 x214 x215 x216 : Value) (t : H8) (wx : World), Aside0 (t = rounds kl q 64 ⟨s0, s1, s2, s3, s4, s5, s6, s7⟩) → Aside0 (Below w.heap.size w wx) → Aside0 (∃ l, l.length = 64 ∧ wx.heap[w.heap.size]? = some (.cells (wordC l).toArray 158 (0, 0))) → Q .normal { tmps := #[gp, .slice A1 m c1, y2, y3, .pointer (some ⟨w.heap.size, 0, none⟩), y5, y6, y7, y8, y9, y10, y11, y12, .int .u32 t.a, .int .u32 t.b, .int .u32 t.c, .int .u32 t.d, .int .u32 t.e, .int .u32 t.f, .int .u32 t.g, .int .u32 t.h, x21, x22, x23, x24, x25, x26, x27, x28, y29, y30, y31, y32, y33, y34, y35, y36, y37, y38, y39, y40, y41, y42, y43, y44, y45, y46, y47, y48, y49, y50, y51, y52, y53, y54, y55, y56, y57, y58, y59, y60, y61, y62, y63, y64, y65, y66, y67, y68, y69, y70, y71, y72, y73, y74, y75, y76, y77, y78, y79, x80, x81, x82, x83, x84, x85, x86, x87, x88, x89, x90, x91, x92, x93, x94, x95, x96, x97, x98, x99, x100, x101, x102, x103, x104, x105, x106, x107, x108, x109, x110, x111, x112, x113, x114, x115, x116, x117, x118, x119, x120, x121, x122, x123, x124, x125, x126, x127, x128, x129, x130, x131, x132, x133, x134, x135, x136, x137, x138, x139, x140, x141, x142, x143, x144, x145, x146, x147, x148, x149, x150, x151, x152, x153, x154, x155, x156, x157, x158, x159, x160, x161, x162, x163, x164, x165, x166, x167, x168, x169, x170, x171, x172, x173, x174, x175, x176, x177, x178, x179, x180, x181, x182, x183, x184, x185, x186, x187, x188, x189, x190, x191, x192, x193, x194, x195, x196, x197, x198, x199, x200, x201, x202, x203, x204, x205, x206, x207, x208, x209, x210, x211, x212, x213, x214, x215, x216, y217, y218, y219, y220, y221, y222, y223, y224, y225, y226, y227, y228, y229, y230, y231, y232, y233, y234, y235, y236, y237, y238, y239, y240, y241, y242, y243, y244, y245, y246, y247, y248, y249, y250, y251, y252, y253, y254, y255, y256, y257, y258, y259, y260, y261, y262, y263, y264, y265, y266, y267, y268, y269, y270, y271, y272, y273, y274, y275, y276, y277, y278, y279, y280, y281, y282], defers := [] } wx) :
    Code.wp Tryd.prog cd Q { tmps := #[gp, .slice A1 m c1, y2, y3, .pointer (some ⟨w.heap.size, 0, none⟩), y5, y6, y7, y8, y9, y10, y11, y12, .int .u32 s0, .int .u32 s1, .int .u32 s2, .int .u32 s3, .int .u32 s4, .int .u32 s5, .int .u32 s6, .int .u32 s7, y21, y22, y23, y24, y25, y26, y27, y28, y29, y30, y31, y32, y33, y34, y35, y36, y37, y38, y39, y40, y41, y42, y43, y44, y45, y46, y47, y48, y49, y50, y51, y52, y53, y54, y55, y56, y57, y58, y59, y60, y61, y62, y63, y64, y65, y66, y67, y68, y69, y70, y71, y72, y73, y74, y75, y76, y77, y78, y79, .int .i64 0, y81, y82, y83, y84, y85, y86, y87, y88, y89, y90, y91, y92, y93, y94, y95, y96, y97, y98, y99, y100, y101, y102, y103, y104, y105, y106, y107, y108, y109, y110, y111, y112, y113, y114, y115, y116, y117, y118, y119, y120, y121, y122, y123, y124, y125, y126, y127, y128, y129, y130, y131, y132, y133, y134, y135, y136, y137, y138, y139, y140, y141, y142, y143, y144, y145, y146, y147, y148, y149, y150, y151, y152, y153, y154, y155, y156, y157, y158, y159, y160, y161, y162, y163, y164, y165, y166, y167, y168, y169, y170, y171, y172, y173, y174, y175, y176, y177, y178, y179, y180, y181, y182, y183, y184, y185, y186, y187, y188, y189, y190, y191, y192, y193, y194, y195, y196, y197, y198, y199, y200, y201, y202, y203, y204, y205, y206, y207, y208, y209, y210, y211, y212, y213, y214, y215, y216, y217, y218, y219, y220, y221, y222, y223, y224, y225, y226, y227, y228, y229, y230, y231, y232, y233, y234, y235, y236, y237, y238, y239, y240, y241, y242, y243, y244, y245, y246, y247, y248, y249, y250, y251, y252, y253, y254, y255, y256, y257, y258, y259, y260, y261, y262, y263, y264, y265, y266, y267, y268, y269, y270, y271, y272, y273, y274, y275, y276, y277, y278, y279, y280, y281, y282], defers := [] } W := by
  dsimp only [Tryd.f64, Option.bind, findB, Option.orElse, reduceIte, reduceCtorEq] at hcd
  obtain rfl := Option.some.inj hcd
  go_wp2_with fail
  go_loopg [13, 14, 15, 16, 17, 18, 19, 20, 80] 65 (fun kq p13 p14 p15 p16 p17 p18 p19 p20 p80 w' => ∃ (i : Nat) (t : H8), p80 = .int .i64 (i : Int) ∧ p13 = .int .u32 t.a ∧ p14 = .int .u32 t.b ∧ p15 = .int .u32 t.c ∧ p16 = .int .u32 t.d ∧ p17 = .int .u32 t.e ∧ p18 = .int .u32 t.f ∧ p19 = .int .u32 t.g ∧ p20 = .int .u32 t.h ∧
    Aside0 (i ≤ 64 ∧ 64 + 1 ≤ i + kq) ∧ Aside0 (t = rounds kl q i ⟨s0, s1, s2, s3, s4, s5, s6, s7⟩) ∧ Aside0 (Below w.heap.size w w') ∧ Aside0 (∃ r, r.length + i = 64 ∧ w'.heap[w.heap.size]? = some (.cells (wordC (wl q i ++ r)).toArray 158 (0, 0))))
  case atStart => exact ⟨0, ⟨s0, s1, s2, s3, s4, s5, s6, s7⟩, by rfl, by rfl, by rfl, by rfl, by rfl, by rfl, by rfl, by rfl, by rfl, ⟨by omega⟩, ⟨rfl⟩, HB, ⟨by obtain ⟨l, h1, h2⟩ := HW.out; exact ⟨l, h1, h2⟩⟩⟩
  case round =>
    clear HB HW
    obtain ⟨i, ⟨t0, t1, t2, t3, t4, t5, t6, t7⟩, rfl, rfl, rfl, rfl, rfl, rfl, rfl, rfl, rfl, HKI, HT, HB, HW⟩ := hrel
    by_cases hi : i < 64
    · have hi1 : (i : Int) < 64 := by omega
      have HII := Aside0.mk hi
      have HW1 : Aside0 (IntKind.i64.wrap ((i : Int) + 1) = ((i + 1 : Nat) : Int)) := ⟨by rw [i64_w]; unfold wrap64; omega⟩
      go_upto_if 84 with fail
      refine choiceL gp A1 m c1 i q w wr _ (by exact fun _ _ _ _ _ h => hP _ _ _ _ _ h) _ (by rfl) _ _ _ _ _ _ _ _ _ _ _ _ _ _ _ _ _ _ _ _ _ _ _ _ _ _ _ _ _ _ _ _ _ _ _ _ _ _ _ _ _ _ _ _ _ _ _ _ _ _ _ _ _ _ _ _ _ _ _ _ _ _ _ _ _ _ _ _ _ _ _ _ _ _ _ _ _ _ _ _ _ _ _ _ _ _ _ _ _ _ _ _ _ _ _ _ _ _ _ _ _ _ _ _ _ _ _ _ _ _ _ _ _ _ _ _ _ _ _ _ _ _ _ _ _ _ _ _ _ _ _ _ _ _ _ _ _ _ _ _ _ _ _ _ _ _ _ _ _ _ _ _ _ _ _ _ _ _ _ _ _ _ _ _ _ _ _ _ _ _ _ _ _ _ _ _ _ _ _ _ _ _ _ _ _ _ _ _ _ _ _ _ _ _ _ _ _ _ _ _ _ _ _ _ _ _ _ _ _ _ _ _ _ _ _ _ _ _ _ _ _ _ _ _ _ _ _ _ _ _ _ _ _ _ _ _ _ _ _ _ _ _ _ _ _ _ _ _ _ _ _ _ _ _ _ _ _ _ _ _ _ _ _ _ _ _ _ _ _ _ _ _ _ _ _ _ _ _ HQ HM64 hi HB HW ?_
      intro x22 x23 x24 x25 x26 x84 x85 x86 x87 x88 x89 x90 x91 x92 x93 x94 x95 x96 x97 x98 x99 x100 x101 x102 x103 x104 x105 x106 x107 x108 x109 x110 x111 x112 x113 x114 x115 x116 x117 x118 x119 x120 x121 x122 x123 x124 x125 x126 x127 x128 x129 x130 x131 x132 x133 x134 x135 x136 x137 x138 x139 x140 x141 x142 x143 x144 x145 x146 x147 x148 x149 x150 x151 x152 x153 x154 x155 x156 wx HB2 HW2
      clear HB HW
      obtain ⟨kv, hkv⟩ : ∃ v, kl.getD i 0 = v := ⟨_, rfl⟩
      obtain ⟨wv, hwv⟩ : ∃ v, wnext q (wl q i) i = v := ⟨_, rfl⟩
      have hx6 := (HK.out.below HB2.out) i HII.out
      have hxw : wx.cell? ⟨w.heap.size, i, none⟩ = some (.int .u32 wv) := by
        obtain ⟨r, h1, h2⟩ := HW2.out
        rw [wl_cell h2 i (by omega), wl_last, hwv]
      rw [hkv] at hx6
      have HKV := Aside0.mk hkv
      have HWV := Aside0.mk hwv
      clear hkv hwv
      go_upto_region 15 with fail
      refine sumL i t4 t5 t6 t7 kv wv w wx _ (by exact fun _ _ _ _ _ h => hP _ _ _ _ _ h) _ (by rfl) _ _ _ _ _ _ _ _ _ _ _ _ _ _ _ _ _ _ _ _ _ _ _ _ _ _ _ _ _ _ _ _ _ _ _ _ _ _ _ _ _ _ _ _ _ _ _ _ _ _ _ _ _ _ _ _ _ _ _ _ _ _ _ _ _ _ _ _ _ _ _ _ _ _ _ _ _ _ _ _ _ _ _ _ _ _ _ _ _ _ _ _ _ _ _ _ _ _ _ _ _ _ _ _ _ _ _ _ _ _ _ _ _ _ _ _ _ _ _ _ _ _ _ _ _ _ _ _ _ _ _ _ _ _ _ _ _ _ _ _ _ _ _ _ _ _ _ _ _ _ _ _ _ _ _ _ _ _ _ _ _ _ _ _ _ _ _ _ _ _ _ _ _ _ _ _ _ _ _ _ _ _ _ _ _ _ _ _ _ _ _ _ _ _ _ _ _ _ _ _ _ _ _ _ _ _ _ _ _ _ _ _ _ _ _ _ _ _ _ _ _ _ _ _ _ _ _ _ _ _ _ _ _ _ _ _ _ _ _ _ _ _ _ _ _ _ _ _ _ _ _ _ _ _ _ _ _ _ _ _ _ _ _ _ _ _ _ _ _ _ _ _ _ _ _ _ _ hi hx6 hxw ?_
      intro z157 z158 z159 z160 z161 z162 z163 z164 z165 z166 z167 z168 z169 z170 z171 z172 z173 z174 z175 z176 z177 z178 z179 z180 z181 z182 z183
      clear hx6 hxw
      go_wp2_with (go_at_call 113; first
        | ((with_reducible refine (rot2 _ _).mono ?_); rintro e w' ⟨rfl, rfl⟩)
        | ((with_reducible refine (rot13 _ _).mono ?_); rintro e w' ⟨rfl, rfl⟩)
        | ((with_reducible refine (rot22 _ _).mono ?_); rintro e w' ⟨rfl, rfl⟩))
      go_roundg (gk - 1)
      case measure => exact meas1 HKI.out HII.out
      case rel => exact ⟨i + 1, rnd kv wv ⟨t0, t1, t2, t3, t4, t5, t6, t7⟩, by first | rfl | (rw [← HW1.out]; rfl), by rfl, by rfl, by rfl, by rfl, by rfl, by rfl, by rfl, by rfl, ⟨meas2 HKI.out HII.out⟩, ⟨by rw [rounds, ← HT.out, HKV.out, HWV.out]⟩, ⟨below_drew HB2.out⟩, ⟨by obtain ⟨r, h1, h2⟩ := HW2.out; exact ⟨r, h1, h2⟩⟩⟩
    · have hi1 : ¬ (i : Int) < 64 := by omega
      have hi64 : i = 64 := by have := HKI.out; omega
      subst hi64
      go_wp2_with fail
      refine hQ _ _ _ _ _ _ _ _ _ _ _ _ _ _ _ _ _ _ _ _ _ _ _ _ _ _ _ _ _ _ _ _ _ _ _ _ _ _ _ _ _ _ _ _ _ _ _ _ _ _ _ _ _ _ _ _ _ _ _ _ _ _ _ _ _ _ _ _ _ _ _ _ _ _ _ _ _ _ _ _ _ _ _ _ _ _ _ _ _ _ _ _ _ _ _ _ _ _ _ _ _ _ _ _ _ _ _ _ _ _ _ _ _ _ _ _ _ _ _ _ _ _ _ _ _ _ _ _ _ _ _ _ _ _ _ _ _ _ _ _ _ _ _ _ _ ⟨t0, t1, t2, t3, t4, t5, t6, t7⟩ wr HT HB ⟨?_⟩
      obtain ⟨r, h1, h2⟩ := HW.out
      exact ⟨_, by rw [List.length_append, wl_len]; omega, h2⟩
end Go.Proofs.YtigpdgfhngknhaaDoor.Sha
/- The hash: the state's words are read; and laid back. -/
namespace Go.Proofs.YtigpdgfhngknhaaDoor.Sha
open Go.RowKit Go.Proofs.YtigpdgfhngknhaaDoorW.PrintWords Go.Proofs.YtigpdgfhngknhaaDoorW.PrintLast Go.Proofs.YtigpdgfhngknhaaDoorW.PrintMore Go.Proofs.YtigpdgfhngknhaaDoor.QFnTapRoot
set_option linter.unusedVariables false
set_option linter.unusedSimpArgs false
set_option maxRecDepth 100000 in
set_option maxHeartbeats 16000000 in
theorem firstL (g : Nat) (a0 a1 a2 a3 a4 a5 a6 a7 : Int) (wr : World) (Q : Exit → Act → World → Prop) (hP : ∀ c a n v w, Q (.panic c) (Act.put a n v) w → Q (.panic c) a w) (cd : Code) (hcd : Tryd.f64.body.bind (findR 1) = some cd) (y1 y2 y3 y4 y5 y6 y7 y8 y9 y10 y11 y12 y13 y14 y15 y16 y17 y18 y19 y20 y21 y22 y23 y24 y25 y26 y27 y28 y29 y30 y31 y32 y33 y34 y35 y36 y37 y38 y39 y40 y41 y42 y43 y44 y45 y46 y47 y48 y49 y50 y51 y52 y53 y54 y55 y56 y57 y58 y59 y60 y61 y62 y63 y64 y65 y66 y67 y68 y69 y70 y71 y72 y73 y74 y75 y76 y77 y78 y79 y80 y81 y82 y83 y84 y85 y86 y87 y88 y89 y90 y91 y92 y93 y94 y95 y96 y97 y98 y99 y100 y101 y102 y103 y104 y105 y106 y107 y108 y109 y110 y111 y112 y113 y114 y115 y116 y117 y118 y119 y120 y121 y122 y123 y124 y125 y126 y127 y128 y129 y130 y131 y132 y133 y134 y135 y136 y137 y138 y139 y140 y141 y142 y143 y144 y145 y146 y147 y148 y149 y150 y151 y152 y153 y154 y155 y156 y157 y158 y159 y160 y161 y162 y163 y164 y165 y166 y167 y168 y169 y170 y171 y172 y173 y174 y175 y176 y177 y178 y179 y180 y181 y182 y183 y184 y185 y186 y187 y188 y189 y190 y191 y192 y193 y194 y195 y196 y197 y198 y199 y200 y201 y202 y203 y204 y205 y206 y207 y208 y209 y210 y211 y212 y213 y214 y215 y216 y217 y218 y219 y220 y221 y222 y223 y224 y225 y226 y227 y228 y229 y230 y231 y232 y233 y234 y235 y236 y237 y238 y239 y240 y241 y242 y243 y244 y245 y246 y247 y248 y249 y250 y251 y252 y253 y254 y255 y256 y257 y258 y259 y260 y261 y262 y263 y264 y265 y266 y267 y268 y269 y270 y271 y272 y273 y274 y275 y276 y277 y278 y279 y280 y281 y282 : Value)
    (HS : Aside0 (wr.drew.cell? ⟨g, 0, none⟩ = some (.int .u32 a0) ∧ wr.drew.cell? ⟨g, 1, none⟩ = some (.int .u32 a1) ∧ wr.drew.cell? ⟨g, 2, none⟩ = some (.int .u32 a2) ∧ wr.drew.cell? ⟨g, 3, none⟩ = some (.int .u32 a3) ∧ wr.drew.cell? ⟨g, 4, none⟩ = some (.int .u32 a4) ∧ wr.drew.cell? ⟨g, 5, none⟩ = some (.int .u32 a5) ∧ wr.drew.cell? ⟨g, 6, none⟩ = some (.int .u32 a6) ∧ wr.drew.cell? ⟨g, 7, none⟩ = some (.int .u32 a7)))
    (hQ : ∀ (x29 x30 x31 x32 x33 x34 x35 x36 x37 x38 x39 x40 x41 x42 x43 x44 x45 x46 x47 x48 x49 x50 x51 x52 x53 x54 x55 x56 x57 x58 x59 x60 x61 x62 x63 x64 x65 x66 x67 x68 : Value), Q .normal { tmps := #[.pointer (some ⟨g, 0, none⟩), y1, y2, y3, y4, .int .u32 a0, .int .u32 a1, .int .u32 a2, .int .u32 a3, .int .u32 a4, .int .u32 a5, .int .u32 a6, .int .u32 a7, y13, y14, y15, y16, y17, y18, y19, y20, y21, y22, y23, y24, y25, y26, y27, y28, x29, x30, x31, x32, x33, x34, x35, x36, x37, x38, x39, x40, x41, x42, x43, x44, x45, x46, x47, x48, x49, x50, x51, x52, x53, x54, x55, x56, x57, x58, x59, x60, x61, x62, x63, x64, x65, x66, x67, x68, y69, y70, y71, y72, y73, y74, y75, y76, y77, y78, y79, y80, y81, y82, y83, y84, y85, y86, y87, y88, y89, y90, y91, y92, y93, y94, y95, y96, y97, y98, y99, y100, y101, y102, y103, y104, y105, y106, y107, y108, y109, y110, y111, y112, y113, y114, y115, y116, y117, y118, y119, y120, y121, y122, y123, y124, y125, y126, y127, y128, y129, y130, y131, y132, y133, y134, y135, y136, y137, y138, y139, y140, y141, y142, y143, y144, y145, y146, y147, y148, y149, y150, y151, y152, y153, y154, y155, y156, y157, y158, y159, y160, y161, y162, y163, y164, y165, y166, y167, y168, y169, y170, y171, y172, y173, y174, y175, y176, y177, y178, y179, y180, y181, y182, y183, y184, y185, y186, y187, y188, y189, y190, y191, y192, y193, y194, y195, y196, y197, y198, y199, y200, y201, y202, y203, y204, y205, y206, y207, y208, y209, y210, y211, y212, y213, y214, y215, y216, y217, y218, y219, y220, y221, y222, y223, y224, y225, y226, y227, y228, y229, y230, y231, y232, y233, y234, y235, y236, y237, y238, y239, y240, y241, y242, y243, y244, y245, y246, y247, y248, y249, y250, y251, y252, y253, y254, y255, y256, y257, y258, y259, y260, y261, y262, y263, y264, y265, y266, y267, y268, y269, y270, y271, y272, y273, y274, y275, y276, y277, y278, y279, y280, y281, y282], defers := [] } wr.drew) :
    Code.wp Tryd.prog cd Q { tmps := #[.pointer (some ⟨g, 0, none⟩), y1, y2, y3, y4, y5, y6, y7, y8, y9, y10, y11, y12, y13, y14, y15, y16, y17, y18, y19, y20, y21, y22, y23, y24, y25, y26, y27, y28, y29, y30, y31, y32, y33, y34, y35, y36, y37, y38, y39, y40, y41, y42, y43, y44, y45, y46, y47, y48, y49, y50, y51, y52, y53, y54, y55, y56, y57, y58, y59, y60, y61, y62, y63, y64, y65, y66, y67, y68, y69, y70, y71, y72, y73, y74, y75, y76, y77, y78, y79, y80, y81, y82, y83, y84, y85, y86, y87, y88, y89, y90, y91, y92, y93, y94, y95, y96, y97, y98, y99, y100, y101, y102, y103, y104, y105, y106, y107, y108, y109, y110, y111, y112, y113, y114, y115, y116, y117, y118, y119, y120, y121, y122, y123, y124, y125, y126, y127, y128, y129, y130, y131, y132, y133, y134, y135, y136, y137, y138, y139, y140, y141, y142, y143, y144, y145, y146, y147, y148, y149, y150, y151, y152, y153, y154, y155, y156, y157, y158, y159, y160, y161, y162, y163, y164, y165, y166, y167, y168, y169, y170, y171, y172, y173, y174, y175, y176, y177, y178, y179, y180, y181, y182, y183, y184, y185, y186, y187, y188, y189, y190, y191, y192, y193, y194, y195, y196, y197, y198, y199, y200, y201, y202, y203, y204, y205, y206, y207, y208, y209, y210, y211, y212, y213, y214, y215, y216, y217, y218, y219, y220, y221, y222, y223, y224, y225, y226, y227, y228, y229, y230, y231, y232, y233, y234, y235, y236, y237, y238, y239, y240, y241, y242, y243, y244, y245, y246, y247, y248, y249, y250, y251, y252, y253, y254, y255, y256, y257, y258, y259, y260, y261, y262, y263, y264, y265, y266, y267, y268, y269, y270, y271, y272, y273, y274, y275, y276, y277, y278, y279, y280, y281, y282], defers := [] } wr := by
  dsimp only [Tryd.f64, Option.bind, findR, Option.orElse, reduceIte, reduceCtorEq] at hcd
  obtain rfl := Option.some.inj hcd
  refine start_ (n := 48) (S := fun w' => w'.cell? ⟨g, 0, none⟩ = some (.int .u32 a0) ∧ w'.cell? ⟨g, 1, none⟩ = some (.int .u32 a1) ∧ w'.cell? ⟨g, 2, none⟩ = some (.int .u32 a2) ∧ w'.cell? ⟨g, 3, none⟩ = some (.int .u32 a3) ∧ w'.cell? ⟨g, 4, none⟩ = some (.int .u32 a4) ∧ w'.cell? ⟨g, 5, none⟩ = some (.int .u32 a5) ∧ w'.cell? ⟨g, 6, none⟩ = some (.int .u32 a6) ∧ w'.cell? ⟨g, 7, none⟩ = some (.int .u32 a7)) (ds := []) #[false, false, false, false, false, false, false, false, false, false, false, false, false, false, false, false, false, false, false, false, false, false, false, false, false, false, false, false, false, false, false, false, false, false, false, false, false, false, false, false, false, false, false, false, false, false, false, false] (by kernel_rfl) rfl rfl HS.out (fun hHeld => ?_)
  refine pure_ (i := 0) (N := some 29) (v := ?_) (a' := ?_) #[true, false, false, false, false, false, false, false, false, false, false, false, false, false, false, false, false, false, false, false, false, false, false, false, false, false, false, false, false, false, false, false, false, false, false, false, false, false, false, false, false, false, false, false, false, false, false, false] rfl rfl (by kernel_rfl) (fun _ _ _ h => hP _ _ _ _ _ h) (Or.inl ⟨by rfl, ?_⟩) ?_ ?_
  rotate_left
  · intro w'
    go_simp
    with_reducible rfl
  rotate_left
  · simp only [Act.put, List.setIfInBounds_toArray, List.set_cons_zero, List.set_cons_succ, i64_w, i32_w]
    rfl
  refine pure_ (i := 1) (N := some 30) (v := ?_) (a' := ?_) #[true, true, false, false, false, false, false, false, false, false, false, false, false, false, false, false, false, false, false, false, false, false, false, false, false, false, false, false, false, false, false, false, false, false, false, false, false, false, false, false, false, false, false, false, false, false, false, false] rfl rfl (by kernel_rfl) (fun _ _ _ h => hP _ _ _ _ _ h) (Or.inl ⟨by rfl, ?_⟩) ?_ ?_
  rotate_left
  · intro w'
    go_simp
    with_reducible rfl
  rotate_left
  · simp only [Act.put, List.setIfInBounds_toArray, List.set_cons_zero, List.set_cons_succ, i64_w, i32_w]
    rfl
  refine pure_ (i := 2) (N := some 31) (v := ?_) (a' := ?_) #[true, true, true, false, false, false, false, false, false, false, false, false, false, false, false, false, false, false, false, false, false, false, false, false, false, false, false, false, false, false, false, false, false, false, false, false, false, false, false, false, false, false, false, false, false, false, false, false] rfl rfl (by kernel_rfl) (fun _ _ _ h => hP _ _ _ _ _ h) (Or.inl ⟨by rfl, ?_⟩) ?_ ?_
  rotate_left
  · intro w'
    go_simp
    with_reducible rfl
  rotate_left
  · simp only [Act.put, List.setIfInBounds_toArray, List.set_cons_zero, List.set_cons_succ, i64_w, i32_w]
    rfl
  refine pure_ (i := 3) (N := some 32) (v := ?_) (a' := ?_) #[true, true, true, true, false, false, false, false, false, false, false, false, false, false, false, false, false, false, false, false, false, false, false, false, false, false, false, false, false, false, false, false, false, false, false, false, false, false, false, false, false, false, false, false, false, false, false, false] rfl rfl (by kernel_rfl) (fun _ _ _ h => hP _ _ _ _ _ h) (Or.inl ⟨by rfl, ?_⟩) ?_ ?_
  rotate_left
  · intro w'
    go_simp
    with_reducible rfl
  rotate_left
  · simp only [Act.put, List.setIfInBounds_toArray, List.set_cons_zero, List.set_cons_succ, i64_w, i32_w]
    rfl
  refine take_ (i := 4) (N := some 33) (v := ?_) (a' := ?_) #[true, true, true, true, true, false, false, false, false, false, false, false, false, false, false, false, false, false, false, false, false, false, false, false, false, false, false, false, false, false, false, false, false, false, false, false, false, false, false, false, false, false, false, false, false, false, false, false] rfl rfl (by kernel_rfl) (fun _ _ _ h => hP _ _ _ _ _ h) (Or.inl ⟨by rfl, ?_⟩) hHeld ?_ ?_
  rotate_left
  · rintro w' ⟨s0, s1, s2, s3, s4, s5, s6, s7⟩
    go_simp
    with_reducible rfl
  rotate_left
  · simp only [Act.put, List.setIfInBounds_toArray, List.set_cons_zero, List.set_cons_succ, i64_w, i32_w]
    rfl
  refine pure_ (i := 5) (N := some 34) (v := ?_) (a' := ?_) #[true, true, true, true, true, true, false, false, false, false, false, false, false, false, false, false, false, false, false, false, false, false, false, false, false, false, false, false, false, false, false, false, false, false, false, false, false, false, false, false, false, false, false, false, false, false, false, false] rfl rfl (by kernel_rfl) (fun _ _ _ h => hP _ _ _ _ _ h) (Or.inl ⟨by rfl, ?_⟩) ?_ ?_
  rotate_left
  · intro w'
    go_simp
    with_reducible rfl
  rotate_left
  · simp only [Act.put, List.setIfInBounds_toArray, List.set_cons_zero, List.set_cons_succ, i64_w, i32_w]
    rfl
  refine pure_ (i := 6) (N := some 35) (v := ?_) (a' := ?_) #[true, true, true, true, true, true, true, false, false, false, false, false, false, false, false, false, false, false, false, false, false, false, false, false, false, false, false, false, false, false, false, false, false, false, false, false, false, false, false, false, false, false, false, false, false, false, false, false] rfl rfl (by kernel_rfl) (fun _ _ _ h => hP _ _ _ _ _ h) (Or.inl ⟨by rfl, ?_⟩) ?_ ?_
  rotate_left
  · intro w'
    go_simp
    with_reducible rfl
  rotate_left
  · simp only [Act.put, List.setIfInBounds_toArray, List.set_cons_zero, List.set_cons_succ, i64_w, i32_w]
    rfl
  refine pure_ (i := 7) (N := some 36) (v := ?_) (a' := ?_) #[true, true, true, true, true, true, true, true, false, false, false, false, false, false, false, false, false, false, false, false, false, false, false, false, false, false, false, false, false, false, false, false, false, false, false, false, false, false, false, false, false, false, false, false, false, false, false, false] rfl rfl (by kernel_rfl) (fun _ _ _ h => hP _ _ _ _ _ h) (Or.inl ⟨by rfl, ?_⟩) ?_ ?_
  rotate_left
  · intro w'
    go_simp
    with_reducible rfl
  rotate_left
  · simp only [Act.put, List.setIfInBounds_toArray, List.set_cons_zero, List.set_cons_succ, i64_w, i32_w]
    rfl
  refine pure_ (i := 8) (N := some 37) (v := ?_) (a' := ?_) #[true, true, true, true, true, true, true, true, true, false, false, false, false, false, false, false, false, false, false, false, false, false, false, false, false, false, false, false, false, false, false, false, false, false, false, false, false, false, false, false, false, false, false, false, false, false, false, false] rfl rfl (by kernel_rfl) (fun _ _ _ h => hP _ _ _ _ _ h) (Or.inl ⟨by rfl, ?_⟩) ?_ ?_
  rotate_left
  · intro w'
    go_simp
    with_reducible rfl
  rotate_left
  · simp only [Act.put, List.setIfInBounds_toArray, List.set_cons_zero, List.set_cons_succ, i64_w, i32_w]
    rfl
  refine take_ (i := 9) (N := some 38) (v := ?_) (a' := ?_) #[true, true, true, true, true, true, true, true, true, true, false, false, false, false, false, false, false, false, false, false, false, false, false, false, false, false, false, false, false, false, false, false, false, false, false, false, false, false, false, false, false, false, false, false, false, false, false, false] rfl rfl (by kernel_rfl) (fun _ _ _ h => hP _ _ _ _ _ h) (Or.inl ⟨by rfl, ?_⟩) hHeld ?_ ?_
  rotate_left
  · rintro w' ⟨s0, s1, s2, s3, s4, s5, s6, s7⟩
    go_simp
    with_reducible rfl
  rotate_left
  · simp only [Act.put, List.setIfInBounds_toArray, List.set_cons_zero, List.set_cons_succ, i64_w, i32_w]
    rfl
  refine pure_ (i := 10) (N := some 39) (v := ?_) (a' := ?_) #[true, true, true, true, true, true, true, true, true, true, true, false, false, false, false, false, false, false, false, false, false, false, false, false, false, false, false, false, false, false, false, false, false, false, false, false, false, false, false, false, false, false, false, false, false, false, false, false] rfl rfl (by kernel_rfl) (fun _ _ _ h => hP _ _ _ _ _ h) (Or.inl ⟨by rfl, ?_⟩) ?_ ?_
  rotate_left
  · intro w'
    go_simp
    with_reducible rfl
  rotate_left
  · simp only [Act.put, List.setIfInBounds_toArray, List.set_cons_zero, List.set_cons_succ, i64_w, i32_w]
    rfl
  refine pure_ (i := 11) (N := some 40) (v := ?_) (a' := ?_) #[true, true, true, true, true, true, true, true, true, true, true, true, false, false, false, false, false, false, false, false, false, false, false, false, false, false, false, false, false, false, false, false, false, false, false, false, false, false, false, false, false, false, false, false, false, false, false, false] rfl rfl (by kernel_rfl) (fun _ _ _ h => hP _ _ _ _ _ h) (Or.inl ⟨by rfl, ?_⟩) ?_ ?_
  rotate_left
  · intro w'
    go_simp
    with_reducible rfl
  rotate_left
  · simp only [Act.put, List.setIfInBounds_toArray, List.set_cons_zero, List.set_cons_succ, i64_w, i32_w]
    rfl
  refine pure_ (i := 12) (N := some 41) (v := ?_) (a' := ?_) #[true, true, true, true, true, true, true, true, true, true, true, true, true, false, false, false, false, false, false, false, false, false, false, false, false, false, false, false, false, false, false, false, false, false, false, false, false, false, false, false, false, false, false, false, false, false, false, false] rfl rfl (by kernel_rfl) (fun _ _ _ h => hP _ _ _ _ _ h) (Or.inl ⟨by rfl, ?_⟩) ?_ ?_
  rotate_left
  · intro w'
    go_simp
    with_reducible rfl
  rotate_left
  · simp only [Act.put, List.setIfInBounds_toArray, List.set_cons_zero, List.set_cons_succ, i64_w, i32_w]
    rfl
  refine pure_ (i := 13) (N := some 42) (v := ?_) (a' := ?_) #[true, true, true, true, true, true, true, true, true, true, true, true, true, true, false, false, false, false, false, false, false, false, false, false, false, false, false, false, false, false, false, false, false, false, false, false, false, false, false, false, false, false, false, false, false, false, false, false] rfl rfl (by kernel_rfl) (fun _ _ _ h => hP _ _ _ _ _ h) (Or.inl ⟨by rfl, ?_⟩) ?_ ?_
  rotate_left
  · intro w'
    go_simp
    with_reducible rfl
  rotate_left
  · simp only [Act.put, List.setIfInBounds_toArray, List.set_cons_zero, List.set_cons_succ, i64_w, i32_w]
    rfl
  refine take_ (i := 14) (N := some 43) (v := ?_) (a' := ?_) #[true, true, true, true, true, true, true, true, true, true, true, true, true, true, true, false, false, false, false, false, false, false, false, false, false, false, false, false, false, false, false, false, false, false, false, false, false, false, false, false, false, false, false, false, false, false, false, false] rfl rfl (by kernel_rfl) (fun _ _ _ h => hP _ _ _ _ _ h) (Or.inl ⟨by rfl, ?_⟩) hHeld ?_ ?_
  rotate_left
  · rintro w' ⟨s0, s1, s2, s3, s4, s5, s6, s7⟩
    go_simp
    with_reducible rfl
  rotate_left
  · simp only [Act.put, List.setIfInBounds_toArray, List.set_cons_zero, List.set_cons_succ, i64_w, i32_w]
    rfl
  refine pure_ (i := 15) (N := some 44) (v := ?_) (a' := ?_) #[true, true, true, true, true, true, true, true, true, true, true, true, true, true, true, true, false, false, false, false, false, false, false, false, false, false, false, false, false, false, false, false, false, false, false, false, false, false, false, false, false, false, false, false, false, false, false, false] rfl rfl (by kernel_rfl) (fun _ _ _ h => hP _ _ _ _ _ h) (Or.inl ⟨by rfl, ?_⟩) ?_ ?_
  rotate_left
  · intro w'
    go_simp
    with_reducible rfl
  rotate_left
  · simp only [Act.put, List.setIfInBounds_toArray, List.set_cons_zero, List.set_cons_succ, i64_w, i32_w]
    rfl
  refine pure_ (i := 16) (N := some 45) (v := ?_) (a' := ?_) #[true, true, true, true, true, true, true, true, true, true, true, true, true, true, true, true, true, false, false, false, false, false, false, false, false, false, false, false, false, false, false, false, false, false, false, false, false, false, false, false, false, false, false, false, false, false, false, false] rfl rfl (by kernel_rfl) (fun _ _ _ h => hP _ _ _ _ _ h) (Or.inl ⟨by rfl, ?_⟩) ?_ ?_
  rotate_left
  · intro w'
    go_simp
    with_reducible rfl
  rotate_left
  · simp only [Act.put, List.setIfInBounds_toArray, List.set_cons_zero, List.set_cons_succ, i64_w, i32_w]
    rfl
  refine pure_ (i := 17) (N := some 46) (v := ?_) (a' := ?_) #[true, true, true, true, true, true, true, true, true, true, true, true, true, true, true, true, true, true, false, false, false, false, false, false, false, false, false, false, false, false, false, false, false, false, false, false, false, false, false, false, false, false, false, false, false, false, false, false] rfl rfl (by kernel_rfl) (fun _ _ _ h => hP _ _ _ _ _ h) (Or.inl ⟨by rfl, ?_⟩) ?_ ?_
  rotate_left
  · intro w'
    go_simp
    with_reducible rfl
  rotate_left
  · simp only [Act.put, List.setIfInBounds_toArray, List.set_cons_zero, List.set_cons_succ, i64_w, i32_w]
    rfl
  refine pure_ (i := 18) (N := some 47) (v := ?_) (a' := ?_) #[true, true, true, true, true, true, true, true, true, true, true, true, true, true, true, true, true, true, true, false, false, false, false, false, false, false, false, false, false, false, false, false, false, false, false, false, false, false, false, false, false, false, false, false, false, false, false, false] rfl rfl (by kernel_rfl) (fun _ _ _ h => hP _ _ _ _ _ h) (Or.inl ⟨by rfl, ?_⟩) ?_ ?_
  rotate_left
  · intro w'
    go_simp
    with_reducible rfl
  rotate_left
  · simp only [Act.put, List.setIfInBounds_toArray, List.set_cons_zero, List.set_cons_succ, i64_w, i32_w]
    rfl
  refine take_ (i := 19) (N := some 48) (v := ?_) (a' := ?_) #[true, true, true, true, true, true, true, true, true, true, true, true, true, true, true, true, true, true, true, true, false, false, false, false, false, false, false, false, false, false, false, false, false, false, false, false, false, false, false, false, false, false, false, false, false, false, false, false] rfl rfl (by kernel_rfl) (fun _ _ _ h => hP _ _ _ _ _ h) (Or.inl ⟨by rfl, ?_⟩) hHeld ?_ ?_
  rotate_left
  · rintro w' ⟨s0, s1, s2, s3, s4, s5, s6, s7⟩
    go_simp
    with_reducible rfl
  rotate_left
  · simp only [Act.put, List.setIfInBounds_toArray, List.set_cons_zero, List.set_cons_succ, i64_w, i32_w]
    rfl
  refine pure_ (i := 20) (N := some 49) (v := ?_) (a' := ?_) #[true, true, true, true, true, true, true, true, true, true, true, true, true, true, true, true, true, true, true, true, true, false, false, false, false, false, false, false, false, false, false, false, false, false, false, false, false, false, false, false, false, false, false, false, false, false, false, false] rfl rfl (by kernel_rfl) (fun _ _ _ h => hP _ _ _ _ _ h) (Or.inl ⟨by rfl, ?_⟩) ?_ ?_
  rotate_left
  · intro w'
    go_simp
    with_reducible rfl
  rotate_left
  · simp only [Act.put, List.setIfInBounds_toArray, List.set_cons_zero, List.set_cons_succ, i64_w, i32_w]
    rfl
  refine pure_ (i := 21) (N := some 50) (v := ?_) (a' := ?_) #[true, true, true, true, true, true, true, true, true, true, true, true, true, true, true, true, true, true, true, true, true, true, false, false, false, false, false, false, false, false, false, false, false, false, false, false, false, false, false, false, false, false, false, false, false, false, false, false] rfl rfl (by kernel_rfl) (fun _ _ _ h => hP _ _ _ _ _ h) (Or.inl ⟨by rfl, ?_⟩) ?_ ?_
  rotate_left
  · intro w'
    go_simp
    with_reducible rfl
  rotate_left
  · simp only [Act.put, List.setIfInBounds_toArray, List.set_cons_zero, List.set_cons_succ, i64_w, i32_w]
    rfl
  refine pure_ (i := 22) (N := some 51) (v := ?_) (a' := ?_) #[true, true, true, true, true, true, true, true, true, true, true, true, true, true, true, true, true, true, true, true, true, true, true, false, false, false, false, false, false, false, false, false, false, false, false, false, false, false, false, false, false, false, false, false, false, false, false, false] rfl rfl (by kernel_rfl) (fun _ _ _ h => hP _ _ _ _ _ h) (Or.inl ⟨by rfl, ?_⟩) ?_ ?_
  rotate_left
  · intro w'
    go_simp
    with_reducible rfl
  rotate_left
  · simp only [Act.put, List.setIfInBounds_toArray, List.set_cons_zero, List.set_cons_succ, i64_w, i32_w]
    rfl
  refine pure_ (i := 23) (N := some 52) (v := ?_) (a' := ?_) #[true, true, true, true, true, true, true, true, true, true, true, true, true, true, true, true, true, true, true, true, true, true, true, true, false, false, false, false, false, false, false, false, false, false, false, false, false, false, false, false, false, false, false, false, false, false, false, false] rfl rfl (by kernel_rfl) (fun _ _ _ h => hP _ _ _ _ _ h) (Or.inl ⟨by rfl, ?_⟩) ?_ ?_
  rotate_left
  · intro w'
    go_simp
    with_reducible rfl
  rotate_left
  · simp only [Act.put, List.setIfInBounds_toArray, List.set_cons_zero, List.set_cons_succ, i64_w, i32_w]
    rfl
  refine take_ (i := 24) (N := some 53) (v := ?_) (a' := ?_) #[true, true, true, true, true, true, true, true, true, true, true, true, true, true, true, true, true, true, true, true, true, true, true, true, true, false, false, false, false, false, false, false, false, false, false, false, false, false, false, false, false, false, false, false, false, false, false, false] rfl rfl (by kernel_rfl) (fun _ _ _ h => hP _ _ _ _ _ h) (Or.inl ⟨by rfl, ?_⟩) hHeld ?_ ?_
  rotate_left
  · rintro w' ⟨s0, s1, s2, s3, s4, s5, s6, s7⟩
    go_simp
    with_reducible rfl
  rotate_left
  · simp only [Act.put, List.setIfInBounds_toArray, List.set_cons_zero, List.set_cons_succ, i64_w, i32_w]
    rfl
  refine pure_ (i := 25) (N := some 54) (v := ?_) (a' := ?_) #[true, true, true, true, true, true, true, true, true, true, true, true, true, true, true, true, true, true, true, true, true, true, true, true, true, true, false, false, false, false, false, false, false, false, false, false, false, false, false, false, false, false, false, false, false, false, false, false] rfl rfl (by kernel_rfl) (fun _ _ _ h => hP _ _ _ _ _ h) (Or.inl ⟨by rfl, ?_⟩) ?_ ?_
  rotate_left
  · intro w'
    go_simp
    with_reducible rfl
  rotate_left
  · simp only [Act.put, List.setIfInBounds_toArray, List.set_cons_zero, List.set_cons_succ, i64_w, i32_w]
    rfl
  refine pure_ (i := 26) (N := some 55) (v := ?_) (a' := ?_) #[true, true, true, true, true, true, true, true, true, true, true, true, true, true, true, true, true, true, true, true, true, true, true, true, true, true, true, false, false, false, false, false, false, false, false, false, false, false, false, false, false, false, false, false, false, false, false, false] rfl rfl (by kernel_rfl) (fun _ _ _ h => hP _ _ _ _ _ h) (Or.inl ⟨by rfl, ?_⟩) ?_ ?_
  rotate_left
  · intro w'
    go_simp
    with_reducible rfl
  rotate_left
  · simp only [Act.put, List.setIfInBounds_toArray, List.set_cons_zero, List.set_cons_succ, i64_w, i32_w]
    rfl
  refine pure_ (i := 27) (N := some 56) (v := ?_) (a' := ?_) #[true, true, true, true, true, true, true, true, true, true, true, true, true, true, true, true, true, true, true, true, true, true, true, true, true, true, true, true, false, false, false, false, false, false, false, false, false, false, false, false, false, false, false, false, false, false, false, false] rfl rfl (by kernel_rfl) (fun _ _ _ h => hP _ _ _ _ _ h) (Or.inl ⟨by rfl, ?_⟩) ?_ ?_
  rotate_left
  · intro w'
    go_simp
    with_reducible rfl
  rotate_left
  · simp only [Act.put, List.setIfInBounds_toArray, List.set_cons_zero, List.set_cons_succ, i64_w, i32_w]
    rfl
  refine pure_ (i := 28) (N := some 57) (v := ?_) (a' := ?_) #[true, true, true, true, true, true, true, true, true, true, true, true, true, true, true, true, true, true, true, true, true, true, true, true, true, true, true, true, true, false, false, false, false, false, false, false, false, false, false, false, false, false, false, false, false, false, false, false] rfl rfl (by kernel_rfl) (fun _ _ _ h => hP _ _ _ _ _ h) (Or.inl ⟨by rfl, ?_⟩) ?_ ?_
  rotate_left
  · intro w'
    go_simp
    with_reducible rfl
  rotate_left
  · simp only [Act.put, List.setIfInBounds_toArray, List.set_cons_zero, List.set_cons_succ, i64_w, i32_w]
    rfl
  refine take_ (i := 29) (N := some 58) (v := ?_) (a' := ?_) #[true, true, true, true, true, true, true, true, true, true, true, true, true, true, true, true, true, true, true, true, true, true, true, true, true, true, true, true, true, true, false, false, false, false, false, false, false, false, false, false, false, false, false, false, false, false, false, false] rfl rfl (by kernel_rfl) (fun _ _ _ h => hP _ _ _ _ _ h) (Or.inl ⟨by rfl, ?_⟩) hHeld ?_ ?_
  rotate_left
  · rintro w' ⟨s0, s1, s2, s3, s4, s5, s6, s7⟩
    go_simp
    with_reducible rfl
  rotate_left
  · simp only [Act.put, List.setIfInBounds_toArray, List.set_cons_zero, List.set_cons_succ, i64_w, i32_w]
    rfl
  refine pure_ (i := 30) (N := some 59) (v := ?_) (a' := ?_) #[true, true, true, true, true, true, true, true, true, true, true, true, true, true, true, true, true, true, true, true, true, true, true, true, true, true, true, true, true, true, true, false, false, false, false, false, false, false, false, false, false, false, false, false, false, false, false, false] rfl rfl (by kernel_rfl) (fun _ _ _ h => hP _ _ _ _ _ h) (Or.inl ⟨by rfl, ?_⟩) ?_ ?_
  rotate_left
  · intro w'
    go_simp
    with_reducible rfl
  rotate_left
  · simp only [Act.put, List.setIfInBounds_toArray, List.set_cons_zero, List.set_cons_succ, i64_w, i32_w]
    rfl
  refine pure_ (i := 31) (N := some 60) (v := ?_) (a' := ?_) #[true, true, true, true, true, true, true, true, true, true, true, true, true, true, true, true, true, true, true, true, true, true, true, true, true, true, true, true, true, true, true, true, false, false, false, false, false, false, false, false, false, false, false, false, false, false, false, false] rfl rfl (by kernel_rfl) (fun _ _ _ h => hP _ _ _ _ _ h) (Or.inl ⟨by rfl, ?_⟩) ?_ ?_
  rotate_left
  · intro w'
    go_simp
    with_reducible rfl
  rotate_left
  · simp only [Act.put, List.setIfInBounds_toArray, List.set_cons_zero, List.set_cons_succ, i64_w, i32_w]
    rfl
  refine pure_ (i := 32) (N := some 61) (v := ?_) (a' := ?_) #[true, true, true, true, true, true, true, true, true, true, true, true, true, true, true, true, true, true, true, true, true, true, true, true, true, true, true, true, true, true, true, true, true, false, false, false, false, false, false, false, false, false, false, false, false, false, false, false] rfl rfl (by kernel_rfl) (fun _ _ _ h => hP _ _ _ _ _ h) (Or.inl ⟨by rfl, ?_⟩) ?_ ?_
  rotate_left
  · intro w'
    go_simp
    with_reducible rfl
  rotate_left
  · simp only [Act.put, List.setIfInBounds_toArray, List.set_cons_zero, List.set_cons_succ, i64_w, i32_w]
    rfl
  refine pure_ (i := 33) (N := some 62) (v := ?_) (a' := ?_) #[true, true, true, true, true, true, true, true, true, true, true, true, true, true, true, true, true, true, true, true, true, true, true, true, true, true, true, true, true, true, true, true, true, true, false, false, false, false, false, false, false, false, false, false, false, false, false, false] rfl rfl (by kernel_rfl) (fun _ _ _ h => hP _ _ _ _ _ h) (Or.inl ⟨by rfl, ?_⟩) ?_ ?_
  rotate_left
  · intro w'
    go_simp
    with_reducible rfl
  rotate_left
  · simp only [Act.put, List.setIfInBounds_toArray, List.set_cons_zero, List.set_cons_succ, i64_w, i32_w]
    rfl
  refine take_ (i := 34) (N := some 63) (v := ?_) (a' := ?_) #[true, true, true, true, true, true, true, true, true, true, true, true, true, true, true, true, true, true, true, true, true, true, true, true, true, true, true, true, true, true, true, true, true, true, true, false, false, false, false, false, false, false, false, false, false, false, false, false] rfl rfl (by kernel_rfl) (fun _ _ _ h => hP _ _ _ _ _ h) (Or.inl ⟨by rfl, ?_⟩) hHeld ?_ ?_
  rotate_left
  · rintro w' ⟨s0, s1, s2, s3, s4, s5, s6, s7⟩
    go_simp
    with_reducible rfl
  rotate_left
  · simp only [Act.put, List.setIfInBounds_toArray, List.set_cons_zero, List.set_cons_succ, i64_w, i32_w]
    rfl
  refine pure_ (i := 35) (N := some 64) (v := ?_) (a' := ?_) #[true, true, true, true, true, true, true, true, true, true, true, true, true, true, true, true, true, true, true, true, true, true, true, true, true, true, true, true, true, true, true, true, true, true, true, true, false, false, false, false, false, false, false, false, false, false, false, false] rfl rfl (by kernel_rfl) (fun _ _ _ h => hP _ _ _ _ _ h) (Or.inl ⟨by rfl, ?_⟩) ?_ ?_
  rotate_left
  · intro w'
    go_simp
    with_reducible rfl
  rotate_left
  · simp only [Act.put, List.setIfInBounds_toArray, List.set_cons_zero, List.set_cons_succ, i64_w, i32_w]
    rfl
  refine pure_ (i := 36) (N := some 65) (v := ?_) (a' := ?_) #[true, true, true, true, true, true, true, true, true, true, true, true, true, true, true, true, true, true, true, true, true, true, true, true, true, true, true, true, true, true, true, true, true, true, true, true, true, false, false, false, false, false, false, false, false, false, false, false] rfl rfl (by kernel_rfl) (fun _ _ _ h => hP _ _ _ _ _ h) (Or.inl ⟨by rfl, ?_⟩) ?_ ?_
  rotate_left
  · intro w'
    go_simp
    with_reducible rfl
  rotate_left
  · simp only [Act.put, List.setIfInBounds_toArray, List.set_cons_zero, List.set_cons_succ, i64_w, i32_w]
    rfl
  refine pure_ (i := 37) (N := some 66) (v := ?_) (a' := ?_) #[true, true, true, true, true, true, true, true, true, true, true, true, true, true, true, true, true, true, true, true, true, true, true, true, true, true, true, true, true, true, true, true, true, true, true, true, true, true, false, false, false, false, false, false, false, false, false, false] rfl rfl (by kernel_rfl) (fun _ _ _ h => hP _ _ _ _ _ h) (Or.inl ⟨by rfl, ?_⟩) ?_ ?_
  rotate_left
  · intro w'
    go_simp
    with_reducible rfl
  rotate_left
  · simp only [Act.put, List.setIfInBounds_toArray, List.set_cons_zero, List.set_cons_succ, i64_w, i32_w]
    rfl
  refine pure_ (i := 38) (N := some 67) (v := ?_) (a' := ?_) #[true, true, true, true, true, true, true, true, true, true, true, true, true, true, true, true, true, true, true, true, true, true, true, true, true, true, true, true, true, true, true, true, true, true, true, true, true, true, true, false, false, false, false, false, false, false, false, false] rfl rfl (by kernel_rfl) (fun _ _ _ h => hP _ _ _ _ _ h) (Or.inl ⟨by rfl, ?_⟩) ?_ ?_
  rotate_left
  · intro w'
    go_simp
    with_reducible rfl
  rotate_left
  · simp only [Act.put, List.setIfInBounds_toArray, List.set_cons_zero, List.set_cons_succ, i64_w, i32_w]
    rfl
  refine take_ (i := 39) (N := some 68) (v := ?_) (a' := ?_) #[true, true, true, true, true, true, true, true, true, true, true, true, true, true, true, true, true, true, true, true, true, true, true, true, true, true, true, true, true, true, true, true, true, true, true, true, true, true, true, true, false, false, false, false, false, false, false, false] rfl rfl (by kernel_rfl) (fun _ _ _ h => hP _ _ _ _ _ h) (Or.inl ⟨by rfl, ?_⟩) hHeld ?_ ?_
  rotate_left
  · rintro w' ⟨s0, s1, s2, s3, s4, s5, s6, s7⟩
    go_simp
    with_reducible rfl
  rotate_left
  · simp only [Act.put, List.setIfInBounds_toArray, List.set_cons_zero, List.set_cons_succ, i64_w, i32_w]
    rfl
  refine pure_ (i := 40) (N := some 5) (v := ?_) (a' := ?_) #[true, true, true, true, true, true, true, true, true, true, true, true, true, true, true, true, true, true, true, true, true, true, true, true, true, true, true, true, true, true, true, true, true, true, true, true, true, true, true, true, true, false, false, false, false, false, false, false] rfl rfl (by kernel_rfl) (fun _ _ _ h => hP _ _ _ _ _ h) (Or.inl ⟨by rfl, ?_⟩) ?_ ?_
  rotate_left
  · intro w'
    go_simp
    with_reducible rfl
  rotate_left
  · simp only [Act.put, List.setIfInBounds_toArray, List.set_cons_zero, List.set_cons_succ, i64_w, i32_w]
    rfl
  refine pure_ (i := 41) (N := some 6) (v := ?_) (a' := ?_) #[true, true, true, true, true, true, true, true, true, true, true, true, true, true, true, true, true, true, true, true, true, true, true, true, true, true, true, true, true, true, true, true, true, true, true, true, true, true, true, true, true, true, false, false, false, false, false, false] rfl rfl (by kernel_rfl) (fun _ _ _ h => hP _ _ _ _ _ h) (Or.inl ⟨by rfl, ?_⟩) ?_ ?_
  rotate_left
  · intro w'
    go_simp
    with_reducible rfl
  rotate_left
  · simp only [Act.put, List.setIfInBounds_toArray, List.set_cons_zero, List.set_cons_succ, i64_w, i32_w]
    rfl
  refine pure_ (i := 42) (N := some 7) (v := ?_) (a' := ?_) #[true, true, true, true, true, true, true, true, true, true, true, true, true, true, true, true, true, true, true, true, true, true, true, true, true, true, true, true, true, true, true, true, true, true, true, true, true, true, true, true, true, true, true, false, false, false, false, false] rfl rfl (by kernel_rfl) (fun _ _ _ h => hP _ _ _ _ _ h) (Or.inl ⟨by rfl, ?_⟩) ?_ ?_
  rotate_left
  · intro w'
    go_simp
    with_reducible rfl
  rotate_left
  · simp only [Act.put, List.setIfInBounds_toArray, List.set_cons_zero, List.set_cons_succ, i64_w, i32_w]
    rfl
  refine pure_ (i := 43) (N := some 8) (v := ?_) (a' := ?_) #[true, true, true, true, true, true, true, true, true, true, true, true, true, true, true, true, true, true, true, true, true, true, true, true, true, true, true, true, true, true, true, true, true, true, true, true, true, true, true, true, true, true, true, true, false, false, false, false] rfl rfl (by kernel_rfl) (fun _ _ _ h => hP _ _ _ _ _ h) (Or.inl ⟨by rfl, ?_⟩) ?_ ?_
  rotate_left
  · intro w'
    go_simp
    with_reducible rfl
  rotate_left
  · simp only [Act.put, List.setIfInBounds_toArray, List.set_cons_zero, List.set_cons_succ, i64_w, i32_w]
    rfl
  refine pure_ (i := 44) (N := some 9) (v := ?_) (a' := ?_) #[true, true, true, true, true, true, true, true, true, true, true, true, true, true, true, true, true, true, true, true, true, true, true, true, true, true, true, true, true, true, true, true, true, true, true, true, true, true, true, true, true, true, true, true, true, false, false, false] rfl rfl (by kernel_rfl) (fun _ _ _ h => hP _ _ _ _ _ h) (Or.inl ⟨by rfl, ?_⟩) ?_ ?_
  rotate_left
  · intro w'
    go_simp
    with_reducible rfl
  rotate_left
  · simp only [Act.put, List.setIfInBounds_toArray, List.set_cons_zero, List.set_cons_succ, i64_w, i32_w]
    rfl
  refine pure_ (i := 45) (N := some 10) (v := ?_) (a' := ?_) #[true, true, true, true, true, true, true, true, true, true, true, true, true, true, true, true, true, true, true, true, true, true, true, true, true, true, true, true, true, true, true, true, true, true, true, true, true, true, true, true, true, true, true, true, true, true, false, false] rfl rfl (by kernel_rfl) (fun _ _ _ h => hP _ _ _ _ _ h) (Or.inl ⟨by rfl, ?_⟩) ?_ ?_
  rotate_left
  · intro w'
    go_simp
    with_reducible rfl
  rotate_left
  · simp only [Act.put, List.setIfInBounds_toArray, List.set_cons_zero, List.set_cons_succ, i64_w, i32_w]
    rfl
  refine pure_ (i := 46) (N := some 11) (v := ?_) (a' := ?_) #[true, true, true, true, true, true, true, true, true, true, true, true, true, true, true, true, true, true, true, true, true, true, true, true, true, true, true, true, true, true, true, true, true, true, true, true, true, true, true, true, true, true, true, true, true, true, true, false] rfl rfl (by kernel_rfl) (fun _ _ _ h => hP _ _ _ _ _ h) (Or.inl ⟨by rfl, ?_⟩) ?_ ?_
  rotate_left
  · intro w'
    go_simp
    with_reducible rfl
  rotate_left
  · simp only [Act.put, List.setIfInBounds_toArray, List.set_cons_zero, List.set_cons_succ, i64_w, i32_w]
    rfl
  refine pure_ (i := 47) (N := some 12) (v := ?_) (a' := ?_) #[true, true, true, true, true, true, true, true, true, true, true, true, true, true, true, true, true, true, true, true, true, true, true, true, true, true, true, true, true, true, true, true, true, true, true, true, true, true, true, true, true, true, true, true, true, true, true, true] rfl rfl (by kernel_rfl) (fun _ _ _ h => hP _ _ _ _ _ h) (Or.inl ⟨by rfl, ?_⟩) ?_ ?_
  rotate_left
  · intro w'
    go_simp
    with_reducible rfl
  rotate_left
  · simp only [Act.put, List.setIfInBounds_toArray, List.set_cons_zero, List.set_cons_succ, i64_w, i32_w]
    rfl
  refine done_ (by kernel_rfl) ?_
  apply hQ
set_option maxRecDepth 100000 in
set_option maxHeartbeats 16000000 in
theorem lastL (g : Nat) (a0 a1 a2 a3 a4 a5 a6 a7 s0 s1 s2 s3 s4 s5 s6 s7 : Int) (rs : List Value) (wr : World) (Q : Exit → Act → World → Prop) (hP : ∀ c a n v w, Q (.panic c) (Act.put a n v) w → Q (.panic c) a w) (cd : Code) (hcd : Tryd.f64.body.bind (findR 35) = some cd) (y1 y2 y3 y4 y13 y14 y15 y16 y17 y18 y19 y20 y21 y22 y23 y24 y25 y26 y27 y28 y29 y30 y31 y32 y33 y34 y35 y36 y37 y38 y39 y40 y41 y42 y43 y44 y45 y46 y47 y48 y49 y50 y51 y52 y53 y54 y55 y56 y57 y58 y59 y60 y61 y62 y63 y64 y65 y66 y67 y68 y69 y70 y71 y72 y73 y74 y75 y76 y77 y78 y79 y80 y81 y82 y83 y84 y85 y86 y87 y88 y89 y90 y91 y92 y93 y94 y95 y96 y97 y98 y99 y100 y101 y102 y103 y104 y105 y106 y107 y108 y109 y110 y111 y112 y113 y114 y115 y116 y117 y118 y119 y120 y121 y122 y123 y124 y125 y126 y127 y128 y129 y130 y131 y132 y133 y134 y135 y136 y137 y138 y139 y140 y141 y142 y143 y144 y145 y146 y147 y148 y149 y150 y151 y152 y153 y154 y155 y156 y157 y158 y159 y160 y161 y162 y163 y164 y165 y166 y167 y168 y169 y170 y171 y172 y173 y174 y175 y176 y177 y178 y179 y180 y181 y182 y183 y184 y185 y186 y187 y188 y189 y190 y191 y192 y193 y194 y195 y196 y197 y198 y199 y200 y201 y202 y203 y204 y205 y206 y207 y208 y209 y210 y211 y212 y213 y214 y215 y216 y217 y218 y219 y220 y221 y222 y223 y224 y225 y226 y227 y228 y229 y230 y231 y232 y233 y234 y235 y236 y237 y238 y239 y240 y241 y242 y243 y244 y245 y246 y247 y248 y249 y250 y251 y252 y253 y254 y255 y256 y257 y258 y259 y260 y261 y262 y263 y264 y265 y266 y267 y268 y269 y270 y271 y272 y273 y274 y275 y276 y277 y278 y279 y280 y281 y282 : Value)
    (G0 : Aside0 (wr.heap[g]? = some (.cells (wordC [a0, a1, a2, a3, a4, a5, a6, a7] ++ rs).toArray 121 (0, 0))))
    (hQ : ∀ (x243 x244 x245 x246 x247 x248 x249 x250 x251 x252 x253 x254 x255 x256 x257 x258 x259 x260 x261 x262 x263 x264 x265 x266 x267 x268 x269 x270 x271 x272 x273 x274 x275 x276 x277 x278 x279 x280 x281 x282 : Value) (wx : World), Aside0 (wx.heap[g]? = some (.cells (wordC [s0, s1, s2, s3, s4, s5, s6, s7] ++ rs).toArray 121 (0, 0))) → Aside0 (Only g wr wx) → Q .normal { tmps := #[.pointer (some ⟨g, 0, none⟩), y1, y2, y3, y4, .int .u32 s0, .int .u32 s1, .int .u32 s2, .int .u32 s3, .int .u32 s4, .int .u32 s5, .int .u32 s6, .int .u32 s7, y13, y14, y15, y16, y17, y18, y19, y20, y21, y22, y23, y24, y25, y26, y27, y28, y29, y30, y31, y32, y33, y34, y35, y36, y37, y38, y39, y40, y41, y42, y43, y44, y45, y46, y47, y48, y49, y50, y51, y52, y53, y54, y55, y56, y57, y58, y59, y60, y61, y62, y63, y64, y65, y66, y67, y68, y69, y70, y71, y72, y73, y74, y75, y76, y77, y78, y79, y80, y81, y82, y83, y84, y85, y86, y87, y88, y89, y90, y91, y92, y93, y94, y95, y96, y97, y98, y99, y100, y101, y102, y103, y104, y105, y106, y107, y108, y109, y110, y111, y112, y113, y114, y115, y116, y117, y118, y119, y120, y121, y122, y123, y124, y125, y126, y127, y128, y129, y130, y131, y132, y133, y134, y135, y136, y137, y138, y139, y140, y141, y142, y143, y144, y145, y146, y147, y148, y149, y150, y151, y152, y153, y154, y155, y156, y157, y158, y159, y160, y161, y162, y163, y164, y165, y166, y167, y168, y169, y170, y171, y172, y173, y174, y175, y176, y177, y178, y179, y180, y181, y182, y183, y184, y185, y186, y187, y188, y189, y190, y191, y192, y193, y194, y195, y196, y197, y198, y199, y200, y201, y202, y203, y204, y205, y206, y207, y208, y209, y210, y211, y212, y213, y214, y215, y216, y217, y218, y219, y220, y221, y222, y223, y224, y225, y226, y227, y228, y229, y230, y231, y232, y233, y234, y235, y236, y237, y238, y239, y240, y241, y242, x243, x244, x245, x246, x247, x248, x249, x250, x251, x252, x253, x254, x255, x256, x257, x258, x259, x260, x261, x262, x263, x264, x265, x266, x267, x268, x269, x270, x271, x272, x273, x274, x275, x276, x277, x278, x279, x280, x281, x282], defers := [] } wx) :
    Code.wp Tryd.prog cd Q { tmps := #[.pointer (some ⟨g, 0, none⟩), y1, y2, y3, y4, .int .u32 s0, .int .u32 s1, .int .u32 s2, .int .u32 s3, .int .u32 s4, .int .u32 s5, .int .u32 s6, .int .u32 s7, y13, y14, y15, y16, y17, y18, y19, y20, y21, y22, y23, y24, y25, y26, y27, y28, y29, y30, y31, y32, y33, y34, y35, y36, y37, y38, y39, y40, y41, y42, y43, y44, y45, y46, y47, y48, y49, y50, y51, y52, y53, y54, y55, y56, y57, y58, y59, y60, y61, y62, y63, y64, y65, y66, y67, y68, y69, y70, y71, y72, y73, y74, y75, y76, y77, y78, y79, y80, y81, y82, y83, y84, y85, y86, y87, y88, y89, y90, y91, y92, y93, y94, y95, y96, y97, y98, y99, y100, y101, y102, y103, y104, y105, y106, y107, y108, y109, y110, y111, y112, y113, y114, y115, y116, y117, y118, y119, y120, y121, y122, y123, y124, y125, y126, y127, y128, y129, y130, y131, y132, y133, y134, y135, y136, y137, y138, y139, y140, y141, y142, y143, y144, y145, y146, y147, y148, y149, y150, y151, y152, y153, y154, y155, y156, y157, y158, y159, y160, y161, y162, y163, y164, y165, y166, y167, y168, y169, y170, y171, y172, y173, y174, y175, y176, y177, y178, y179, y180, y181, y182, y183, y184, y185, y186, y187, y188, y189, y190, y191, y192, y193, y194, y195, y196, y197, y198, y199, y200, y201, y202, y203, y204, y205, y206, y207, y208, y209, y210, y211, y212, y213, y214, y215, y216, y217, y218, y219, y220, y221, y222, y223, y224, y225, y226, y227, y228, y229, y230, y231, y232, y233, y234, y235, y236, y237, y238, y239, y240, y241, y242, y243, y244, y245, y246, y247, y248, y249, y250, y251, y252, y253, y254, y255, y256, y257, y258, y259, y260, y261, y262, y263, y264, y265, y266, y267, y268, y269, y270, y271, y272, y273, y274, y275, y276, y277, y278, y279, y280, y281, y282], defers := [] } wr := by
  dsimp only [Tryd.f64, Option.bind, findR, Option.orElse, reduceIte, reduceCtorEq] at hcd
  obtain rfl := Option.some.inj hcd
  refine start_ (n := 48) (S := fun w' => True) (ds := [19, 23, 27, 31, 35, 39, 43, 47]) #[false, false, false, false, false, false, false, false, false, false, false, false, false, false, false, false, false, false, false, false, false, false, false, false, false, false, false, false, false, false, false, false, false, false, false, false, false, false, false, false, false, false, false, false, false, false, false, false] (by kernel_rfl) rfl rfl trivial (fun hHeld => ?_)
  refine pure_ (i := 0) (N := some 243) (v := ?_) (a' := ?_) #[true, false, false, false, false, false, false, false, false, false, false, false, false, false, false, false, false, false, false, false, false, false, false, false, false, false, false, false, false, false, false, false, false, false, false, false, false, false, false, false, false, false, false, false, false, false, false, false] rfl rfl (by kernel_rfl) (fun _ _ _ h => hP _ _ _ _ _ h) (Or.inl ⟨by rfl, ?_⟩) ?_ ?_
  rotate_left
  · intro w'
    go_simp
    with_reducible rfl
  rotate_left
  · simp only [Act.put, List.setIfInBounds_toArray, List.set_cons_zero, List.set_cons_succ, i64_w, i32_w]
    rfl
  refine pure_ (i := 1) (N := some 244) (v := ?_) (a' := ?_) #[true, true, false, false, false, false, false, false, false, false, false, false, false, false, false, false, false, false, false, false, false, false, false, false, false, false, false, false, false, false, false, false, false, false, false, false, false, false, false, false, false, false, false, false, false, false, false, false] rfl rfl (by kernel_rfl) (fun _ _ _ h => hP _ _ _ _ _ h) (Or.inl ⟨by rfl, ?_⟩) ?_ ?_
  rotate_left
  · intro w'
    go_simp
    with_reducible rfl
  rotate_left
  · simp only [Act.put, List.setIfInBounds_toArray, List.set_cons_zero, List.set_cons_succ, i64_w, i32_w]
    rfl
  refine pure_ (i := 2) (N := some 245) (v := ?_) (a' := ?_) #[true, true, true, false, false, false, false, false, false, false, false, false, false, false, false, false, false, false, false, false, false, false, false, false, false, false, false, false, false, false, false, false, false, false, false, false, false, false, false, false, false, false, false, false, false, false, false, false] rfl rfl (by kernel_rfl) (fun _ _ _ h => hP _ _ _ _ _ h) (Or.inl ⟨by rfl, ?_⟩) ?_ ?_
  rotate_left
  · intro w'
    go_simp
    with_reducible rfl
  rotate_left
  · simp only [Act.put, List.setIfInBounds_toArray, List.set_cons_zero, List.set_cons_succ, i64_w, i32_w]
    rfl
  refine pure_ (i := 3) (N := some 246) (v := ?_) (a' := ?_) #[true, true, true, true, false, false, false, false, false, false, false, false, false, false, false, false, false, false, false, false, false, false, false, false, false, false, false, false, false, false, false, false, false, false, false, false, false, false, false, false, false, false, false, false, false, false, false, false] rfl rfl (by kernel_rfl) (fun _ _ _ h => hP _ _ _ _ _ h) (Or.inl ⟨by rfl, ?_⟩) ?_ ?_
  rotate_left
  · intro w'
    go_simp
    with_reducible rfl
  rotate_left
  · simp only [Act.put, List.setIfInBounds_toArray, List.set_cons_zero, List.set_cons_succ, i64_w, i32_w]
    rfl
  refine pure_ (i := 4) (N := some 247) (v := ?_) (a' := ?_) #[true, true, true, true, true, false, false, false, false, false, false, false, false, false, false, false, false, false, false, false, false, false, false, false, false, false, false, false, false, false, false, false, false, false, false, false, false, false, false, false, false, false, false, false, false, false, false, false] rfl rfl (by kernel_rfl) (fun _ _ _ h => hP _ _ _ _ _ h) (Or.inl ⟨by rfl, ?_⟩) ?_ ?_
  rotate_left
  · intro w'
    go_simp
    with_reducible rfl
  rotate_left
  · simp only [Act.put, List.setIfInBounds_toArray, List.set_cons_zero, List.set_cons_succ, i64_w, i32_w]
    rfl
  refine pure_ (i := 5) (N := some 248) (v := ?_) (a' := ?_) #[true, true, true, true, true, true, false, false, false, false, false, false, false, false, false, false, false, false, false, false, false, false, false, false, false, false, false, false, false, false, false, false, false, false, false, false, false, false, false, false, false, false, false, false, false, false, false, false] rfl rfl (by kernel_rfl) (fun _ _ _ h => hP _ _ _ _ _ h) (Or.inl ⟨by rfl, ?_⟩) ?_ ?_
  rotate_left
  · intro w'
    go_simp
    with_reducible rfl
  rotate_left
  · simp only [Act.put, List.setIfInBounds_toArray, List.set_cons_zero, List.set_cons_succ, i64_w, i32_w]
    rfl
  refine pure_ (i := 6) (N := some 249) (v := ?_) (a' := ?_) #[true, true, true, true, true, true, true, false, false, false, false, false, false, false, false, false, false, false, false, false, false, false, false, false, false, false, false, false, false, false, false, false, false, false, false, false, false, false, false, false, false, false, false, false, false, false, false, false] rfl rfl (by kernel_rfl) (fun _ _ _ h => hP _ _ _ _ _ h) (Or.inl ⟨by rfl, ?_⟩) ?_ ?_
  rotate_left
  · intro w'
    go_simp
    with_reducible rfl
  rotate_left
  · simp only [Act.put, List.setIfInBounds_toArray, List.set_cons_zero, List.set_cons_succ, i64_w, i32_w]
    rfl
  refine pure_ (i := 7) (N := some 250) (v := ?_) (a' := ?_) #[true, true, true, true, true, true, true, true, false, false, false, false, false, false, false, false, false, false, false, false, false, false, false, false, false, false, false, false, false, false, false, false, false, false, false, false, false, false, false, false, false, false, false, false, false, false, false, false] rfl rfl (by kernel_rfl) (fun _ _ _ h => hP _ _ _ _ _ h) (Or.inl ⟨by rfl, ?_⟩) ?_ ?_
  rotate_left
  · intro w'
    go_simp
    with_reducible rfl
  rotate_left
  · simp only [Act.put, List.setIfInBounds_toArray, List.set_cons_zero, List.set_cons_succ, i64_w, i32_w]
    rfl
  refine pure_ (i := 8) (N := some 251) (v := ?_) (a' := ?_) #[true, true, true, true, true, true, true, true, true, false, false, false, false, false, false, false, false, false, false, false, false, false, false, false, false, false, false, false, false, false, false, false, false, false, false, false, false, false, false, false, false, false, false, false, false, false, false, false] rfl rfl (by kernel_rfl) (fun _ _ _ h => hP _ _ _ _ _ h) (Or.inl ⟨by rfl, ?_⟩) ?_ ?_
  rotate_left
  · intro w'
    go_simp
    with_reducible rfl
  rotate_left
  · simp only [Act.put, List.setIfInBounds_toArray, List.set_cons_zero, List.set_cons_succ, i64_w, i32_w]
    rfl
  refine pure_ (i := 9) (N := some 252) (v := ?_) (a' := ?_) #[true, true, true, true, true, true, true, true, true, true, false, false, false, false, false, false, false, false, false, false, false, false, false, false, false, false, false, false, false, false, false, false, false, false, false, false, false, false, false, false, false, false, false, false, false, false, false, false] rfl rfl (by kernel_rfl) (fun _ _ _ h => hP _ _ _ _ _ h) (Or.inl ⟨by rfl, ?_⟩) ?_ ?_
  rotate_left
  · intro w'
    go_simp
    with_reducible rfl
  rotate_left
  · simp only [Act.put, List.setIfInBounds_toArray, List.set_cons_zero, List.set_cons_succ, i64_w, i32_w]
    rfl
  refine pure_ (i := 10) (N := some 253) (v := ?_) (a' := ?_) #[true, true, true, true, true, true, true, true, true, true, true, false, false, false, false, false, false, false, false, false, false, false, false, false, false, false, false, false, false, false, false, false, false, false, false, false, false, false, false, false, false, false, false, false, false, false, false, false] rfl rfl (by kernel_rfl) (fun _ _ _ h => hP _ _ _ _ _ h) (Or.inl ⟨by rfl, ?_⟩) ?_ ?_
  rotate_left
  · intro w'
    go_simp
    with_reducible rfl
  rotate_left
  · simp only [Act.put, List.setIfInBounds_toArray, List.set_cons_zero, List.set_cons_succ, i64_w, i32_w]
    rfl
  refine pure_ (i := 11) (N := some 254) (v := ?_) (a' := ?_) #[true, true, true, true, true, true, true, true, true, true, true, true, false, false, false, false, false, false, false, false, false, false, false, false, false, false, false, false, false, false, false, false, false, false, false, false, false, false, false, false, false, false, false, false, false, false, false, false] rfl rfl (by kernel_rfl) (fun _ _ _ h => hP _ _ _ _ _ h) (Or.inl ⟨by rfl, ?_⟩) ?_ ?_
  rotate_left
  · intro w'
    go_simp
    with_reducible rfl
  rotate_left
  · simp only [Act.put, List.setIfInBounds_toArray, List.set_cons_zero, List.set_cons_succ, i64_w, i32_w]
    rfl
  refine pure_ (i := 12) (N := some 255) (v := ?_) (a' := ?_) #[true, true, true, true, true, true, true, true, true, true, true, true, true, false, false, false, false, false, false, false, false, false, false, false, false, false, false, false, false, false, false, false, false, false, false, false, false, false, false, false, false, false, false, false, false, false, false, false] rfl rfl (by kernel_rfl) (fun _ _ _ h => hP _ _ _ _ _ h) (Or.inl ⟨by rfl, ?_⟩) ?_ ?_
  rotate_left
  · intro w'
    go_simp
    with_reducible rfl
  rotate_left
  · simp only [Act.put, List.setIfInBounds_toArray, List.set_cons_zero, List.set_cons_succ, i64_w, i32_w]
    rfl
  refine pure_ (i := 13) (N := some 256) (v := ?_) (a' := ?_) #[true, true, true, true, true, true, true, true, true, true, true, true, true, true, false, false, false, false, false, false, false, false, false, false, false, false, false, false, false, false, false, false, false, false, false, false, false, false, false, false, false, false, false, false, false, false, false, false] rfl rfl (by kernel_rfl) (fun _ _ _ h => hP _ _ _ _ _ h) (Or.inl ⟨by rfl, ?_⟩) ?_ ?_
  rotate_left
  · intro w'
    go_simp
    with_reducible rfl
  rotate_left
  · simp only [Act.put, List.setIfInBounds_toArray, List.set_cons_zero, List.set_cons_succ, i64_w, i32_w]
    rfl
  refine pure_ (i := 14) (N := some 257) (v := ?_) (a' := ?_) #[true, true, true, true, true, true, true, true, true, true, true, true, true, true, true, false, false, false, false, false, false, false, false, false, false, false, false, false, false, false, false, false, false, false, false, false, false, false, false, false, false, false, false, false, false, false, false, false] rfl rfl (by kernel_rfl) (fun _ _ _ h => hP _ _ _ _ _ h) (Or.inl ⟨by rfl, ?_⟩) ?_ ?_
  rotate_left
  · intro w'
    go_simp
    with_reducible rfl
  rotate_left
  · simp only [Act.put, List.setIfInBounds_toArray, List.set_cons_zero, List.set_cons_succ, i64_w, i32_w]
    rfl
  refine pure_ (i := 15) (N := some 258) (v := ?_) (a' := ?_) #[true, true, true, true, true, true, true, true, true, true, true, true, true, true, true, true, false, false, false, false, false, false, false, false, false, false, false, false, false, false, false, false, false, false, false, false, false, false, false, false, false, false, false, false, false, false, false, false] rfl rfl (by kernel_rfl) (fun _ _ _ h => hP _ _ _ _ _ h) (Or.inl ⟨by rfl, ?_⟩) ?_ ?_
  rotate_left
  · intro w'
    go_simp
    with_reducible rfl
  rotate_left
  · simp only [Act.put, List.setIfInBounds_toArray, List.set_cons_zero, List.set_cons_succ, i64_w, i32_w]
    rfl
  refine pure_ (i := 16) (N := some 259) (v := ?_) (a' := ?_) #[true, true, true, true, true, true, true, true, true, true, true, true, true, true, true, true, true, false, false, false, false, false, false, false, false, false, false, false, false, false, false, false, false, false, false, false, false, false, false, false, false, false, false, false, false, false, false, false] rfl rfl (by kernel_rfl) (fun _ _ _ h => hP _ _ _ _ _ h) (Or.inl ⟨by rfl, ?_⟩) ?_ ?_
  rotate_left
  · intro w'
    go_simp
    with_reducible rfl
  rotate_left
  · simp only [Act.put, List.setIfInBounds_toArray, List.set_cons_zero, List.set_cons_succ, i64_w, i32_w]
    rfl
  refine pure_ (i := 17) (N := some 260) (v := ?_) (a' := ?_) #[true, true, true, true, true, true, true, true, true, true, true, true, true, true, true, true, true, true, false, false, false, false, false, false, false, false, false, false, false, false, false, false, false, false, false, false, false, false, false, false, false, false, false, false, false, false, false, false] rfl rfl (by kernel_rfl) (fun _ _ _ h => hP _ _ _ _ _ h) (Or.inl ⟨by rfl, ?_⟩) ?_ ?_
  rotate_left
  · intro w'
    go_simp
    with_reducible rfl
  rotate_left
  · simp only [Act.put, List.setIfInBounds_toArray, List.set_cons_zero, List.set_cons_succ, i64_w, i32_w]
    rfl
  refine pure_ (i := 20) (N := some 262) (v := ?_) (a' := ?_) #[true, true, true, true, true, true, true, true, true, true, true, true, true, true, true, true, true, true, false, false, true, false, false, false, false, false, false, false, false, false, false, false, false, false, false, false, false, false, false, false, false, false, false, false, false, false, false, false] rfl rfl (by kernel_rfl) (fun _ _ _ h => hP _ _ _ _ _ h) (Or.inl ⟨by rfl, ?_⟩) ?_ ?_
  rotate_left
  · intro w'
    go_simp
    with_reducible rfl
  rotate_left
  · simp only [Act.put, List.setIfInBounds_toArray, List.set_cons_zero, List.set_cons_succ, i64_w, i32_w]
    rfl
  refine pure_ (i := 21) (N := some 263) (v := ?_) (a' := ?_) #[true, true, true, true, true, true, true, true, true, true, true, true, true, true, true, true, true, true, false, false, true, true, false, false, false, false, false, false, false, false, false, false, false, false, false, false, false, false, false, false, false, false, false, false, false, false, false, false] rfl rfl (by kernel_rfl) (fun _ _ _ h => hP _ _ _ _ _ h) (Or.inl ⟨by rfl, ?_⟩) ?_ ?_
  rotate_left
  · intro w'
    go_simp
    with_reducible rfl
  rotate_left
  · simp only [Act.put, List.setIfInBounds_toArray, List.set_cons_zero, List.set_cons_succ, i64_w, i32_w]
    rfl
  refine pure_ (i := 24) (N := some 265) (v := ?_) (a' := ?_) #[true, true, true, true, true, true, true, true, true, true, true, true, true, true, true, true, true, true, false, false, true, true, false, false, true, false, false, false, false, false, false, false, false, false, false, false, false, false, false, false, false, false, false, false, false, false, false, false] rfl rfl (by kernel_rfl) (fun _ _ _ h => hP _ _ _ _ _ h) (Or.inl ⟨by rfl, ?_⟩) ?_ ?_
  rotate_left
  · intro w'
    go_simp
    with_reducible rfl
  rotate_left
  · simp only [Act.put, List.setIfInBounds_toArray, List.set_cons_zero, List.set_cons_succ, i64_w, i32_w]
    rfl
  refine pure_ (i := 25) (N := some 266) (v := ?_) (a' := ?_) #[true, true, true, true, true, true, true, true, true, true, true, true, true, true, true, true, true, true, false, false, true, true, false, false, true, true, false, false, false, false, false, false, false, false, false, false, false, false, false, false, false, false, false, false, false, false, false, false] rfl rfl (by kernel_rfl) (fun _ _ _ h => hP _ _ _ _ _ h) (Or.inl ⟨by rfl, ?_⟩) ?_ ?_
  rotate_left
  · intro w'
    go_simp
    with_reducible rfl
  rotate_left
  · simp only [Act.put, List.setIfInBounds_toArray, List.set_cons_zero, List.set_cons_succ, i64_w, i32_w]
    rfl
  refine pure_ (i := 28) (N := some 268) (v := ?_) (a' := ?_) #[true, true, true, true, true, true, true, true, true, true, true, true, true, true, true, true, true, true, false, false, true, true, false, false, true, true, false, false, true, false, false, false, false, false, false, false, false, false, false, false, false, false, false, false, false, false, false, false] rfl rfl (by kernel_rfl) (fun _ _ _ h => hP _ _ _ _ _ h) (Or.inl ⟨by rfl, ?_⟩) ?_ ?_
  rotate_left
  · intro w'
    go_simp
    with_reducible rfl
  rotate_left
  · simp only [Act.put, List.setIfInBounds_toArray, List.set_cons_zero, List.set_cons_succ, i64_w, i32_w]
    rfl
  refine pure_ (i := 29) (N := some 269) (v := ?_) (a' := ?_) #[true, true, true, true, true, true, true, true, true, true, true, true, true, true, true, true, true, true, false, false, true, true, false, false, true, true, false, false, true, true, false, false, false, false, false, false, false, false, false, false, false, false, false, false, false, false, false, false] rfl rfl (by kernel_rfl) (fun _ _ _ h => hP _ _ _ _ _ h) (Or.inl ⟨by rfl, ?_⟩) ?_ ?_
  rotate_left
  · intro w'
    go_simp
    with_reducible rfl
  rotate_left
  · simp only [Act.put, List.setIfInBounds_toArray, List.set_cons_zero, List.set_cons_succ, i64_w, i32_w]
    rfl
  refine pure_ (i := 32) (N := some 271) (v := ?_) (a' := ?_) #[true, true, true, true, true, true, true, true, true, true, true, true, true, true, true, true, true, true, false, false, true, true, false, false, true, true, false, false, true, true, false, false, true, false, false, false, false, false, false, false, false, false, false, false, false, false, false, false] rfl rfl (by kernel_rfl) (fun _ _ _ h => hP _ _ _ _ _ h) (Or.inl ⟨by rfl, ?_⟩) ?_ ?_
  rotate_left
  · intro w'
    go_simp
    with_reducible rfl
  rotate_left
  · simp only [Act.put, List.setIfInBounds_toArray, List.set_cons_zero, List.set_cons_succ, i64_w, i32_w]
    rfl
  refine pure_ (i := 33) (N := some 272) (v := ?_) (a' := ?_) #[true, true, true, true, true, true, true, true, true, true, true, true, true, true, true, true, true, true, false, false, true, true, false, false, true, true, false, false, true, true, false, false, true, true, false, false, false, false, false, false, false, false, false, false, false, false, false, false] rfl rfl (by kernel_rfl) (fun _ _ _ h => hP _ _ _ _ _ h) (Or.inl ⟨by rfl, ?_⟩) ?_ ?_
  rotate_left
  · intro w'
    go_simp
    with_reducible rfl
  rotate_left
  · simp only [Act.put, List.setIfInBounds_toArray, List.set_cons_zero, List.set_cons_succ, i64_w, i32_w]
    rfl
  refine pure_ (i := 36) (N := some 274) (v := ?_) (a' := ?_) #[true, true, true, true, true, true, true, true, true, true, true, true, true, true, true, true, true, true, false, false, true, true, false, false, true, true, false, false, true, true, false, false, true, true, false, false, true, false, false, false, false, false, false, false, false, false, false, false] rfl rfl (by kernel_rfl) (fun _ _ _ h => hP _ _ _ _ _ h) (Or.inl ⟨by rfl, ?_⟩) ?_ ?_
  rotate_left
  · intro w'
    go_simp
    with_reducible rfl
  rotate_left
  · simp only [Act.put, List.setIfInBounds_toArray, List.set_cons_zero, List.set_cons_succ, i64_w, i32_w]
    rfl
  refine pure_ (i := 37) (N := some 275) (v := ?_) (a' := ?_) #[true, true, true, true, true, true, true, true, true, true, true, true, true, true, true, true, true, true, false, false, true, true, false, false, true, true, false, false, true, true, false, false, true, true, false, false, true, true, false, false, false, false, false, false, false, false, false, false] rfl rfl (by kernel_rfl) (fun _ _ _ h => hP _ _ _ _ _ h) (Or.inl ⟨by rfl, ?_⟩) ?_ ?_
  rotate_left
  · intro w'
    go_simp
    with_reducible rfl
  rotate_left
  · simp only [Act.put, List.setIfInBounds_toArray, List.set_cons_zero, List.set_cons_succ, i64_w, i32_w]
    rfl
  refine pure_ (i := 40) (N := some 277) (v := ?_) (a' := ?_) #[true, true, true, true, true, true, true, true, true, true, true, true, true, true, true, true, true, true, false, false, true, true, false, false, true, true, false, false, true, true, false, false, true, true, false, false, true, true, false, false, true, false, false, false, false, false, false, false] rfl rfl (by kernel_rfl) (fun _ _ _ h => hP _ _ _ _ _ h) (Or.inl ⟨by rfl, ?_⟩) ?_ ?_
  rotate_left
  · intro w'
    go_simp
    with_reducible rfl
  rotate_left
  · simp only [Act.put, List.setIfInBounds_toArray, List.set_cons_zero, List.set_cons_succ, i64_w, i32_w]
    rfl
  refine pure_ (i := 41) (N := some 278) (v := ?_) (a' := ?_) #[true, true, true, true, true, true, true, true, true, true, true, true, true, true, true, true, true, true, false, false, true, true, false, false, true, true, false, false, true, true, false, false, true, true, false, false, true, true, false, false, true, true, false, false, false, false, false, false] rfl rfl (by kernel_rfl) (fun _ _ _ h => hP _ _ _ _ _ h) (Or.inl ⟨by rfl, ?_⟩) ?_ ?_
  rotate_left
  · intro w'
    go_simp
    with_reducible rfl
  rotate_left
  · simp only [Act.put, List.setIfInBounds_toArray, List.set_cons_zero, List.set_cons_succ, i64_w, i32_w]
    rfl
  refine pure_ (i := 44) (N := some 280) (v := ?_) (a' := ?_) #[true, true, true, true, true, true, true, true, true, true, true, true, true, true, true, true, true, true, false, false, true, true, false, false, true, true, false, false, true, true, false, false, true, true, false, false, true, true, false, false, true, true, false, false, true, false, false, false] rfl rfl (by kernel_rfl) (fun _ _ _ h => hP _ _ _ _ _ h) (Or.inl ⟨by rfl, ?_⟩) ?_ ?_
  rotate_left
  · intro w'
    go_simp
    with_reducible rfl
  rotate_left
  · simp only [Act.put, List.setIfInBounds_toArray, List.set_cons_zero, List.set_cons_succ, i64_w, i32_w]
    rfl
  refine pure_ (i := 45) (N := some 281) (v := ?_) (a' := ?_) #[true, true, true, true, true, true, true, true, true, true, true, true, true, true, true, true, true, true, false, false, true, true, false, false, true, true, false, false, true, true, false, false, true, true, false, false, true, true, false, false, true, true, false, false, true, true, false, false] rfl rfl (by kernel_rfl) (fun _ _ _ h => hP _ _ _ _ _ h) (Or.inl ⟨by rfl, ?_⟩) ?_ ?_
  rotate_left
  · intro w'
    go_simp
    with_reducible rfl
  rotate_left
  · simp only [Act.put, List.setIfInBounds_toArray, List.set_cons_zero, List.set_cons_succ, i64_w, i32_w]
    rfl
  refine pure_ (i := 18) (N := some 261) (v := ?_) (a' := ?_) #[true, true, true, true, true, true, true, true, true, true, true, true, true, true, true, true, true, true, true, false, true, true, false, false, true, true, false, false, true, true, false, false, true, true, false, false, true, true, false, false, true, true, false, false, true, true, false, false] rfl rfl (by kernel_rfl) (fun _ _ _ h => hP _ _ _ _ _ h) (Or.inl ⟨by rfl, ?_⟩) ?_ ?_
  rotate_left
  · intro w'
    go_simp
    with_reducible rfl
  rotate_left
  · simp only [Act.put, List.setIfInBounds_toArray, List.set_cons_zero, List.set_cons_succ, i64_w, i32_w]
    rfl
  refine last_ (i := 19) (N := none) #[true, true, true, true, true, true, true, true, true, true, true, true, true, true, true, true, true, true, true, true, true, true, false, false, true, true, false, false, true, true, false, false, true, true, false, false, true, true, false, false, true, true, false, false, true, true, false, false] rfl rfl (by kernel_rfl) (by decide) (fun K hK => ?_)
  have z0 : wr.cell? ⟨g, 0, none⟩ = some (.int .u32 a0) := cell_of G0.out (j := 0) (v := .int .u32 a0) rfl
  have f0 : wr.frozen? ⟨g, 0, none⟩ = false := frozen_of G0.out 0
  refine skip_ (w1 := ?_) (by rfl) rfl ?_ ?_
  rotate_left
  · go_simp
    rfl
  refine hK.out _ _ ?_
  clear hK K
  refine norm_ (a' := ?_) ?_ ?_
  rotate_left
  · rfl
  refine pure_ (i := 22) (N := some 264) (v := ?_) (a' := ?_) #[true, true, true, true, true, true, true, true, true, true, true, true, true, true, true, true, true, true, true, true, true, true, true, false, true, true, false, false, true, true, false, false, true, true, false, false, true, true, false, false, true, true, false, false, true, true, false, false] rfl rfl (by kernel_rfl) (fun _ _ _ h => hP _ _ _ _ _ h) (Or.inl ⟨by rfl, ?_⟩) ?_ ?_
  rotate_left
  · intro w'
    go_simp
    with_reducible rfl
  rotate_left
  · simp only [Act.put, List.setIfInBounds_toArray, List.set_cons_zero, List.set_cons_succ, i64_w, i32_w]
    rfl
  refine last_ (i := 23) (N := none) #[true, true, true, true, true, true, true, true, true, true, true, true, true, true, true, true, true, true, true, true, true, true, true, true, true, true, false, false, true, true, false, false, true, true, false, false, true, true, false, false, true, true, false, false, true, true, false, false] rfl rfl (by kernel_rfl) (by decide) (fun K hK => ?_)
  generalize hv1 : World.setCell _ _ _ = v1
  have G1 : Aside0 (v1.heap[g]? = some (.cells (wordC [s0, a1, a2, a3, a4, a5, a6, a7] ++ rs).toArray 121 (0, 0))) := ⟨by rw [← hv1]; exact dig_set (W := wr) G0.out 0 (by simp) s0⟩
  have O1 : Aside0 (Only g wr v1) := ⟨by rw [← hv1]; exact (Only.refl g wr).set 0 _⟩
  clear hv1
  have z1 : v1.cell? ⟨g, 1, none⟩ = some (.int .u32 a1) := cell_of G1.out (j := 1) (v := .int .u32 a1) rfl
  have f1 : v1.frozen? ⟨g, 1, none⟩ = false := frozen_of G1.out 1
  refine skip_ (w1 := ?_) (by rfl) rfl ?_ ?_
  rotate_left
  · go_simp
    rfl
  refine hK.out _ _ ?_
  clear hK K
  refine norm_ (a' := ?_) ?_ ?_
  rotate_left
  · rfl
  refine pure_ (i := 26) (N := some 267) (v := ?_) (a' := ?_) #[true, true, true, true, true, true, true, true, true, true, true, true, true, true, true, true, true, true, true, true, true, true, true, true, true, true, true, false, true, true, false, false, true, true, false, false, true, true, false, false, true, true, false, false, true, true, false, false] rfl rfl (by kernel_rfl) (fun _ _ _ h => hP _ _ _ _ _ h) (Or.inl ⟨by rfl, ?_⟩) ?_ ?_
  rotate_left
  · intro w'
    go_simp
    with_reducible rfl
  rotate_left
  · simp only [Act.put, List.setIfInBounds_toArray, List.set_cons_zero, List.set_cons_succ, i64_w, i32_w]
    rfl
  refine last_ (i := 27) (N := none) #[true, true, true, true, true, true, true, true, true, true, true, true, true, true, true, true, true, true, true, true, true, true, true, true, true, true, true, true, true, true, false, false, true, true, false, false, true, true, false, false, true, true, false, false, true, true, false, false] rfl rfl (by kernel_rfl) (by decide) (fun K hK => ?_)
  generalize hv2 : World.setCell _ _ _ = v2
  have G2 : Aside0 (v2.heap[g]? = some (.cells (wordC [s0, s1, a2, a3, a4, a5, a6, a7] ++ rs).toArray 121 (0, 0))) := ⟨by rw [← hv2]; exact dig_set (W := v1) G1.out 1 (by simp) s1⟩
  have O2 : Aside0 (Only g wr v2) := ⟨by rw [← hv2]; exact O1.out.set 1 _⟩
  clear hv2
  have z2 : v2.cell? ⟨g, 2, none⟩ = some (.int .u32 a2) := cell_of G2.out (j := 2) (v := .int .u32 a2) rfl
  have f2 : v2.frozen? ⟨g, 2, none⟩ = false := frozen_of G2.out 2
  refine skip_ (w1 := ?_) (by rfl) rfl ?_ ?_
  rotate_left
  · go_simp
    rfl
  refine hK.out _ _ ?_
  clear hK K
  refine norm_ (a' := ?_) ?_ ?_
  rotate_left
  · rfl
  refine pure_ (i := 30) (N := some 270) (v := ?_) (a' := ?_) #[true, true, true, true, true, true, true, true, true, true, true, true, true, true, true, true, true, true, true, true, true, true, true, true, true, true, true, true, true, true, true, false, true, true, false, false, true, true, false, false, true, true, false, false, true, true, false, false] rfl rfl (by kernel_rfl) (fun _ _ _ h => hP _ _ _ _ _ h) (Or.inl ⟨by rfl, ?_⟩) ?_ ?_
  rotate_left
  · intro w'
    go_simp
    with_reducible rfl
  rotate_left
  · simp only [Act.put, List.setIfInBounds_toArray, List.set_cons_zero, List.set_cons_succ, i64_w, i32_w]
    rfl
  refine last_ (i := 31) (N := none) #[true, true, true, true, true, true, true, true, true, true, true, true, true, true, true, true, true, true, true, true, true, true, true, true, true, true, true, true, true, true, true, true, true, true, false, false, true, true, false, false, true, true, false, false, true, true, false, false] rfl rfl (by kernel_rfl) (by decide) (fun K hK => ?_)
  generalize hv3 : World.setCell _ _ _ = v3
  have G3 : Aside0 (v3.heap[g]? = some (.cells (wordC [s0, s1, s2, a3, a4, a5, a6, a7] ++ rs).toArray 121 (0, 0))) := ⟨by rw [← hv3]; exact dig_set (W := v2) G2.out 2 (by simp) s2⟩
  have O3 : Aside0 (Only g wr v3) := ⟨by rw [← hv3]; exact O2.out.set 2 _⟩
  clear hv3
  have z3 : v3.cell? ⟨g, 3, none⟩ = some (.int .u32 a3) := cell_of G3.out (j := 3) (v := .int .u32 a3) rfl
  have f3 : v3.frozen? ⟨g, 3, none⟩ = false := frozen_of G3.out 3
  refine skip_ (w1 := ?_) (by rfl) rfl ?_ ?_
  rotate_left
  · go_simp
    rfl
  refine hK.out _ _ ?_
  clear hK K
  refine norm_ (a' := ?_) ?_ ?_
  rotate_left
  · rfl
  refine pure_ (i := 34) (N := some 273) (v := ?_) (a' := ?_) #[true, true, true, true, true, true, true, true, true, true, true, true, true, true, true, true, true, true, true, true, true, true, true, true, true, true, true, true, true, true, true, true, true, true, true, false, true, true, false, false, true, true, false, false, true, true, false, false] rfl rfl (by kernel_rfl) (fun _ _ _ h => hP _ _ _ _ _ h) (Or.inl ⟨by rfl, ?_⟩) ?_ ?_
  rotate_left
  · intro w'
    go_simp
    with_reducible rfl
  rotate_left
  · simp only [Act.put, List.setIfInBounds_toArray, List.set_cons_zero, List.set_cons_succ, i64_w, i32_w]
    rfl
  refine last_ (i := 35) (N := none) #[true, true, true, true, true, true, true, true, true, true, true, true, true, true, true, true, true, true, true, true, true, true, true, true, true, true, true, true, true, true, true, true, true, true, true, true, true, true, false, false, true, true, false, false, true, true, false, false] rfl rfl (by kernel_rfl) (by decide) (fun K hK => ?_)
  generalize hv4 : World.setCell _ _ _ = v4
  have G4 : Aside0 (v4.heap[g]? = some (.cells (wordC [s0, s1, s2, s3, a4, a5, a6, a7] ++ rs).toArray 121 (0, 0))) := ⟨by rw [← hv4]; exact dig_set (W := v3) G3.out 3 (by simp) s3⟩
  have O4 : Aside0 (Only g wr v4) := ⟨by rw [← hv4]; exact O3.out.set 3 _⟩
  clear hv4
  have z4 : v4.cell? ⟨g, 4, none⟩ = some (.int .u32 a4) := cell_of G4.out (j := 4) (v := .int .u32 a4) rfl
  have f4 : v4.frozen? ⟨g, 4, none⟩ = false := frozen_of G4.out 4
  refine skip_ (w1 := ?_) (by rfl) rfl ?_ ?_
  rotate_left
  · go_simp
    rfl
  refine hK.out _ _ ?_
  clear hK K
  refine norm_ (a' := ?_) ?_ ?_
  rotate_left
  · rfl
  refine pure_ (i := 38) (N := some 276) (v := ?_) (a' := ?_) #[true, true, true, true, true, true, true, true, true, true, true, true, true, true, true, true, true, true, true, true, true, true, true, true, true, true, true, true, true, true, true, true, true, true, true, true, true, true, true, false, true, true, false, false, true, true, false, false] rfl rfl (by kernel_rfl) (fun _ _ _ h => hP _ _ _ _ _ h) (Or.inl ⟨by rfl, ?_⟩) ?_ ?_
  rotate_left
  · intro w'
    go_simp
    with_reducible rfl
  rotate_left
  · simp only [Act.put, List.setIfInBounds_toArray, List.set_cons_zero, List.set_cons_succ, i64_w, i32_w]
    rfl
  refine last_ (i := 39) (N := none) #[true, true, true, true, true, true, true, true, true, true, true, true, true, true, true, true, true, true, true, true, true, true, true, true, true, true, true, true, true, true, true, true, true, true, true, true, true, true, true, true, true, true, false, false, true, true, false, false] rfl rfl (by kernel_rfl) (by decide) (fun K hK => ?_)
  generalize hv5 : World.setCell _ _ _ = v5
  have G5 : Aside0 (v5.heap[g]? = some (.cells (wordC [s0, s1, s2, s3, s4, a5, a6, a7] ++ rs).toArray 121 (0, 0))) := ⟨by rw [← hv5]; exact dig_set (W := v4) G4.out 4 (by simp) s4⟩
  have O5 : Aside0 (Only g wr v5) := ⟨by rw [← hv5]; exact O4.out.set 4 _⟩
  clear hv5
  have z5 : v5.cell? ⟨g, 5, none⟩ = some (.int .u32 a5) := cell_of G5.out (j := 5) (v := .int .u32 a5) rfl
  have f5 : v5.frozen? ⟨g, 5, none⟩ = false := frozen_of G5.out 5
  refine skip_ (w1 := ?_) (by rfl) rfl ?_ ?_
  rotate_left
  · go_simp
    rfl
  refine hK.out _ _ ?_
  clear hK K
  refine norm_ (a' := ?_) ?_ ?_
  rotate_left
  · rfl
  refine pure_ (i := 42) (N := some 279) (v := ?_) (a' := ?_) #[true, true, true, true, true, true, true, true, true, true, true, true, true, true, true, true, true, true, true, true, true, true, true, true, true, true, true, true, true, true, true, true, true, true, true, true, true, true, true, true, true, true, true, false, true, true, false, false] rfl rfl (by kernel_rfl) (fun _ _ _ h => hP _ _ _ _ _ h) (Or.inl ⟨by rfl, ?_⟩) ?_ ?_
  rotate_left
  · intro w'
    go_simp
    with_reducible rfl
  rotate_left
  · simp only [Act.put, List.setIfInBounds_toArray, List.set_cons_zero, List.set_cons_succ, i64_w, i32_w]
    rfl
  refine last_ (i := 43) (N := none) #[true, true, true, true, true, true, true, true, true, true, true, true, true, true, true, true, true, true, true, true, true, true, true, true, true, true, true, true, true, true, true, true, true, true, true, true, true, true, true, true, true, true, true, true, true, true, false, false] rfl rfl (by kernel_rfl) (by decide) (fun K hK => ?_)
  generalize hv6 : World.setCell _ _ _ = v6
  have G6 : Aside0 (v6.heap[g]? = some (.cells (wordC [s0, s1, s2, s3, s4, s5, a6, a7] ++ rs).toArray 121 (0, 0))) := ⟨by rw [← hv6]; exact dig_set (W := v5) G5.out 5 (by simp) s5⟩
  have O6 : Aside0 (Only g wr v6) := ⟨by rw [← hv6]; exact O5.out.set 5 _⟩
  clear hv6
  have z6 : v6.cell? ⟨g, 6, none⟩ = some (.int .u32 a6) := cell_of G6.out (j := 6) (v := .int .u32 a6) rfl
  have f6 : v6.frozen? ⟨g, 6, none⟩ = false := frozen_of G6.out 6
  refine skip_ (w1 := ?_) (by rfl) rfl ?_ ?_
  rotate_left
  · go_simp
    rfl
  refine hK.out _ _ ?_
  clear hK K
  refine norm_ (a' := ?_) ?_ ?_
  rotate_left
  · rfl
  refine pure_ (i := 46) (N := some 282) (v := ?_) (a' := ?_) #[true, true, true, true, true, true, true, true, true, true, true, true, true, true, true, true, true, true, true, true, true, true, true, true, true, true, true, true, true, true, true, true, true, true, true, true, true, true, true, true, true, true, true, true, true, true, true, false] rfl rfl (by kernel_rfl) (fun _ _ _ h => hP _ _ _ _ _ h) (Or.inl ⟨by rfl, ?_⟩) ?_ ?_
  rotate_left
  · intro w'
    go_simp
    with_reducible rfl
  rotate_left
  · simp only [Act.put, List.setIfInBounds_toArray, List.set_cons_zero, List.set_cons_succ, i64_w, i32_w]
    rfl
  refine last_ (i := 47) (N := none) #[true, true, true, true, true, true, true, true, true, true, true, true, true, true, true, true, true, true, true, true, true, true, true, true, true, true, true, true, true, true, true, true, true, true, true, true, true, true, true, true, true, true, true, true, true, true, true, true] rfl rfl (by kernel_rfl) (by decide) (fun K hK => ?_)
  generalize hv7 : World.setCell _ _ _ = v7
  have G7 : Aside0 (v7.heap[g]? = some (.cells (wordC [s0, s1, s2, s3, s4, s5, s6, a7] ++ rs).toArray 121 (0, 0))) := ⟨by rw [← hv7]; exact dig_set (W := v6) G6.out 6 (by simp) s6⟩
  have O7 : Aside0 (Only g wr v7) := ⟨by rw [← hv7]; exact O6.out.set 6 _⟩
  clear hv7
  have z7 : v7.cell? ⟨g, 7, none⟩ = some (.int .u32 a7) := cell_of G7.out (j := 7) (v := .int .u32 a7) rfl
  have f7 : v7.frozen? ⟨g, 7, none⟩ = false := frozen_of G7.out 7
  refine skip_ (w1 := ?_) (by rfl) rfl ?_ ?_
  rotate_left
  · go_simp
    rfl
  refine hK.out _ _ ?_
  clear hK K
  refine norm_ (a' := ?_) ?_ ?_
  rotate_left
  · rfl
  refine done_ (by kernel_rfl) ?_
  generalize hv8 : World.setCell _ _ _ = v8
  have G8 : Aside0 (v8.heap[g]? = some (.cells (wordC [s0, s1, s2, s3, s4, s5, s6, s7] ++ rs).toArray 121 (0, 0))) := ⟨by rw [← hv8]; exact dig_set (W := v7) G7.out 7 (by simp) s7⟩
  have O8 : Aside0 (Only g wr v8) := ⟨by rw [← hv8]; exact O7.out.set 7 _⟩
  clear hv8
  refine hQ _ _ _ _ _ _ _ _ _ _ _ _ _ _ _ _ _ _ _ _ _ _ _ _ _ _ _ _ _ _ _ _ _ _ _ _ _ _ _ _ _ ⟨G8.out⟩ ⟨O8.out.drew⟩
end Go.Proofs.YtigpdgfhngknhaaDoor.Sha
/- The hash: blocks. -/
namespace Go.Proofs.YtigpdgfhngknhaaDoor.Sha
open Go.RowKit Go.Proofs.YtigpdgfhngknhaaDoorW.PrintWords Go.Proofs.YtigpdgfhngknhaaDoorW.PrintLast Go.Proofs.YtigpdgfhngknhaaDoorW.PrintMore Go.Proofs.YtigpdgfhngknhaaDoor.QFnTapRoot
set_option linter.unusedVariables false
set_option linter.unusedSimpArgs false
set_option maxRecDepth 100000 in
set_option maxHeartbeats 16000000 in
theorem blockC (g : Nat) (kl hs xs : List Int) (nx len : Int) (A : Option Addr) (c : Nat) (p : List Int) (w : World) (hd : Dig w g hs xs nx len) (hk : KRow w kl) (hp : ReadsInt w .u8 A p.length p) (hc : p.length ≤ c) (hn : p.length ≤ 1000000000000) :
    Calls Tryd.prog 64 #[.pointer (some ⟨g, 0, none⟩), .slice A p.length c] w fun e w' => e = .returned (.tuple #[]) ∧ Dig w' g (H8.l (blks kl p (p.length / 64) ⟨hs.getD 0 0, hs.getD 1 0, hs.getD 2 0, hs.getD 3 0, hs.getD 4 0, hs.getD 5 0, hs.getD 6 0, hs.getD 7 0⟩)) xs nx len ∧ Only g w w' := by
  have HD := Aside0.mk hd
  have HK := Aside0.mk hk
  have HP := Aside0.mk hp
  obtain ⟨a0, ha0⟩ : ∃ a, hs.getD 0 0 = a := ⟨_, rfl⟩
  obtain ⟨a1, ha1⟩ : ∃ a, hs.getD 1 0 = a := ⟨_, rfl⟩
  obtain ⟨a2, ha2⟩ : ∃ a, hs.getD 2 0 = a := ⟨_, rfl⟩
  obtain ⟨a3, ha3⟩ : ∃ a, hs.getD 3 0 = a := ⟨_, rfl⟩
  obtain ⟨a4, ha4⟩ : ∃ a, hs.getD 4 0 = a := ⟨_, rfl⟩
  obtain ⟨a5, ha5⟩ : ∃ a, hs.getD 5 0 = a := ⟨_, rfl⟩
  obtain ⟨a6, ha6⟩ : ∃ a, hs.getD 6 0 = a := ⟨_, rfl⟩
  obtain ⟨a7, ha7⟩ : ∃ a, hs.getD 7 0 = a := ⟨_, rfl⟩
  have HA := Aside0.mk (show hs = [a0, a1, a2, a3, a4, a5, a6, a7] from by
    have h8 := hd.h8
    match hs, h8 with
    | [b0, b1, b2, b3, b4, b5, b6, b7], _ => rw [← ha0, ← ha1, ← ha2, ← ha3, ← ha4, ← ha5, ← ha6, ← ha7]; rfl)
  have hcl : ∀ W : World, Below w.heap.size w W → (W.cell? ⟨g, 0, none⟩ = some (.int .u32 a0) ∧ W.cell? ⟨g, 1, none⟩ = some (.int .u32 a1) ∧ W.cell? ⟨g, 2, none⟩ = some (.int .u32 a2) ∧ W.cell? ⟨g, 3, none⟩ = some (.int .u32 a3) ∧ W.cell? ⟨g, 4, none⟩ = some (.int .u32 a4) ∧ W.cell? ⟨g, 5, none⟩ = some (.int .u32 a5) ∧ W.cell? ⟨g, 6, none⟩ = some (.int .u32 a6) ∧ W.cell? ⟨g, 7, none⟩ = some (.int .u32 a7)) := fun W hb => by
    have h := hd.below hb
    rw [← ha0, ← ha1, ← ha2, ← ha3, ← ha4, ← ha5, ← ha6, ← ha7]
    exact ⟨h.hcell 0 (by decide), h.hcell 1 (by decide), h.hcell 2 (by decide), h.hcell 3 (by decide), h.hcell 4 (by decide), h.hcell 5 (by decide), h.hcell 6 (by decide), h.hcell 7 (by decide)⟩
  have HCL := Aside0.mk hcl
  clear hd hk hp ha0 ha1 ha2 ha3 ha4 ha5 ha6 ha7 hcl
  go_enter Tryd.func64, Tryd.ntmps64
  go_upto_region 1 with fail
  generalize hw0 : w.alloc _ = w0
  have HB0 : Aside0 (Below w.heap.size w w0) := ⟨by rw [← hw0]; exact below_alloc (Below.refl _ _) _⟩
  have HW0 : Aside0 (w0.heap[w.heap.size]? = some (.cells (wordC (List.replicate 64 0)).toArray 158 (0, 0))) := ⟨by rw [← hw0]; exact heap_alloc_new w _⟩
  have HS : Aside0 (w0.drew.cell? ⟨g, 0, none⟩ = some (.int .u32 a0) ∧ w0.drew.cell? ⟨g, 1, none⟩ = some (.int .u32 a1) ∧ w0.drew.cell? ⟨g, 2, none⟩ = some (.int .u32 a2) ∧ w0.drew.cell? ⟨g, 3, none⟩ = some (.int .u32 a3) ∧ w0.drew.cell? ⟨g, 4, none⟩ = some (.int .u32 a4) ∧ w0.drew.cell? ⟨g, 5, none⟩ = some (.int .u32 a5) ∧ w0.drew.cell? ⟨g, 6, none⟩ = some (.int .u32 a6) ∧ w0.drew.cell? ⟨g, 7, none⟩ = some (.int .u32 a7)) := ⟨HCL.out w0.drew (below_drew HB0.out)⟩
  clear hw0
  refine firstL g a0 a1 a2 a3 a4 a5 a6 a7 w0 _ (by intro _ _ n _ _ h; cases n <;> exact h) _ (by rfl) _ _ _ _ _ _ _ _ _ _ _ _ _ _ _ _ _ _ _ _ _ _ _ _ _ _ _ _ _ _ _ _ _ _ _ _ _ _ _ _ _ _ _ _ _ _ _ _ _ _ _ _ _ _ _ _ _ _ _ _ _ _ _ _ _ _ _ _ _ _ _ _ _ _ _ _ _ _ _ _ _ _ _ _ _ _ _ _ _ _ _ _ _ _ _ _ _ _ _ _ _ _ _ _ _ _ _ _ _ _ _ _ _ _ _ _ _ _ _ _ _ _ _ _ _ _ _ _ _ _ _ _ _ _ _ _ _ _ _ _ _ _ _ _ _ _ _ _ _ _ _ _ _ _ _ _ _ _ _ _ _ _ _ _ _ _ _ _ _ _ _ _ _ _ _ _ _ _ _ _ _ _ _ _ _ _ _ _ _ _ _ _ _ _ _ _ _ _ _ _ _ _ _ _ _ _ _ _ _ _ _ _ _ _ _ _ _ _ _ _ _ _ _ _ _ _ _ _ _ _ _ _ _ _ _ _ _ _ _ _ _ _ _ _ _ _ _ _ _ _ _ _ _ _ _ _ _ _ _ _ _ _ _ _ _ _ _ _ _ _ _ _ _ _ _ _ _ _ _ _ _ _ HS ?_
  intro z29 z30 z31 z32 z33 z34 z35 z36 z37 z38 z39 z40 z41 z42 z43 z44 z45 z46 z47 z48 z49 z50 z51 z52 z53 z54 z55 z56 z57 z58 z59 z60 z61 z62 z63 z64 z65 z66 z67 z68
  have HBD : Aside0 (Below w.heap.size w w0.drew) := ⟨below_drew HB0.out⟩
  have HWD : Aside0 (w0.drew.heap[w.heap.size]? = some (.cells (wordC (List.replicate 64 0)).toArray 158 (0, 0))) := ⟨HW0.out⟩
  clear HS HCL
  go_wp2_with fail
  go_loopg [1, 5, 6, 7, 8, 9, 10, 11, 12] (p.length / 64 + 1) (fun kq p1 p5 p6 p7 p8 p9 p10 p11 p12 w' => ∃ (n : Nat) (A1 : Option Addr) (c1 : Nat) (s : H8), p1 = .slice A1 (p.drop (64 * n)).length c1 ∧ p5 = .int .u32 s.a ∧ p6 = .int .u32 s.b ∧ p7 = .int .u32 s.c ∧ p8 = .int .u32 s.d ∧ p9 = .int .u32 s.e ∧ p10 = .int .u32 s.f ∧ p11 = .int .u32 s.g ∧ p12 = .int .u32 s.h ∧
    Aside0 (n ≤ p.length / 64 ∧ p.length / 64 + 1 ≤ n + kq) ∧ Aside0 (s = blks kl p n ⟨a0, a1, a2, a3, a4, a5, a6, a7⟩) ∧ Aside0 (Below w.heap.size w w') ∧ Aside0 (∃ l, l.length = 64 ∧ w'.heap[w.heap.size]? = some (.cells (wordC l).toArray 158 (0, 0))) ∧ Aside0 ((p.drop (64 * n)).length ≤ c1 ∧ ReadsInt w .u8 A1 (p.drop (64 * n)).length (p.drop (64 * n))))
  case atStart => exact ⟨0, A, c, ⟨a0, a1, a2, a3, a4, a5, a6, a7⟩, by rfl, by rfl, by rfl, by rfl, by rfl, by rfl, by rfl, by rfl, by rfl, ⟨by omega⟩, ⟨rfl⟩, HBD, ⟨_, by simp, HWD.out⟩, ⟨hc, HP.out⟩⟩
  case round =>
    obtain ⟨n, A1, c1, ⟨s0, s1, s2, s3, s4, s5, s6, s7⟩, rfl, rfl, rfl, rfl, rfl, rfl, rfl, rfl, rfl, HKN, HSN, HB, HW, HQ⟩ := hrel
    obtain ⟨q, hq⟩ : ∃ q, p.drop (64 * n) = q := ⟨_, rfl⟩
    have HQE := Aside0.mk hq
    have HQL : Aside0 (q.length = p.length - 64 * n) := ⟨by rw [← hq, List.length_drop]⟩
    rw [hq] at HQ ⊢
    clear hq HBD HWD
    show Code.wp _ _ _ _ _
    obtain ⟨gk1, hgk1⟩ : ∃ g1, g1 = gk := ⟨_, rfl⟩
    subst hgk1
    by_cases hm : 64 ≤ q.length
    · have hm1 : 64 ≤ (q.length : Int) := by omega
      obtain ⟨m, hqm⟩ : ∃ m, q.length = m := ⟨_, rfl⟩
      have HM := Aside0.mk hqm
      have HRM : Aside0 (ReadsInt w .u8 A1 m q) := ⟨by rw [← hqm]; exact HQ.out.2⟩
      rw [hqm] at hm hm1 ⊢
      have HM64 := Aside0.mk hm
      clear hqm hm HQL
      go_upto_block 2 with fail
      refine innerL _ A1 m c1 q kl s0 s1 s2 s3 s4 s5 s6 s7 w wr _ (by intro _ _ n _ _ h; cases n <;> exact h) _ (by rfl) _ _ _ _ _ _ _ _ _ _ _ _ _ _ _ _ _ _ _ _ _ _ _ _ _ _ _ _ _ _ _ _ _ _ _ _ _ _ _ _ _ _ _ _ _ _ _ _ _ _ _ _ _ _ _ _ _ _ _ _ _ _ _ _ _ _ _ _ _ _ _ _ _ _ _ _ _ _ _ _ _ _ _ _ _ _ _ _ _ _ _ _ _ _ _ _ _ _ _ _ _ _ _ _ _ _ _ _ _ _ _ _ _ _ _ _ _ _ _ _ _ _ _ _ _ _ _ _ _ _ _ _ _ _ _ _ _ _ _ _ _ _ _ _ _ _ _ _ _ _ _ _ _ _ _ _ _ _ _ _ _ _ _ _ _ _ _ _ _ _ _ _ _ _ _ _ _ _ _ _ _ _ _ _ _ _ _ _ _ _ _ _ _ _ _ _ _ _ _ _ _ _ _ _ _ _ _ _ _ _ _ _ _ _ _ _ _ _ _ _ _ _ _ _ _ _ _ _ _ _ _ _ _ _ _ _ _ _ _ _ _ _ _ _ _ _ _ _ _ _ _ _ _ _ _ _ _ _ _ _ _ _ _ _ _ _ _ _ _ _ _ HK HRM HM64 HB HW ?_
      intro z21 z22 z23 z24 z25 z26 z27 z28 z80 z81 z82 z83 z84 z85 z86 z87 z88 z89 z90 z91 z92 z93 z94 z95 z96 z97 z98 z99 z100 z101 z102 z103 z104 z105 z106 z107 z108 z109 z110 z111 z112 z113 z114 z115 z116 z117 z118 z119 z120 z121 z122 z123 z124 z125 z126 z127 z128 z129 z130 z131 z132 z133 z134 z135 z136 z137 z138 z139 z140 z141 z142 z143 z144 z145 z146 z147 z148 z149 z150 z151 z152 z153 z154 z155 z156 z157 z158 z159 z160 z161 z162 z163 z164 z165 z166 z167 z168 z169 z170 z171 z172 z173 z174 z175 z176 z177 z178 z179 z180 z181 z182 z183 z184 z185 z186 z187 z188 z189 z190 z191 z192 z193 z194 z195 z196 z197 z198 z199 z200 z201 z202 z203 z204 z205 z206 z207 z208 z209 z210 z211 z212 z213 z214 z215 z216 t wx HT HB2 HW2
      clear HB HW hm1
      obtain ⟨t0, t1, t2, t3, t4, t5, t6, t7⟩ := t
      obtain ⟨i05, hi05, _, hsz5, _⟩ := info_parts info5
      obtain ⟨A2, hcut2, hA2, hc2⟩ := print_drop_of (P := Tryd.prog) (Value.int .u8) 0 26 5 .i64 Tryd.underlying26 hi05 hsz5 A1 c1 q 64 (by decide) (by have := HM64.out; have := HM.out; omega) (by have := HQ.out.1; have := HM.out; omega)
      have HR2 : Aside0 (ReadsInt w .u8 A2 (q.drop 64).length (q.drop 64)) := ⟨readsInt_of.2 (hA2 w (readsInt_of.1 (HQ.out.2)))⟩
      have HC2 : Aside0 ((q.drop 64).length ≤ c1 - 64) := ⟨hc2⟩
      have HDD : Aside0 (p.drop (64 * (n + 1)) = q.drop 64) := ⟨by rw [← HQE.out, List.drop_drop]; congr 1⟩
      have HNN : Aside0 (n < p.length / 64) := ⟨by have := HM64.out; have := HM.out; rw [← HQE.out, List.length_drop] at this; omega⟩
      rw [HM.out, show (64 : Int).toNat = 64 from rfl] at hcut2
      clear hA2 hc2 hi05 hsz5
      go_wp2_with fail
      go_roundg (gk1 - 1)
      case measure => exact meas1 HKN.out HNN.out
      case rel => exact ⟨n + 1, A2, c1 - 64, blk kl q ⟨s0, s1, s2, s3, s4, s5, s6, s7⟩, by rw [HDD.out, List.length_drop, HM.out], by rw [blk, ← HT.out]; rfl, by rw [blk, ← HT.out]; rfl, by rw [blk, ← HT.out]; rfl, by rw [blk, ← HT.out]; rfl, by rw [blk, ← HT.out]; rfl, by rw [blk, ← HT.out]; rfl, by rw [blk, ← HT.out]; rfl, by rw [blk, ← HT.out]; rfl, ⟨meas2 HKN.out HNN.out⟩, ⟨by rw [blks, HQE.out, ← HSN.out]⟩, HB2, HW2, ⟨by rw [HDD.out]; exact ⟨HC2.out, HR2.out⟩⟩⟩
    · have hm1 : ¬ (64 ≤ (q.length : Int)) := by omega
      have HNE : Aside0 (n = p.length / 64) := ⟨by have := HQL.out; have := HKN.out; omega⟩
      have HDF := Aside0.mk (HD.out.below HB.out)
      go_upto_region 35 with fail
      have G0 : Aside0 (wr.heap[g]? = some (.cells (wordC [a0, a1, a2, a3, a4, a5, a6, a7] ++ (byteC xs ++ [Value.int .i64 nx, Value.int .u64 len, Value.bool false])).toArray 121 (0, 0))) := ⟨by rw [← HA.out]; exact HDF.out.blk⟩
      have HX64 : Aside0 (xs.length = 64) := ⟨HDF.out.x64⟩
      refine lastL g a0 a1 a2 a3 a4 a5 a6 a7 s0 s1 s2 s3 s4 s5 s6 s7 _ wr _ (by intro _ _ n _ _ h; cases n <;> exact h) _ (by rfl) _ _ _ _ _ _ _ _ _ _ _ _ _ _ _ _ _ _ _ _ _ _ _ _ _ _ _ _ _ _ _ _ _ _ _ _ _ _ _ _ _ _ _ _ _ _ _ _ _ _ _ _ _ _ _ _ _ _ _ _ _ _ _ _ _ _ _ _ _ _ _ _ _ _ _ _ _ _ _ _ _ _ _ _ _ _ _ _ _ _ _ _ _ _ _ _ _ _ _ _ _ _ _ _ _ _ _ _ _ _ _ _ _ _ _ _ _ _ _ _ _ _ _ _ _ _ _ _ _ _ _ _ _ _ _ _ _ _ _ _ _ _ _ _ _ _ _ _ _ _ _ _ _ _ _ _ _ _ _ _ _ _ _ _ _ _ _ _ _ _ _ _ _ _ _ _ _ _ _ _ _ _ _ _ _ _ _ _ _ _ _ _ _ _ _ _ _ _ _ _ _ _ _ _ _ _ _ _ _ _ _ _ _ _ _ _ _ _ _ _ _ _ _ _ _ _ _ _ _ _ _ _ _ _ _ _ _ _ _ _ _ _ _ _ _ _ _ _ _ _ _ _ _ _ _ _ _ _ _ _ _ _ _ _ _ _ _ _ _ _ _ _ _ _ G0 ?_
      intro z243 z244 z245 z246 z247 z248 z249 z250 z251 z252 z253 z254 z255 z256 z257 z258 z259 z260 z261 z262 z263 z264 z265 z266 z267 z268 z269 z270 z271 z272 z273 z274 z275 z276 z277 z278 z279 z280 z281 z282 wx GX OX
      have HDZ : Aside0 (Dig wx g [s0, s1, s2, s3, s4, s5, s6, s7] xs nx len) := ⟨⟨GX.out, rfl, HX64.out⟩⟩
      have HON : Aside0 (Only g w wx) := ⟨(Only.of_below HB.out).trans OX.out⟩
      go_wp2_with fail
      go_end0
      have h : Dig _ g (H8.l ⟨s0, s1, s2, s3, s4, s5, s6, s7⟩) xs nx len := HDZ.out
      rw [HSN.out, HNE.out] at h
      rw [HA.out]
      exact ⟨rfl, h, HON.out⟩
end Go.Proofs.YtigpdgfhngknhaaDoor.Sha
/- The hash: bytes laid down, the state begun. -/
namespace Go.Proofs.YtigpdgfhngknhaaDoor.Sha
open Go.RowKit Go.Proofs.YtigpdgfhngknhaaDoorW.PrintWords Go.Proofs.YtigpdgfhngknhaaDoorW.PrintLast Go.Proofs.YtigpdgfhngknhaaDoorW.PrintMore Go.Proofs.YtigpdgfhngknhaaDoor.QFnTapRoot
set_option linter.unusedVariables false
set_option linter.unusedSimpArgs false
theorem byteC_set (l : List Int) (j : Nat) (v : Int) : (byteC l).set j (.int .u8 v) = byteC (l.set j v) := by unfold byteC; rw [List.map_set]
theorem row_set {l : List Int} {t : TypeId} {W : World} {g : Nat} (h : W.heap[g]? = some (.cells (byteC l).toArray t (0, 0))) (j : Nat) (v : Int) : (W.setCell ⟨g, j, none⟩ (.int .u8 v)).heap[g]? = some (.cells (byteC (l.set j v)).toArray t (0, 0)) := by
  rw [heap_set_same h (j := j) (.int .u8 v), List.setIfInBounds_toArray, byteC_set]
theorem row_cell {l : List Int} {t : TypeId} {W : World} {g : Nat} (h : W.heap[g]? = some (.cells (byteC l).toArray t (0, 0))) (j : Nat) (hj : j < l.length) : W.cell? ⟨g, j, none⟩ = some (.int .u8 (l.getD j 0)) :=
  cell_of h (by rw [List.getElem?_toArray]; exact byteC_at hj)
def put4 (l : List Int) (o : Nat) (v : Int) : List Int := ((((l.set o ((v / 16777216) % 256)).set (o + 1) ((v / 65536) % 256)).set (o + 2) ((v / 256) % 256)).set (o + 3) (v % 256))
set_option maxRecDepth 100000 in
set_option maxHeartbeats 4000000 in
theorem put4I (g o n c : Nat) (l : List Int) (t : TypeId) (v : Int) (w : World) (h : w.heap[g]? = some (.cells (byteC l).toArray t (0, 0))) (ho : o + 4 ≤ l.length) (hn : 4 ≤ n) :
    Calls Tryd.prog 115 #[.slice (some ⟨g, o, none⟩) n c, .int .u32 v] w fun e w' => e = .returned (.tuple #[]) ∧ w'.heap[g]? = some (.cells (byteC (put4 l o v)).toArray t (0, 0)) ∧ Only g w w' := by
  have hn1 : 3 < (n : Int) := by omega
  have G0 := Aside0.mk h
  have HO := Aside0.mk ho
  have z9 := row_cell h (o + 3) (by omega)
  clear h ho
  go_enter Tryd.func115, Tryd.ntmps115
  go_upto_region 1 with fail
  clear z9
  have z0 := row_cell G0.out (o) (by have := HO.out; (try simp only [List.length_set]); omega)
  have f0 := frozen_of G0.out (o)
  go_upto_region 2 with fail
  generalize hv1 : World.setCell _ _ _ = v1
  have G1 : Aside0 (v1.heap[g]? = some (.cells (byteC (l.set o ((v / 16777216) % 256))).toArray t (0, 0))) := ⟨by rw [← hv1]; exact row_set (W := w) G0.out _ _⟩
  have O1 : Aside0 (Only g w v1) := ⟨by rw [← hv1]; exact (Only.refl g w).set _ _⟩
  clear hv1 z0 f0
  have z1 := row_cell G1.out (o + 1) (by have := HO.out; (try simp only [List.length_set]); omega)
  have f1 := frozen_of G1.out (o + 1)
  go_upto_region 3 with fail
  generalize hv2 : World.setCell _ _ _ = v2
  have G2 : Aside0 (v2.heap[g]? = some (.cells (byteC ((l.set o ((v / 16777216) % 256)).set (o + 1) ((v / 65536) % 256))).toArray t (0, 0))) := ⟨by rw [← hv2]; exact row_set (W := v1) G1.out _ _⟩
  have O2 : Aside0 (Only g w v2) := ⟨by rw [← hv2]; exact O1.out.set _ _⟩
  clear hv2 z1 f1
  have z2 := row_cell G2.out (o + 2) (by have := HO.out; (try simp only [List.length_set]); omega)
  have f2 := frozen_of G2.out (o + 2)
  go_upto_region 4 with fail
  generalize hv3 : World.setCell _ _ _ = v3
  have G3 : Aside0 (v3.heap[g]? = some (.cells (byteC (((l.set o ((v / 16777216) % 256)).set (o + 1) ((v / 65536) % 256)).set (o + 2) ((v / 256) % 256))).toArray t (0, 0))) := ⟨by rw [← hv3]; exact row_set (W := v2) G2.out _ _⟩
  have O3 : Aside0 (Only g w v3) := ⟨by rw [← hv3]; exact O2.out.set _ _⟩
  clear hv3 z2 f2
  have z3 := row_cell G3.out (o + 3) (by have := HO.out; (try simp only [List.length_set]); omega)
  have f3 := frozen_of G3.out (o + 3)
  go_wp2_with fail
  go_end0
  exact ⟨rfl, row_set (W := v3) G3.out _ _, O3.out.set _ _⟩
set_option maxRecDepth 100000 in
theorem put4C (g o n c : Nat) (l : List Int) (t : TypeId) (v : Int) (w : World) (h : w.heap[g]? = some (.cells (byteC l).toArray t (0, 0))) (ho : o + 4 ≤ l.length) (hn : 4 ≤ n) :
    Calls Tryd.prog 112 #[.slice (some ⟨g, o, none⟩) n c, .int .u32 v] w fun e w' => e = .returned (.tuple #[]) ∧ w'.heap[g]? = some (.cells (byteC (put4 l o v)).toArray t (0, 0)) ∧ Only g w w' := by
  have HC := Aside0.mk (put4I g o n c l t v w h ho hn)
  clear h ho hn
  go_enter Tryd.func112, Tryd.ntmps112
  go_wp2_with (go_at_call 115; (with_reducible refine HC.out.mono ?_); rintro e w' ⟨rfl, h1, h2⟩; have H1 := Aside0.mk h1; have H2 := Aside0.mk h2; clear h1 h2)
  go_end0
  exact ⟨rfl, H1.out, H2.out⟩
def put8 (l : List Int) (o : Nat) (v : Int) : List Int := ((((((((l.set o ((v / 72057594037927936) % 256)).set (o + 1) ((v / 281474976710656) % 256)).set (o + 2) ((v / 1099511627776) % 256)).set (o + 3) ((v / 4294967296) % 256)).set (o + 4) ((v / 16777216) % 256)).set (o + 5) ((v / 65536) % 256)).set (o + 6) ((v / 256) % 256)).set (o + 7) (v % 256))
set_option maxRecDepth 100000 in
set_option maxHeartbeats 4000000 in
theorem put8I (g o n c : Nat) (l : List Int) (t : TypeId) (v : Int) (w : World) (h : w.heap[g]? = some (.cells (byteC l).toArray t (0, 0))) (ho : o + 8 ≤ l.length) (hn : 8 ≤ n) :
    Calls Tryd.prog 114 #[.slice (some ⟨g, o, none⟩) n c, .int .u64 v] w fun e w' => e = .returned (.tuple #[]) ∧ w'.heap[g]? = some (.cells (byteC (put8 l o v)).toArray t (0, 0)) ∧ Only g w w' := by
  have hn1 : 7 < (n : Int) := by omega
  have G0 := Aside0.mk h
  have HO := Aside0.mk ho
  have z9 := row_cell h (o + 7) (by omega)
  clear h ho
  go_enter Tryd.func114, Tryd.ntmps114
  go_upto_region 1 with fail
  clear z9
  have z0 := row_cell G0.out (o) (by have := HO.out; (try simp only [List.length_set]); omega)
  have f0 := frozen_of G0.out (o)
  go_upto_region 2 with fail
  generalize hv1 : World.setCell _ _ _ = v1
  have G1 : Aside0 (v1.heap[g]? = some (.cells (byteC (l.set o ((v / 72057594037927936) % 256))).toArray t (0, 0))) := ⟨by rw [← hv1]; exact row_set (W := w) G0.out _ _⟩
  have O1 : Aside0 (Only g w v1) := ⟨by rw [← hv1]; exact (Only.refl g w).set _ _⟩
  clear hv1 z0 f0
  have z1 := row_cell G1.out (o + 1) (by have := HO.out; (try simp only [List.length_set]); omega)
  have f1 := frozen_of G1.out (o + 1)
  go_upto_region 3 with fail
  generalize hv2 : World.setCell _ _ _ = v2
  have G2 : Aside0 (v2.heap[g]? = some (.cells (byteC ((l.set o ((v / 72057594037927936) % 256)).set (o + 1) ((v / 281474976710656) % 256))).toArray t (0, 0))) := ⟨by rw [← hv2]; exact row_set (W := v1) G1.out _ _⟩
  have O2 : Aside0 (Only g w v2) := ⟨by rw [← hv2]; exact O1.out.set _ _⟩
  clear hv2 z1 f1
  have z2 := row_cell G2.out (o + 2) (by have := HO.out; (try simp only [List.length_set]); omega)
  have f2 := frozen_of G2.out (o + 2)
  go_upto_region 4 with fail
  generalize hv3 : World.setCell _ _ _ = v3
  have G3 : Aside0 (v3.heap[g]? = some (.cells (byteC (((l.set o ((v / 72057594037927936) % 256)).set (o + 1) ((v / 281474976710656) % 256)).set (o + 2) ((v / 1099511627776) % 256))).toArray t (0, 0))) := ⟨by rw [← hv3]; exact row_set (W := v2) G2.out _ _⟩
  have O3 : Aside0 (Only g w v3) := ⟨by rw [← hv3]; exact O2.out.set _ _⟩
  clear hv3 z2 f2
  have z3 := row_cell G3.out (o + 3) (by have := HO.out; (try simp only [List.length_set]); omega)
  have f3 := frozen_of G3.out (o + 3)
  go_upto_region 5 with fail
  generalize hv4 : World.setCell _ _ _ = v4
  have G4 : Aside0 (v4.heap[g]? = some (.cells (byteC ((((l.set o ((v / 72057594037927936) % 256)).set (o + 1) ((v / 281474976710656) % 256)).set (o + 2) ((v / 1099511627776) % 256)).set (o + 3) ((v / 4294967296) % 256))).toArray t (0, 0))) := ⟨by rw [← hv4]; exact row_set (W := v3) G3.out _ _⟩
  have O4 : Aside0 (Only g w v4) := ⟨by rw [← hv4]; exact O3.out.set _ _⟩
  clear hv4 z3 f3
  have z4 := row_cell G4.out (o + 4) (by have := HO.out; (try simp only [List.length_set]); omega)
  have f4 := frozen_of G4.out (o + 4)
  go_upto_region 6 with fail
  generalize hv5 : World.setCell _ _ _ = v5
  have G5 : Aside0 (v5.heap[g]? = some (.cells (byteC (((((l.set o ((v / 72057594037927936) % 256)).set (o + 1) ((v / 281474976710656) % 256)).set (o + 2) ((v / 1099511627776) % 256)).set (o + 3) ((v / 4294967296) % 256)).set (o + 4) ((v / 16777216) % 256))).toArray t (0, 0))) := ⟨by rw [← hv5]; exact row_set (W := v4) G4.out _ _⟩
  have O5 : Aside0 (Only g w v5) := ⟨by rw [← hv5]; exact O4.out.set _ _⟩
  clear hv5 z4 f4
  have z5 := row_cell G5.out (o + 5) (by have := HO.out; (try simp only [List.length_set]); omega)
  have f5 := frozen_of G5.out (o + 5)
  go_upto_region 7 with fail
  generalize hv6 : World.setCell _ _ _ = v6
  have G6 : Aside0 (v6.heap[g]? = some (.cells (byteC ((((((l.set o ((v / 72057594037927936) % 256)).set (o + 1) ((v / 281474976710656) % 256)).set (o + 2) ((v / 1099511627776) % 256)).set (o + 3) ((v / 4294967296) % 256)).set (o + 4) ((v / 16777216) % 256)).set (o + 5) ((v / 65536) % 256))).toArray t (0, 0))) := ⟨by rw [← hv6]; exact row_set (W := v5) G5.out _ _⟩
  have O6 : Aside0 (Only g w v6) := ⟨by rw [← hv6]; exact O5.out.set _ _⟩
  clear hv6 z5 f5
  have z6 := row_cell G6.out (o + 6) (by have := HO.out; (try simp only [List.length_set]); omega)
  have f6 := frozen_of G6.out (o + 6)
  go_upto_region 8 with fail
  generalize hv7 : World.setCell _ _ _ = v7
  have G7 : Aside0 (v7.heap[g]? = some (.cells (byteC (((((((l.set o ((v / 72057594037927936) % 256)).set (o + 1) ((v / 281474976710656) % 256)).set (o + 2) ((v / 1099511627776) % 256)).set (o + 3) ((v / 4294967296) % 256)).set (o + 4) ((v / 16777216) % 256)).set (o + 5) ((v / 65536) % 256)).set (o + 6) ((v / 256) % 256))).toArray t (0, 0))) := ⟨by rw [← hv7]; exact row_set (W := v6) G6.out _ _⟩
  have O7 : Aside0 (Only g w v7) := ⟨by rw [← hv7]; exact O6.out.set _ _⟩
  clear hv7 z6 f6
  have z7 := row_cell G7.out (o + 7) (by have := HO.out; (try simp only [List.length_set]); omega)
  have f7 := frozen_of G7.out (o + 7)
  go_wp2_with fail
  go_end0
  exact ⟨rfl, row_set (W := v7) G7.out _ _, O7.out.set _ _⟩
set_option maxRecDepth 100000 in
theorem put8C (g o n c : Nat) (l : List Int) (t : TypeId) (v : Int) (w : World) (h : w.heap[g]? = some (.cells (byteC l).toArray t (0, 0))) (ho : o + 8 ≤ l.length) (hn : 8 ≤ n) :
    Calls Tryd.prog 111 #[.slice (some ⟨g, o, none⟩) n c, .int .u64 v] w fun e w' => e = .returned (.tuple #[]) ∧ w'.heap[g]? = some (.cells (byteC (put8 l o v)).toArray t (0, 0)) ∧ Only g w w' := by
  have HC := Aside0.mk (put8I g o n c l t v w h ho hn)
  clear h ho hn
  go_enter Tryd.func111, Tryd.ntmps111
  go_wp2_with (go_at_call 114; (with_reducible refine HC.out.mono ?_); rintro e w' ⟨rfl, h1, h2⟩; have H1 := Aside0.mk h1; have H2 := Aside0.mk h2; clear h1 h2)
  go_end0
  exact ⟨rfl, H1.out, H2.out⟩
end Go.Proofs.YtigpdgfhngknhaaDoor.Sha
/- The hash: a state begun anew; a state made; blocks. -/
namespace Go.Proofs.YtigpdgfhngknhaaDoor.Sha
open Go.RowKit Go.Proofs.YtigpdgfhngknhaaDoorW.PrintWords Go.Proofs.YtigpdgfhngknhaaDoorW.PrintLast Go.Proofs.YtigpdgfhngknhaaDoorW.PrintMore Go.Proofs.YtigpdgfhngknhaaDoor.QFnTapRoot
set_option linter.unusedVariables false
set_option linter.unusedSimpArgs false
theorem tail_at {hs xs : List Int} (h8 : hs.length = 8) (x64 : xs.length = 64) (rs : List Value) (k : Nat) : (wordC hs ++ (byteC xs ++ rs))[72 + k]? = rs[k]? := by
  rw [List.getElem?_append_right (by rw [wordC_len]; omega), wordC_len, h8, List.getElem?_append_right (by rw [byteC_len]; omega), byteC_len, x64]
  congr 1; omega
theorem tail_set {hs xs : List Int} (h8 : hs.length = 8) (x64 : xs.length = 64) (rs : List Value) (k : Nat) (u : Value) : (wordC hs ++ (byteC xs ++ rs)).set (72 + k) u = wordC hs ++ (byteC xs ++ rs.set k u) := by
  rw [List.set_append_right _ _ (by rw [wordC_len]; omega), wordC_len, h8, List.set_append_right _ _ (by rw [byteC_len]; omega), byteC_len, x64]
  congr 3; omega
section
variable {w : World} {g : Nat} {hs xs : List Int} {nx len : Int}
theorem Dig.nxc (h : Dig w g hs xs nx len) : w.cell? ⟨g, 72, none⟩ = some (.int .i64 nx) := cell_of h.blk (by rw [List.getElem?_toArray, show 72 = 72 + 0 from rfl, tail_at h.h8 h.x64]; rfl)
theorem Dig.lenc (h : Dig w g hs xs nx len) : w.cell? ⟨g, 73, none⟩ = some (.int .u64 len) := cell_of h.blk (by rw [List.getElem?_toArray, show 73 = 72 + 1 from rfl, tail_at h.h8 h.x64]; rfl)
theorem Dig.flagc (h : Dig w g hs xs nx len) : w.cell? ⟨g, 74, none⟩ = some (.bool false) := cell_of h.blk (by rw [List.getElem?_toArray, show 74 = 72 + 2 from rfl, tail_at h.h8 h.x64]; rfl)
theorem Dig.free (h : Dig w g hs xs nx len) (j : Nat) : w.frozen? ⟨g, j, none⟩ = false := frozen_of h.blk j
theorem Dig.setH (h : Dig w g hs xs nx len) (j : Nat) (hj : j < 8) (v : Int) : Dig (w.setCell ⟨g, j, none⟩ (.int .u32 v)) g (hs.set j v) xs nx len := ⟨dig_set h.blk j (by rw [h.h8]; exact hj) v, by rw [List.length_set]; exact h.h8, h.x64⟩
theorem Dig.setNx (h : Dig w g hs xs nx len) (v : Int) : Dig (w.setCell ⟨g, 72, none⟩ (.int .i64 v)) g hs xs v len :=
  ⟨by rw [heap_set_same h.blk (j := 72) (.int .i64 v), List.setIfInBounds_toArray, show 72 = 72 + 0 from rfl, tail_set h.h8 h.x64]; rfl, h.h8, h.x64⟩
theorem Dig.setLen (h : Dig w g hs xs nx len) (v : Int) : Dig (w.setCell ⟨g, 73, none⟩ (.int .u64 v)) g hs xs nx v :=
  ⟨by rw [heap_set_same h.blk (j := 73) (.int .u64 v), List.setIfInBounds_toArray, show 73 = 72 + 1 from rfl, tail_set h.h8 h.x64]; rfl, h.h8, h.x64⟩
end
def iv : H8 := ⟨1779033703, 3144134277, 1013904242, 2773480762, 1359893119, 2600822924, 528734635, 1541459225⟩
set_option maxRecDepth 100000 in
set_option maxHeartbeats 4000000 in
theorem resetC (g : Nat) (hs xs : List Int) (nx len : Int) (w : World) (h : Dig w g hs xs nx len) :
    Calls Tryd.prog 65 #[.pointer (some ⟨g, 0, none⟩)] w fun e w' => e = .returned (.tuple #[]) ∧ Dig w' g iv.l xs 0 0 ∧ Only g w w' := by
  have G0 := Aside0.mk h
  have HX : Aside0 (∃ b0 b1 b2 b3 b4 b5 b6 b7, hs = [b0, b1, b2, b3, b4, b5, b6, b7]) := ⟨by
    have h8 := h.h8
    match hs, h8 with
    | [b0, b1, b2, b3, b4, b5, b6, b7], _ => exact ⟨b0, b1, b2, b3, b4, b5, b6, b7, rfl⟩⟩
  have z9 := h.flagc
  clear h
  go_enter Tryd.func65, Tryd.ntmps65
  go_upto_region 1 with fail
  clear z9
  have z0 := (show w.cell? ⟨g, 0, none⟩ = some (.int .u32 _) from G0.out.hcell 0 (by decide))
  have f0 := G0.out.free 0
  go_upto_region 2 with fail
  generalize hv1 : World.setCell _ _ _ = v1
  have G1 : Aside0 (Dig v1 g (hs.set 0 1779033703) xs nx len) := ⟨by rw [← hv1]; exact G0.out.setH 0 (by decide) 1779033703⟩
  have O1 : Aside0 (Only g w v1) := ⟨by rw [← hv1]; exact (Only.refl g w).set _ _⟩
  clear hv1 z0 f0
  have z1 := (show v1.cell? ⟨g, 1, none⟩ = some (.int .u32 _) from G1.out.hcell 1 (by decide))
  have f1 := G1.out.free 1
  go_upto_region 3 with fail
  generalize hv2 : World.setCell _ _ _ = v2
  have G2 : Aside0 (Dig v2 g ((hs.set 0 1779033703).set 1 3144134277) xs nx len) := ⟨by rw [← hv2]; exact G1.out.setH 1 (by decide) 3144134277⟩
  have O2 : Aside0 (Only g w v2) := ⟨by rw [← hv2]; exact O1.out.set _ _⟩
  clear hv2 z1 f1
  have z2 := (show v2.cell? ⟨g, 2, none⟩ = some (.int .u32 _) from G2.out.hcell 2 (by decide))
  have f2 := G2.out.free 2
  go_upto_region 4 with fail
  generalize hv3 : World.setCell _ _ _ = v3
  have G3 : Aside0 (Dig v3 g (((hs.set 0 1779033703).set 1 3144134277).set 2 1013904242) xs nx len) := ⟨by rw [← hv3]; exact G2.out.setH 2 (by decide) 1013904242⟩
  have O3 : Aside0 (Only g w v3) := ⟨by rw [← hv3]; exact O2.out.set _ _⟩
  clear hv3 z2 f2
  have z3 := (show v3.cell? ⟨g, 3, none⟩ = some (.int .u32 _) from G3.out.hcell 3 (by decide))
  have f3 := G3.out.free 3
  go_upto_region 5 with fail
  generalize hv4 : World.setCell _ _ _ = v4
  have G4 : Aside0 (Dig v4 g ((((hs.set 0 1779033703).set 1 3144134277).set 2 1013904242).set 3 2773480762) xs nx len) := ⟨by rw [← hv4]; exact G3.out.setH 3 (by decide) 2773480762⟩
  have O4 : Aside0 (Only g w v4) := ⟨by rw [← hv4]; exact O3.out.set _ _⟩
  clear hv4 z3 f3
  have z4 := (show v4.cell? ⟨g, 4, none⟩ = some (.int .u32 _) from G4.out.hcell 4 (by decide))
  have f4 := G4.out.free 4
  go_upto_region 6 with fail
  generalize hv5 : World.setCell _ _ _ = v5
  have G5 : Aside0 (Dig v5 g (((((hs.set 0 1779033703).set 1 3144134277).set 2 1013904242).set 3 2773480762).set 4 1359893119) xs nx len) := ⟨by rw [← hv5]; exact G4.out.setH 4 (by decide) 1359893119⟩
  have O5 : Aside0 (Only g w v5) := ⟨by rw [← hv5]; exact O4.out.set _ _⟩
  clear hv5 z4 f4
  have z5 := (show v5.cell? ⟨g, 5, none⟩ = some (.int .u32 _) from G5.out.hcell 5 (by decide))
  have f5 := G5.out.free 5
  go_upto_region 7 with fail
  generalize hv6 : World.setCell _ _ _ = v6
  have G6 : Aside0 (Dig v6 g ((((((hs.set 0 1779033703).set 1 3144134277).set 2 1013904242).set 3 2773480762).set 4 1359893119).set 5 2600822924) xs nx len) := ⟨by rw [← hv6]; exact G5.out.setH 5 (by decide) 2600822924⟩
  have O6 : Aside0 (Only g w v6) := ⟨by rw [← hv6]; exact O5.out.set _ _⟩
  clear hv6 z5 f5
  have z6 := (show v6.cell? ⟨g, 6, none⟩ = some (.int .u32 _) from G6.out.hcell 6 (by decide))
  have f6 := G6.out.free 6
  go_upto_region 8 with fail
  generalize hv7 : World.setCell _ _ _ = v7
  have G7 : Aside0 (Dig v7 g (((((((hs.set 0 1779033703).set 1 3144134277).set 2 1013904242).set 3 2773480762).set 4 1359893119).set 5 2600822924).set 6 528734635) xs nx len) := ⟨by rw [← hv7]; exact G6.out.setH 6 (by decide) 528734635⟩
  have O7 : Aside0 (Only g w v7) := ⟨by rw [← hv7]; exact O6.out.set _ _⟩
  clear hv7 z6 f6
  have z7 := (show v7.cell? ⟨g, 7, none⟩ = some (.int .u32 _) from G7.out.hcell 7 (by decide))
  have f7 := G7.out.free 7
  go_upto_region 17 with fail
  generalize hv8 : World.setCell _ _ _ = v8
  have G8 : Aside0 (Dig v8 g ((((((((hs.set 0 1779033703).set 1 3144134277).set 2 1013904242).set 3 2773480762).set 4 1359893119).set 5 2600822924).set 6 528734635).set 7 1541459225) xs nx len) := ⟨by rw [← hv8]; exact G7.out.setH 7 (by decide) 1541459225⟩
  have O8 : Aside0 (Only g w v8) := ⟨by rw [← hv8]; exact O7.out.set _ _⟩
  clear hv8 z7 f7
  have z8 := G8.out.nxc
  have f8 := G8.out.free 72
  go_upto_region 18 with fail
  generalize hv9 : World.setCell _ _ _ = v9
  have G9 : Aside0 (Dig v9 g ((((((((hs.set 0 1779033703).set 1 3144134277).set 2 1013904242).set 3 2773480762).set 4 1359893119).set 5 2600822924).set 6 528734635).set 7 1541459225) xs 0 len) := ⟨by rw [← hv9]; exact G8.out.setNx 0⟩
  have O9 : Aside0 (Only g w v9) := ⟨by rw [← hv9]; exact O8.out.set _ _⟩
  clear hv9 z8 f8
  have z9 := G9.out.lenc
  have f9 := G9.out.free 73
  go_wp2_with fail
  go_end0
  obtain ⟨b0, b1, b2, b3, b4, b5, b6, b7, rfl⟩ := HX.out
  exact ⟨rfl, G9.out.setLen 0, O9.out.set _ _⟩
set_option maxRecDepth 100000 in
set_option maxHeartbeats 4000000 in
theorem newC (w : World) : Calls Tryd.prog 57 #[] w fun e w' => e = .returned (.pointer (some ⟨w.heap.size, 0, none⟩)) ∧ Dig w' w.heap.size iv.l (List.replicate 64 0) 0 0 ∧ Below w.heap.size w w' := by
  go_enter Tryd.func57, Tryd.ntmps57
  go_upto_region 2 with fail
  generalize hw0 : w.alloc _ = w0
  have HB0 : Aside0 (Below w.heap.size w w0) := ⟨by rw [← hw0]; exact below_alloc (Below.refl _ _) _⟩
  have HD0 : Aside0 (Dig w0 w.heap.size (List.replicate 8 0) (List.replicate 64 0) 0 0) := ⟨⟨by rw [← hw0]; exact heap_alloc_new w _, by simp, by simp⟩⟩
  clear hw0
  go_wp2_with (go_at_call 65; (with_reducible refine (resetC w.heap.size _ _ _ _ w0 HD0.out).mono ?_); rintro e w2 ⟨rfl, h1, h2⟩; have H1 := Aside0.mk h1; have H2 := Aside0.mk h2; clear h1 h2)
  go_ret
  exact ⟨rfl, H1.out, H2.out.below HB0.out (Nat.le_refl _) HB0.out.size⟩
set_option maxRecDepth 100000 in
theorem blockW (g : Nat) (kl xs p : List Int) (s : H8) (nx len : Int) (A : Option Addr) (c : Nat) (w : World) (hd : Dig w g s.l xs nx len) (hk : KRow w kl) (hp : ReadsInt w .u8 A p.length p) (hc : p.length ≤ c) (hn : p.length ≤ 1000000000000) :
    Calls Tryd.prog 108 #[.pointer (some ⟨g, 0, none⟩), .slice A p.length c] w fun e w' => e = .returned (.tuple #[]) ∧ Dig w' g (blks kl p (p.length / 64) s).l xs nx len ∧ Only g w w' := by
  have HC : Aside0 (Calls Tryd.prog 64 #[.pointer (some ⟨g, 0, none⟩), .slice A p.length c] w fun e w' => e = .returned (.tuple #[]) ∧ Dig w' g (blks kl p (p.length / 64) s).l xs nx len ∧ Only g w w') := ⟨blockC g kl s.l xs nx len A c p w hd hk hp hc hn⟩
  obtain ⟨r, hr⟩ : ∃ r, blks kl p (p.length / 64) s = r := ⟨_, rfl⟩
  obtain ⟨m, hm⟩ : ∃ m, p.length = m := ⟨_, rfl⟩
  rw [hr] at HC ⊢
  rw [hm] at HC ⊢
  clear hd hk hp hc hn hr hm
  go_enter Tryd.func108, Tryd.ntmps108
  go_wp2_with (go_at_call 64; (with_reducible refine HC.out.mono ?_); rintro e w' ⟨rfl, h1, h2⟩; have H1 := Aside0.mk h1; have H2 := Aside0.mk h2; clear h1 h2)
  go_end0
  exact ⟨rfl, H1.out, H2.out⟩
end Go.Proofs.YtigpdgfhngknhaaDoor.Sha
/- The hash: what was written so far. -/
namespace Go.Proofs.YtigpdgfhngknhaaDoor.Sha
open Go.RowKit Go.Proofs.YtigpdgfhngknhaaDoorW.PrintWords Go.Proofs.YtigpdgfhngknhaaDoorW.PrintLast Go.Proofs.YtigpdgfhngknhaaDoorW.PrintMore Go.Proofs.YtigpdgfhngknhaaDoor.QFnTapRoot
set_option linter.unusedVariables false
set_option linter.unusedSimpArgs false
theorem getD_take {q q' : List Int} {m : Nat} (h : q.take m = q'.take m) {j : Nat} (hj : j < m) : q.getD j 0 = q'.getD j 0 := by
  rw [List.getD_eq_getElem?_getD, List.getD_eq_getElem?_getD, ← List.getElem?_take_of_lt (l := q) hj, h, List.getElem?_take_of_lt hj]
theorem word4_congr {q q' : List Int} (h : q.take 64 = q'.take 64) {n : Nat} (hn : n < 16) : word4 q n = word4 q' n := by
  unfold word4
  rw [getD_take h (by omega), getD_take h (show 4 * n + 1 < 64 by omega), getD_take h (show 4 * n + 2 < 64 by omega), getD_take h (show 4 * n + 3 < 64 by omega)]
theorem wnext_congr {q q' : List Int} (h : q.take 64 = q'.take 64) (l : List Int) (n : Nat) : wnext q l n = wnext q' l n := by
  unfold wnext
  split
  · exact word4_congr h ‹_›
  · rfl
theorem wl_congr {q q' : List Int} (h : q.take 64 = q'.take 64) : ∀ n, wl q n = wl q' n
  | 0 => rfl
  | n + 1 => by rw [wl, wl, wl_congr h n, wnext_congr h]
theorem rounds_congr {q q' : List Int} (kl : List Int) (h : q.take 64 = q'.take 64) (s : H8) : ∀ n, rounds kl q n s = rounds kl q' n s
  | 0 => rfl
  | n + 1 => by rw [rounds, rounds, rounds_congr kl h s n, wl_congr h, wnext_congr h]
theorem blk_congr {q q' : List Int} (kl : List Int) (h : q.take 64 = q'.take 64) (s : H8) : blk kl q s = blk kl q' s := by unfold blk; rw [rounds_congr kl h]
theorem blks_congr {p p' : List Int} (kl : List Int) (s : H8) : ∀ n, p.take (64 * n) = p'.take (64 * n) → blks kl p n s = blks kl p' n s
  | 0, _ => rfl
  | n + 1, h => by
    have h1 : p.take (64 * n) = p'.take (64 * n) := by
      have := congrArg (List.take (64 * n)) h
      rwa [List.take_take, List.take_take, show min (64 * n) (64 * (n + 1)) = 64 * n by omega] at this
    have h2 : (p.drop (64 * n)).take 64 = (p'.drop (64 * n)).take 64 := by
      have := congrArg (List.drop (64 * n)) h
      rw [List.drop_take, List.drop_take, show 64 * (n + 1) - 64 * n = 64 by omega] at this
      exact this
    rw [blks, blks, blks_congr kl s n h1, blk_congr kl h2]
theorem blks_add (kl p : List Int) (s : H8) (m : Nat) : ∀ n, blks kl p (m + n) s = blks kl (p.drop (64 * m)) n (blks kl p m s)
  | 0 => rfl
  | n + 1 => by
    rw [← Nat.add_assoc, blks, blks, blks_add kl p s m n, List.drop_drop, show 64 * m + 64 * n = 64 * (m + n) by omega]
/-- Whole blocks more. -/
theorem blks_more (kl bs p : List Int) (s : H8) (h : bs.length % 64 = 0) (n : Nat) (hn : 64 * n ≤ p.length) : blks kl p n (blks kl bs (bs.length / 64) s) = blks kl (bs ++ p.take (64 * n)) ((bs ++ p.take (64 * n)).length / 64) s := by
  have hl : (bs ++ p.take (64 * n)).length / 64 = bs.length / 64 + n := by rw [List.length_append, List.length_take]; omega
  have h64 : 64 * (bs.length / 64) = bs.length := by omega
  rw [hl, blks_add, h64, List.drop_left, blks_congr kl s (bs.length / 64) (p := bs ++ p.take (64 * n)) (p' := bs) (by rw [h64, List.take_left, List.take_length])]
  exact blks_congr kl _ n (by rw [List.take_take, Nat.min_self])
/-- The state of a hash to which bs was written (len: what its count says). -/
structure DigS (w : World) (g : Nat) (kl bs : List Int) (len : Int) : Prop where
  st : ∃ xs, Dig w g (blks kl bs (bs.length / 64) iv).l xs ((bs.length % 64 : Nat) : Int) len ∧ xs.take (bs.length % 64) = bs.drop (64 * (bs.length / 64))
theorem DigS.below {w w1 : World} {g : Nat} {kl bs : List Int} {len : Int} (h : DigS w g kl bs len) (hb : Below w.heap.size w w1) : DigS w1 g kl bs len := by
  obtain ⟨xs, h1, h2⟩ := h.st
  exact ⟨xs, h1.below hb, h2⟩
/-- Bytes that can be read whatever becomes of block g. -/
def RdS (w : World) (g : Nat) (A : Option Addr) (n : Nat) (q : List Int) : Prop := ∀ W, Only g w W → ReadsInt W .u8 A n q
/-- The room for a block of bytes, read as bytes. -/
theorem add_any (g o j : Nat) : (⟨g, o, none⟩ : Addr).add j = ⟨g, o + j, none⟩ := by
  unfold Addr.add
  split
  · rename_i h; rw [h]; rfl
  · rfl
theorem Dig.xcell {w : World} {g : Nat} {hs xs : List Int} {nx len : Int} (h : Dig w g hs xs nx len) (j : Nat) (hj : j < 64) : w.cell? ⟨g, 8 + j, none⟩ = some (.int .u8 (xs.getD j 0)) := by
  refine cell_of h.blk ?_
  rw [List.getElem?_toArray, List.getElem?_append_right (by rw [wordC_len, h.h8]; omega), wordC_len, h.h8, Nat.add_sub_cancel_left, List.getElem?_append_left (by rw [byteC_len, h.x64]; exact hj)]
  exact byteC_at (by rw [h.x64]; exact hj)
theorem Dig.reads {w : World} {g : Nat} {hs xs : List Int} {nx len : Int} (h : Dig w g hs xs nx len) : ReadsInt w .u8 (some ⟨g, 8, none⟩) 64 xs :=
  ⟨h.x64, by decide, fun _ => ⟨_, rfl, fun j hj => by rw [add_any]; exact h.xcell j hj⟩⟩
/-- A copy, as an operation of a region. -/
theorem run_copy_op {P : Program} {w : World} {ρ : Operand → Value} {o : Oper} (d s : Operand) (dT sT : TypeId)
    (ho : o.op = .call { callee := .builtin .copy, args := #[d, s], argTypes := #[dT, sT] }) (elem : TypeId) (hu : P.underlying dT = some (.slice elem)) (hsz : (P.info? elem).map (·.size) = some 1)
    (g off dLen dCap : Nat) (ad : Addr) (sLen sCap : Nat) (hd : ρ d = .slice (some ⟨g, off, none⟩) dLen dCap) (hs : ρ s = .slice (some ad) sLen sCap)
    (cur : Array Value) (t : TypeId) (hg : w.heap[g]? = some (.cells cur t (0, 0))) (cs : List Value) (hn : cs.length = Nat.min sLen dLen)
    (hsrc : ∀ j v, cs[j]? = some v → w.cell? (ad.add j) = some v) (hfit : off + cs.length ≤ cur.size) (h1 : ∀ v ∈ cs, v.oneCell' = true) :
    (execOp ρ o).run P w = .ok (.value (goInt cs.length)) (w.setRow g (cur.toList.take off ++ (cs ++ cur.toList.drop (off + cs.length))).toArray) := by
  have hrun := run_copy_row (P := P) w dT sT o.type elem g off dLen dCap ad sLen sCap cur t cs hu hsz hg hn hsrc hfit h1
  simp [execOp, ho, resolve, invoke, builtin, hd, hs, hrun, Result.andThen]
/-- An operation of a drawn region that yields a value and turns the world. -/
theorem val_ {P : Program} {ops : Array Oper} {Q : Exit → Act → World → Prop} {oi : Oper} {N : Option Tmp} {a : Act} {w w1 : World} {K : Act → World → Prop} (v : Value) (hw : Region.wanted oi (yielded ops a.tmps) = true) (hN : oi.dst = N) (hrun : (execOp a.eval oi).run P w = .ok (.value v) w1)
    (h : K (a.put N v) w1) : if Region.wanted oi (yielded ops a.tmps) = true then Oper.wp P oi a w K Q else K (a.put N undef) w := by
  rw [if_pos hw]
  unfold Oper.wp
  rw [hrun]
  subst hN
  exact h
theorem Dig.setX {w : World} {g : Nat} {hs xs : List Int} {nx len : Int} (h : Dig w g hs xs nx len) (r : Nat) (q : List Int) (hr : r + q.length ≤ 64) (C : List Value) (hC : C = wordC hs ++ (byteC xs ++ [Value.int .i64 nx, Value.int .u64 len, Value.bool false])) :
    Dig (w.setRow g (C.take (8 + r) ++ (byteC q ++ C.drop (8 + r + (byteC q).length))).toArray) g hs (xs.take r ++ (q ++ xs.drop (r + q.length))) nx len := by
  have hw := wordC_len hs
  have hb := byteC_len xs
  have h8 := h.h8
  have h64 := h.x64
  have e : C.take (8 + r) ++ (byteC q ++ C.drop (8 + r + (byteC q).length)) = wordC hs ++ (byteC (xs.take r ++ (q ++ xs.drop (r + q.length))) ++ [Value.int .i64 nx, Value.int .u64 len, Value.bool false]) := by
    rw [hC, byteC_len, List.take_append, List.drop_append, hw, h8, List.take_of_length_le (by omega), Nat.add_sub_cancel_left, List.take_append_of_le_length (by rw [hb]; omega), List.drop_eq_nil_of_le (by omega), List.nil_append, show 8 + r + q.length - 8 = r + q.length by omega, List.drop_append_of_le_length (by rw [hb]; omega)]
    unfold byteC
    simp only [List.map_append, List.map_take, List.map_drop, List.append_assoc]
  rw [e]
  exact ⟨setRow_heap w g _ _ _ _ h.blk, h8, by simp only [List.length_append, List.length_take, List.length_drop]; omega⟩
theorem only_setRow (g : Nat) (w : World) (cs : Array Value) : Only g w (w.setRow g cs) :=
  ⟨rfl, rfl, rfl, by simp [World.setRow], fun k hk hne => setRow_other w g k cs hne⟩
end Go.Proofs.YtigpdgfhngknhaaDoor.Sha
/- The hash: what is written fills a block that was begun. -/
namespace Go.Proofs.YtigpdgfhngknhaaDoor.Sha
open Go.RowKit Go.Proofs.YtigpdgfhngknhaaDoorW.PrintWords Go.Proofs.YtigpdgfhngknhaaDoorW.PrintLast Go.Proofs.YtigpdgfhngknhaaDoorW.PrintMore Go.Proofs.YtigpdgfhngknhaaDoor.QFnTapRoot
set_option linter.unusedVariables false
set_option linter.unusedSimpArgs false
theorem KRow.only {w w1 : World} {kl : List Int} {g : Nat} (h : KRow w kl) (ho : Only g w w1) (hg : g ≠ 6) : KRow w1 kl := fun j hj => ho.cell (p := ⟨_, j, none⟩) (fun e => hg e.symm) (h j hj)
theorem RdS.step {w w1 : World} {g : Nat} {A : Option Addr} {n : Nat} {q : List Int} (h : RdS w g A n q) (ho : Only g w w1) : RdS w1 g A n q := fun W hW => h W (ho.trans hW)
theorem RdS.drop {w : World} {g : Nat} {A : Option Addr} {c : Nat} {q : List Int} (h : RdS w g A q.length q) (hc : q.length ≤ c) (k : Nat) (hk : k ≤ q.length) : ∃ A' : Option Addr, (∀ W : World, (Instr.slice 26 (.slice A q.length c) (some (.int .i64 (k : Int))) none none).run Tryd.prog W = .ok (.slice A' (q.drop k).length (c - k)) W) ∧ RdS w g A' (q.drop k).length (q.drop k) ∧ (q.drop k).length ≤ c - k := by
  obtain ⟨i05, hi05, _, hsz5, _⟩ := info_parts info5
  obtain ⟨A', h1, h2, h3⟩ := print_drop_of (P := Tryd.prog) (Value.int .u8) 0 26 5 .i64 Tryd.underlying26 hi05 hsz5 A c q (k : Int) (Int.natCast_nonneg _) (by omega) hc
  rw [Int.toNat_natCast] at h1 h2 h3
  exact ⟨A', h1, fun W hW => readsInt_of.2 (h2 W (readsInt_of.1 (h W hW))), h3⟩
def digCells (hs xs : List Int) (nx len : Int) : List Value := wordC hs ++ (byteC xs ++ [Value.int .i64 nx, Value.int .u64 len, Value.bool false])
/-- The world behind a copy into the room of the state in block g. -/
def copyW (W : World) (g r : Nat) (hs xs : List Int) (nx len : Int) (q : List Int) : World :=
  if q.length = 0 then W else W.setRow g ((digCells hs xs nx len).take (8 + r) ++ (byteC q ++ (digCells hs xs nx len).drop (8 + r + (byteC q).length))).toArray
theorem copyW_dig {W : World} {g : Nat} {hs xs : List Int} {nx len : Int} (h : Dig W g hs xs nx len) (r : Nat) (q : List Int) (hr : r + q.length ≤ 64) : Dig (copyW W g r hs xs nx len q) g hs (xs.take r ++ (q ++ xs.drop (r + q.length))) nx len := by
  unfold copyW
  split
  · rename_i h0
    obtain rfl := List.eq_nil_of_length_eq_zero h0
    simpa using h
  · exact h.setX r q hr _ rfl
theorem copyW_only (W : World) (g r : Nat) (hs xs : List Int) (nx len : Int) (q : List Int) : Only g W (copyW W g r hs xs nx len q) := by
  unfold copyW
  split
  · exact Only.refl g W
  · exact only_setRow g W _
theorem copy_run {W : World} {ρ : Operand → Value} {o : Oper} (d s : Operand) (ho : o.op = .call { callee := .builtin .copy, args := #[d, s], argTypes := #[26, 26] }) {g : Nat} {hs xs : List Int} {nx len : Int} (h : Dig W g hs xs nx len) (r dc : Nat) (hr : r ≤ 64) {A : Option Addr} {c : Nat} {p : List Int}
    (hd : ρ d = .slice (some ⟨g, 8 + r, none⟩) (64 - r) dc) (hs' : ρ s = .slice A p.length c) (hp : ReadsInt W .u8 A p.length p) :
    (execOp ρ o).run Tryd.prog W = .ok (.value (.int .i64 (((p.take (64 - r)).length : Nat) : Int))) (copyW W g r hs xs nx len (p.take (64 - r))) := by
  have hsz : (Tryd.prog.info? 5).map (·.size) = some 1 := by kernel_rfl
  unfold copyW
  have hl : (p.take (64 - r)).length = Nat.min p.length (64 - r) := by rw [List.length_take, Nat.min_comm]
  split
  · rename_i h0
    have hrun := run_copy_none (P := Tryd.prog) W 26 26 o.type 5 (some ⟨g, 8 + r, none⟩) A (64 - r) dc p.length c Tryd.underlying26 hsz (by rw [← hl]; exact h0)
    rw [h0]
    simp [execOp, ho, resolve, invoke, builtin, hd, hs', hrun, Result.andThen]
    rfl
  · rename_i h0
    have hpos : 0 < p.length := by rw [List.length_take] at h0; omega
    obtain ⟨ad, rfl, hc⟩ := hp.2.2 hpos
    have hb := byteC_len (p.take (64 - r))
    have := run_copy_op (P := Tryd.prog) (w := W) (ρ := ρ) (o := o) d s 26 26 ho 5 Tryd.underlying26 hsz g (8 + r) (64 - r) dc ad p.length c hd hs' (digCells hs xs nx len).toArray _ h.blk (byteC (p.take (64 - r))) (by rw [hb, hl]) (fun j v hj => ?_) ?_ (fun v hv => ?_)
    · rw [this, hb]; rfl
    · have hjl : j < (p.take (64 - r)).length := by rw [← hb]; exact (List.getElem?_eq_some_iff.1 hj).1
      rw [byteC_at hjl] at hj
      obtain rfl := Option.some.inj hj
      rw [List.length_take] at hjl
      rw [hc j (by omega), List.getD_eq_getElem?_getD, List.getD_eq_getElem?_getD, List.getElem?_take_of_lt (by omega)]
    · rw [List.size_toArray]
      unfold digCells
      simp only [List.length_append, wordC_len, byteC_len, h.h8, h.x64, List.length_take, List.length_cons, List.length_nil]
      omega
    · unfold byteC at hv
      obtain ⟨x, _, rfl⟩ := List.mem_map.1 hv
      rfl
theorem slice_room (g r : Nat) (hr : r < 64) (w : World) : (Instr.sliceAt 119 (.pointer (some ⟨g, 8, none⟩)) (some (.int .i64 (r : Int))) none none).run Tryd.prog w = .ok (.slice (some ⟨g, 8 + r, none⟩) (64 - r) (64 - r)) w := by
  have ha : Tryd.prog.arrayLen 119 = 64 := by kernel_rfl
  have he : Tryd.prog.elem 119 = 5 := by kernel_rfl
  have hs : (sizeOf 5).run Tryd.prog w = .ok 1 w := by kernel_rfl
  have h := run_sliceAt_array_l (P := Tryd.prog) w 119 ⟨g, 8, none⟩ (by rw [ha, he]; exact Tryd.underlying119) .i64 (r : Int) (Int.natCast_nonneg _) (by rw [ha]; omega)
  rw [ha, he, hs] at h
  rw [h]
  show Result.ok (slicedAt _ _ _ _ _) w = _
  unfold slicedAt
  rw [Int.toNat_natCast, if_neg (by omega), add_any, Nat.mul_one]
theorem slice_room0 (g : Nat) (w : World) : (Instr.sliceAt 119 (.pointer (some ⟨g, 8, none⟩)) none none none).run Tryd.prog w = .ok (.slice (some ⟨g, 8, none⟩) 64 64) w := by
  have ha : Tryd.prog.arrayLen 119 = 64 := by kernel_rfl
  have he : Tryd.prog.elem 119 = 5 := by kernel_rfl
  have hs : (sizeOf 5).run Tryd.prog w = .ok 1 w := by kernel_rfl
  have h := run_sliceAt_array_all (P := Tryd.prog) w 119 ⟨g, 8, none⟩ (by rw [ha, he]; exact Tryd.underlying119)
  rw [ha, he, hs] at h
  rw [h]
  show Result.ok (slicedAt _ _ _ _ _) w = _
  unfold slicedAt
  rw [if_neg (by decide), Nat.zero_mul, add_any]
end Go.Proofs.YtigpdgfhngknhaaDoor.Sha
