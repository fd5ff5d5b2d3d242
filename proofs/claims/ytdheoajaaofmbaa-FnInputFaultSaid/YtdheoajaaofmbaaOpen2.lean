/- Data that came in, as rows: structs of several fields, arrays, texts. -/
import Derived.Test.YtdheoajaaofmbaaOpen
import Derived.Test.YtdheoajaaofmbaaWArr
import Derived.Test.YtdheoajaaofmbaaWShare
namespace Go.Proofs.Ytdheoajaaofmbaa.Open
open Go.RowKit Go.Proofs.YtdheoajaaofmbaaW.PrintWords
set_option linter.unusedVariables false
set_option linter.unusedSimpArgs false
theorem opens_string {P : Program} {t : TypeId} (ht : P.underlying t = some .string) : Opens P t Kd.string (fun _ => True) := by
  intro H enc w base sp held fuel cs y h
  obtain ⟨n, rfl, _⟩ := DataW.trod_string ht h
  exact ⟨n, trivial, rfl⟩
theorem opens_arr {α : Type} {P : Program} {t e : TypeId} {n : Nat} {d : Kd α} {V : α → Prop} {hs : 0 < d.sz} (ht : P.underlying t = some (.array n e)) (hc : P.cellsOf e = d.sz) (hn : P.cellsOf t = n * d.sz) (he : Opens P e d V) : Opens P t (Kd.arr n d hs) (fun xs => xs.length = n ∧ ∀ x ∈ xs, V x) := by
  intro H enc w base sp held fuel cs y h
  obtain ⟨ys, m, _, _, hl, hlen, hel⟩ := DataW.trod_array ht h
  have each : ∀ i, i < n → ∃ x, V x ∧ d.K w x ((cs.drop (i * d.sz)).take d.sz) := by
    intro i hi
    have h1 := hel i hi
    rw [hc, List.getElem?_eq_getElem (show i < ys.length by omega)] at h1
    exact he enc w base sp held m _ _ h1
  obtain ⟨xs, hxl, hx⟩ := pick_list _ n each
  refine ⟨xs, ⟨hxl, fun x hx2 => ?_⟩, hxl, by rw [hl, hn, hxl], fun j p hj => (hx j p hj).2⟩
  obtain ⟨i, hi⟩ := List.getElem?_of_mem hx2
  exact (hx i x hi).1
/-- A slice that came in, with all that it leads to. -/
theorem opened {α : Type} {d : Kd α} (hd : Kd.Heap d) {w : World} {e base n c : Nat} {A : Option Addr} {xs : List α} (hC : d.C w A n xs) (hc : n ≤ c) : Kd.V d e w base (fun k => k < w.heap.size) (.slice A xs.length c) xs := by
  have hn : xs.length = n := hC.1
  subst hn
  exact Kd.V_mk hc (Kd.C_F hd hC)
theorem opens_struct_2 {a0 : Type} {a1 : Type} {P : Program} {t : TypeId} {f0 f1 : Field} {d0 : Kd a0} {d1 : Kd a1} {V0 : a0 → Prop} {V1 : a1 → Prop} (ht : P.underlying t = some (.struct #[f0, f1]))
    (c0 : P.cellsOf f0.type = d0.sz) (c1 : P.cellsOf f1.type = d1.sz) (o0 : f0.offset = 0) (o1 : f1.offset = d0.sz) (hc : P.cellsOf t = d0.sz + d1.sz)
    (h0 : Opens P f0.type d0 V0) (h1 : Opens P f1.type d1 V1) : Opens P t (Kd.pair d0 d1) (fun x => V0 (x.1) ∧ V1 (x.2)) := by
  intro H enc w base sp held fuel cs y hy
  obtain ⟨ys, m, _, _, hl, hlen, hf⟩ := DataW.trod_struct ht hy
  match ys, hlen with
  | [y0, y1], _ =>
    have g0 := hf 0 f0 rfl
    rw [c0, o0] at g0
    obtain ⟨x0, v0, k0⟩ := h0 enc w base sp held m _ y0 g0
    have g1 := hf 1 f1 rfl
    rw [c1, o1] at g1
    obtain ⟨x1, v1, k1⟩ := h1 enc w base sp held m _ y1 g1
    rw [List.drop_zero] at k0
    rw [hc] at hl
    rw [List.take_of_length_le (by rw [List.length_drop]; omega)] at k1
    exact ⟨(x0, x1), ⟨v0, v1⟩, (cs).take d0.sz, (cs).drop d0.sz, (List.take_append_drop _ _).symm, by first | exact k0 | (simp only [List.drop_drop]; exact k0), by first | exact k1 | (simp only [List.drop_drop]; exact k1)⟩
theorem opens_struct_4 {a0 : Type} {a1 : Type} {a2 : Type} {a3 : Type} {P : Program} {t : TypeId} {f0 f1 f2 f3 : Field} {d0 : Kd a0} {d1 : Kd a1} {d2 : Kd a2} {d3 : Kd a3} {V0 : a0 → Prop} {V1 : a1 → Prop} {V2 : a2 → Prop} {V3 : a3 → Prop} (ht : P.underlying t = some (.struct #[f0, f1, f2, f3]))
    (c0 : P.cellsOf f0.type = d0.sz) (c1 : P.cellsOf f1.type = d1.sz) (c2 : P.cellsOf f2.type = d2.sz) (c3 : P.cellsOf f3.type = d3.sz) (o0 : f0.offset = 0) (o1 : f1.offset = d0.sz) (o2 : f2.offset = d0.sz + d1.sz) (o3 : f3.offset = d0.sz + d1.sz + d2.sz) (hc : P.cellsOf t = d0.sz + d1.sz + d2.sz + d3.sz)
    (h0 : Opens P f0.type d0 V0) (h1 : Opens P f1.type d1 V1) (h2 : Opens P f2.type d2 V2) (h3 : Opens P f3.type d3 V3) : Opens P t (Kd.pair d0 (Kd.pair d1 (Kd.pair d2 d3))) (fun x => V0 (x.1) ∧ V1 (x.2.1) ∧ V2 (x.2.2.1) ∧ V3 (x.2.2.2)) := by
  intro H enc w base sp held fuel cs y hy
  obtain ⟨ys, m, _, _, hl, hlen, hf⟩ := DataW.trod_struct ht hy
  match ys, hlen with
  | [y0, y1, y2, y3], _ =>
    have g0 := hf 0 f0 rfl
    rw [c0, o0] at g0
    obtain ⟨x0, v0, k0⟩ := h0 enc w base sp held m _ y0 g0
    have g1 := hf 1 f1 rfl
    rw [c1, o1] at g1
    obtain ⟨x1, v1, k1⟩ := h1 enc w base sp held m _ y1 g1
    have g2 := hf 2 f2 rfl
    rw [c2, o2] at g2
    obtain ⟨x2, v2, k2⟩ := h2 enc w base sp held m _ y2 g2
    have g3 := hf 3 f3 rfl
    rw [c3, o3] at g3
    obtain ⟨x3, v3, k3⟩ := h3 enc w base sp held m _ y3 g3
    rw [List.drop_zero] at k0
    rw [hc] at hl
    rw [List.take_of_length_le (by rw [List.length_drop]; omega)] at k3
    exact ⟨(x0, x1, x2, x3), ⟨v0, v1, v2, v3⟩, (cs).take d0.sz, (cs).drop d0.sz, (List.take_append_drop _ _).symm, by first | exact k0 | (simp only [List.drop_drop]; exact k0), ((cs).drop d0.sz).take d1.sz, ((cs).drop d0.sz).drop d1.sz, (List.take_append_drop _ _).symm, by first | exact k1 | (simp only [List.drop_drop]; exact k1), (((cs).drop d0.sz).drop d1.sz).take d2.sz, (((cs).drop d0.sz).drop d1.sz).drop d2.sz, (List.take_append_drop _ _).symm, by first | exact k2 | (simp only [List.drop_drop]; exact k2), by first | exact k3 | (simp only [List.drop_drop]; exact k3)⟩
theorem opens_struct_5 {a0 : Type} {a1 : Type} {a2 : Type} {a3 : Type} {a4 : Type} {P : Program} {t : TypeId} {f0 f1 f2 f3 f4 : Field} {d0 : Kd a0} {d1 : Kd a1} {d2 : Kd a2} {d3 : Kd a3} {d4 : Kd a4} {V0 : a0 → Prop} {V1 : a1 → Prop} {V2 : a2 → Prop} {V3 : a3 → Prop} {V4 : a4 → Prop} (ht : P.underlying t = some (.struct #[f0, f1, f2, f3, f4]))
    (c0 : P.cellsOf f0.type = d0.sz) (c1 : P.cellsOf f1.type = d1.sz) (c2 : P.cellsOf f2.type = d2.sz) (c3 : P.cellsOf f3.type = d3.sz) (c4 : P.cellsOf f4.type = d4.sz) (o0 : f0.offset = 0) (o1 : f1.offset = d0.sz) (o2 : f2.offset = d0.sz + d1.sz) (o3 : f3.offset = d0.sz + d1.sz + d2.sz) (o4 : f4.offset = d0.sz + d1.sz + d2.sz + d3.sz) (hc : P.cellsOf t = d0.sz + d1.sz + d2.sz + d3.sz + d4.sz)
    (h0 : Opens P f0.type d0 V0) (h1 : Opens P f1.type d1 V1) (h2 : Opens P f2.type d2 V2) (h3 : Opens P f3.type d3 V3) (h4 : Opens P f4.type d4 V4) : Opens P t (Kd.pair d0 (Kd.pair d1 (Kd.pair d2 (Kd.pair d3 d4)))) (fun x => V0 (x.1) ∧ V1 (x.2.1) ∧ V2 (x.2.2.1) ∧ V3 (x.2.2.2.1) ∧ V4 (x.2.2.2.2)) := by
  intro H enc w base sp held fuel cs y hy
  obtain ⟨ys, m, _, _, hl, hlen, hf⟩ := DataW.trod_struct ht hy
  match ys, hlen with
  | [y0, y1, y2, y3, y4], _ =>
    have g0 := hf 0 f0 rfl
    rw [c0, o0] at g0
    obtain ⟨x0, v0, k0⟩ := h0 enc w base sp held m _ y0 g0
    have g1 := hf 1 f1 rfl
    rw [c1, o1] at g1
    obtain ⟨x1, v1, k1⟩ := h1 enc w base sp held m _ y1 g1
    have g2 := hf 2 f2 rfl
    rw [c2, o2] at g2
    obtain ⟨x2, v2, k2⟩ := h2 enc w base sp held m _ y2 g2
    have g3 := hf 3 f3 rfl
    rw [c3, o3] at g3
    obtain ⟨x3, v3, k3⟩ := h3 enc w base sp held m _ y3 g3
    have g4 := hf 4 f4 rfl
    rw [c4, o4] at g4
    obtain ⟨x4, v4, k4⟩ := h4 enc w base sp held m _ y4 g4
    rw [List.drop_zero] at k0
    rw [hc] at hl
    rw [List.take_of_length_le (by rw [List.length_drop]; omega)] at k4
    exact ⟨(x0, x1, x2, x3, x4), ⟨v0, v1, v2, v3, v4⟩, (cs).take d0.sz, (cs).drop d0.sz, (List.take_append_drop _ _).symm, by first | exact k0 | (simp only [List.drop_drop]; exact k0), ((cs).drop d0.sz).take d1.sz, ((cs).drop d0.sz).drop d1.sz, (List.take_append_drop _ _).symm, by first | exact k1 | (simp only [List.drop_drop]; exact k1), (((cs).drop d0.sz).drop d1.sz).take d2.sz, (((cs).drop d0.sz).drop d1.sz).drop d2.sz, (List.take_append_drop _ _).symm, by first | exact k2 | (simp only [List.drop_drop]; exact k2), ((((cs).drop d0.sz).drop d1.sz).drop d2.sz).take d3.sz, ((((cs).drop d0.sz).drop d1.sz).drop d2.sz).drop d3.sz, (List.take_append_drop _ _).symm, by first | exact k3 | (simp only [List.drop_drop]; exact k3), by first | exact k4 | (simp only [List.drop_drop]; exact k4)⟩
theorem opens_struct_6 {a0 : Type} {a1 : Type} {a2 : Type} {a3 : Type} {a4 : Type} {a5 : Type} {P : Program} {t : TypeId} {f0 f1 f2 f3 f4 f5 : Field} {d0 : Kd a0} {d1 : Kd a1} {d2 : Kd a2} {d3 : Kd a3} {d4 : Kd a4} {d5 : Kd a5} {V0 : a0 → Prop} {V1 : a1 → Prop} {V2 : a2 → Prop} {V3 : a3 → Prop} {V4 : a4 → Prop} {V5 : a5 → Prop} (ht : P.underlying t = some (.struct #[f0, f1, f2, f3, f4, f5]))
    (c0 : P.cellsOf f0.type = d0.sz) (c1 : P.cellsOf f1.type = d1.sz) (c2 : P.cellsOf f2.type = d2.sz) (c3 : P.cellsOf f3.type = d3.sz) (c4 : P.cellsOf f4.type = d4.sz) (c5 : P.cellsOf f5.type = d5.sz) (o0 : f0.offset = 0) (o1 : f1.offset = d0.sz) (o2 : f2.offset = d0.sz + d1.sz) (o3 : f3.offset = d0.sz + d1.sz + d2.sz) (o4 : f4.offset = d0.sz + d1.sz + d2.sz + d3.sz) (o5 : f5.offset = d0.sz + d1.sz + d2.sz + d3.sz + d4.sz) (hc : P.cellsOf t = d0.sz + d1.sz + d2.sz + d3.sz + d4.sz + d5.sz)
    (h0 : Opens P f0.type d0 V0) (h1 : Opens P f1.type d1 V1) (h2 : Opens P f2.type d2 V2) (h3 : Opens P f3.type d3 V3) (h4 : Opens P f4.type d4 V4) (h5 : Opens P f5.type d5 V5) : Opens P t (Kd.pair d0 (Kd.pair d1 (Kd.pair d2 (Kd.pair d3 (Kd.pair d4 d5))))) (fun x => V0 (x.1) ∧ V1 (x.2.1) ∧ V2 (x.2.2.1) ∧ V3 (x.2.2.2.1) ∧ V4 (x.2.2.2.2.1) ∧ V5 (x.2.2.2.2.2)) := by
  intro H enc w base sp held fuel cs y hy
  obtain ⟨ys, m, _, _, hl, hlen, hf⟩ := DataW.trod_struct ht hy
  match ys, hlen with
  | [y0, y1, y2, y3, y4, y5], _ =>
    have g0 := hf 0 f0 rfl
    rw [c0, o0] at g0
    obtain ⟨x0, v0, k0⟩ := h0 enc w base sp held m _ y0 g0
    have g1 := hf 1 f1 rfl
    rw [c1, o1] at g1
    obtain ⟨x1, v1, k1⟩ := h1 enc w base sp held m _ y1 g1
    have g2 := hf 2 f2 rfl
    rw [c2, o2] at g2
    obtain ⟨x2, v2, k2⟩ := h2 enc w base sp held m _ y2 g2
    have g3 := hf 3 f3 rfl
    rw [c3, o3] at g3
    obtain ⟨x3, v3, k3⟩ := h3 enc w base sp held m _ y3 g3
    have g4 := hf 4 f4 rfl
    rw [c4, o4] at g4
    obtain ⟨x4, v4, k4⟩ := h4 enc w base sp held m _ y4 g4
    have g5 := hf 5 f5 rfl
    rw [c5, o5] at g5
    obtain ⟨x5, v5, k5⟩ := h5 enc w base sp held m _ y5 g5
    rw [List.drop_zero] at k0
    rw [hc] at hl
    rw [List.take_of_length_le (by rw [List.length_drop]; omega)] at k5
    exact ⟨(x0, x1, x2, x3, x4, x5), ⟨v0, v1, v2, v3, v4, v5⟩, (cs).take d0.sz, (cs).drop d0.sz, (List.take_append_drop _ _).symm, by first | exact k0 | (simp only [List.drop_drop]; exact k0), ((cs).drop d0.sz).take d1.sz, ((cs).drop d0.sz).drop d1.sz, (List.take_append_drop _ _).symm, by first | exact k1 | (simp only [List.drop_drop]; exact k1), (((cs).drop d0.sz).drop d1.sz).take d2.sz, (((cs).drop d0.sz).drop d1.sz).drop d2.sz, (List.take_append_drop _ _).symm, by first | exact k2 | (simp only [List.drop_drop]; exact k2), ((((cs).drop d0.sz).drop d1.sz).drop d2.sz).take d3.sz, ((((cs).drop d0.sz).drop d1.sz).drop d2.sz).drop d3.sz, (List.take_append_drop _ _).symm, by first | exact k3 | (simp only [List.drop_drop]; exact k3), (((((cs).drop d0.sz).drop d1.sz).drop d2.sz).drop d3.sz).take d4.sz, (((((cs).drop d0.sz).drop d1.sz).drop d2.sz).drop d3.sz).drop d4.sz, (List.take_append_drop _ _).symm, by first | exact k4 | (simp only [List.drop_drop]; exact k4), by first | exact k5 | (simp only [List.drop_drop]; exact k5)⟩
theorem opens_struct_7 {a0 : Type} {a1 : Type} {a2 : Type} {a3 : Type} {a4 : Type} {a5 : Type} {a6 : Type} {P : Program} {t : TypeId} {f0 f1 f2 f3 f4 f5 f6 : Field} {d0 : Kd a0} {d1 : Kd a1} {d2 : Kd a2} {d3 : Kd a3} {d4 : Kd a4} {d5 : Kd a5} {d6 : Kd a6} {V0 : a0 → Prop} {V1 : a1 → Prop} {V2 : a2 → Prop} {V3 : a3 → Prop} {V4 : a4 → Prop} {V5 : a5 → Prop} {V6 : a6 → Prop} (ht : P.underlying t = some (.struct #[f0, f1, f2, f3, f4, f5, f6]))
    (c0 : P.cellsOf f0.type = d0.sz) (c1 : P.cellsOf f1.type = d1.sz) (c2 : P.cellsOf f2.type = d2.sz) (c3 : P.cellsOf f3.type = d3.sz) (c4 : P.cellsOf f4.type = d4.sz) (c5 : P.cellsOf f5.type = d5.sz) (c6 : P.cellsOf f6.type = d6.sz) (o0 : f0.offset = 0) (o1 : f1.offset = d0.sz) (o2 : f2.offset = d0.sz + d1.sz) (o3 : f3.offset = d0.sz + d1.sz + d2.sz) (o4 : f4.offset = d0.sz + d1.sz + d2.sz + d3.sz) (o5 : f5.offset = d0.sz + d1.sz + d2.sz + d3.sz + d4.sz) (o6 : f6.offset = d0.sz + d1.sz + d2.sz + d3.sz + d4.sz + d5.sz) (hc : P.cellsOf t = d0.sz + d1.sz + d2.sz + d3.sz + d4.sz + d5.sz + d6.sz)
    (h0 : Opens P f0.type d0 V0) (h1 : Opens P f1.type d1 V1) (h2 : Opens P f2.type d2 V2) (h3 : Opens P f3.type d3 V3) (h4 : Opens P f4.type d4 V4) (h5 : Opens P f5.type d5 V5) (h6 : Opens P f6.type d6 V6) : Opens P t (Kd.pair d0 (Kd.pair d1 (Kd.pair d2 (Kd.pair d3 (Kd.pair d4 (Kd.pair d5 d6)))))) (fun x => V0 (x.1) ∧ V1 (x.2.1) ∧ V2 (x.2.2.1) ∧ V3 (x.2.2.2.1) ∧ V4 (x.2.2.2.2.1) ∧ V5 (x.2.2.2.2.2.1) ∧ V6 (x.2.2.2.2.2.2)) := by
  intro H enc w base sp held fuel cs y hy
  obtain ⟨ys, m, _, _, hl, hlen, hf⟩ := DataW.trod_struct ht hy
  match ys, hlen with
  | [y0, y1, y2, y3, y4, y5, y6], _ =>
    have g0 := hf 0 f0 rfl
    rw [c0, o0] at g0
    obtain ⟨x0, v0, k0⟩ := h0 enc w base sp held m _ y0 g0
    have g1 := hf 1 f1 rfl
    rw [c1, o1] at g1
    obtain ⟨x1, v1, k1⟩ := h1 enc w base sp held m _ y1 g1
    have g2 := hf 2 f2 rfl
    rw [c2, o2] at g2
    obtain ⟨x2, v2, k2⟩ := h2 enc w base sp held m _ y2 g2
    have g3 := hf 3 f3 rfl
    rw [c3, o3] at g3
    obtain ⟨x3, v3, k3⟩ := h3 enc w base sp held m _ y3 g3
    have g4 := hf 4 f4 rfl
    rw [c4, o4] at g4
    obtain ⟨x4, v4, k4⟩ := h4 enc w base sp held m _ y4 g4
    have g5 := hf 5 f5 rfl
    rw [c5, o5] at g5
    obtain ⟨x5, v5, k5⟩ := h5 enc w base sp held m _ y5 g5
    have g6 := hf 6 f6 rfl
    rw [c6, o6] at g6
    obtain ⟨x6, v6, k6⟩ := h6 enc w base sp held m _ y6 g6
    rw [List.drop_zero] at k0
    rw [hc] at hl
    rw [List.take_of_length_le (by rw [List.length_drop]; omega)] at k6
    exact ⟨(x0, x1, x2, x3, x4, x5, x6), ⟨v0, v1, v2, v3, v4, v5, v6⟩, (cs).take d0.sz, (cs).drop d0.sz, (List.take_append_drop _ _).symm, by first | exact k0 | (simp only [List.drop_drop]; exact k0), ((cs).drop d0.sz).take d1.sz, ((cs).drop d0.sz).drop d1.sz, (List.take_append_drop _ _).symm, by first | exact k1 | (simp only [List.drop_drop]; exact k1), (((cs).drop d0.sz).drop d1.sz).take d2.sz, (((cs).drop d0.sz).drop d1.sz).drop d2.sz, (List.take_append_drop _ _).symm, by first | exact k2 | (simp only [List.drop_drop]; exact k2), ((((cs).drop d0.sz).drop d1.sz).drop d2.sz).take d3.sz, ((((cs).drop d0.sz).drop d1.sz).drop d2.sz).drop d3.sz, (List.take_append_drop _ _).symm, by first | exact k3 | (simp only [List.drop_drop]; exact k3), (((((cs).drop d0.sz).drop d1.sz).drop d2.sz).drop d3.sz).take d4.sz, (((((cs).drop d0.sz).drop d1.sz).drop d2.sz).drop d3.sz).drop d4.sz, (List.take_append_drop _ _).symm, by first | exact k4 | (simp only [List.drop_drop]; exact k4), ((((((cs).drop d0.sz).drop d1.sz).drop d2.sz).drop d3.sz).drop d4.sz).take d5.sz, ((((((cs).drop d0.sz).drop d1.sz).drop d2.sz).drop d3.sz).drop d4.sz).drop d5.sz, (List.take_append_drop _ _).symm, by first | exact k5 | (simp only [List.drop_drop]; exact k5), by first | exact k6 | (simp only [List.drop_drop]; exact k6)⟩
end Go.Proofs.Ytdheoajaaofmbaa.Open
