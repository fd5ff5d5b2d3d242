/- Data that came in, as rows: a number, a bool, a slice, a struct. -/
import Derived.Test.YtdheoajaaofmbaaWMore
import Derived.Test.YtdheoajaaofmbaaProg
import Derived.OpenShut
import Derived.ChangeArms
import Derived.ChangeSame
import Derived.ChangeSlices
import Derived.DataElems
import Derived.Deep.Strs
namespace Go.Proofs.Ytdheoajaaofmbaa.Open
open Go.RowKit Go.Proofs.YtdheoajaaofmbaaW.PrintWords
set_option linter.unusedVariables false
set_option linter.unusedSimpArgs false
/-- What reads as data of type t is, in cells, a thing of d that satisfies V. -/
def Opens {α : Type} (P : Program) (t : TypeId) (d : Kd α) (V : α → Prop) : Prop :=
  ∀ {H : Type} (enc : TypeId × Value → H) (w : World) (base : Nat) (sp : Nat → Bool) (held : Bool) (fuel : Nat) (cs : List Value) (y : DataW H × List MemPlace), DataW.trod enc P w base sp held fuel t cs = some y → ∃ x : α, V x ∧ d.K w x cs
theorem opens_int {P : Program} {t : TypeId} {k : IntKind} (ht : P.underlying t = some (.int k)) : Opens P t (Kd.int k) (fun x => (Lit.int k x).wf = true) := by
  intro H enc w base sp held fuel cs y h
  obtain ⟨n, rfl, _, hw⟩ := DataW.trod_int ht h
  exact ⟨n, hw, rfl⟩
theorem opens_bool {P : Program} {t : TypeId} (ht : P.underlying t = some .bool) : Opens P t Kd.bool (fun _ => True) := by
  intro H enc w base sp held fuel cs y h
  obtain ⟨n, rfl, _⟩ := DataW.trod_bool ht h
  exact ⟨n, trivial, rfl⟩
theorem pick_list {α : Type} (R : Nat → α → Prop) : ∀ n, (∀ i, i < n → ∃ x, R i x) → ∃ xs : List α, xs.length = n ∧ ∀ (i : Nat) (x : α), xs[i]? = some x → R i x
  | 0, _ => ⟨[], rfl, fun i x h => by simp at h⟩
  | n + 1, h => by
    obtain ⟨xs, hl, hx⟩ := pick_list R n (fun i hi => h i (by omega))
    obtain ⟨x, hr⟩ := h n (by omega)
    refine ⟨xs ++ [x], by simp [hl], fun i y hy => ?_⟩
    rcases Nat.lt_or_ge i xs.length with hi | hi
    · rw [List.getElem?_append_left hi] at hy
      exact hx i y hy
    · have hi2 := (List.getElem?_eq_some_iff.1 hy).1
      simp only [List.length_append, List.length_singleton] at hi2
      obtain rfl : i = n := by omega
      rw [List.getElem?_append_right (by omega), hl, Nat.sub_self] at hy
      simp at hy
      rw [← hy]; exact hr
theorem opens_slice {α : Type} {P : Program} {t e : TypeId} {d : Kd α} {V : α → Prop} {e' : Nat} (ht : P.underlying t = some (.slice e)) (hc : P.cellsOf e = d.sz) (he : Opens P e d V) : Opens P t (Kd.slice e' d) (fun xs => ∀ x ∈ xs, V x) := by
  intro H enc w base sp held fuel cs y h
  rcases DataW.trod_slice ht h with ⟨rfl, _⟩ | ⟨a, len, cap, elems, rest, n, _, rfl, rfl, hb, hl, hm, hlen, hel, _, _⟩
  · exact ⟨[], by simp, none, 0, rfl, Nat.le_refl _, Kd.C_nil _ _⟩
  · have each : ∀ i, i < len → ∃ x, V x ∧ ∃ c : List Value, c.length = d.sz ∧ d.K w x c ∧ ∀ j u, c[j]? = some u → w.cell? (a.add (i * d.sz + j)) = some u := by
      intro i hi
      have h1 := hel i hi
      rw [List.getElem?_eq_getElem (show i < elems.length by omega), Option.bind_eq_some_iff] at h1
      obtain ⟨c, h2, h3⟩ := h1
      obtain ⟨x, hv, hk⟩ := he enc w base sp held n c _ h3
      refine ⟨x, hv, c, d.K_len hk, hk, fun j u hj => ?_⟩
      have h4 := World.cells?_some h2
      have hjl : j < c.length := (List.getElem?_eq_some_iff.1 hj).1
      have h5 := h4.2.2 j (by have := h4.2.1; omega)
      rw [hc] at h5
      rw [Addr.add_add] at h5
      rw [h5, hj]
    obtain ⟨xs, hxl, hx⟩ := pick_list _ len each
    refine ⟨xs, fun x hx2 => ?_, some a, cap, by rw [hxl], by omega, rfl, ?_, fun _ => ⟨a, rfl, fun j p hj => ?_⟩⟩
    · obtain ⟨i, hi⟩ := List.getElem?_of_mem hx2
      exact (hx i x hi).1
    · rw [hxl]; have : maxLen = 9223372036854775807 := rfl; omega
    · obtain ⟨_, c, h1, h2, h3⟩ := hx j p hj
      exact ⟨c, h1, h2, h3⟩
theorem opens_iso {α β : Type} {P : Program} {t : TypeId} {d : Kd α} {V : α → Prop} (f : β → α) (g : α → β) (hfg : ∀ x, f (g x) = x) (h : Opens P t d V) : Opens P t (Kd.iso d f) (fun x => V (f x)) := by
  intro H enc w base sp held fuel cs y hy
  obtain ⟨x, hv, hk⟩ := h enc w base sp held fuel cs y hy
  exact ⟨g x, by show V (f (g x)); rw [hfg]; exact hv, by show d.K w (f (g x)) cs; rw [hfg]; exact hk⟩
theorem opens_struct3 {α β γ : Type} {P : Program} {t : TypeId} {f0 f1 f2 : Field} {d0 : Kd α} {d1 : Kd β} {d2 : Kd γ} {V0 : α → Prop} {V1 : β → Prop} {V2 : γ → Prop} (ht : P.underlying t = some (.struct #[f0, f1, f2]))
    (c0 : P.cellsOf f0.type = d0.sz) (c1 : P.cellsOf f1.type = d1.sz) (c2 : P.cellsOf f2.type = d2.sz) (o0 : f0.offset = 0) (o1 : f1.offset = d0.sz) (o2 : f2.offset = d0.sz + d1.sz) (hc : P.cellsOf t = d0.sz + (d1.sz + d2.sz))
    (h0 : Opens P f0.type d0 V0) (h1 : Opens P f1.type d1 V1) (h2 : Opens P f2.type d2 V2) : Opens P t (Kd.pair d0 (Kd.pair d1 d2)) (fun x => V0 x.1 ∧ V1 x.2.1 ∧ V2 x.2.2) := by
  intro H enc w base sp held fuel cs y hy
  obtain ⟨y0, y1, y2, n, _, hl, g0, g1, g2⟩ := Go.Deep.trod_struct3 ht hy
  rw [c0, o0, List.drop_zero] at g0
  rw [c1, o1] at g1
  rw [c2, o2] at g2
  obtain ⟨x0, v0, k0⟩ := h0 enc w base sp held n _ _ g0
  obtain ⟨x1, v1, k1⟩ := h1 enc w base sp held n _ _ g1
  obtain ⟨x2, v2, k2⟩ := h2 enc w base sp held n _ _ g2
  refine ⟨(x0, x1, x2), ⟨v0, v1, v2⟩, cs.take d0.sz, cs.drop d0.sz, (List.take_append_drop _ _).symm, k0, (cs.drop d0.sz).take d1.sz, (cs.drop d0.sz).drop d1.sz, (List.take_append_drop _ _).symm, k1, ?_⟩
  rw [List.drop_drop]
  rw [hc] at hl
  rw [List.take_of_length_le (by rw [List.length_drop]; omega)] at g2
  rw [List.take_of_length_le (by rw [List.length_drop]; omega)] at k2
  exact k2
end Go.Proofs.Ytdheoajaaofmbaa.Open
