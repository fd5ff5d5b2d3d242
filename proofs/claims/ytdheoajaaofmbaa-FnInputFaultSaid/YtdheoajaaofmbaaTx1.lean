/- Transactions: inputs as they lie in memory, pointers as a kind, a struct read or laid as a whole. -/
import Derived.Test.YtdheoajaaofmbaaBase
import Derived.Test.YtdheoajaaofmbaaQFnScriptPlacesx
import Derived.Test.YtdheoajaaofmbaaWArr
import Derived.Laws.Rows
import Derived.Test.YtdheoajaaofmbaaAt
namespace Go.Proofs.YtdheoajaaofmbaaW.PrintWords
open Go.RowKit
set_option linter.unusedVariables false
namespace Kd
variable {α : Type}
/-- A pointer to a block of its own, of type t. -/
def ptr (t : Nat) (d : Kd α) : Kd α where
  sz := 1
  E := t :: d.E
  K := fun w x cs => ∃ g c, cs = [.pointer (some ⟨g, 0, none⟩)] ∧ w.heap[g]? = some (.cells c t (0, 0)) ∧ d.K w x c.toList
  M := fun w base ok x cs => ∃ g c, cs = [.pointer (some ⟨g, 0, none⟩)] ∧ w.heap[g]? = some (.cells c t (0, 0)) ∧ ok g ∧ base ≤ g ∧ d.M w base (fun k => ok k ∧ k ≠ g) x c.toList
  K_len := by
    rintro w x cs ⟨g, c, rfl, _⟩
    rfl
  K_one := by
    rintro w x cs ⟨g, c, rfl, _⟩ u hu
    rw [List.mem_singleton.1 hu]
    rfl
  K_below := by
    rintro w w1 x cs hb ⟨g, c, rfl, hg, hk⟩
    exact ⟨g, c, rfl, (hb.block g (blk_lt' hg)).trans hg, d.K_below hb hk⟩
  K_of_M := by
    rintro w base ok x cs ⟨g, c, rfl, hg, _, _, hm⟩
    exact ⟨g, c, rfl, hg, d.K_of_M hm⟩
  M_mono := by
    rintro w base ok ok' x cs hok ⟨g, c, rfl, hg, h1, h2, hm⟩
    exact ⟨g, c, rfl, hg, hok g h1, h2, d.M_mono (fun k hk => ⟨hok k hk.1, hk.2⟩) hm⟩
  M_bound := by
    rintro w base ok x cs ⟨g, c, rfl, hg, h1, h2, hm⟩
    refine ⟨g, c, rfl, hg, ⟨h1, h2, blk_lt' hg, t, List.mem_cons_self, c, hg⟩, h2, d.M_mono ?_ (d.M_bound hm)⟩
    rintro k ⟨⟨h3, h4⟩, h5, h6, q, hq, hc⟩
    exact ⟨⟨h3, h5, h6, q, List.mem_cons_of_mem _ hq, hc⟩, h4⟩
  M_move := by
    rintro w w1 base ok x cs hm ⟨g, c, rfl, hg, h1, h2, hd⟩
    exact ⟨g, c, rfl, (hm g h1).trans hg, h1, h2, d.M_move (fun k hk => hm k hk.1) hd⟩
  M_lower := by
    rintro w base base' ok x cs hb ⟨g, c, rfl, hg, h1, h2, hd⟩
    exact ⟨g, c, rfl, hg, h1, Nat.le_trans hb h2, d.M_lower hb hd⟩
theorem heap_ptr {d : Kd α} (t : Nat) (hd : Heap d) : Heap (ptr t d) := ⟨by
  rintro w w1 x cs hb ⟨g, c, rfl, hg, hk⟩
  exact ⟨g, c, rfl, (hb g (blk_lt' hg)).trans hg, hd.K hb hk⟩⟩
/-- Element i of a row of pointers. -/
theorem ptr_at {d : Kd α} {t : Nat} {w : World} {A : Option Addr} {n : Nat} {xs : List α} (h : Kd.C (ptr t d) w A n xs) (z : α) (i : Int) (h0 : 0 ≤ i) (h1 : i < n) :
    ∃ ad g c, A = some ad ∧ w.cell? (ad.add i.toNat) = some (.pointer (some ⟨g, 0, none⟩)) ∧ w.heap[g]? = some (.cells c t (0, 0)) ∧ d.K w (xs.getD i.toNat z) c.toList := by
  obtain ⟨ad, c, rfl, hcl, hK, hcc⟩ := Kd.C_get h z i h0 h1
  obtain ⟨g, b, rfl, hg, hk⟩ := hK
  have h2 := hcc 0 _ rfl
  have e : i.toNat * (ptr t d).sz + 0 = i.toNat := by show i.toNat * 1 + 0 = _; omega
  rw [e] at h2
  exact ⟨ad, g, b, rfl, h2, hg, hk⟩
end Kd
end Go.Proofs.YtdheoajaaofmbaaW.PrintWords
namespace Go.Proofs.Ytdheoajaaofmbaa.QFnScriptPlaces
open Go.RowKit Go.Proofs.YtdheoajaaofmbaaW.PrintWords Go.Proofs.YtdheoajaaofmbaaW.PrintLast Go.Proofs.YtdheoajaaofmbaaW.PrintMore
set_option linter.unusedVariables false
set_option linter.unusedSimpArgs false
/-- A place of an output: a hash of 32 bytes, an index. -/
structure S31 where
  f0 : List Int
  f1 : Int
def z31 : S31 := ⟨List.replicate 32 0, 0⟩
def k31 : Kd S31 := Kd.iso (Kd.pair (Kd.arr 32 (Kd.int .u8) (by decide)) (Kd.int .u32)) (fun x => (x.f0, x.f1))
/-- An input. -/
structure S35 where
  f0 : S31
  f1 : List Int
  f2 : List (List Int)
  f3 : Int
def z35 : S35 := ⟨z31, [], [], 0⟩
def k35 : Kd S35 := Kd.iso (Kd.pair k31 (Kd.pair (Kd.slice 5 (Kd.int .u8)) (Kd.pair (Kd.slice 32 (Kd.slice 5 (Kd.int .u8))) (Kd.int .u32)))) (fun x => (x.f0, x.f1, x.f2, x.f3))
def hashC (l : List Int) : List Value := l.map (Value.int .u8)
theorem hashC_len {l : List Int} (h : l.length = 32) : (hashC l).length = 32 := by unfold hashC; rw [List.length_map]; exact h
theorem reps_bytes {l : List Int} {cs : List Value} (h : Reps (fun (x : Int) (c : List Value) => c = [Value.int .u8 x]) 1 l cs) : cs = hashC l := by
  apply List.ext_getElem?
  intro j
  unfold hashC
  rcases Nat.lt_or_ge j l.length with hj | hj
  · have h1 := h.2 j _ (List.getElem?_eq_getElem hj)
    have h2 : ((cs.drop (j * 1)).take 1)[0]? = some (Value.int .u8 l[j]) := by rw [h1]; rfl
    rw [List.getElem?_take, if_pos (by decide), List.getElem?_drop] at h2
    simp only [Nat.mul_one, Nat.add_zero] at h2
    rw [h2, List.getElem?_map, List.getElem?_eq_getElem hj]; rfl
  · have h1 := h.1
    rw [List.getElem?_eq_none (by omega), List.getElem?_eq_none (by rw [List.length_map]; omega)]
theorem bytes_reps (l : List Int) : Reps (fun (x : Int) (c : List Value) => c = [Value.int .u8 x]) 1 l (hashC l) := by
  unfold hashC
  refine ⟨by rw [List.length_map]; omega, fun j p hj => ?_⟩
  have hjl := (List.getElem?_eq_some_iff.1 hj).1
  apply List.ext_getElem?
  intro i
  rw [List.getElem?_take, List.getElem?_drop]
  match i with
  | 0 => rw [if_pos (by decide), List.getElem?_map]; simp [hj]
  | i + 1 => rw [if_neg (by omega)]; rfl
theorem k31_open {w : World} {x : S31} {cs : List Value} (h : k31.K w x cs) : cs = hashC x.f0 ++ [.int .u32 x.f1] ∧ x.f0.length = 32 := by
  obtain ⟨c0, c1, rfl, ⟨hl, hr⟩, h2⟩ := h
  exact ⟨by rw [reps_bytes hr, show c1 = [Value.int .u32 x.f1] from h2], hl⟩
theorem k31_mk (w : World) (x : S31) (h : x.f0.length = 32) : k31.K w x (hashC x.f0 ++ [.int .u32 x.f1]) := ⟨_, _, rfl, ⟨h, bytes_reps _⟩, rfl⟩
theorem k31_mkM (w : World) (base : Nat) (ok : Nat → Prop) (x : S31) (h : x.f0.length = 32) : k31.M w base ok x (hashC x.f0 ++ [.int .u32 x.f1]) := ⟨_, _, rfl, ⟨h, bytes_reps _⟩, rfl⟩
/-- The cells of an input. -/
def inC (x : S35) (A1 : Option Addr) (c1 : Nat) (A2 : Option Addr) (c2 : Nat) : List Value := hashC x.f0.f0 ++ [.int .u32 x.f0.f1, .slice A1 x.f1.length c1, .slice A2 x.f2.length c2, .int .u32 x.f3]
theorem k35_open {w : World} {x : S35} {cs : List Value} (h : k35.K w x cs) :
    ∃ A1 c1 A2 c2, cs = inC x A1 c1 A2 c2 ∧ x.f0.f0.length = 32 ∧ x.f1.length ≤ c1 ∧ (Kd.int .u8).C w A1 x.f1.length x.f1 ∧ x.f2.length ≤ c2 ∧ (Kd.slice 5 (Kd.int .u8)).C w A2 x.f2.length x.f2 := by
  obtain ⟨c0, r0, rfl, h0, c1', r1, rfl, ⟨A1, c1, rfl, hl1, hC1⟩, c2', r2, rfl, ⟨A2, c2, rfl, hl2, hC2⟩, h3⟩ := h
  obtain ⟨e0, hl⟩ := k31_open h0
  refine ⟨A1, c1, A2, c2, ?_, hl, hl1, hC1, hl2, hC2⟩
  rw [show r2 = [Value.int .u32 x.f3] from h3]
  subst e0
  unfold inC
  simp
theorem k35_mk (w : World) (x : S35) (h : x.f0.f0.length = 32) {A1 A2 : Option Addr} {c1 c2 : Nat} (l1 : x.f1.length ≤ c1) (g1 : (Kd.int .u8).C w A1 x.f1.length x.f1) (l2 : x.f2.length ≤ c2) (g2 : (Kd.slice 5 (Kd.int .u8)).C w A2 x.f2.length x.f2) : k35.K w x (inC x A1 c1 A2 c2) :=
  ⟨hashC x.f0.f0 ++ [.int .u32 x.f0.f1], _, by unfold inC; rw [List.append_assoc]; rfl, k31_mk w x.f0 h, [.slice A1 x.f1.length c1], _, rfl, ⟨A1, c1, rfl, l1, g1⟩, [.slice A2 x.f2.length c2], [.int .u32 x.f3], rfl, ⟨A2, c2, rfl, l2, g2⟩, rfl⟩
theorem k35_mkM (w : World) (base : Nat) (ok : Nat → Prop) (x : S35) (h : x.f0.f0.length = 32) {v1 v2 : Value} (g1 : (Kd.int .u8).R 5 w base ok v1 x.f1) (g2 : (Kd.slice 5 (Kd.int .u8)).R 32 w base ok v2 x.f2) : k35.M w base ok x (hashC x.f0.f0 ++ [.int .u32 x.f0.f1, v1, v2, .int .u32 x.f3]) :=
  ⟨hashC x.f0.f0 ++ [.int .u32 x.f0.f1], [v1, v2, .int .u32 x.f3], by rw [List.append_assoc]; rfl, k31_mkM w base ok x.f0 h, [v1], [v2, .int .u32 x.f3], rfl, ⟨v1, rfl, g1⟩, [v2], [.int .u32 x.f3], rfl, ⟨v2, rfl, g2⟩, rfl⟩
theorem inC_len {x : S35} (h : x.f0.f0.length = 32) (A1 : Option Addr) (c1 : Nat) (A2 : Option Addr) (c2 : Nat) : (inC x A1 c1 A2 c2).length = 36 := by unfold inC; rw [List.length_append, hashC_len h]; rfl
theorem inC_hash {x : S35} (h : x.f0.f0.length = 32) (A1 : Option Addr) (c1 : Nat) (A2 : Option Addr) (c2 : Nat) (j : Nat) (hj : j < 32) : (inC x A1 c1 A2 c2)[j]? = some (.int .u8 (x.f0.f0.getD j 0)) := by
  unfold inC
  rw [List.getElem?_append_left (by rw [hashC_len h]; exact hj)]
  unfold hashC
  rw [List.getElem?_map, List.getD_eq_getElem?_getD, List.getElem?_eq_getElem (by omega)]; rfl
theorem inC_at {x : S35} (h : x.f0.f0.length = 32) (A1 : Option Addr) (c1 : Nat) (A2 : Option Addr) (c2 : Nat) (j : Nat) : (inC x A1 c1 A2 c2)[32 + j]? = [Value.int .u32 x.f0.f1, .slice A1 x.f1.length c1, .slice A2 x.f2.length c2, .int .u32 x.f3][j]? := by
  unfold inC
  rw [List.getElem?_append_right (by rw [hashC_len h]; omega), hashC_len h, Nat.add_sub_cancel_left]
def rd_T35 (xs : List S35) (i : Int) : S35 := xs.getD i.toNat z35
/-- An input of a row: as a whole. -/
theorem in_at {w : World} {A : Option Addr} {n : Nat} {xs : List S35} (h : Kd.C k35 w A n xs) (i : Int) (h0 : 0 ≤ i) (h1 : i < n) :
    ∃ ad A1 c1 A2 c2, A = some ad ∧ (rd_T35 xs i).f0.f0.length = 32 ∧ (∀ j v, (inC (rd_T35 xs i) A1 c1 A2 c2)[j]? = some v → w.cell? ((ad.add (i.toNat * 36)).add j) = some v) ∧ (rd_T35 xs i).f1.length ≤ c1 ∧ (Kd.int .u8).C w A1 (rd_T35 xs i).f1.length (rd_T35 xs i).f1 ∧ (rd_T35 xs i).f2.length ≤ c2 ∧ (Kd.slice 5 (Kd.int .u8)).C w A2 (rd_T35 xs i).f2.length (rd_T35 xs i).f2 := by
  obtain ⟨ad, c, rfl, hcl, hK, hcc⟩ := Kd.C_get h z35 i h0 h1
  obtain ⟨A1, c1, A2, c2, e, hl, l1, g1, l2, g2⟩ := k35_open hK
  subst e
  refine ⟨ad, A1, c1, A2, c2, rfl, hl, fun j v hv => ?_, l1, g1, l2, g2⟩
  rw [Addr.add_add]
  exact hcc j v hv
theorem add_off (ad : Addr) (k : Nat) (h : k ≠ 0) : ad.add k = ⟨ad.block, ad.off + k, none⟩ := by unfold Addr.add; rw [if_neg h]
theorem at_T35 {w : World} {A : Option Addr} {n : Nat} {xs : List S35} (h : Kd.C k35 w A n xs) (i : Int) (h0 : 0 ≤ i) (h1 : i < n) :
    ∃ ad A33 c33 A34 c34, A = some ad ∧ w.cell? ⟨(ad.add (i.toNat * 36)).block, (ad.add (i.toNat * 36)).off + 32, none⟩ = some (.int .u32 (rd_T35 xs i).f0.f1) ∧ w.cell? ⟨(ad.add (i.toNat * 36)).block, (ad.add (i.toNat * 36)).off + 33, none⟩ = some (.slice A33 (rd_T35 xs i).f1.length c33) ∧ w.cell? ⟨(ad.add (i.toNat * 36)).block, (ad.add (i.toNat * 36)).off + 34, none⟩ = some (.slice A34 (rd_T35 xs i).f2.length c34) ∧ w.cell? ⟨(ad.add (i.toNat * 36)).block, (ad.add (i.toNat * 36)).off + 35, none⟩ = some (.int .u32 (rd_T35 xs i).f3) ∧ (rd_T35 xs i).f1.length ≤ c33 ∧ (Kd.int .u8).C w A33 (rd_T35 xs i).f1.length (rd_T35 xs i).f1 ∧ (rd_T35 xs i).f2.length ≤ c34 ∧ (Kd.slice 5 (Kd.int .u8)).C w A34 (rd_T35 xs i).f2.length (rd_T35 xs i).f2 := by
  obtain ⟨ad, A1, c1, A2, c2, rfl, hl, hc, l1, g1, l2, g2⟩ := in_at h i h0 h1
  have g : ∀ j v, [Value.int .u32 (rd_T35 xs i).f0.f1, .slice A1 (rd_T35 xs i).f1.length c1, .slice A2 (rd_T35 xs i).f2.length c2, .int .u32 (rd_T35 xs i).f3][j]? = some v → w.cell? ⟨(ad.add (i.toNat * 36)).block, (ad.add (i.toNat * 36)).off + (32 + j), none⟩ = some v := fun j v hv => by
    have h2 := hc (32 + j) v (by rw [inC_at hl]; exact hv)
    rwa [add_off _ _ (by omega)] at h2
  exact ⟨ad, A1, c1, A2, c2, rfl, g 0 _ rfl, g 1 _ rfl, g 2 _ rfl, g 3 _ rfl, l1, g1, l2, g2⟩
end Go.Proofs.Ytdheoajaaofmbaa.QFnScriptPlaces
