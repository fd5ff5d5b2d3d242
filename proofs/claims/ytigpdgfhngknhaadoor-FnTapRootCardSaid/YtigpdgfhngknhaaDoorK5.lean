/- bytes.Buffer: what it holds; a thing to which bytes are written. -/
import Derived.Lib.SlBytesConst
import Derived.Lib.BytesEntry
import Derived.Laws.Externs
import Derived.Laws.IdiomStrings
import Derived.Lib.MinMaxS
import Derived.Test.YtigpdgfhngknhaaDoorWArr
import Derived.Laws.Rows
import Derived.Test.YtigpdgfhngknhaaDoorK0
import Derived.Test.YtigpdgfhngknhaaDoorK3
import Derived.Test.YtigpdgfhngknhaaDoorK4
namespace Go.Proofs.YtigpdgfhngknhaaDoor.Snk
open Go.RowKit Go.Proofs.YtigpdgfhngknhaaDoorW.PrintWords Go.Proofs.YtigpdgfhngknhaaDoorW.PrintLast Go.Proofs.YtigpdgfhngknhaaDoorW.PrintMore
set_option linter.unusedVariables false
set_option linter.unusedSimpArgs false
/-- A buffer that holds the bytes bs. -/
def BufS (w : World) (b : Nat) (bs : List Int) : Prop := ∃ lr, (bs = [] ∧ BfC w b (.slice none 0 0) lr) ∨ ∃ g cap cur, BfC w b (.slice (some ⟨g, 0, none⟩) bs.length cap) lr ∧ g ≠ b ∧ w.heap[g]? = some (.cells cur 5 (0, 0)) ∧ cur.size = cap ∧ cur.toList.take bs.length = byteC bs ∧ bs.length ≤ cap ∧ cap ≤ maxLen
/-- A buffer's blocks. -/
def Own (b : Nat) (w : World) (k : Nat) : Prop := k = b ∨ ∃ l cap lr, BfC w b (.slice (some ⟨k, 0, none⟩) l cap) lr
structure Frame (b : Nat) (w w' : World) : Prop where
  os : w'.os = w.os
  tape : w'.tape = w.tape
  output : w'.output = w.output
  size : w.heap.size ≤ w'.heap.size
  block : ∀ k, k < w.heap.size → ¬ Own b w k → w'.heap[k]? = w.heap[k]?
  grow : ∀ k, Own b w' k → Own b w k ∨ w.heap.size ≤ k
theorem BfC.inj {w : World} {b : Nat} {v u : Value} {lr lr2 : Int} (h : BfC w b v lr) (k : BfC w b u lr2) : v = u := by
  have e := Option.some.inj (h.symm.trans k)
  simp only [Obj.cells.injEq, Array.mk.injEq, List.cons.injEq, and_true] at e
  exact e.1
theorem BfC.own {w : World} {b g l cap k : Nat} {lr : Int} (h : BfC w b (.slice (some ⟨g, 0, none⟩) l cap) lr) (hk : Own b w k) : k = b ∨ k = g := by
  rcases hk with h1 | ⟨l2, c2, lr2, h1⟩
  · exact .inl h1
  · have e := h1.inj h
    simp only [Value.slice.injEq, Option.some.injEq, Addr.mk.injEq] at e
    exact .inr e.1.1
theorem BfC.ownNil {w : World} {b k : Nat} {lr : Int} (h : BfC w b (.slice none 0 0) lr) (hk : Own b w k) : k = b := by
  rcases hk with h1 | ⟨l2, c2, lr2, h1⟩
  · exact h1
  · have e := h1.inj h
    simp at e
theorem BufS.blk {w : World} {b : Nat} {bs : List Int} (h : BufS w b bs) : b < w.heap.size := by
  obtain ⟨lr, ⟨_, h⟩ | ⟨g, cap, cur, h, _⟩⟩ := h
  · exact blk_lt' h
  · exact blk_lt' h
theorem BufS.lt {w : World} {b : Nat} {bs : List Int} (h : BufS w b bs) {k : Nat} (hk : Own b w k) : k < w.heap.size := by
  have hb := h.blk
  obtain ⟨lr, ⟨_, h⟩ | ⟨g, cap, cur, h, _, hg, _⟩⟩ := h
  · rw [h.ownNil hk]; exact hb
  · rcases h.own hk with rfl | rfl
    · exact hb
    · exact blk_lt' hg
theorem Laid.frame {b l n : Nat} {row : List Value} {own : Nat → Prop} {w w' : World} (h : Laid b l n row own w w') (ho : ∀ r, own r → Own b w r ∨ w.heap.size ≤ r) : Frame b w w' := by
  obtain ⟨r, cap, cells, h1, h2, h3, h4, h5, h6, h7, h8, h9⟩ := h
  refine ⟨h9.os, h9.tape, h9.output, h9.size, fun k hk hn => h9.block k hk (fun e => hn (.inl e)) (fun e => ?_), fun k hk => ?_⟩
  · subst e
    rcases ho _ h3 with h | h
    · exact hn h
    · omega
  · rcases h1.own hk with e | e
    · exact .inl (.inl e)
    · subst e; exact ho _ h3
theorem Laid.buf {b n : Nat} {bs p : List Int} {own : Nat → Prop} {w w' : World} (hp : p.length = n) (h : Laid b bs.length n (byteC bs ++ byteC p) own w w') : BufS w' b (bs ++ p) := by
  obtain ⟨r, cap, cells, h1, h2, h3, h4, h5, h6, h7, h8, h9⟩ := h
  subst hp
  exact ⟨0, .inr ⟨r, cap, cells, by rw [List.length_append]; exact h1, h2, h4, h5, by rw [List.length_append, h6]; unfold byteC; rw [List.map_append], by rw [List.length_append]; exact h7, h8⟩⟩
theorem one_byteC (l : List Int) (n : Nat) (L : List Value) (h : L.take n = byteC l) : ∀ v ∈ L.take n, v.oneCell' = true := by
  intro v hv
  rw [h] at hv
  unfold byteC at hv
  obtain ⟨x, _, rfl⟩ := List.mem_map.1 hv
  rfl
theorem bufWrite (b : Nat) (bs p : List Int) (A : Option Addr) (c n : Nat) (w : World) (h : BufS w b bs) (hp : p.length = n) (hM : bs.length + n ≤ 140737488355328) (hc : n ≤ c) (hr : ReadsInt w .u8 A n p) (ho : 0 < n → ∀ a, A = some a → ¬ Own b w a.block) :
    Calls Tryd.prog 92 #[.pointer (some ⟨b, 0, none⟩), .slice A n c] w fun e w' => e = .returned (.tuple #[.int .i64 (n : Int), .nilIface]) ∧ BufS w' b (bs ++ p) ∧ Frame b w w' := by
  have hb := h.blk
  have hR : ∀ W, Only b w W → ReadsInt W .u8 A n p := fun W hW => hr.keep hW.keep (fun ad e h0 hh => ho h0 ad e (.inl hh))
  obtain ⟨lr, ⟨rfl, h⟩ | ⟨g, cap, cur, h, h2, h3, h4, h5, h6, h7⟩⟩ := h
  · by_cases hn : 0 < n
    · refine (writeF b n 0 _ lr (fun k => w.heap.size ≤ k) [] A c p w h hn hc hR (by simp only [List.length_nil] at hM; omega) (fun w1 h1 _ => tryNone b none 0 0 n 0 w1 h1 (Nat.le_refl _) (Nat.zero_le _) (by omega)) (fun w1 h1 o1 => (grow0 b n 0 w1 h1 hn (by simp only [List.length_nil] at hM; omega)).mono fun e w2 ⟨he, h9⟩ => ⟨he, ?_⟩)).mono fun e w' ⟨he, h9⟩ => ⟨he, Laid.buf (bs := []) hp h9, h9.frame fun r hr => .inr hr⟩
      obtain ⟨r, cap, cells, k1, k2, k3, k4, k5, k6, k7, k8⟩ := h9
      have hs := o1.size
      exact ⟨r, cap, cells, k2, by omega, Nat.le_trans hs k1, k3, k4, k5, k6, k7, o1.trans k8⟩
    · obtain rfl : n = 0 := by omega
      obtain rfl : p = [] := List.eq_nil_of_length_eq_zero hp
      exact (zeroN b lr A c w h).mono fun e w' ⟨he, h1, h2⟩ => ⟨he, ⟨0, .inl ⟨rfl, h1⟩⟩, h2.os, h2.tape, h2.output, h2.size, fun k hk hn => h2.block k hk (fun e => hn (.inl e)), fun k hk => .inl (.inl (h1.ownNil hk))⟩
  · by_cases hn : 0 < n
    · by_cases hroom : n ≤ cap - bs.length
      · refine (writeT b n bs.length _ lr (fun k => k = g) (byteC bs) A c p w h hn hc hR hM (fun w1 h1 o1 => (tryRoom b _ bs.length cap n 0 w1 h1 h6 h7 hroom).mono fun e w2 ⟨he, h9⟩ => ⟨he, ?_⟩)).mono fun e w' ⟨he, h9⟩ => ⟨he, Laid.buf hp h9, h9.frame fun r hr => .inl (.inr ⟨_, _, _, hr ▸ h⟩)⟩
        subst h9
        exact ⟨g, cap, cur, h1.set0 _, h2, rfl, ((Only.refl b w1).set 0 _).block g (Nat.lt_of_lt_of_le (blk_lt' h3) o1.size) h2 |>.trans ((o1.block g (blk_lt' h3) h2).trans h3), h4, h5, by omega, h7, o1.set _ _⟩
      · refine (writeF b n bs.length _ lr (fun k => w.heap.size ≤ k) (byteC bs) A c p w h hn hc hR hM (fun w1 h1 _ => tryNone b _ bs.length cap n 0 w1 h1 h6 h7 (by omega)) (fun w1 h1 o1 => (growR b n 0 w1 g bs.length cap cur h1 ((o1.block g (blk_lt' h3) h2).trans h3) h4 h6 (by omega) hM (one_byteC bs _ _ h5)).mono fun e w2 ⟨he, h9⟩ => ⟨he, ?_⟩)).mono fun e w' ⟨he, h9⟩ => ⟨he, Laid.buf hp h9, h9.frame fun r hr => .inr hr⟩
        obtain ⟨r, cap, cells, k1, k2, k3, k4, k5, k6, k7, k8⟩ := h9
        have hs := o1.size
        exact ⟨r, cap, cells, k2, by omega, Nat.le_trans hs k1, k3, k4, k5.trans h5, k6, k7, o1.trans k8⟩
    · obtain rfl : n = 0 := by omega
      obtain rfl : p = [] := List.eq_nil_of_length_eq_zero hp
      refine (zeroR b g bs.length cap lr A c w h h6 h7).mono fun e w' ⟨he, k1, k2⟩ => ⟨he, ⟨0, .inr ⟨g, cap, cur, by rw [List.append_nil]; exact k1, h2, (k2.block g (blk_lt' h3) h2).trans h3, h4, by rw [List.append_nil]; exact h5, by rw [List.append_nil]; exact h6, h7⟩⟩, k2.os, k2.tape, k2.output, k2.size, fun k hk hn => k2.block k hk (fun e => hn (.inl e)), fun k hk => ?_⟩
      rcases k1.own hk with e | e
      · exact .inl (.inl e)
      · exact .inl (.inr ⟨_, _, _, e ▸ h⟩)
theorem bufByte (b : Nat) (bs : List Int) (x : Int) (w : World) (h : BufS w b bs) (hM : bs.length + 1 ≤ 140737488355328) :
    Calls Tryd.prog 49 #[.pointer (some ⟨b, 0, none⟩), .int .u8 x] w fun e w' => e = .returned .nilIface ∧ BufS w' b (bs ++ [x]) ∧ Frame b w w' := by
  have hb := h.blk
  obtain ⟨lr, ⟨rfl, h⟩ | ⟨g, cap, cur, h, h2, h3, h4, h5, h6, h7⟩⟩ := h
  · refine (byteF b 0 _ lr (fun k => w.heap.size ≤ k) [] x w h (by decide) (fun w1 h1 _ => tryNone b none 0 0 1 0 w1 h1 (Nat.le_refl _) (Nat.zero_le _) (by omega)) (fun w1 h1 o1 => (grow0 b 1 0 w1 h1 (Nat.le_refl _) (by decide)).mono fun e w2 ⟨he, h9⟩ => ⟨he, ?_⟩)).mono fun e w' ⟨he, h9⟩ => ⟨he, Laid.buf (bs := []) (p := [x]) rfl h9, h9.frame fun r hr => .inr hr⟩
    obtain ⟨r, cap, cells, k1, k2, k3, k4, k5, k6, k7, k8⟩ := h9
    have hs := o1.size
    exact ⟨r, cap, cells, k2, by omega, Nat.le_trans hs k1, k3, k4, k5, k6, k7, o1.trans k8⟩
  · by_cases hroom : 1 ≤ cap - bs.length
    · refine (byteT b bs.length _ lr (fun k => k = g) (byteC bs) x w h hM (fun w1 h1 o1 => (tryRoom b _ bs.length cap 1 0 w1 h1 h6 h7 hroom).mono fun e w2 ⟨he, h9⟩ => ⟨he, ?_⟩)).mono fun e w' ⟨he, h9⟩ => ⟨he, Laid.buf (p := [x]) rfl h9, h9.frame fun r hr => .inl (.inr ⟨_, _, _, hr ▸ h⟩)⟩
      subst h9
      exact ⟨g, cap, cur, h1.set0 _, h2, rfl, ((Only.refl b w1).set 0 _).block g (Nat.lt_of_lt_of_le (blk_lt' h3) o1.size) h2 |>.trans ((o1.block g (blk_lt' h3) h2).trans h3), h4, h5, by omega, h7, o1.set _ _⟩
    · refine (byteF b bs.length _ lr (fun k => w.heap.size ≤ k) (byteC bs) x w h hM (fun w1 h1 _ => tryNone b _ bs.length cap 1 0 w1 h1 h6 h7 (by omega)) (fun w1 h1 o1 => (growR b 1 0 w1 g bs.length cap cur h1 ((o1.block g (blk_lt' h3) h2).trans h3) h4 h6 (by omega) hM (one_byteC bs _ _ h5)).mono fun e w2 ⟨he, h9⟩ => ⟨he, ?_⟩)).mono fun e w' ⟨he, h9⟩ => ⟨he, Laid.buf (p := [x]) rfl h9, h9.frame fun r hr => .inr hr⟩
      obtain ⟨r, cap, cells, k1, k2, k3, k4, k5, k6, k7, k8⟩ := h9
      have hs := o1.size
      exact ⟨r, cap, cells, k2, by omega, Nat.le_trans hs k1, k3, k4, k5.trans h5, k6, k7, o1.trans k8⟩
/-- What a buffer holds, read. -/
theorem bufBytes (b : Nat) (bs : List Int) (w : World) (h : BufS w b bs) :
    Calls Tryd.prog 17 #[.pointer (some ⟨b, 0, none⟩)] w fun e w' => ∃ A c, e = .returned (.slice A bs.length c) ∧ ReadsInt w' .u8 A bs.length bs ∧ bs.length ≤ c ∧ (∀ a, A = some a → Own b w a.block) ∧ (A = none → c = 0) ∧ Below w.heap.size w w' := by
  obtain ⟨lr, ⟨rfl, h⟩ | ⟨g, cap, cur, h, h2, h3, h4, h5, h6, h7⟩⟩ := h
  · exact (bytesN b lr w h).mono fun e w' ⟨he, h1, _⟩ => ⟨none, 0, he, ⟨rfl, Nat.zero_le _, fun h => absurd h (Nat.lt_irrefl _)⟩, Nat.le_refl _, (fun a e => by cases e), (fun _ => rfl), h1⟩
  · refine (bytesR b g bs.length cap lr w h h6 h7).mono fun e w' ⟨he, h1, _⟩ => ⟨some ⟨g, 0, none⟩, cap, he, ⟨rfl, by simp only [maxLen] at h7; omega, fun _ => ⟨_, rfl, fun j hj => ?_⟩⟩, h6, fun a e => ?_, (fun e => by cases e), h1⟩
    · rw [show (⟨g, 0, none⟩ : Addr).add j = ⟨g, j, none⟩ from by unfold Addr.add; split <;> simp_all]
      refine cell_of ((h1.block g (blk_lt' h3)).trans h3) ?_
      rw [← Array.getElem?_toList, ← List.getElem?_take_of_lt hj, h5]
      exact byteC_at hj
    · obtain rfl := Option.some.inj e
      exact .inr ⟨_, _, _, h⟩
set_option maxRecDepth 100000 in
theorem mWriteB (a : Addr) : Meth Tryd.prog 47 (.pointer (some a)) "Write" 92 (.pointer (some a)) := fun n w => by kernel_rfl
set_option maxRecDepth 100000 in
theorem nWriteB (a : Addr) : NilNot Tryd.prog 47 (.pointer (some a)) "Write" := fun n w => by kernel_rfl
theorem BufS.same {w w' : World} {b : Nat} {bs : List Int} (h : BufS w b bs) (hk : ∀ k, Own b w k → w'.heap[k]? = w.heap[k]?) : BufS w' b bs ∧ ∀ k, Own b w' k → Own b w k := by
  have hbb := hk b (.inl rfl)
  have hbf : ∀ {v lr}, BfC w' b v lr → BfC w b v lr := fun h => hbb.symm.trans h
  refine ⟨?_, fun k h1 => h1.imp id fun ⟨l, cap, lr, h⟩ => ⟨l, cap, lr, hbf h⟩⟩
  obtain ⟨lr, ⟨rfl, h⟩ | ⟨g, cap, cur, h, h2, h3, h4, h5, h6, h7⟩⟩ := h
  · exact ⟨lr, .inl ⟨rfl, hbb.trans h⟩⟩
  · exact ⟨lr, .inr ⟨g, cap, cur, hbb.trans h, h2, (hk g (.inr ⟨_, _, _, h⟩)).trans h3, h4, h5, h6, h7⟩⟩
/-- A buffer that was made behind w0. -/
def bufSink (w0 : World) (b : Nat) : Sink Tryd.prog w0 47 (.pointer (some ⟨b, 0, none⟩)) 92 140737488355328 where
  St w bs := Below w0.heap.size w0 w ∧ BufS w b bs ∧ ∀ k, Own b w k → w0.heap.size ≤ k
  own w k := Own b w k
  meth := mWriteB _
  nil := nWriteB _
  below h := h.1
  fresh h hk := ⟨h.2.2 _ hk, h.2.1.lt hk⟩
  stay h hb hk := ⟨⟨hb, (h.2.1.same hk).1, fun k h1 => h.2.2 k ((h.2.1.same hk).2 k h1)⟩, (h.2.1.same hk).2⟩
  write {w bs p A c n} h hp hM hc hr ho := (bufWrite b bs p A c n w h.2.1 hp hM hc hr ho).mono fun e w' ⟨he, h5, h6⟩ => ⟨he, ⟨⟨h6.os.trans h.1.os, h6.tape.trans h.1.tape, h6.output.trans h.1.output, Nat.le_trans h.1.size h6.size, fun k hk => (h6.block k (Nat.lt_of_lt_of_le hk h.1.size) (fun hn => Nat.not_le.2 hk (h.2.2 k hn))).trans (h.1.block k hk)⟩, h5, fun k hk => by
    rcases h6.grow k hk with h1 | h1
    · exact h.2.2 k h1
    · exact Nat.le_trans h.1.size h1⟩, h6.os, h6.tape, h6.output, h6.size, h6.block, h6.grow⟩
end Go.Proofs.YtigpdgfhngknhaaDoor.Snk
/- The hash of a leaf. -/
namespace Go.Proofs.YtigpdgfhngknhaaDoor.Snk
open Go.RowKit Go.Proofs.YtigpdgfhngknhaaDoorW.PrintWords Go.Proofs.YtigpdgfhngknhaaDoorW.PrintLast Go.Proofs.YtigpdgfhngknhaaDoorW.PrintMore
set_option linter.unusedVariables false
set_option linter.unusedSimpArgs false
theorem bufNew (w : World) : BufS (w.alloc (.cells #[.slice none 0 0, .int .i64 0, .int .i8 0] 41)) w.heap.size [] ∧ ∀ k, Own w.heap.size (w.alloc (.cells #[.slice none 0 0, .int .i64 0, .int .i8 0] 41)) k → w.heap.size ≤ k := by
  have h : BfC (w.alloc (.cells #[.slice none 0 0, .int .i64 0, .int .i8 0] 41)) w.heap.size (.slice none 0 0) 0 := heap_alloc_new w _
  exact ⟨⟨0, .inl ⟨rfl, h⟩⟩, fun k hk => by rw [h.ownNil hk]; exact Nat.le_refl _⟩
theorem bufStep {w0 w w' : World} {b : Nat} {bs bs' : List Int} (h : (bufSink w0 b).St w bs) (hb : BufS w' b bs') (h6 : Frame b w w') : (bufSink w0 b).St w' bs' :=
  ⟨⟨h6.os.trans h.1.os, h6.tape.trans h.1.tape, h6.output.trans h.1.output, Nat.le_trans h.1.size h6.size, fun k hk => (h6.block k (Nat.lt_of_lt_of_le hk h.1.size) (fun hn => Nat.not_le.2 hk (h.2.2 k hn))).trans (h.1.block k hk)⟩, hb, fun k hk => by
    rcases h6.grow k hk with h1 | h1
    · exact h.2.2 k h1
    · exact Nat.le_trans h.1.size h1⟩
def tLeaf : List Int := [84, 97, 112, 76, 101, 97, 102]
set_option maxRecDepth 100000 in
set_option maxHeartbeats 8000000 in
theorem tapHashC (ver : Int) (A : Option Addr) (n c : Nat) (p kl : List Int) (w : World) (hr : ReadsInt w .u8 A n p) (hc : n ≤ c) (hn : n ≤ 1000000000) (hk : Sha.KRow w kl) :
    Calls Tryd.prog 40 #[.agg #[.int .u8 ver, .slice A n c]] w fun e w' => e = .returned (.agg (byteC (Sha.tagL kl tLeaf ([ver] ++ (viB n ++ p)))).toArray) ∧ Below w.heap.size w w' := by
  have HRD := Aside0.mk hr
  have HC := Aside0.mk hc
  have HN := Aside0.mk hn
  have HK := Aside0.mk hk
  have HPL : Aside0 (p.length = n) := ⟨hr.1⟩
  have hl2 := Sha.tagL_len kl tLeaf ([ver] ++ (viB n ++ p))
  obtain ⟨hh, hhh⟩ : ∃ x, Sha.tagL kl tLeaf ([ver] ++ (viB n ++ p)) = x := ⟨_, rfl⟩
  rw [hhh] at hl2 ⊢
  have HHH := Aside0.mk hhh
  have HL2 := Aside0.mk hl2
  clear hr hc hn hk hl2 hhh
  go_enter Tryd.func40, Tryd.ntmps40
  go_upto_region 1 with fail
  generalize hw1 : World.alloc (World.alloc _ _) _ = w1
  have HB1 : Aside0 (Below w.heap.size w w1) := ⟨by rw [← hw1]; exact below_alloc (below_alloc (Below.refl _ _) _) _⟩
  have hq0 : w1.cell? ⟨w.heap.size, 0, none⟩ = some (.int .u8 ver) := by
    rw [← hw1]
    exact cell_of (heap_alloc_lt (heap_alloc_new w (.cells #[.int .u8 ver, .slice A n c] _)) _) rfl
  have HQ1 : Aside0 (w1.cell? ⟨w.heap.size, 1, none⟩ = some (.slice A n c)) := ⟨by
    rw [← hw1]
    exact cell_of (heap_alloc_lt (heap_alloc_new w (.cells #[.int .u8 ver, .slice A n c] _)) _) rfl⟩
  have HR1 : Aside0 (w1.heap[w.heap.size + 1]? = some (.cells (byteC (List.replicate 32 0)).toArray 49 (0, 0))) := ⟨by
    rw [← hw1]
    have hh := heap_alloc_new (w.alloc (.cells #[.int .u8 ver, .slice A n c] 82)) (.cells (byteC (List.replicate 32 0)).toArray 49)
    rw [show (w.alloc (.cells #[.int .u8 ver, .slice A n c] 82)).heap.size = w.heap.size + 1 by simp] at hh
    exact hh⟩
  clear hw1
  have HQ0 := Aside0.mk hq0
  clear hq0
  go_upto_region 2 with fail
  have HBN := Aside0.mk (bufNew w1)
  obtain ⟨b, hb⟩ : ∃ b, w1.heap.size = b := ⟨_, rfl⟩
  have HBB := Aside0.mk hb
  rw [hb] at HBN ⊢
  generalize hw2 : World.alloc _ _ = w2
  have HB2 : Aside0 (Below w1.heap.size w1 w2) := ⟨by rw [← hw2]; exact below_alloc (Below.refl _ _) _⟩
  rw [hw2] at HBN
  clear hw2 hb
  have HS2 : Aside0 ((bufSink w1 b).St w2 []) := ⟨HB2.out, HBN.out.1, fun k hk => by rw [HBB.out]; exact HBN.out.2 k hk⟩
  have hc2 := pw_cell_below HB2.out HQ0.out
  have HW := Aside0.mk (bufByte b [] ver w2 HBN.out.1 (by decide))
  go_upto_region 3 with (go_at_call 49; (with_reducible refine HW.out.mono ?_); rintro e w3 ⟨rfl, k1, k2⟩; have HS3 := Aside0.mk (bufStep HS2.out k1 k2); clear k1 k2)
  clear hc2
  have hc3 := pw_cell_below ((bufSink w1 b).below HS3.out) HQ1.out
  have HV := Aside0.mk (varBytesC (bufSink w1 b) Tryd.func92 rfl rfl 0 A n c p (HRD.out.below HB1.out) HC.out (by have := HN.out; omega) w3 ([] ++ [ver]) HS3.out (by have := HN.out; simp only [List.length_append, List.length_nil, List.length_cons]; omega))
  go_upto_region 4 with (go_at_call 50; (with_reducible refine HV.out.mono ?_); rintro e w4 ⟨rfl, k1, k2⟩; have HS4 := Aside0.mk k1; clear k1 k2)
  clear hc3
  have hcv := Lib.run_convert_bytes_const (P := Tryd.prog) w4 26 5 (byteC tLeaf).toArray 7 7 Tryd.underlying26 Tryd.underlying5
  generalize hw5 : w4.alloc (.cells (byteC tLeaf).toArray 5 ((byteC tLeaf).toArray.size, (byteC tLeaf).toArray.size + 1)) = w5 at hcv
  replace hcv : (convert 26 26 (.slice (some ⟨w4.heap.size, 0, none⟩) 7 7)).run Tryd.prog (w4.alloc (.cells #[.int .u8 84, .int .u8 97, .int .u8 112, .int .u8 76, .int .u8 101, .int .u8 97, .int .u8 102] 5)) = .ok (.slice (some ⟨w4.heap.size, 0, none⟩) 7 7) w5 := hcv
  have HB5 : Aside0 (Below w4.heap.size w4 w5) := ⟨by rw [← hw5]; exact below_alloc (Below.refl _ _) _⟩
  have HT5 : Aside0 (ReadsInt w5 .u8 (some ⟨w4.heap.size, 0, none⟩) 7 tLeaf) := ⟨by
    refine ⟨rfl, by decide, fun _ => ⟨_, rfl, fun j hj => ?_⟩⟩
    rw [add_any, Nat.zero_add, ← hw5, World.cell?_alloc_mark, List.getElem?_toArray]
    exact byteC_at hj⟩
  clear hw5
  have HS5 : Aside0 ((bufSink w1 b).St w5 ([] ++ [ver] ++ (viB n ++ p))) := ⟨(below_step HS4.out HB5.out).1⟩
  have HYB := Aside0.mk (bufBytes b _ w5 HS5.out.2.1)
  have HBQ := Aside0.mk ((bufSink w1 b).below HS5.out)
  obtain ⟨m, hm⟩ : ∃ m, ([] ++ [ver] ++ (viB n ++ p)).length = m := ⟨_, rfl⟩
  have HML : Aside0 (m ≤ 2000000000) := ⟨by rw [← hm]; have := viB_len (n : Int); have := HN.out; have := HPL.out; simp only [List.length_append, List.length_nil, List.length_cons]; omega⟩
  have HTG : Aside0 (∀ (w6 : World) A6 c6, Below w5.heap.size w5 w6 → ReadsInt w6 .u8 A6 m ([] ++ [ver] ++ (viB n ++ p)) → m ≤ c6 → Calls Tryd.prog 51 #[.slice (some ⟨w4.heap.size, 0, none⟩) 7 7, .slice (some ⟨w6.heap.size, 0, none⟩) 1 1] (w6.alloc (.cells #[.slice A6 m c6] 26)) fun e w' => ∃ g, e = .returned (.pointer (some ⟨g, 0, none⟩)) ∧ w'.heap[g]? = some (.cells (byteC hh).toArray 49 (0, 0)) ∧ w6.heap.size ≤ g ∧ Below w6.heap.size w6 w') := ⟨fun w6 A6 c6 h1 h2 h3 => by
    have hba : Below w6.heap.size w6 (w6.alloc (.cells #[.slice A6 m c6] 26)) := below_alloc (Below.refl _ _) _
    have hgr := heap_alloc_new w6 (.cells #[.slice A6 m c6] 26)
    have h := Sha.taggedC (some ⟨w4.heap.size, 0, none⟩) 7 7 tLeaf w6.heap.size 1 1 (fun _ => A6) (fun _ => m) (fun _ => c6) (fun _ => [] ++ [ver] ++ (viB n ++ p)) kl _ ((HT5.out.below h1).below hba) (Nat.le_refl _) (by decide) (by decide) (blk_lt' hgr) (fun i hi => by
      obtain rfl : i = 0 := by omega
      exact ⟨cell_of hgr rfl, h2.below hba, h3⟩) (by show ([] ++ ([] ++ [ver] ++ (viB n ++ p))).length ≤ _; rw [List.nil_append, hm]; have := HML.out; omega) ((((HK.out.below HB1.out).below HBQ.out).below h1).below hba)
    rw [show Sha.cat (fun _ => [] ++ [ver] ++ (viB n ++ p)) 1 = [ver] ++ (viB n ++ p) from rfl, HHH.out] at h
    exact h.mono fun e w' ⟨g, h4, h5, h6, h7⟩ => ⟨g, h4, h5, Nat.le_trans hba.size h6, below_then hba hba.size h7⟩⟩
  rw [hm] at HYB
  clear hm
  go_wp2_with (first
    | (go_at_call 17; (with_reducible refine HYB.out.mono ?_); rintro e w6 ⟨A6, c6, rfl, k1, k2, k3, k4, k5⟩; have HR6 := Aside0.mk k1; have HC6 := Aside0.mk k2; have HB6 := Aside0.mk k5; clear k1 k2 k3 k4 k5)
    | (go_at_call 51; (with_reducible refine (HTG.out w6 A6 c6 HB6.out HR6.out HC6.out).mono ?_); rintro e w8 ⟨g9, rfl, k1, k2, k3⟩; have HR8 := Aside0.mk k1; have HB8 := Aside0.mk k3; clear k1 k2 k3; have HBE := Aside0.mk (Sha.below_tr (Sha.below_tr HBQ.out HB6.out) HB8.out); have HR9 := Aside0.mk ((HBE.out.block _ (blk_lt' HR1.out)).trans HR1.out))
    | ((with_reducible refine at_dst (N := 17) rfl ?_); refine wpList_load_row rfl 49 (.tmp 16) rfl g9 rfl 49 _ (0, 0) _ HR8.out Tryd.underlying49 rfl (Sha.hash_info _ HL2.out) ?_)
    | (refine wpList_store_row rfl 49 (.tmp 2) (.tmp 17) rfl (w.heap.size + 1) (byteC hh).toArray rfl rfl 49 _ HR9.out (Sha.hash_info _ HL2.out) (Sha.row_size _ HL2.out) (Sha.byteC_one _) ?_))
  refine bodyPost_ret_by (results_cell_row rfl _ _ (w.heap.size + 1) 49 _ (0, 0) _ (by rfl) (setRow_heap _ _ _ _ _ _ HR9.out) Tryd.underlying49 rfl (Sha.hash_info _ HL2.out)) rfl ⟨rfl, Sha.below_setRow _ (Sha.below_tr HB1.out HBE.out) (Nat.le_succ _)⟩
end Go.Proofs.YtigpdgfhngknhaaDoor.Snk
/- The hash of the law. -/
namespace Go.Proofs.YtigpdgfhngknhaaDoor.Sha
open Go.RowKit Go.Proofs.YtigpdgfhngknhaaDoorW.PrintWords Go.Proofs.YtigpdgfhngknhaaDoorW.PrintLast Go.Proofs.YtigpdgfhngknhaaDoorW.PrintMore Go.Proofs.YtigpdgfhngknhaaDoor.QFnTapRoot
set_option linter.unusedVariables false
set_option linter.unusedSimpArgs false
set_option maxRecDepth 100000 in
set_option maxHeartbeats 4000000 in
theorem hashHC (A : Option Addr) (c : Nat) (bs kl : List Int) (w : World) (hb : ReadsInt w .u8 A bs.length bs) (hc : bs.length ≤ c) (hn : bs.length ≤ 100000000000) (hk : KRow w kl) :
    Calls Tryd.prog 26 #[.slice A bs.length c] w fun e w' => e = .returned (.agg (byteC (shaL kl bs)).toArray) ∧ Below w.heap.size w w' := by
  have H1 : Aside0 (∀ w1, Below w.heap.size w w1 → Calls Tryd.prog 36 #[.slice A bs.length c] w1 fun e w' => e = .returned (.agg (byteC (shaL kl bs)).toArray) ∧ Below w1.heap.size w1 w') := ⟨fun w1 h => sum256C A c bs kl w1 (hb.below h) hc hn (hk.below h)⟩
  have hl1 := shaL_len kl bs
  obtain ⟨h1, hh1⟩ : ∃ h, shaL kl bs = h := ⟨_, rfl⟩
  rw [hh1] at H1 hl1 ⊢
  have HL1 := Aside0.mk hl1
  obtain ⟨n, hbn⟩ : ∃ n, bs.length = n := ⟨_, rfl⟩
  rw [hbn] at H1 ⊢
  clear hb hc hn hk hbn hl1 hh1
  go_enter Tryd.func26, Tryd.ntmps26
  go_upto_region 1 with fail
  obtain ⟨r, hr⟩ : ∃ r, w.heap.size = r := ⟨_, rfl⟩
  have HR := Aside0.mk hr
  rw [hr]
  generalize hw1 : World.alloc _ _ = w1
  have HB1 : Aside0 (Below w.heap.size w w1) := ⟨by rw [← hw1]; exact below_alloc (Below.refl _ _) _⟩
  have HR1 : Aside0 (w1.heap[r]? = some (.cells (byteC (List.replicate 32 0)).toArray 49 (0, 0))) := ⟨by rw [← hw1, ← HR.out]; exact row_alloc w _⟩
  clear hw1 hr
  go_wp2_with (first
    | (go_at_call 36; (with_reducible refine (H1.out w1 HB1.out).mono ?_); rintro e w2 ⟨rfl, k1⟩; have HB2 := Aside0.mk k1; clear k1; have HR4 := Aside0.mk ((HB2.out.block r (blk_lt' HR1.out)).trans HR1.out))
    | (refine wpList_store_row rfl 49 (.tmp 2) (.tmp 4) rfl r (byteC h1).toArray rfl rfl 49 _ HR4.out (hash_info _ HL1.out) (row_size _ HL1.out) (byteC_one _) ?_))
  refine bodyPost_ret_by (results_cell_row rfl _ _ r 49 _ (0, 0) _ (by rfl) (setRow_heap _ _ _ _ _ _ HR4.out) Tryd.underlying49 rfl (hash_info _ HL1.out)) rfl ⟨rfl, below_setRow _ (below_tr HB1.out HB2.out) (by have := HR.out; omega)⟩
set_option maxRecDepth 100000 in
set_option maxHeartbeats 4000000 in
theorem shaC (A : Option Addr) (c : Nat) (bs kl : List Int) (w : World) (hb : ReadsInt w .u8 A bs.length bs) (hc : bs.length ≤ c) (hn : bs.length ≤ 100000000000) (hk : KRow w kl) :
    Calls Tryd.prog 13 #[.slice A bs.length c] w fun e w' => e = .returned (.agg (byteC (shaL kl bs)).toArray) ∧ Below w.heap.size w w' := by
  have H1 : Aside0 (∀ w1, Below w.heap.size w w1 → Calls Tryd.prog 26 #[.slice A bs.length c] w1 fun e w' => e = .returned (.agg (byteC (shaL kl bs)).toArray) ∧ Below w1.heap.size w1 w') := ⟨fun w1 h => hashHC A c bs kl w1 (hb.below h) hc hn (hk.below h)⟩
  have hl1 := shaL_len kl bs
  obtain ⟨h1, hh1⟩ : ∃ h, shaL kl bs = h := ⟨_, rfl⟩
  rw [hh1] at H1 hl1 ⊢
  have HL1 := Aside0.mk hl1
  obtain ⟨n, hbn⟩ : ∃ n, bs.length = n := ⟨_, rfl⟩
  rw [hbn] at H1 ⊢
  clear hb hc hn hk hbn hl1 hh1
  go_enter Tryd.func13, Tryd.ntmps13
  go_upto_region 1 with fail
  obtain ⟨r, hr⟩ : ∃ r, w.heap.size = r := ⟨_, rfl⟩
  have HR := Aside0.mk hr
  rw [hr]
  generalize hw1 : World.alloc _ _ = w1
  have HB1 : Aside0 (Below w.heap.size w w1) := ⟨by rw [← hw1]; exact below_alloc (Below.refl _ _) _⟩
  have HR1 : Aside0 (w1.heap[r]? = some (.cells (byteC (List.replicate 32 0)).toArray 22 (0, 0))) := ⟨by rw [← hw1, ← HR.out]; exact row_alloc w _⟩
  clear hw1 hr
  go_wp2_with (first
    | (go_at_call 26; (with_reducible refine (H1.out w1 HB1.out).mono ?_); rintro e w2 ⟨rfl, k1⟩; have HB2 := Aside0.mk k1; clear k1; have HR4 := Aside0.mk ((HB2.out.block r (blk_lt' HR1.out)).trans HR1.out))
    | (refine wpList_store_row rfl 22 (.tmp 2) (.tmp 4) rfl r (byteC h1).toArray rfl rfl 22 _ HR4.out (row32_info _ HL1.out) (row_size _ HL1.out) (byteC_one _) ?_))
  refine bodyPost_ret_by (results_cell_row rfl _ _ r 22 _ (0, 0) _ (by rfl) (setRow_heap _ _ _ _ _ _ HR4.out) Tryd.underlying22 rfl (row32_info _ HL1.out)) rfl ⟨rfl, below_setRow _ (below_tr HB1.out HB2.out) (by have := HR.out; omega)⟩
end Go.Proofs.YtigpdgfhngknhaaDoor.Sha
/- Bytes compared. -/
namespace Go.Proofs.YtigpdgfhngknhaaDoor.Sha
open Go.RowKit Go.Proofs.YtigpdgfhngknhaaDoorW.PrintWords Go.Proofs.YtigpdgfhngknhaaDoorW.PrintLast Go.Proofs.YtigpdgfhngknhaaDoorW.PrintMore Go.Proofs.YtigpdgfhngknhaaDoor.QFnTapRoot
set_option linter.unusedVariables false
set_option linter.unusedSimpArgs false
theorem run_bytes_of {P : Program} {w : World} {A : Option Addr} {n c : Nat} {p : List Int} (h : ReadsInt w .u8 A n p) : (Extern.Bytes.bytesOf (.slice A n c)).run P w = .ok ⟨(Lib.bytesOf p).toArray⟩ w := by
  have he : ∀ x : Array UInt8, (⟨ByteArray.empty.data ++ x⟩ : ByteArray) = ⟨x⟩ := fun x => by
    apply ByteArray.ext
    show (#[] : Array UInt8) ++ x = x
    simp
  obtain ⟨hl, _, hc⟩ := h
  by_cases hn : 0 < n
  · obtain ⟨ad, rfl, hcc⟩ := hc hn
    have hl' := Lib.run_loadBytesX (P := P) w p ad .empty (fun j x hj => by
      have hjl : j < p.length := (List.getElem?_eq_some_iff.1 hj).1
      rw [hcc j (by omega), List.getD_eq_getElem?_getD, hj]
      rfl)
    rw [hl, he] at hl'
    exact hl'
  · obtain rfl : n = 0 := by omega
    obtain rfl : p = [] := List.eq_nil_of_length_eq_zero hl
    cases A
    · rfl
    · rfl
theorem run_cmp {w : World} {A A2 : Option Addr} {n c n2 c2 : Nat} {p q : List Int} (h : ReadsInt w .u8 A n p) (h2 : ReadsInt w .u8 A2 n2 q) :
    (callFunc 62 #[.slice A n c, .slice A2 n2 c2]).run Tryd.prog w = .ok (.value (.int .i64 (Lib.compareBytes (Lib.bytesOf p) (Lib.bytesOf q)))) w := by
  rw [run_callFunc_extern Tryd.func62 (by kernel_rfl) (by kernel_rfl) (by kernel_rfl) (e := Extern.BytealgCompare.compare) (by kernel_rfl)]
  have e : (Extern.BytealgCompare.compare #[.slice A n c, .slice A2 n2 c2]).run Tryd.prog w = .ok (.int .i64 (Lib.compareBytes (Lib.bytesOf p) (Lib.bytesOf q))) w := by
    change Sem.run Tryd.prog (do pure (goInt (Extern.BytealgCompare.cmp (← Extern.Bytes.bytesOf (.slice A n c)) (← Extern.Bytes.bytesOf (.slice A2 n2 c2))))) w = _
    simp only [Sem.run_bind, Sem.run_pure, run_bytes_of h, run_bytes_of h2, Result.andThen]
    rw [Lib.cmp_eq]
    rfl
  rw [e]
  rfl
set_option maxRecDepth 100000 in
theorem compareC (A A2 : Option Addr) (n c n2 c2 : Nat) (p q : List Int) (w : World) (h : ReadsInt w .u8 A n p) (h2 : ReadsInt w .u8 A2 n2 q) :
    Calls Tryd.prog 52 #[.slice A n c, .slice A2 n2 c2] w fun e w' => e = .returned (.int .i64 (Lib.compareBytes (Lib.bytesOf p) (Lib.bytesOf q))) ∧ w' = w := by
  have hr := run_cmp (c := c) (c2 := c2) h h2
  clear h h2
  go_enter Tryd.func52, Tryd.ntmps52
  go_wp2_with fail
  go_ret
  exact ⟨rfl, rfl⟩
end Go.Proofs.YtigpdgfhngknhaaDoor.Sha
/- The hash of two nodes. -/
namespace Go.Proofs.YtigpdgfhngknhaaDoor.Snk
open Go.RowKit Go.Proofs.YtigpdgfhngknhaaDoorW.PrintWords Go.Proofs.YtigpdgfhngknhaaDoorW.PrintLast Go.Proofs.YtigpdgfhngknhaaDoorW.PrintMore
set_option linter.unusedVariables false
set_option linter.unusedSimpArgs false
theorem conv_mark {P : Program} (t e : TypeId) (C : Array Value) (n c g : Nat) (W : World) (hg : W.heap[g]? = some (.cells C e (0, 0))) (ht : P.underlying t = some (.slice e)) (he : P.underlying e = some (.int .u8)) :
    ∃ W', (convert t t (.slice (some ⟨g, 0, none⟩) n c)).run P W = .ok (.slice (some ⟨g, 0, none⟩) n c) W' ∧ W'.heap[g]? = some (.cells C e (C.size, C.size + 1)) ∧ Only g W W' := by
  have hsh : W.shape? g = some (e, C.size) := by
    unfold World.shape?
    rw [hg]
  refine ⟨W.freeze ⟨g, C.size, none⟩ 1, ?_, ?_, ?_⟩
  · simp [convert, run_underlying ht, run_underlying he, markStringish, hsh]
  · unfold World.freeze
    rw [if_neg (by decide)]
    simp only [Array.getElem?_modify, if_true, hg]
    rfl
  · unfold World.freeze
    rw [if_neg (by decide)]
    exact ⟨rfl, rfl, rfl, by simp, fun k hk hne => by simp only [Array.getElem?_modify]; rw [if_neg (Ne.symm hne)]⟩
theorem conv_op {P : Program} {ρ : Operand → Value} {o : Oper} {w w' : World} {v v' : Value} (t : TypeId) (x : Operand) (ho : o.op = .convert t t x) (hx : ρ x = v) (h : (convert t t v).run P w = .ok v' w') : (execOp ρ o).run P w = .ok (.value v') w' := by
  unfold execOp
  rw [ho]
  simp [hx, h, Result.andThen]
def tBranch : List Int := [84, 97, 112, 66, 114, 97, 110, 99, 104]
def cmpB (l r : List Int) : Int := Lib.compareBytes (Lib.bytesOf l) (Lib.bytesOf r)
/-- What the hash of two nodes is. -/
def branL (kl l r : List Int) : List Int := if 0 < cmpB l r then Sha.tagL kl tBranch (r ++ l) else Sha.tagL kl tBranch (l ++ r)
theorem branL_len (kl l r : List Int) : (branL kl l r).length = 32 := by
  unfold branL
  split <;> exact Sha.tagL_len _ _ _
set_option maxRecDepth 100000 in
set_option maxHeartbeats 8000000 in
theorem branchC (Al Ar : Option Addr) (cl cr : Nat) (l r kl : List Int) (w : World) (hl : ReadsInt w .u8 Al 32 l) (hr : ReadsInt w .u8 Ar 32 r) (hc : 32 ≤ cl) (hc2 : 32 ≤ cr) (hk : Sha.KRow w kl) :
    Calls Tryd.prog 41 #[.slice Al 32 cl, .slice Ar 32 cr] w fun e w' => e = .returned (.agg (byteC (branL kl l r)).toArray) ∧ Below w.heap.size w w' := by
  have Hl := Aside0.mk hl
  have Hr := Aside0.mk hr
  have HCl := Aside0.mk hc
  have HCr := Aside0.mk hc2
  have HK := Aside0.mk hk
  have hl2 := branL_len kl l r
  obtain ⟨d, hd⟩ : ∃ d, cmpB l r = d := ⟨_, rfl⟩
  have HCM : Aside0 (∀ w1, Below w.heap.size w w1 → Calls Tryd.prog 52 #[.slice Al 32 cl, .slice Ar 32 cr] w1 fun e w' => e = .returned (.int .i64 d) ∧ w' = w1) := ⟨fun w1 h1 => by
    rw [← hd]
    exact Sha.compareC Al Ar 32 cl 32 cr l r w1 (hl.below h1) (hr.below h1)⟩
  obtain ⟨hh, hhh⟩ : ∃ x, branL kl l r = x := ⟨_, rfl⟩
  rw [hhh] at hl2 ⊢
  have HL2 := Aside0.mk hl2
  unfold branL at hhh
  rw [hd] at hhh
  clear hd
  by_cases hd0 : 0 < d
  · rw [if_pos hd0] at hhh
    have HHH := Aside0.mk hhh
    clear hl hr hc hc2 hk hl2 hhh
    go_enter Tryd.func41, Tryd.ntmps41
    go_upto_region 1 with fail
    generalize hw1 : World.alloc _ _ = w1
    have HB1 : Aside0 (Below w.heap.size w w1) := ⟨by rw [← hw1]; exact below_alloc (Below.refl _ _) _⟩
    have HR1 : Aside0 (w1.heap[w.heap.size]? = some (.cells (byteC (List.replicate 32 0)).toArray 49 (0, 0))) := ⟨by rw [← hw1]; exact Sha.row_alloc w _⟩
    clear hw1
    refine start_ (n := 6) (S := fun w' => True) (ds := []) #[false, false, false, false, false, false] (by kernel_rfl) rfl rfl trivial (fun hHeld => ?_)
    refine pure_ (i := 0) (N := some 5) (v := ?_) (a' := ?_) #[true, false, false, false, false, false] rfl rfl (by kernel_rfl) (fun _ _ _ h => h) (Or.inl ⟨by rfl, ?_⟩) ?_ ?_
    rotate_left
    · intro w'
      go_simp
      with_reducible rfl
    rotate_left
    · simp only [Act.put, List.setIfInBounds_toArray, List.set_cons_zero, List.set_cons_succ, i64_w, i32_w]
      rfl
    refine pure_ (i := 1) (N := some 6) (v := ?_) (a' := ?_) #[true, true, false, false, false, false] rfl rfl (by kernel_rfl) (fun _ _ _ h => h) (Or.inl ⟨by rfl, ?_⟩) ?_ ?_
    rotate_left
    · intro w'
      go_simp
      with_reducible rfl
    rotate_left
    · simp only [Act.put, List.setIfInBounds_toArray, List.set_cons_zero, List.set_cons_succ, i64_w, i32_w]
      rfl
    refine pure_ (i := 2) (N := some 7) (v := ?_) (a' := ?_) #[true, true, true, false, false, false] rfl rfl (by kernel_rfl) (fun _ _ _ h => h) (Or.inl ⟨by rfl, ?_⟩) ?_ ?_
    rotate_left
    · intro w'
      go_simp
      with_reducible rfl
    rotate_left
    · simp only [Act.put, List.setIfInBounds_toArray, List.set_cons_zero, List.set_cons_succ, i64_w, i32_w]
      rfl
    refine pure_ (i := 3) (N := some 8) (v := ?_) (a' := ?_) #[true, true, true, true, false, false] rfl rfl (by kernel_rfl) (fun _ _ _ h => h) (Or.inl ⟨by rfl, ?_⟩) ?_ ?_
    rotate_left
    · intro w'
      go_simp
      with_reducible rfl
    rotate_left
    · simp only [Act.put, List.setIfInBounds_toArray, List.set_cons_zero, List.set_cons_succ, i64_w, i32_w]
      rfl
    refine one_ (i := 4) (N := some 9) #[true, true, true, true, true, false] rfl rfl (by kernel_rfl) (by decide) (fun K hK => ?_)
    refine goes_ Tryd.func52 (by kernel_rfl) rfl #[.slice Al 32 cl, .slice Ar 32 cr] (by rfl) rfl rfl (by (try simp only [List.map_toArray, List.map_cons, List.map_nil]); first | done | rfl | (simp only [List.length_drop, List.length_take]; rfl)) ?_
    with_reducible refine ((HCM.out w1.drew (below_drew HB1.out))).mono ?_
    rintro e u ⟨rfl, rfl⟩
    refine ⟨_, rfl, ?_⟩
    refine hK.out _ _ trivial (fun hHeld => ?_)
    clear hK K
    refine norm_ (a' := ?_) ?_ ?_
    rotate_left
    · show Act.put _ (some 9) _ = _
      simp only [Act.put, List.setIfInBounds_toArray, List.set_cons_zero, List.set_cons_succ, i64_w, i32_w]
      rfl
    refine pure_ (i := 5) (N := some 10) (v := ?_) (a' := ?_) #[true, true, true, true, true, true] rfl rfl (by kernel_rfl) (fun _ _ _ h => h) (Or.inl ⟨by rfl, ?_⟩) ?_ ?_
    rotate_left
    · intro w'
      go_simp
      with_reducible rfl
    rotate_left
    · simp only [Act.put, List.setIfInBounds_toArray, List.set_cons_zero, List.set_cons_succ, i64_w, i32_w]
      rfl
    refine done_ (by kernel_rfl) ?_
    go_upto_region 3 with fail
    have HTG : Aside0 (∀ (w2 : World) (gt gm : Nat), Below w1.heap.size w1 w2 → w2.heap[gt]? = some (.cells (byteC tBranch).toArray 5 ((byteC tBranch).toArray.size, (byteC tBranch).toArray.size + 1)) → w2.heap[gm]? = some (.cells #[.slice Ar 32 cr, .slice Al 32 cl] 26 (0, 0)) → Calls Tryd.prog 51 #[.slice (some ⟨gt, 0, none⟩) 9 9, .slice (some ⟨gm, 0, none⟩) 2 2] w2 fun e w' => ∃ g, e = .returned (.pointer (some ⟨g, 0, none⟩)) ∧ w'.heap[g]? = some (.cells (byteC hh).toArray 49 (0, 0)) ∧ w2.heap.size ≤ g ∧ Below w2.heap.size w2 w') := ⟨fun w2 gt gm h1 h2 h3 => by
      have hB := below_then HB1.out HB1.out.size h1
      have h := Sha.taggedC (some ⟨gt, 0, none⟩) 9 9 tBranch gm 2 2 (fun i => if i = 0 then Ar else Al) (fun _ => 32) (fun i => if i = 0 then cr else cl) (fun i => if i = 0 then r else l) kl w2 ⟨rfl, by decide, fun _ => ⟨_, rfl, fun j hj => by rw [add_any, Nat.zero_add]; exact cell_of h2 (by rw [List.getElem?_toArray]; exact byteC_at hj)⟩⟩ (Nat.le_refl _) (by decide) (by decide) (blk_lt' h3) (fun i hi => by
        have h01 : i = 0 ∨ i = 1 := by omega
        rcases h01 with rfl | rfl
        · exact ⟨cell_of h3 rfl, Hr.out.below hB, HCr.out⟩
        · exact ⟨cell_of h3 rfl, Hl.out.below hB, HCl.out⟩) (by have e1 := Hr.out.1; have e2 := Hl.out.1; simp [Sha.cat, e1, e2]) (HK.out.below hB)
      rw [show Sha.cat (fun i => if i = 0 then r else l) 2 = r ++ l from rfl, HHH.out] at h
      exact h⟩
    refine start_ (n := 11) (S := fun w' => True) (ds := [10]) #[false, false, false, false, false, false, false, false, false, false, false] (by kernel_rfl) rfl rfl trivial (fun hHeld => ?_)
    refine pure_ (i := 2) (N := some 15) (v := ?_) (a' := ?_) #[false, false, true, false, false, false, false, false, false, false, false] rfl rfl (by kernel_rfl) (fun _ _ _ h => h) (Or.inl ⟨by rfl, ?_⟩) ?_ ?_
    rotate_left
    · intro w'
      go_simp
      with_reducible rfl
    rotate_left
    · simp only [Act.put, List.setIfInBounds_toArray, List.set_cons_zero, List.set_cons_succ, i64_w, i32_w]
      rfl
    refine pure_ (i := 3) (N := some 16) (v := ?_) (a' := ?_) #[false, false, true, true, false, false, false, false, false, false, false] rfl rfl (by kernel_rfl) (fun _ _ _ h => h) (Or.inl ⟨by rfl, ?_⟩) ?_ ?_
    rotate_left
    · intro w'
      go_simp
      with_reducible rfl
    rotate_left
    · simp only [Act.put, List.setIfInBounds_toArray, List.set_cons_zero, List.set_cons_succ, i64_w, i32_w]
      rfl
    refine pure_ (i := 4) (N := some 17) (v := ?_) (a' := ?_) #[false, false, true, true, true, false, false, false, false, false, false] rfl rfl (by kernel_rfl) (fun _ _ _ h => h) (Or.inl ⟨by rfl, ?_⟩) ?_ ?_
    rotate_left
    · intro w'
      go_simp
      with_reducible rfl
    rotate_left
    · simp only [Act.put, List.setIfInBounds_toArray, List.set_cons_zero, List.set_cons_succ, i64_w, i32_w]
      rfl
    refine pure_ (i := 5) (N := some 18) (v := ?_) (a' := ?_) #[false, false, true, true, true, true, false, false, false, false, false] rfl rfl (by kernel_rfl) (fun _ _ _ h => h) (Or.inl ⟨by rfl, ?_⟩) ?_ ?_
    rotate_left
    · intro w'
      go_simp
      with_reducible rfl
    rotate_left
    · simp only [Act.put, List.setIfInBounds_toArray, List.set_cons_zero, List.set_cons_succ, i64_w, i32_w]
      rfl
    refine join_ (σ := Nat × Nat) 4 #[true, true, true, true, true, true, true, false, false, false, false] (fun s => [(13, .slice (some ⟨s.1, 0, none⟩) 9 9), (14, .slice (some ⟨s.1, 0, none⟩) 9 9), (19, .slice (some ⟨s.2, 0, none⟩) 2 2)]) (fun s w' => Below w1.heap.size w1 w' ∧ w'.heap[s.1]? = some (.cells (byteC tBranch).toArray 5 ((byteC tBranch).toArray.size, (byteC tBranch).toArray.size + 1)) ∧ w'.heap[s.2]? = some (.cells #[.slice Ar 32 cr, .slice Al 32 cl] 26 (0, 0))) ?_ ?_
    rotate_left
    · intro hCont
      generalize hu0 : World.drew (World.drew w1) = u0
      have hB0 : Below w1.heap.size w1 u0 := by rw [← hu0]; exact below_drew (below_drew (Below.refl _ _))
      refine two_ (i := 0) (j := 6) (Ni := some 13) (Nj := some 19) #[true, false, true, true, true, true, false, false, false, false, false] #[false, false, true, true, true, true, true, false, false, false, false] rfl rfl rfl rfl (by kernel_rfl) (by decide) (by decide) (fun K hK => ?_) (fun K hK => ?_)
      · skip
        refine Sha.val_ (w1 := World.alloc u0 (.cells (byteC tBranch).toArray 5)) (.slice (some ⟨u0.heap.size, 0, none⟩) 9 9) (by rfl) rfl ?_ ?_
        · unfold execOp
          go_simp
          try rfl
        have hT0 := heap_alloc_new u0 (.cells (byteC tBranch).toArray 5)
        have hB1 := hB0.alloc hB0.size (.cells (byteC tBranch).toArray 5)
        obtain ⟨gt, hgt⟩ : ∃ x, x = (World.heap u0).size := ⟨_, rfl⟩
        rw [← hgt] at hT0 ⊢
        have hgtw : w1.heap.size ≤ gt := by rw [hgt]; exact hB0.size
        generalize World.alloc u0 (.cells (byteC tBranch).toArray 5) = u1 at *
        refine hK.out _ _ trivial (fun hHeld => ?_)
        clear hK K
        refine norm_ (a' := ?_) ?_ ?_
        rotate_left
        · show Act.put _ (some 13) _ = _
          simp only [Act.put, List.setIfInBounds_toArray, List.set_cons_zero, List.set_cons_succ, i64_w, i32_w]
          rfl
        refine two_ (i := 1) (j := 6) (Ni := some 14) (Nj := some 19) #[true, true, true, true, true, true, false, false, false, false, false] #[true, false, true, true, true, true, true, false, false, false, false] rfl rfl rfl rfl (by kernel_rfl) (by decide) (by decide) (fun K hK => ?_) (fun K hK => ?_)
        · skip
          obtain ⟨u2, hrun, hT, ho⟩ := conv_mark (P := Tryd.prog) 26 5 _ 9 9 gt u1 hT0 Tryd.underlying26 Tryd.underlying5
          refine Sha.val_ (w1 := u2) (.slice (some ⟨gt, 0, none⟩) 9 9) (by rfl) rfl ?_ ?_
          · refine conv_op 26 (.tmp 13) rfl ?_ hrun
            rfl
          have hB2 := ho.below hB1 hgtw hB1.size
          refine hK.out _ _ trivial (fun hHeld => ?_)
          clear hK K
          refine norm_ (a' := ?_) ?_ ?_
          rotate_left
          · show Act.put _ (some 14) _ = _
            simp only [Act.put, List.setIfInBounds_toArray, List.set_cons_zero, List.set_cons_succ, i64_w, i32_w]
            rfl
          refine one_ (i := 6) (N := some 19) #[true, true, true, true, true, true, true, false, false, false, false] rfl rfl (by kernel_rfl) (by decide) (fun K hK => ?_)
          refine Sha.val_ (w1 := World.alloc u2 (.cells #[.slice Ar 32 cr, .slice Al 32 cl] 26)) (.slice (some ⟨u2.heap.size, 0, none⟩) 2 2) (by rfl) rfl ?_ ?_
          · unfold execOp
            go_simp
            try rfl
          have hM := heap_alloc_new u2 (.cells #[.slice Ar 32 cr, .slice Al 32 cl] 26)
          have hB3 := hB2.alloc hB2.size (.cells #[.slice Ar 32 cr, .slice Al 32 cl] 26)
          replace hT := heap_alloc_lt hT (.cells #[.slice Ar 32 cr, .slice Al 32 cl] 26)
          obtain ⟨gm, hgm⟩ : ∃ x, x = (World.heap u2).size := ⟨_, rfl⟩
          rw [← hgm] at hM ⊢
          have hgmw : w1.heap.size ≤ gm := by rw [hgm]; exact hB2.size
          generalize World.alloc u2 (.cells #[.slice Ar 32 cr, .slice Al 32 cl] 26) = u3 at *
          refine hK.out _ _ trivial (fun hHeld => ?_)
          clear hK K
          refine norm_ (a' := ?_) ?_ ?_
          rotate_left
          · show Act.put _ (some 19) _ = _
            simp only [Act.put, List.setIfInBounds_toArray, List.set_cons_zero, List.set_cons_succ, i64_w, i32_w]
            rfl
          exact norm_ (by simp only [putAll, Act.put, List.setIfInBounds_toArray, List.set_cons_zero, List.set_cons_succ]) (hCont (gt, gm) _ ⟨hB3, hT, hM⟩)
        · skip
          refine Sha.val_ (w1 := World.alloc u1 (.cells #[.slice Ar 32 cr, .slice Al 32 cl] 26)) (.slice (some ⟨u1.heap.size, 0, none⟩) 2 2) (by rfl) rfl ?_ ?_
          · unfold execOp
            go_simp
            try rfl
          have hM := heap_alloc_new u1 (.cells #[.slice Ar 32 cr, .slice Al 32 cl] 26)
          have hB2 := hB1.alloc hB1.size (.cells #[.slice Ar 32 cr, .slice Al 32 cl] 26)
          replace hT0 := heap_alloc_lt hT0 (.cells #[.slice Ar 32 cr, .slice Al 32 cl] 26)
          obtain ⟨gm, hgm⟩ : ∃ x, x = (World.heap u1).size := ⟨_, rfl⟩
          rw [← hgm] at hM ⊢
          have hgmw : w1.heap.size ≤ gm := by rw [hgm]; exact hB1.size
          generalize World.alloc u1 (.cells #[.slice Ar 32 cr, .slice Al 32 cl] 26) = u2 at *
          refine hK.out _ _ trivial (fun hHeld => ?_)
          clear hK K
          refine norm_ (a' := ?_) ?_ ?_
          rotate_left
          · show Act.put _ (some 19) _ = _
            simp only [Act.put, List.setIfInBounds_toArray, List.set_cons_zero, List.set_cons_succ, i64_w, i32_w]
            rfl
          refine one_ (i := 1) (N := some 14) #[true, true, true, true, true, true, true, false, false, false, false] rfl rfl (by kernel_rfl) (by decide) (fun K hK => ?_)
          obtain ⟨u3, hrun, hT, ho⟩ := conv_mark (P := Tryd.prog) 26 5 _ 9 9 gt u2 hT0 Tryd.underlying26 Tryd.underlying5
          refine Sha.val_ (w1 := u3) (.slice (some ⟨gt, 0, none⟩) 9 9) (by rfl) rfl ?_ ?_
          · refine conv_op 26 (.tmp 13) rfl ?_ hrun
            rfl
          have hB3 := ho.below hB2 hgtw hB2.size
          replace hM := (ho.block gm (blk_lt' hM) (by intro e; subst e; rw [hM] at hT0; cases hT0)).trans hM
          refine hK.out _ _ trivial (fun hHeld => ?_)
          clear hK K
          refine norm_ (a' := ?_) ?_ ?_
          rotate_left
          · show Act.put _ (some 14) _ = _
            simp only [Act.put, List.setIfInBounds_toArray, List.set_cons_zero, List.set_cons_succ, i64_w, i32_w]
            rfl
          exact norm_ (by simp only [putAll, Act.put, List.setIfInBounds_toArray, List.set_cons_zero, List.set_cons_succ]) (hCont (gt, gm) _ ⟨hB3, hT, hM⟩)
      · skip
        refine Sha.val_ (w1 := World.alloc u0 (.cells #[.slice Ar 32 cr, .slice Al 32 cl] 26)) (.slice (some ⟨u0.heap.size, 0, none⟩) 2 2) (by rfl) rfl ?_ ?_
        · unfold execOp
          go_simp
          try rfl
        have hM := heap_alloc_new u0 (.cells #[.slice Ar 32 cr, .slice Al 32 cl] 26)
        have hB1 := hB0.alloc hB0.size (.cells #[.slice Ar 32 cr, .slice Al 32 cl] 26)
        obtain ⟨gm, hgm⟩ : ∃ x, x = (World.heap u0).size := ⟨_, rfl⟩
        rw [← hgm] at hM ⊢
        have hgmw : w1.heap.size ≤ gm := by rw [hgm]; exact hB0.size
        generalize World.alloc u0 (.cells #[.slice Ar 32 cr, .slice Al 32 cl] 26) = u1 at *
        refine hK.out _ _ trivial (fun hHeld => ?_)
        clear hK K
        refine norm_ (a' := ?_) ?_ ?_
        rotate_left
        · show Act.put _ (some 19) _ = _
          simp only [Act.put, List.setIfInBounds_toArray, List.set_cons_zero, List.set_cons_succ, i64_w, i32_w]
          rfl
        refine one_ (i := 0) (N := some 13) #[true, false, true, true, true, true, true, false, false, false, false] rfl rfl (by kernel_rfl) (by decide) (fun K hK => ?_)
        refine Sha.val_ (w1 := World.alloc u1 (.cells (byteC tBranch).toArray 5)) (.slice (some ⟨u1.heap.size, 0, none⟩) 9 9) (by rfl) rfl ?_ ?_
        · unfold execOp
          go_simp
          try rfl
        have hT0 := heap_alloc_new u1 (.cells (byteC tBranch).toArray 5)
        have hB2 := hB1.alloc hB1.size (.cells (byteC tBranch).toArray 5)
        replace hM := heap_alloc_lt hM (.cells (byteC tBranch).toArray 5)
        obtain ⟨gt, hgt⟩ : ∃ x, x = (World.heap u1).size := ⟨_, rfl⟩
        rw [← hgt] at hT0 ⊢
        have hgtw : w1.heap.size ≤ gt := by rw [hgt]; exact hB1.size
        generalize World.alloc u1 (.cells (byteC tBranch).toArray 5) = u2 at *
        refine hK.out _ _ trivial (fun hHeld => ?_)
        clear hK K
        refine norm_ (a' := ?_) ?_ ?_
        rotate_left
        · show Act.put _ (some 13) _ = _
          simp only [Act.put, List.setIfInBounds_toArray, List.set_cons_zero, List.set_cons_succ, i64_w, i32_w]
          rfl
        refine one_ (i := 1) (N := some 14) #[true, true, true, true, true, true, true, false, false, false, false] rfl rfl (by kernel_rfl) (by decide) (fun K hK => ?_)
        obtain ⟨u3, hrun, hT, ho⟩ := conv_mark (P := Tryd.prog) 26 5 _ 9 9 gt u2 hT0 Tryd.underlying26 Tryd.underlying5
        refine Sha.val_ (w1 := u3) (.slice (some ⟨gt, 0, none⟩) 9 9) (by rfl) rfl ?_ ?_
        · refine conv_op 26 (.tmp 13) rfl ?_ hrun
          rfl
        have hB3 := ho.below hB2 hgtw hB2.size
        replace hM := (ho.block gm (blk_lt' hM) (by intro e; subst e; rw [hM] at hT0; cases hT0)).trans hM
        refine hK.out _ _ trivial (fun hHeld => ?_)
        clear hK K
        refine norm_ (a' := ?_) ?_ ?_
        rotate_left
        · show Act.put _ (some 14) _ = _
          simp only [Act.put, List.setIfInBounds_toArray, List.set_cons_zero, List.set_cons_succ, i64_w, i32_w]
          rfl
        exact norm_ (by simp only [putAll, Act.put, List.setIfInBounds_toArray, List.set_cons_zero, List.set_cons_succ]) (hCont (gt, gm) _ ⟨hB3, hT, hM⟩)
    rintro ⟨gt, gm⟩ w2 ⟨hb2, hT, hM⟩
    refine norm_ (a' := ?_) ?_ ?_
    rotate_left
    · simp only [putAll, Act.put, List.setIfInBounds_toArray, List.set_cons_zero, List.set_cons_succ]
      rfl
    have HC2 := Aside0.mk (HTG.out w2 gt gm hb2 hT hM)
    have HB2 := Aside0.mk hb2
    clear hb2 hT hM
    refine one_ (i := 7) (N := some 20) #[true, true, true, true, true, true, true, true, false, false, false] rfl rfl (by kernel_rfl) (by decide) (fun K hK => ?_)
    refine goes_ Tryd.func51 (by kernel_rfl) rfl #[.slice (some ⟨gt, 0, none⟩) 9 9, .slice (some ⟨gm, 0, none⟩) 2 2] (by rfl) rfl rfl (by (try simp only [List.map_toArray, List.map_cons, List.map_nil]); first | done | rfl | (simp only [List.length_drop, List.length_take]; rfl)) ?_
    with_reducible refine HC2.out.mono ?_
    rintro e w3 ⟨g9, rfl, k1, k2, k3⟩
    refine ⟨_, rfl, ?_⟩
    have HR3 := Aside0.mk k1
    have HB3 := Aside0.mk k3
    clear k1 k2 k3
    have HBE := Aside0.mk (Sha.below_tr HB2.out HB3.out)
    have HR9 := Aside0.mk ((HBE.out.block _ (blk_lt' HR1.out)).trans HR1.out)
    refine hK.out _ _ trivial (fun hHeld => ?_)
    clear hK K
    refine norm_ (a' := ?_) ?_ ?_
    rotate_left
    · show Act.put _ (some 20) _ = _
      simp only [Act.put, List.setIfInBounds_toArray, List.set_cons_zero, List.set_cons_succ, i64_w, i32_w]
      rfl
    refine pure_ (i := 8) (N := some 21) (v := ?_) (a' := ?_) #[true, true, true, true, true, true, true, true, true, false, false] rfl rfl (by kernel_rfl) (fun _ _ _ h => h) (Or.inl ⟨by rfl, ?_⟩) ?_ ?_
    rotate_left
    · intro w'
      go_simp
      with_reducible rfl
    rotate_left
    · simp only [Act.put, List.setIfInBounds_toArray, List.set_cons_zero, List.set_cons_succ, i64_w, i32_w]
      rfl
    refine one_ (i := 9) (N := some 22) #[true, true, true, true, true, true, true, true, true, true, false] rfl rfl (by kernel_rfl) (by decide) (fun K hK => ?_)
    rw [if_pos (show Region.wanted _ _ = true by rfl)]
    refine wp_load_row 49 (.tmp 21) rfl g9 rfl 49 _ (0, 0) _ HR3.out Tryd.underlying49 rfl (Sha.hash_info _ HL2.out) ?_
    refine hK.out _ _ trivial (fun hHeld => ?_)
    clear hK K
    refine norm_ (a' := ?_) ?_ ?_
    rotate_left
    · show Act.put _ (some 22) _ = _
      simp only [Act.put, List.setIfInBounds_toArray, List.set_cons_zero, List.set_cons_succ, i64_w, i32_w]
      rfl
    refine last_ (i := 10) (N := none) #[true, true, true, true, true, true, true, true, true, true, true] rfl rfl (by kernel_rfl) (by decide) (fun K hK => ?_)
    rw [if_pos (show Region.wanted _ _ = true by rfl)]
    refine wp_store_row 49 (.tmp 4) (.tmp 22) rfl w.heap.size (byteC hh).toArray rfl rfl 49 _ HR9.out (Sha.hash_info _ HL2.out) (Sha.row_size _ HL2.out) (Sha.byteC_one _) ?_
    refine hK.out _ _ ?_
    clear hK K
    refine norm_ (a' := ?_) ?_ ?_
    rotate_left
    · rfl
    refine done_ (by kernel_rfl) ?_
    go_wp2_with fail
    refine bodyPost_ret_by (results_cell_row rfl _ _ w.heap.size 49 _ (0, 0) _ (by rfl) (setRow_heap _ _ _ _ _ _ HR9.out) Tryd.underlying49 rfl (Sha.hash_info _ HL2.out)) rfl ⟨rfl, Sha.below_setRow _ (Sha.below_tr HB1.out HBE.out) (Nat.le_refl _)⟩
  · rw [if_neg hd0] at hhh
    have HHH := Aside0.mk hhh
    clear hl hr hc hc2 hk hl2 hhh
    go_enter Tryd.func41, Tryd.ntmps41
    go_upto_region 1 with fail
    generalize hw1 : World.alloc _ _ = w1
    have HB1 : Aside0 (Below w.heap.size w w1) := ⟨by rw [← hw1]; exact below_alloc (Below.refl _ _) _⟩
    have HR1 : Aside0 (w1.heap[w.heap.size]? = some (.cells (byteC (List.replicate 32 0)).toArray 49 (0, 0))) := ⟨by rw [← hw1]; exact Sha.row_alloc w _⟩
    clear hw1
    refine start_ (n := 6) (S := fun w' => True) (ds := []) #[false, false, false, false, false, false] (by kernel_rfl) rfl rfl trivial (fun hHeld => ?_)
    refine pure_ (i := 0) (N := some 5) (v := ?_) (a' := ?_) #[true, false, false, false, false, false] rfl rfl (by kernel_rfl) (fun _ _ _ h => h) (Or.inl ⟨by rfl, ?_⟩) ?_ ?_
    rotate_left
    · intro w'
      go_simp
      with_reducible rfl
    rotate_left
    · simp only [Act.put, List.setIfInBounds_toArray, List.set_cons_zero, List.set_cons_succ, i64_w, i32_w]
      rfl
    refine pure_ (i := 1) (N := some 6) (v := ?_) (a' := ?_) #[true, true, false, false, false, false] rfl rfl (by kernel_rfl) (fun _ _ _ h => h) (Or.inl ⟨by rfl, ?_⟩) ?_ ?_
    rotate_left
    · intro w'
      go_simp
      with_reducible rfl
    rotate_left
    · simp only [Act.put, List.setIfInBounds_toArray, List.set_cons_zero, List.set_cons_succ, i64_w, i32_w]
      rfl
    refine pure_ (i := 2) (N := some 7) (v := ?_) (a' := ?_) #[true, true, true, false, false, false] rfl rfl (by kernel_rfl) (fun _ _ _ h => h) (Or.inl ⟨by rfl, ?_⟩) ?_ ?_
    rotate_left
    · intro w'
      go_simp
      with_reducible rfl
    rotate_left
    · simp only [Act.put, List.setIfInBounds_toArray, List.set_cons_zero, List.set_cons_succ, i64_w, i32_w]
      rfl
    refine pure_ (i := 3) (N := some 8) (v := ?_) (a' := ?_) #[true, true, true, true, false, false] rfl rfl (by kernel_rfl) (fun _ _ _ h => h) (Or.inl ⟨by rfl, ?_⟩) ?_ ?_
    rotate_left
    · intro w'
      go_simp
      with_reducible rfl
    rotate_left
    · simp only [Act.put, List.setIfInBounds_toArray, List.set_cons_zero, List.set_cons_succ, i64_w, i32_w]
      rfl
    refine one_ (i := 4) (N := some 9) #[true, true, true, true, true, false] rfl rfl (by kernel_rfl) (by decide) (fun K hK => ?_)
    refine goes_ Tryd.func52 (by kernel_rfl) rfl #[.slice Al 32 cl, .slice Ar 32 cr] (by rfl) rfl rfl (by (try simp only [List.map_toArray, List.map_cons, List.map_nil]); first | done | rfl | (simp only [List.length_drop, List.length_take]; rfl)) ?_
    with_reducible refine ((HCM.out w1.drew (below_drew HB1.out))).mono ?_
    rintro e u ⟨rfl, rfl⟩
    refine ⟨_, rfl, ?_⟩
    refine hK.out _ _ trivial (fun hHeld => ?_)
    clear hK K
    refine norm_ (a' := ?_) ?_ ?_
    rotate_left
    · show Act.put _ (some 9) _ = _
      simp only [Act.put, List.setIfInBounds_toArray, List.set_cons_zero, List.set_cons_succ, i64_w, i32_w]
      rfl
    refine pure_ (i := 5) (N := some 10) (v := ?_) (a' := ?_) #[true, true, true, true, true, true] rfl rfl (by kernel_rfl) (fun _ _ _ h => h) (Or.inl ⟨by rfl, ?_⟩) ?_ ?_
    rotate_left
    · intro w'
      go_simp
      with_reducible rfl
    rotate_left
    · simp only [Act.put, List.setIfInBounds_toArray, List.set_cons_zero, List.set_cons_succ, i64_w, i32_w]
      rfl
    refine done_ (by kernel_rfl) ?_
    go_upto_region 3 with fail
    have HTG : Aside0 (∀ (w2 : World) (gt gm : Nat), Below w1.heap.size w1 w2 → w2.heap[gt]? = some (.cells (byteC tBranch).toArray 5 ((byteC tBranch).toArray.size, (byteC tBranch).toArray.size + 1)) → w2.heap[gm]? = some (.cells #[.slice Al 32 cl, .slice Ar 32 cr] 26 (0, 0)) → Calls Tryd.prog 51 #[.slice (some ⟨gt, 0, none⟩) 9 9, .slice (some ⟨gm, 0, none⟩) 2 2] w2 fun e w' => ∃ g, e = .returned (.pointer (some ⟨g, 0, none⟩)) ∧ w'.heap[g]? = some (.cells (byteC hh).toArray 49 (0, 0)) ∧ w2.heap.size ≤ g ∧ Below w2.heap.size w2 w') := ⟨fun w2 gt gm h1 h2 h3 => by
      have hB := below_then HB1.out HB1.out.size h1
      have h := Sha.taggedC (some ⟨gt, 0, none⟩) 9 9 tBranch gm 2 2 (fun i => if i = 0 then Al else Ar) (fun _ => 32) (fun i => if i = 0 then cl else cr) (fun i => if i = 0 then l else r) kl w2 ⟨rfl, by decide, fun _ => ⟨_, rfl, fun j hj => by rw [add_any, Nat.zero_add]; exact cell_of h2 (by rw [List.getElem?_toArray]; exact byteC_at hj)⟩⟩ (Nat.le_refl _) (by decide) (by decide) (blk_lt' h3) (fun i hi => by
        have h01 : i = 0 ∨ i = 1 := by omega
        rcases h01 with rfl | rfl
        · exact ⟨cell_of h3 rfl, Hl.out.below hB, HCl.out⟩
        · exact ⟨cell_of h3 rfl, Hr.out.below hB, HCr.out⟩) (by have e1 := Hl.out.1; have e2 := Hr.out.1; simp [Sha.cat, e1, e2]) (HK.out.below hB)
      rw [show Sha.cat (fun i => if i = 0 then l else r) 2 = l ++ r from rfl, HHH.out] at h
      exact h⟩
    refine start_ (n := 11) (S := fun w' => True) (ds := [10]) #[false, false, false, false, false, false, false, false, false, false, false] (by kernel_rfl) rfl rfl trivial (fun hHeld => ?_)
    refine pure_ (i := 2) (N := some 15) (v := ?_) (a' := ?_) #[false, false, true, false, false, false, false, false, false, false, false] rfl rfl (by kernel_rfl) (fun _ _ _ h => h) (Or.inl ⟨by rfl, ?_⟩) ?_ ?_
    rotate_left
    · intro w'
      go_simp
      with_reducible rfl
    rotate_left
    · simp only [Act.put, List.setIfInBounds_toArray, List.set_cons_zero, List.set_cons_succ, i64_w, i32_w]
      rfl
    refine pure_ (i := 3) (N := some 16) (v := ?_) (a' := ?_) #[false, false, true, true, false, false, false, false, false, false, false] rfl rfl (by kernel_rfl) (fun _ _ _ h => h) (Or.inl ⟨by rfl, ?_⟩) ?_ ?_
    rotate_left
    · intro w'
      go_simp
      with_reducible rfl
    rotate_left
    · simp only [Act.put, List.setIfInBounds_toArray, List.set_cons_zero, List.set_cons_succ, i64_w, i32_w]
      rfl
    refine pure_ (i := 4) (N := some 17) (v := ?_) (a' := ?_) #[false, false, true, true, true, false, false, false, false, false, false] rfl rfl (by kernel_rfl) (fun _ _ _ h => h) (Or.inl ⟨by rfl, ?_⟩) ?_ ?_
    rotate_left
    · intro w'
      go_simp
      with_reducible rfl
    rotate_left
    · simp only [Act.put, List.setIfInBounds_toArray, List.set_cons_zero, List.set_cons_succ, i64_w, i32_w]
      rfl
    refine pure_ (i := 5) (N := some 18) (v := ?_) (a' := ?_) #[false, false, true, true, true, true, false, false, false, false, false] rfl rfl (by kernel_rfl) (fun _ _ _ h => h) (Or.inl ⟨by rfl, ?_⟩) ?_ ?_
    rotate_left
    · intro w'
      go_simp
      with_reducible rfl
    rotate_left
    · simp only [Act.put, List.setIfInBounds_toArray, List.set_cons_zero, List.set_cons_succ, i64_w, i32_w]
      rfl
    refine join_ (σ := Nat × Nat) 4 #[true, true, true, true, true, true, true, false, false, false, false] (fun s => [(13, .slice (some ⟨s.1, 0, none⟩) 9 9), (14, .slice (some ⟨s.1, 0, none⟩) 9 9), (19, .slice (some ⟨s.2, 0, none⟩) 2 2)]) (fun s w' => Below w1.heap.size w1 w' ∧ w'.heap[s.1]? = some (.cells (byteC tBranch).toArray 5 ((byteC tBranch).toArray.size, (byteC tBranch).toArray.size + 1)) ∧ w'.heap[s.2]? = some (.cells #[.slice Al 32 cl, .slice Ar 32 cr] 26 (0, 0))) ?_ ?_
    rotate_left
    · intro hCont
      generalize hu0 : World.drew (World.drew w1) = u0
      have hB0 : Below w1.heap.size w1 u0 := by rw [← hu0]; exact below_drew (below_drew (Below.refl _ _))
      refine two_ (i := 0) (j := 6) (Ni := some 13) (Nj := some 19) #[true, false, true, true, true, true, false, false, false, false, false] #[false, false, true, true, true, true, true, false, false, false, false] rfl rfl rfl rfl (by kernel_rfl) (by decide) (by decide) (fun K hK => ?_) (fun K hK => ?_)
      · skip
        refine Sha.val_ (w1 := World.alloc u0 (.cells (byteC tBranch).toArray 5)) (.slice (some ⟨u0.heap.size, 0, none⟩) 9 9) (by rfl) rfl ?_ ?_
        · unfold execOp
          go_simp
          try rfl
        have hT0 := heap_alloc_new u0 (.cells (byteC tBranch).toArray 5)
        have hB1 := hB0.alloc hB0.size (.cells (byteC tBranch).toArray 5)
        obtain ⟨gt, hgt⟩ : ∃ x, x = (World.heap u0).size := ⟨_, rfl⟩
        rw [← hgt] at hT0 ⊢
        have hgtw : w1.heap.size ≤ gt := by rw [hgt]; exact hB0.size
        generalize World.alloc u0 (.cells (byteC tBranch).toArray 5) = u1 at *
        refine hK.out _ _ trivial (fun hHeld => ?_)
        clear hK K
        refine norm_ (a' := ?_) ?_ ?_
        rotate_left
        · show Act.put _ (some 13) _ = _
          simp only [Act.put, List.setIfInBounds_toArray, List.set_cons_zero, List.set_cons_succ, i64_w, i32_w]
          rfl
        refine two_ (i := 1) (j := 6) (Ni := some 14) (Nj := some 19) #[true, true, true, true, true, true, false, false, false, false, false] #[true, false, true, true, true, true, true, false, false, false, false] rfl rfl rfl rfl (by kernel_rfl) (by decide) (by decide) (fun K hK => ?_) (fun K hK => ?_)
        · skip
          obtain ⟨u2, hrun, hT, ho⟩ := conv_mark (P := Tryd.prog) 26 5 _ 9 9 gt u1 hT0 Tryd.underlying26 Tryd.underlying5
          refine Sha.val_ (w1 := u2) (.slice (some ⟨gt, 0, none⟩) 9 9) (by rfl) rfl ?_ ?_
          · refine conv_op 26 (.tmp 13) rfl ?_ hrun
            rfl
          have hB2 := ho.below hB1 hgtw hB1.size
          refine hK.out _ _ trivial (fun hHeld => ?_)
          clear hK K
          refine norm_ (a' := ?_) ?_ ?_
          rotate_left
          · show Act.put _ (some 14) _ = _
            simp only [Act.put, List.setIfInBounds_toArray, List.set_cons_zero, List.set_cons_succ, i64_w, i32_w]
            rfl
          refine one_ (i := 6) (N := some 19) #[true, true, true, true, true, true, true, false, false, false, false] rfl rfl (by kernel_rfl) (by decide) (fun K hK => ?_)
          refine Sha.val_ (w1 := World.alloc u2 (.cells #[.slice Al 32 cl, .slice Ar 32 cr] 26)) (.slice (some ⟨u2.heap.size, 0, none⟩) 2 2) (by rfl) rfl ?_ ?_
          · unfold execOp
            go_simp
            try rfl
          have hM := heap_alloc_new u2 (.cells #[.slice Al 32 cl, .slice Ar 32 cr] 26)
          have hB3 := hB2.alloc hB2.size (.cells #[.slice Al 32 cl, .slice Ar 32 cr] 26)
          replace hT := heap_alloc_lt hT (.cells #[.slice Al 32 cl, .slice Ar 32 cr] 26)
          obtain ⟨gm, hgm⟩ : ∃ x, x = (World.heap u2).size := ⟨_, rfl⟩
          rw [← hgm] at hM ⊢
          have hgmw : w1.heap.size ≤ gm := by rw [hgm]; exact hB2.size
          generalize World.alloc u2 (.cells #[.slice Al 32 cl, .slice Ar 32 cr] 26) = u3 at *
          refine hK.out _ _ trivial (fun hHeld => ?_)
          clear hK K
          refine norm_ (a' := ?_) ?_ ?_
          rotate_left
          · show Act.put _ (some 19) _ = _
            simp only [Act.put, List.setIfInBounds_toArray, List.set_cons_zero, List.set_cons_succ, i64_w, i32_w]
            rfl
          exact norm_ (by simp only [putAll, Act.put, List.setIfInBounds_toArray, List.set_cons_zero, List.set_cons_succ]) (hCont (gt, gm) _ ⟨hB3, hT, hM⟩)
        · skip
          refine Sha.val_ (w1 := World.alloc u1 (.cells #[.slice Al 32 cl, .slice Ar 32 cr] 26)) (.slice (some ⟨u1.heap.size, 0, none⟩) 2 2) (by rfl) rfl ?_ ?_
          · unfold execOp
            go_simp
            try rfl
          have hM := heap_alloc_new u1 (.cells #[.slice Al 32 cl, .slice Ar 32 cr] 26)
          have hB2 := hB1.alloc hB1.size (.cells #[.slice Al 32 cl, .slice Ar 32 cr] 26)
          replace hT0 := heap_alloc_lt hT0 (.cells #[.slice Al 32 cl, .slice Ar 32 cr] 26)
          obtain ⟨gm, hgm⟩ : ∃ x, x = (World.heap u1).size := ⟨_, rfl⟩
          rw [← hgm] at hM ⊢
          have hgmw : w1.heap.size ≤ gm := by rw [hgm]; exact hB1.size
          generalize World.alloc u1 (.cells #[.slice Al 32 cl, .slice Ar 32 cr] 26) = u2 at *
          refine hK.out _ _ trivial (fun hHeld => ?_)
          clear hK K
          refine norm_ (a' := ?_) ?_ ?_
          rotate_left
          · show Act.put _ (some 19) _ = _
            simp only [Act.put, List.setIfInBounds_toArray, List.set_cons_zero, List.set_cons_succ, i64_w, i32_w]
            rfl
          refine one_ (i := 1) (N := some 14) #[true, true, true, true, true, true, true, false, false, false, false] rfl rfl (by kernel_rfl) (by decide) (fun K hK => ?_)
          obtain ⟨u3, hrun, hT, ho⟩ := conv_mark (P := Tryd.prog) 26 5 _ 9 9 gt u2 hT0 Tryd.underlying26 Tryd.underlying5
          refine Sha.val_ (w1 := u3) (.slice (some ⟨gt, 0, none⟩) 9 9) (by rfl) rfl ?_ ?_
          · refine conv_op 26 (.tmp 13) rfl ?_ hrun
            rfl
          have hB3 := ho.below hB2 hgtw hB2.size
          replace hM := (ho.block gm (blk_lt' hM) (by intro e; subst e; rw [hM] at hT0; cases hT0)).trans hM
          refine hK.out _ _ trivial (fun hHeld => ?_)
          clear hK K
          refine norm_ (a' := ?_) ?_ ?_
          rotate_left
          · show Act.put _ (some 14) _ = _
            simp only [Act.put, List.setIfInBounds_toArray, List.set_cons_zero, List.set_cons_succ, i64_w, i32_w]
            rfl
          exact norm_ (by simp only [putAll, Act.put, List.setIfInBounds_toArray, List.set_cons_zero, List.set_cons_succ]) (hCont (gt, gm) _ ⟨hB3, hT, hM⟩)
      · skip
        refine Sha.val_ (w1 := World.alloc u0 (.cells #[.slice Al 32 cl, .slice Ar 32 cr] 26)) (.slice (some ⟨u0.heap.size, 0, none⟩) 2 2) (by rfl) rfl ?_ ?_
        · unfold execOp
          go_simp
          try rfl
        have hM := heap_alloc_new u0 (.cells #[.slice Al 32 cl, .slice Ar 32 cr] 26)
        have hB1 := hB0.alloc hB0.size (.cells #[.slice Al 32 cl, .slice Ar 32 cr] 26)
        obtain ⟨gm, hgm⟩ : ∃ x, x = (World.heap u0).size := ⟨_, rfl⟩
        rw [← hgm] at hM ⊢
        have hgmw : w1.heap.size ≤ gm := by rw [hgm]; exact hB0.size
        generalize World.alloc u0 (.cells #[.slice Al 32 cl, .slice Ar 32 cr] 26) = u1 at *
        refine hK.out _ _ trivial (fun hHeld => ?_)
        clear hK K
        refine norm_ (a' := ?_) ?_ ?_
        rotate_left
        · show Act.put _ (some 19) _ = _
          simp only [Act.put, List.setIfInBounds_toArray, List.set_cons_zero, List.set_cons_succ, i64_w, i32_w]
          rfl
        refine one_ (i := 0) (N := some 13) #[true, false, true, true, true, true, true, false, false, false, false] rfl rfl (by kernel_rfl) (by decide) (fun K hK => ?_)
        refine Sha.val_ (w1 := World.alloc u1 (.cells (byteC tBranch).toArray 5)) (.slice (some ⟨u1.heap.size, 0, none⟩) 9 9) (by rfl) rfl ?_ ?_
        · unfold execOp
          go_simp
          try rfl
        have hT0 := heap_alloc_new u1 (.cells (byteC tBranch).toArray 5)
        have hB2 := hB1.alloc hB1.size (.cells (byteC tBranch).toArray 5)
        replace hM := heap_alloc_lt hM (.cells (byteC tBranch).toArray 5)
        obtain ⟨gt, hgt⟩ : ∃ x, x = (World.heap u1).size := ⟨_, rfl⟩
        rw [← hgt] at hT0 ⊢
        have hgtw : w1.heap.size ≤ gt := by rw [hgt]; exact hB1.size
        generalize World.alloc u1 (.cells (byteC tBranch).toArray 5) = u2 at *
        refine hK.out _ _ trivial (fun hHeld => ?_)
        clear hK K
        refine norm_ (a' := ?_) ?_ ?_
        rotate_left
        · show Act.put _ (some 13) _ = _
          simp only [Act.put, List.setIfInBounds_toArray, List.set_cons_zero, List.set_cons_succ, i64_w, i32_w]
          rfl
        refine one_ (i := 1) (N := some 14) #[true, true, true, true, true, true, true, false, false, false, false] rfl rfl (by kernel_rfl) (by decide) (fun K hK => ?_)
        obtain ⟨u3, hrun, hT, ho⟩ := conv_mark (P := Tryd.prog) 26 5 _ 9 9 gt u2 hT0 Tryd.underlying26 Tryd.underlying5
        refine Sha.val_ (w1 := u3) (.slice (some ⟨gt, 0, none⟩) 9 9) (by rfl) rfl ?_ ?_
        · refine conv_op 26 (.tmp 13) rfl ?_ hrun
          rfl
        have hB3 := ho.below hB2 hgtw hB2.size
        replace hM := (ho.block gm (blk_lt' hM) (by intro e; subst e; rw [hM] at hT0; cases hT0)).trans hM
        refine hK.out _ _ trivial (fun hHeld => ?_)
        clear hK K
        refine norm_ (a' := ?_) ?_ ?_
        rotate_left
        · show Act.put _ (some 14) _ = _
          simp only [Act.put, List.setIfInBounds_toArray, List.set_cons_zero, List.set_cons_succ, i64_w, i32_w]
          rfl
        exact norm_ (by simp only [putAll, Act.put, List.setIfInBounds_toArray, List.set_cons_zero, List.set_cons_succ]) (hCont (gt, gm) _ ⟨hB3, hT, hM⟩)
    rintro ⟨gt, gm⟩ w2 ⟨hb2, hT, hM⟩
    refine norm_ (a' := ?_) ?_ ?_
    rotate_left
    · simp only [putAll, Act.put, List.setIfInBounds_toArray, List.set_cons_zero, List.set_cons_succ]
      rfl
    have HC2 := Aside0.mk (HTG.out w2 gt gm hb2 hT hM)
    have HB2 := Aside0.mk hb2
    clear hb2 hT hM
    refine one_ (i := 7) (N := some 20) #[true, true, true, true, true, true, true, true, false, false, false] rfl rfl (by kernel_rfl) (by decide) (fun K hK => ?_)
    refine goes_ Tryd.func51 (by kernel_rfl) rfl #[.slice (some ⟨gt, 0, none⟩) 9 9, .slice (some ⟨gm, 0, none⟩) 2 2] (by rfl) rfl rfl (by (try simp only [List.map_toArray, List.map_cons, List.map_nil]); first | done | rfl | (simp only [List.length_drop, List.length_take]; rfl)) ?_
    with_reducible refine HC2.out.mono ?_
    rintro e w3 ⟨g9, rfl, k1, k2, k3⟩
    refine ⟨_, rfl, ?_⟩
    have HR3 := Aside0.mk k1
    have HB3 := Aside0.mk k3
    clear k1 k2 k3
    have HBE := Aside0.mk (Sha.below_tr HB2.out HB3.out)
    have HR9 := Aside0.mk ((HBE.out.block _ (blk_lt' HR1.out)).trans HR1.out)
    refine hK.out _ _ trivial (fun hHeld => ?_)
    clear hK K
    refine norm_ (a' := ?_) ?_ ?_
    rotate_left
    · show Act.put _ (some 20) _ = _
      simp only [Act.put, List.setIfInBounds_toArray, List.set_cons_zero, List.set_cons_succ, i64_w, i32_w]
      rfl
    refine pure_ (i := 8) (N := some 21) (v := ?_) (a' := ?_) #[true, true, true, true, true, true, true, true, true, false, false] rfl rfl (by kernel_rfl) (fun _ _ _ h => h) (Or.inl ⟨by rfl, ?_⟩) ?_ ?_
    rotate_left
    · intro w'
      go_simp
      with_reducible rfl
    rotate_left
    · simp only [Act.put, List.setIfInBounds_toArray, List.set_cons_zero, List.set_cons_succ, i64_w, i32_w]
      rfl
    refine one_ (i := 9) (N := some 22) #[true, true, true, true, true, true, true, true, true, true, false] rfl rfl (by kernel_rfl) (by decide) (fun K hK => ?_)
    rw [if_pos (show Region.wanted _ _ = true by rfl)]
    refine wp_load_row 49 (.tmp 21) rfl g9 rfl 49 _ (0, 0) _ HR3.out Tryd.underlying49 rfl (Sha.hash_info _ HL2.out) ?_
    refine hK.out _ _ trivial (fun hHeld => ?_)
    clear hK K
    refine norm_ (a' := ?_) ?_ ?_
    rotate_left
    · show Act.put _ (some 22) _ = _
      simp only [Act.put, List.setIfInBounds_toArray, List.set_cons_zero, List.set_cons_succ, i64_w, i32_w]
      rfl
    refine last_ (i := 10) (N := none) #[true, true, true, true, true, true, true, true, true, true, true] rfl rfl (by kernel_rfl) (by decide) (fun K hK => ?_)
    rw [if_pos (show Region.wanted _ _ = true by rfl)]
    refine wp_store_row 49 (.tmp 4) (.tmp 22) rfl w.heap.size (byteC hh).toArray rfl rfl 49 _ HR9.out (Sha.hash_info _ HL2.out) (Sha.row_size _ HL2.out) (Sha.byteC_one _) ?_
    refine hK.out _ _ ?_
    clear hK K
    refine norm_ (a' := ?_) ?_ ?_
    rotate_left
    · rfl
    refine done_ (by kernel_rfl) ?_
    go_wp2_with fail
    refine bodyPost_ret_by (results_cell_row rfl _ _ w.heap.size 49 _ (0, 0) _ (by rfl) (setRow_heap _ _ _ _ _ _ HR9.out) Tryd.underlying49 rfl (Sha.hash_info _ HL2.out)) rfl ⟨rfl, Sha.below_setRow _ (Sha.below_tr HB1.out HBE.out) (Nat.le_refl _)⟩
end Go.Proofs.YtigpdgfhngknhaaDoor.Snk
/- A root. -/
namespace Go.Proofs.YtigpdgfhngknhaaDoor.Snk
open Go.RowKit Go.Proofs.YtigpdgfhngknhaaDoorW.PrintWords Go.Proofs.YtigpdgfhngknhaaDoorW.PrintLast Go.Proofs.YtigpdgfhngknhaaDoorW.PrintMore Go.Proofs.YtigpdgfhngknhaaDoor.QFnTapRoot
set_option linter.unusedVariables false
set_option linter.unusedSimpArgs false
set_option maxRecDepth 100000 in
theorem newLeafC (ver : Int) (A : Option Addr) (n c : Nat) (w : World) : Calls Tryd.prog 39 #[.int .u8 ver, .slice A n c] w fun e w' => e = .returned (.agg #[.int .u8 ver, .slice A n c]) ∧ Below w.heap.size w w' := by
  have hi : (Tryd.prog.info? 82).map (·.size) = some 2 := by kernel_rfl
  have HI : Aside0 ((Tryd.prog.info? 82).map (·.size) = some (#[Value.int .u8 ver, Value.slice A n c] : Array Value).size) := ⟨hi⟩
  clear hi
  go_enter Tryd.func39, Tryd.ntmps39
  go_upto_region 1 with fail
  have HR1 := Aside0.mk (heap_alloc_new w (.cells #[.int .u8 0, .slice none 0 0] 82))
  generalize hw1 : World.alloc _ _ = w1
  have HB1 : Aside0 (Below w.heap.size w w1) := ⟨by rw [← hw1]; exact below_alloc (Below.refl _ _) _⟩
  rw [hw1] at HR1
  clear hw1
  go_wp2_with (refine wpList_store_row rfl 82 (.tmp 4) (.tmp 7) rfl w.heap.size #[.int .u8 ver, .slice A n c] rfl rfl 82 _ HR1.out HI.out rfl (by simp [Value.oneCell']) ?_)
  refine bodyPost_ret_by (results_cell_row rfl _ _ w.heap.size 82 _ (0, 0) _ (by rfl) (setRow_heap _ _ _ _ _ _ HR1.out) Tryd.underlying82 rfl HI.out) rfl ⟨rfl, Sha.below_setRow _ HB1.out (Nat.le_refl _)⟩
/-- Up by a proof. -/
def climb (kl pr h : List Int) : Nat → List Int
  | 0 => h
  | i + 1 => branL kl (climb kl pr h i) ((pr.drop (32 * i)).take 32)
theorem climb_len (kl pr h : List Int) (hh : h.length = 32) : ∀ i, (climb kl pr h i).length = 32
  | 0 => hh
  | i + 1 => branL_len _ _ _
theorem add_two (a : Addr) (x y : Nat) : (a.add x).add y = a.add (x + y) := by
  unfold Addr.add
  by_cases hx : x = 0
  · subst hx; simp
  · by_cases hy : y = 0
    · subst hy; simp [hx]
    · simp [hx, hy, Nat.add_assoc]
theorem slice_H (g : Nat) (w : World) : (Instr.sliceAt 49 (.pointer (some ⟨g, 0, none⟩)) none none none).run Tryd.prog w = .ok (.slice (some ⟨g, 0, none⟩) 32 32) w := by kernel_rfl
set_option maxRecDepth 100000 in
set_option maxHeartbeats 8000000 in
theorem rootHashC (gc : Nat) (u0 u1 : Value) (ver : Int) (A Ap : Option Addr) (n c cp k : Nat) (p pr kl : List Int) (w : World) (hb : w.heap[gc]? = some (.cells #[u0, u1, .int .u8 ver, .slice Ap (32 * k) cp] 70 (0, 0))) (hr : ReadsInt w .u8 A n p) (hc : n ≤ c) (hn : n ≤ 1000000000) (hrp : ReadsInt w .u8 Ap (32 * k) pr) (hcp : 32 * k ≤ cp) (hk : k ≤ 1000000) (hkr : Sha.KRow w kl) :
    Calls Tryd.prog 28 #[.pointer (some ⟨gc, 0, none⟩), .slice A n c] w fun e w' => ∃ g, e = .returned (.slice (some ⟨g, 0, none⟩) 32 32) ∧ w'.heap[g]? = some (.cells (byteC (climb kl pr (Sha.tagL kl tLeaf ([ver] ++ (viB n ++ p))) k)).toArray 49 (0, 0)) ∧ w.heap.size ≤ g ∧ Below w.heap.size w w' := by
  have HTH : Aside0 (∀ w1, Below w.heap.size w w1 → Calls Tryd.prog 40 #[.agg #[.int .u8 ver, .slice A n c]] w1 fun e w' => e = .returned (.agg (byteC (Sha.tagL kl tLeaf ([ver] ++ (viB n ++ p)))).toArray) ∧ Below w1.heap.size w1 w') := ⟨fun w1 h => tapHashC ver A n c p kl w1 (hr.below h) hc hn (hkr.below h)⟩
  have hl1 := Sha.tagL_len kl tLeaf ([ver] ++ (viB n ++ p))
  obtain ⟨h1, hh1⟩ : ∃ x, Sha.tagL kl tLeaf ([ver] ++ (viB n ++ p)) = x := ⟨_, rfl⟩
  rw [hh1] at HTH hl1 ⊢
  have HB := Aside0.mk hb
  have HRP := Aside0.mk hrp
  have HCP := Aside0.mk hcp
  have HKR := Aside0.mk hkr
  have HKK := Aside0.mk hk
  have HL1 := Aside0.mk hl1
  have c2 := cell_of hb (j := 2) (v := .int .u8 ver) rfl
  have c3 := cell_of hb (j := 3) (v := .slice Ap (32 * k) cp) rfl
  obtain ⟨m, hm⟩ : ∃ m, 32 * k = m := ⟨_, rfl⟩
  have HM := Aside0.mk hm
  rw [hm] at c3 HRP HCP HB
  have hdv : wrap64 ((m : Int) / 32) = (k : Int) := by unfold wrap64; omega
  have HDV := Aside0.mk hdv
  have hki : (k : Int) ≤ 1000000 := by omega
  clear hb hr hc hn hrp hcp hk hkr hl1 hm hh1 hdv
  go_enter Tryd.func28, Tryd.ntmps28
  go_upto_region 2 with (first
    | (go_at_call 39; (with_reducible refine (newLeafC ver A n c w).mono ?_); rintro e w1 ⟨rfl, k1⟩; have HB1 := Aside0.mk k1; clear k1)
    | (go_at_call 40; (with_reducible refine (HTH.out w1 HB1.out).mono ?_); rintro e w2 ⟨rfl, k1⟩; have HB2 := Aside0.mk k1; clear k1)
    | (refine wpList_store_row rfl 49 (.tmp 5) (.tmp 16) rfl w2.heap.size (byteC h1).toArray rfl rfl 49 _ (Sha.row_alloc w2 _) (Sha.hash_info _ HL1.out) (Sha.row_size _ HL1.out) (Sha.byteC_one _) ?_))
  obtain ⟨r, hr⟩ : ∃ g, w2.heap.size = g := ⟨_, rfl⟩
  have HR := Aside0.mk hr
  rw [hr]
  generalize hw3 : World.setRow _ _ _ = w3
  have HBa := Aside0.mk (Sha.below_tr HB1.out HB2.out)
  have HB3 : Aside0 (Below w.heap.size w w3) := ⟨Sha.below_tr HBa.out (by rw [← hw3, ← hr]; exact Sha.below_setRow _ (below_alloc (Below.refl _ _) _) (Nat.le_refl _))⟩
  have HG3 : Aside0 (w3.heap[r]? = some (.cells (byteC h1).toArray 49 (0, 0))) := ⟨by rw [← hw3, ← hr]; exact setRow_heap _ _ _ _ _ _ (Sha.row_alloc w2 _)⟩
  have HRW : Aside0 (w.heap.size ≤ r) := ⟨by rw [← hr]; exact HBa.out.size⟩
  clear hr hw3 c2
  have c33 := pw_cell_below HB3.out c3
  go_upto_region 3 with fail
  rw [HDV.out]
  clear c3 c33
  go_upto_region 4 with fail
  go_loopw [7] (fun v7 wr => ∃ i : Nat, i ≤ k ∧ v7 = .int .i64 i ∧ Aside0 (wr.heap[r]? = some (.cells (byteC (climb kl pr h1 i)).toArray 49 (0, 0))) ∧ Aside0 (Below w.heap.size w wr)) (fun v7 _ => k - (intOf v7).toNat)
  case atStart => exact ⟨0, Nat.zero_le _, rfl, HG3, HB3⟩
  case round =>
    clear HG3 HB3 HBa HB2 HB1 HTH
    obtain ⟨i, hi, rfl, HGi, HBi⟩ := hrel
    have HI := Aside0.mk hi
    have c33 : wr.cell? ⟨gc, 3, none⟩ = some (.slice Ap m cp) := pw_cell_below HBi.out (cell_of HB.out rfl)
    by_cases hlt : i < k
    · have hlti : (i : Int) < k := by omega
      have HLT := Aside0.mk hlt
      have hrd : ReadsInt wr .u8 (Ap.map fun x => x.add (32 * i)) 32 ((pr.drop (32 * i)).take 32) := by
        have hkm := HM.out
        obtain ⟨hl, h63, hcell⟩ := HRP.out.below HBi.out
        obtain ⟨ad, hA, hc⟩ := hcell (by omega)
        rw [hA]
        refine ⟨by rw [List.length_take, List.length_drop]; omega, by decide, fun _ => ⟨_, rfl, fun t ht => ?_⟩⟩
        rw [add_two, hc (32 * i + t) (by omega), List.getD_eq_getElem?_getD, List.getD_eq_getElem?_getD, List.getElem?_take_of_lt ht, List.getElem?_drop]
      have HRDD := Aside0.mk hrd
      clear hrd
      have HJ : Aside0 (branL kl (climb kl pr h1 i) ((pr.drop (32 * i)).take 32) = climb kl pr h1 (i + 1)) := ⟨rfl⟩
      have hki2 : i < 1000000 := by have := HKK.out; omega
      have HCL := Aside0.mk (climb_len kl pr h1 HL1.out i)
      have HCL2 := Aside0.mk (climb_len kl pr h1 HL1.out (i + 1))
      have HBR : Aside0 (Calls Tryd.prog 41 #[.slice (some ⟨r, 0, none⟩) 32 32, .slice (Ap.map fun x => x.add (32 * i)) 32 (cp - 32 * i)] wr fun e w' => e = .returned (.agg (byteC (climb kl pr h1 (i + 1))).toArray) ∧ Below wr.heap.size wr w') := ⟨by
        rw [← HJ.out]
        exact branchC (some ⟨r, 0, none⟩) _ 32 (cp - 32 * i) _ _ kl wr (Sha.reads_row HGi.out HCL.out (by decide)) HRDD.out (Nat.le_refl _) (by have := HM.out; have := HCP.out; omega) (HKR.out.below HBi.out)⟩
      have hsH := slice_H r
      have hmi : 32 * i + 32 ≤ m := by have := HM.out; omega
      have hmc := HCP.out
      clear hi hlt
      go_wp2_with (first
        | (go_at_call 41; (with_reducible refine HBR.out.mono ?_); rintro e w6 ⟨rfl, k1⟩; have HB6 := Aside0.mk k1; clear k1; have HG6 := Aside0.mk ((HB6.out.block _ (blk_lt' HGi.out)).trans HGi.out))
        | (refine wpList_store_row rfl 49 (.tmp 5) (.tmp 40) rfl r (byteC (climb kl pr h1 (i + 1))).toArray rfl rfl 49 _ HG6.out (Sha.hash_info _ HCL2.out) (by simp only [List.size_toArray, byteC_len, HCL.out, HCL2.out]) (Sha.byteC_one _) ?_))
      go_roundw
      case rel => exact ⟨i + 1, by have := HLT.out; omega, by go_num, ⟨setRow_heap _ _ _ _ _ _ HG6.out⟩, ⟨Sha.below_setRow _ (Sha.below_tr HBi.out HB6.out) HRW.out⟩⟩
      case measure => simp [intOf]; have := HLT.out; omega
    · obtain rfl : i = k := by omega
      have hge : ¬ (i : Int) < i := by omega
      have hsH := slice_H r
      go_wp2_with fail
      go_ret
      exact ⟨r, rfl, HGi.out, HRW.out, HBi.out⟩
end Go.Proofs.YtigpdgfhngknhaaDoor.Snk
/- The root, as the law asks for it. -/
namespace Go.Proofs.YtigpdgfhngknhaaDoor.Snk
open Go.RowKit Go.Proofs.YtigpdgfhngknhaaDoorW.PrintWords Go.Proofs.YtigpdgfhngknhaaDoorW.PrintLast Go.Proofs.YtigpdgfhngknhaaDoorW.PrintMore Go.Proofs.YtigpdgfhngknhaaDoor.QFnTapRoot
set_option linter.unusedVariables false
set_option linter.unusedSimpArgs false
theorem rdC {w : World} {A : Option Addr} {n : Nat} {xs : List Int} (h : ReadsInt w .u8 A n xs) : Kd.C (Kd.int .u8) w A n xs := Kd.C_of_reads (readsInt_of.1 h)
theorem copiedC (A : Option Addr) (n c : Nat) (p : List Int) (w : World) (hr : ReadsInt w .u8 A n p) (hc : n ≤ c) (hn : n ≤ 1000000000) : Calls Tryd.prog 27 #[.slice A n c] w fun e w' => ∃ A1 c1, e = .returned (.slice A1 n c1) ∧ Kd.R (Kd.int .u8) 5 w' w.heap.size (fun _ => True) (.slice A1 n c1) p ∧ ReadsInt w' .u8 A1 n p ∧ n ≤ c1 ∧ Below w.heap.size w w' := by
  obtain rfl : p.length = n := hr.1
  have hf : impl_copied.f p = some p := by
    unfold impl_copied.f
    simp only [Option.bind_some, List.length_nil, Nat.zero_add, List.nil_append]
    rw [if_pos (by omega)]
  refine (impl_copied.calls A c p p w (rdC hr) hc hf).mono ?_
  rintro e w' ⟨v0, rfl, h1, h2⟩
  obtain ⟨A1, c1, rfl, h3, h4⟩ := Kd.R_reads h1
  exact ⟨A1, c1, rfl, h1, readsInt_of.2 (Kd.reads_of_C h4), h3, h2⟩
set_option maxRecDepth 100000 in
set_option maxHeartbeats 8000000 in
theorem implRootC (ver : Int) (A Ap : Option Addr) (n c cp k : Nat) (p pr kl : List Int) (w : World) (hr : ReadsInt w .u8 A n p) (hc : n ≤ c) (hn : n ≤ 1000000000) (hrp : ReadsInt w .u8 Ap (32 * k) pr) (hcp : 32 * k ≤ cp) (hk : k ≤ 1000000) (hkr : Sha.KRow w kl) :
    Calls Tryd.prog 14 #[.int .u8 ver, .slice A n c, .slice Ap (32 * k) cp] w fun e w' => ∃ v0, e = .returned v0 ∧ Kd.R (Kd.int .u8) 5 w' w.heap.size (fun _ => True) v0 (climb kl pr (Sha.tagL kl tLeaf ([ver] ++ (viB n ++ p))) k) ∧ Below w.heap.size w w' := by
  have HC1 := Aside0.mk (copiedC Ap (32 * k) cp pr w hrp hcp (by omega))
  have HRT : Aside0 (∀ w1 A1 c1, Below w.heap.size w w1 → ReadsInt w1 .u8 A1 (32 * k) pr → 32 * k ≤ c1 → Calls Tryd.prog 28 #[.pointer (some ⟨w1.heap.size, 0, none⟩), .slice A n c] (w1.alloc (.cells #[.pointer none, .bool false, .int .u8 ver, .slice A1 (32 * k) c1] 70)) fun e w' => ∃ g, e = .returned (.slice (some ⟨g, 0, none⟩) 32 32) ∧ w'.heap[g]? = some (.cells (byteC (climb kl pr (Sha.tagL kl tLeaf ([ver] ++ (viB n ++ p))) k)).toArray 49 (0, 0)) ∧ Below w1.heap.size w1 w') := ⟨fun w1 A1 c1 h1 h2 h3 => by
    have hba : Below w1.heap.size w1 (w1.alloc (.cells #[.pointer none, .bool false, .int .u8 ver, .slice A1 (32 * k) c1] 70)) := below_alloc (Below.refl _ _) _
    have hb2 := below_then h1 h1.size hba
    have h := rootHashC w1.heap.size (.pointer none) (.bool false) ver A A1 n c c1 k p pr kl _ (heap_alloc_new w1 _) (hr.below hb2) hc hn (h2.below hba) h3 hk (hkr.below hb2)
    exact h.mono fun e w' ⟨g, h4, h5, h6, h7⟩ => ⟨g, h4, h5, below_then hba hba.size h7⟩⟩
  have hl := climb_len kl pr (Sha.tagL kl tLeaf ([ver] ++ (viB n ++ p))) (Sha.tagL_len _ _ _) k
  obtain ⟨hh, hhh⟩ : ∃ x, climb kl pr (Sha.tagL kl tLeaf ([ver] ++ (viB n ++ p))) k = x := ⟨_, rfl⟩
  rw [hhh] at HRT hl ⊢
  have HL := Aside0.mk hl
  have HCB : Aside0 (∀ g w2, w2.heap[g]? = some (.cells (byteC hh).toArray 49 (0, 0)) → Calls Tryd.prog 27 #[.slice (some ⟨g, 0, none⟩) 32 32] w2 fun e w' => ∃ A1 c1, e = .returned (.slice A1 32 c1) ∧ Kd.R (Kd.int .u8) 5 w' w2.heap.size (fun _ => True) (.slice A1 32 c1) hh ∧ Below w2.heap.size w2 w') := ⟨fun g w2 h => (copiedC (some ⟨g, 0, none⟩) 32 32 hh w2 (Sha.reads_row h hl (by decide)) (Nat.le_refl _) (by decide)).mono fun e w' ⟨A1, c1, h1, h2, _, _, h3⟩ => ⟨A1, c1, h1, h2, h3⟩⟩
  obtain ⟨m, hm⟩ : ∃ m, 32 * k = m := ⟨_, rfl⟩
  rw [hm] at HC1 HRT ⊢
  clear hr hc hn hrp hcp hk hkr hl hhh hm
  go_enter Tryd.func14, Tryd.ntmps14
  go_upto_region 2 with (go_at_call 27; (with_reducible refine HC1.out.mono ?_); rintro e w1 ⟨A1, c1, rfl, _, k1, k2, k3⟩; have HB1 := Aside0.mk k3; have HR1 := Aside0.mk k1; have HC2 := Aside0.mk k2; clear k1 k2 k3)
  have HC3 := Aside0.mk (HRT.out w1 A1 c1 HB1.out HR1.out HC2.out)
  go_wp2_with (first
    | (go_at_call 28; (with_reducible refine HC3.out.mono ?_); rintro e w2 ⟨g, rfl, k1, k2⟩; have HG2 := Aside0.mk k1; have HB2 := Aside0.mk k2; clear k1 k2)
    | (go_at_call 27; (with_reducible refine (HCB.out g w2 HG2.out).mono ?_); rintro e w3 ⟨A3, c3, rfl, k0, k3⟩; have HB3 := Aside0.mk k3; have HR3 := Aside0.mk k0; clear k0 k3))
  go_ret
  have hb := Sha.below_tr HB1.out HB2.out
  exact ⟨_, rfl, Kd.R_lower HR3.out hb.size, Sha.below_tr hb HB3.out⟩
end Go.Proofs.YtigpdgfhngknhaaDoor.Snk
/- A tagged hash, as the law says it. -/
namespace Go.Proofs.YtigpdgfhngknhaaDoor.Snk
open Go.RowKit Go.Proofs.YtigpdgfhngknhaaDoorW.PrintWords Go.Proofs.YtigpdgfhngknhaaDoorW.PrintLast Go.Proofs.YtigpdgfhngknhaaDoorW.PrintMore Go.Proofs.YtigpdgfhngknhaaDoor.QFnTapRoot
set_option linter.unusedVariables false
set_option linter.unusedSimpArgs false
/-- Bytes appended to a row of one's own. -/
theorem appL_ {w0 W : World} {ops : Array Oper} {rest : List Oper} {o : Oper} {a : Act} {Q : Exit → Act → World → Prop} (N : Tmp) (hN : o.dst = some N) (hgd : o.guard = none) (s x : Operand) (ho : o.op = .call { callee := .builtin .append, args := #[s, x], argTypes := #[26, 26] })
    (v : Value) (xs ys : List Int) (A : Option Addr) (m c : Nat) (hs : a.eval s = v) (hx : a.eval x = .slice A m c) (hR : Kd.R (Kd.int .u8) 5 W w0.heap.size (fun _ => True) v xs) (hr : ReadsInt W .u8 A m ys) (hB : Below w0.heap.size w0 W) (hL : xs.length + m ≤ 140737488355328)
    (h : ∀ v1 w1, Kd.R (Kd.int .u8) 5 w1 w0.heap.size (fun _ => True) v1 (xs ++ ys) → Below w0.heap.size w0 w1 → W.grownBy w1 v.ownBlock → (v1.ownBlock = v.ownBlock ∨ ∃ b, v1.ownBlock = some b ∧ W.heap.size ≤ b) → wpList Tryd.prog ops Q rest (a.put (some N) v1) w1) : wpList Tryd.prog ops Q (o :: rest) a W := by
  refine Kd.R_append_rows (Kd.int .u8) (w0 := w0) w0.heap.size hgd s x 26 5 (.int .u8 0) 1 ho Tryd.underlying26 info5 rfl (by decide) (by omega) v xs ys A m c (fun _ => True) (fun _ => False) hs hx hR (rdC hr) (fun _ _ h => h) (fun _ h => h.elim) (fun _ _ => trivial) hB hB.size (by omega) ?_
  intro v1 w1 h1 h2 h3 h4
  rw [hN]
  exact h v1 w1 h1 h2 h3 h4
theorem own_new {W : World} {v v1 : Value} {k : Nat} (h : v1.ownBlock = v.ownBlock ∨ ∃ b, v1.ownBlock = some b ∧ W.heap.size ≤ b) (hv : v.ownBlock ≠ some k) (hk : k < W.heap.size) : v1.ownBlock ≠ some k := by
  rcases h with h | ⟨b, h, hb⟩
  · rw [h]; exact hv
  · rw [h]
    intro e
    obtain rfl := Option.some.inj e
    omega
theorem grown_keep {W w1 : World} {row : Option Nat} {k : Nat} (h : W.grownBy w1 row) (hk : k < W.heap.size) (hr : row ≠ some k) : w1.heap[k]? = W.heap[k]? := by
  obtain ⟨_, _, _, _, h5⟩ := h
  exact h5 k hk (fun e => hr (by first | exact e | exact e.symm))
def strI (s : ByteArray) : List Int := s.data.toList.map (fun b => (b.toNat : Int))
theorem strC (s : ByteArray) (hs : s.size ≤ 1000) (w : World) : ∃ g c W', (convert 9 26 (.string s)).run Tryd.prog w = .ok (.slice (some ⟨g, 0, none⟩) s.size c) W' ∧ ReadsInt W' .u8 (some ⟨g, 0, none⟩) s.size (strI s) ∧ s.size ≤ c ∧ Below w.heap.size w W' := by
  have hsz : s.data.toList.length = s.size := by rw [Array.length_toList]; rfl
  refine ⟨_, _, _, run_bytes_of_string w 9 26 5 s Tryd.underlying9 Tryd.underlying26 Tryd.underlying5, ⟨by unfold strI; rw [List.length_map]; exact hsz, by omega, fun _ => ⟨_, rfl, fun j hj => ?_⟩⟩, ?_, below_alloc (below_drew (Below.refl _ _)) _⟩
  · rw [add_any, Nat.zero_add]
    refine (World.cell?_alloc_mark w.drew _ _ _ j).trans ?_
    unfold bytesRow strI
    have hj2 : j < (s.data.map fun b => Value.int .u8 (b.toNat : Int)).size := by rw [Array.size_map]; exact hj
    rw [Array.getElem?_append_left hj2, Array.getElem?_map, List.getD_eq_getElem?_getD, List.getElem?_map, ← Array.getElem?_toList]
    cases hq : s.data.toList[j]? with
    | none => exact absurd (List.getElem?_eq_none_iff.1 hq) (by omega)
    | some b => rfl
  · exact grownCap_ge _ _ _ _
def shaF : Value := .func (.func 13) #[] #[]
set_option maxRecDepth 100000 in
set_option maxHeartbeats 8000000 in
theorem tagSpecC (s : ByteArray) (hs : s.size ≤ 1000) (A : Option Addr) (n c : Nat) (p kl : List Int) (w : World) (hr : ReadsInt w .u8 A n p) (hc : n ≤ c) (hn : n ≤ 1000000000) (hk : Sha.KRow w kl) :
    Calls Tryd.prog 37 #[shaF, .string s, .slice A n c] w fun e w' => e = .returned (.agg (byteC (Sha.tagL kl (strI s) p)).toArray) ∧ Below w.heap.size w w' := by
  obtain ⟨sl, hsl⟩ : ∃ sl, sl = strI s := ⟨_, rfl⟩
  have hsll : sl.length = s.size := by rw [hsl]; unfold strI; rw [List.length_map, Array.length_toList]; rfl
  have hl1 := Sha.shaL_len kl sl
  have hl2 := Sha.tagL_len kl sl p
  have HST : Aside0 (∀ w1 : World, ∃ g c W', (convert 9 26 (.string s)).run Tryd.prog w1 = .ok (.slice (some ⟨g, 0, none⟩) s.size c) W' ∧ ReadsInt W' .u8 (some ⟨g, 0, none⟩) s.size sl ∧ s.size ≤ c ∧ Below w1.heap.size w1 W') := ⟨fun w1 => by rw [hsl]; exact strC s hs w1⟩
  have HS1 : Aside0 (∀ w1 g c1, Below w.heap.size w w1 → ReadsInt w1 .u8 (some ⟨g, 0, none⟩) s.size sl → s.size ≤ c1 → Calls Tryd.prog 13 #[.slice (some ⟨g, 0, none⟩) s.size c1] w1 fun e w' => e = .returned (.agg (byteC (Sha.shaL kl sl)).toArray) ∧ Below w1.heap.size w1 w') := ⟨fun w1 g c1 h1 h2 h3 => by
    have h := Sha.shaC (some ⟨g, 0, none⟩) c1 sl kl w1 (by rw [hsll]; exact h2) (by omega) (by omega) (hk.below h1)
    rw [hsll] at h
    exact h⟩
  have HS2 : Aside0 (∀ (w1 : World) v, Below w.heap.size w w1 → Kd.R (Kd.int .u8) 5 w1 w.heap.size (fun _ => True) v (Sha.shaL kl sl ++ Sha.shaL kl sl ++ p) → Calls Tryd.prog 13 #[v] w1 fun e w' => e = .returned (.agg (byteC (Sha.tagL kl sl p)).toArray) ∧ Below w1.heap.size w1 w') := ⟨fun w1 v h1 h2 => by
    obtain ⟨A1, c1, rfl, h3, h4⟩ := Kd.R_reads h2
    have h := Sha.shaC A1 c1 _ kl w1 (readsInt_of.2 (Kd.reads_of_C h4)) h3 (by have := hr.1; simp only [List.length_append, hl1]; omega) (hk.below h1)
    unfold Sha.tagL
    rw [← List.append_assoc]
    exact h⟩
  rw [← hsl]
  obtain ⟨hh, hhh⟩ : ∃ x, Sha.tagL kl sl p = x := ⟨_, rfl⟩
  rw [hhh] at hl2 HS2 ⊢
  obtain ⟨h1, hh1⟩ : ∃ x, Sha.shaL kl sl = x := ⟨_, rfl⟩
  rw [hh1] at hl1 HS1 HS2
  have HL1 := Aside0.mk hl1
  have HL2 := Aside0.mk hl2
  have HRP := Aside0.mk hr
  have HN := Aside0.mk hn
  clear hr hc hn hk hl1 hl2 hsl hsll hhh hh1 hs
  unfold shaF
  go_enter Tryd.func37, Tryd.ntmps37
  go_upto_region 1 with fail
  obtain ⟨r, hr⟩ : ∃ r, w.heap.size = r := ⟨_, rfl⟩
  have HR := Aside0.mk hr
  rw [hr]
  generalize hw1 : World.alloc _ _ = w1
  have HB1 : Aside0 (Below w.heap.size w w1) := ⟨by rw [← hw1]; exact below_alloc (Below.refl _ _) _⟩
  have HR1 : Aside0 (w1.heap[r]? = some (.cells (byteC (List.replicate 32 0)).toArray 22 (0, 0))) := ⟨by rw [← hw1, ← HR.out]; exact Sha.row_alloc w _⟩
  clear hw1 hr
  obtain ⟨gs, cs, w2, hcv, k2, k3, k4⟩ := HST.out w1
  have HRS := Aside0.mk k2
  have HCS := Aside0.mk k3
  have HB2 := Aside0.mk (Sha.below_tr HB1.out k4)
  have HR2 := Aside0.mk ((k4.block _ (blk_lt' HR1.out)).trans HR1.out)
  clear k2 k3 k4
  have HC1 := Aside0.mk (HS1.out w2 gs cs HB2.out HRS.out HCS.out)
  go_upto_region 2 with (first
    | (refine valL_ (some 12) rfl rfl (.tmp 9) rfl 13 #[] #[] rfl Tryd.func13 rfl rfl #[.slice (some ⟨gs, 0, none⟩) s.size cs] (by simp only [List.map_toArray, List.map_cons, List.map_nil]; rfl) ?_; (with_reducible refine HC1.out.mono ?_); rintro e w3 ⟨rfl, k1⟩; refine ⟨_, rfl, ?_⟩; have HB3 := Aside0.mk k1; clear k1)
    | (refine wpList_store_row rfl 22 (.tmp 7) (.tmp 12) rfl w3.heap.size (byteC h1).toArray rfl rfl 22 _ (Sha.row_alloc w3 _) (Sha.row32_info _ HL1.out) (Sha.row_size _ HL1.out) (Sha.byteC_one _) ?_))
  obtain ⟨q, hq⟩ : ∃ g, w3.heap.size = g := ⟨_, rfl⟩
  rw [hq]
  generalize hw4 : World.setRow _ _ _ = w4
  have HB4 : Aside0 (Below w3.heap.size w3 w4) := ⟨by rw [← hw4, ← hq]; exact Sha.below_setRow _ (below_alloc (Below.refl _ _) _) (Nat.le_refl _)⟩
  have HG4 : Aside0 (w4.heap[q]? = some (.cells (byteC h1).toArray 22 (0, 0))) := ⟨by rw [← hw4, ← hq]; exact setRow_heap _ _ _ _ _ _ (Sha.row_alloc w3 _)⟩
  have HBa := Aside0.mk (Sha.below_tr (Sha.below_tr HB2.out HB3.out) HB4.out)
  have HR4 := Aside0.mk (((Sha.below_tr HB3.out HB4.out).block _ (blk_lt' HR2.out)).trans HR2.out)
  clear hq hw4
  have hs32 := Sha.slice_32 q
  have HN0 := Aside0.mk (Kd.R_nil (Kd.int .u8) 5 w4 w.heap.size (fun _ => True))
  go_upto_region 4 with (refine appL_ (w0 := w) 15 rfl rfl (.tmp 13) (.tmp 14) rfl (.slice none 0 0) [] h1 (some ⟨q, 0, none⟩) 32 32 rfl rfl HN0.out (Sha.reads_row HG4.out HL1.out (by decide)) HBa.out (by decide) ?_; intro v5 w5 k1 k2 k3 k4; have HV5 := Aside0.mk k1; have HB5 := Aside0.mk k2; have HK5 := Aside0.mk k3; have HO5 := Aside0.mk k4; clear k1 k2 k3 k4)
  have HG5 : Aside0 (w5.heap[q]? = some (.cells (byteC h1).toArray 22 (0, 0))) := ⟨(grown_keep HK5.out (blk_lt' HG4.out) (by simp [Value.ownBlock])).trans HG4.out⟩
  have HR5 : Aside0 (w5.heap[r]? = some (.cells (byteC (List.replicate 32 0)).toArray 22 (0, 0))) := ⟨(grown_keep HK5.out (blk_lt' HR4.out) (by simp [Value.ownBlock])).trans HR4.out⟩
  have HQ5 : Aside0 (v5.ownBlock ≠ some q ∧ v5.ownBlock ≠ some r) := ⟨own_new HO5.out (by simp [Value.ownBlock]) (blk_lt' HG4.out), own_new HO5.out (by simp [Value.ownBlock]) (blk_lt' HR4.out)⟩
  go_upto_region 5 with (refine appL_ (w0 := w) 18 rfl rfl (.tmp 16) (.tmp 17) rfl v5 ([] ++ h1) h1 (some ⟨q, 0, none⟩) 32 32 rfl rfl HV5.out (Sha.reads_row HG5.out HL1.out (by decide)) HB5.out (by rw [List.nil_append, HL1.out]; decide) ?_; intro v6 w6 k1 k2 k3 k4; have HV6 := Aside0.mk k1; have HB6 := Aside0.mk k2; have HK6 := Aside0.mk k3; have HO6 := Aside0.mk k4; clear k1 k2 k3 k4)
  have HR6 : Aside0 (w6.heap[r]? = some (.cells (byteC (List.replicate 32 0)).toArray 22 (0, 0))) := ⟨(grown_keep HK6.out (blk_lt' HR5.out) HQ5.out.2).trans HR5.out⟩
  have HQ6 : Aside0 (v6.ownBlock ≠ some r) := ⟨own_new HO6.out HQ5.out.2 (blk_lt' HR5.out)⟩
  go_wp2_with (first
    | (refine appL_ (w0 := w) 22 rfl rfl (.tmp 20) (.tmp 21) rfl v6 ([] ++ h1 ++ h1) p A n c rfl rfl HV6.out (HRP.out.below HB6.out) HB6.out (by rw [List.nil_append, List.length_append, HL1.out]; have := HN.out; omega) ?_; intro v7 w7 k1 k2 k3 k4; rw [List.nil_append] at k1; have HV7 := Aside0.mk k1; have HB7 := Aside0.mk k2; have HR7 : Aside0 (w7.heap[r]? = some (.cells (byteC (List.replicate 32 0)).toArray 22 (0, 0))) := ⟨(grown_keep k3 (blk_lt' HR6.out) HQ6.out).trans HR6.out⟩; clear k1 k2 k3 k4)
    | (refine valL_ (some 23) rfl rfl (.tmp 19) rfl 13 #[] #[] rfl Tryd.func13 rfl rfl #[v7] (by simp only [List.map_toArray, List.map_cons, List.map_nil]; rfl) ?_; (with_reducible refine (HS2.out w7 v7 HB7.out HV7.out).mono ?_); rintro e w8 ⟨rfl, k1⟩; refine ⟨_, rfl, ?_⟩; have HB8 := Aside0.mk k1; have HR8 := Aside0.mk ((k1.block _ (blk_lt' HR7.out)).trans HR7.out); clear k1)
    | (refine wpList_store_row rfl 22 (.tmp 6) (.tmp 23) rfl r (byteC hh).toArray rfl rfl 22 _ HR8.out (Sha.row32_info _ HL2.out) (Sha.row_size _ HL2.out) (Sha.byteC_one _) ?_))
  refine bodyPost_ret_by (results_cell_row rfl _ _ r 22 _ (0, 0) _ (by rfl) (setRow_heap _ _ _ _ _ _ HR8.out) Tryd.underlying22 rfl (Sha.row32_info _ HL2.out)) rfl ⟨rfl, Sha.below_setRow _ (Sha.below_tr HB7.out HB8.out) (by have := HR.out; omega)⟩
end Go.Proofs.YtigpdgfhngknhaaDoor.Snk
/- The bytes of numbers, the lowest first. -/
namespace Go.Proofs.YtigpdgfhngknhaaDoor.QFnTapRoot
open Go.RowKit Go.Proofs.YtigpdgfhngknhaaDoorW.PrintWords Go.Proofs.YtigpdgfhngknhaaDoorW.PrintLast Go.Proofs.YtigpdgfhngknhaaDoorW.PrintMore
set_option linter.unusedVariables false
set_option linter.unusedSimpArgs false
/-- The k lowest bytes of a number, the lowest first. -/
def leB : Nat → Int → List Int
  | 0, _ => []
  | k + 1, n => n % 256 :: leB k (n / 256)
theorem leB_succ (k : Nat) (n : Int) : leB (k + 1) n = n % 256 :: leB k (n / 256) := rfl
theorem leB_zero (n : Int) : leB 0 n = [] := rfl
theorem leB_len : ∀ k n, (leB k n).length = k
  | 0, _ => rfl
  | k + 1, n => by show (leB k (n / 256)).length + 1 = _; rw [leB_len k]
theorem u64wr {x : Int} (h0 : 0 ≤ x) (h1 : x < 18446744073709551616) : IntKind.u64.wrap x = x := by
  simp [IntKind.wrap, IntKind.signed, IntKind.bits]; omega
theorem leB_snoc : ∀ k n, leB k n ++ [n / 256 ^ k % 256] = leB (k + 1) n
  | 0, n => by simp [leB]
  | k + 1, n => by
    show n % 256 :: (leB k (n / 256) ++ [n / 256 ^ (k + 1) % 256]) = n % 256 :: leB (k + 1) (n / 256)
    rw [← leB_snoc k (n / 256), Int.pow_succ', Int.ediv_ediv_of_nonneg (by decide)]
theorem ev_little (n : Int) (m : Nat) (h0 : 0 ≤ n) (h1 : n < 18446744073709551616) (hm : m ≤ 100) : Ev (fun k => spec_little.f k n (m : Int)) (leB m n) := by
  have key : ∀ d (i : Nat) (x : Int) (acc : List Int), i + d = m → 0 ≤ x → x < 18446744073709551616 → acc.length ≤ i → Ev (fun k => spec_little.l0 k x acc (m : Int) (i : Int)) (acc ++ leB d x) := by
    intro d
    induction d with
    | zero =>
      intro i x acc hi x0 x1 ha
      rw [leB_zero, List.append_nil]
      refine Ev.step (f := fun _ => some acc) (fun k => ?_) (Ev.now _)
      rw [spec_little.l0, if_neg (by omega)]
    | succ d ih =>
      intro i x acc hi x0 x1 ha
      have c1 : (i : Int) < (m : Int) := by omega
      have c2 : acc.length < 140737488355328 := by omega
      have y0 : 0 ≤ x / 256 := by omega
      have y1 : x / 256 < 18446744073709551616 := by omega
      have ha2 : (acc ++ [x % 256]).length ≤ i + 1 := by rw [List.length_append]; simp; omega
      have hi2 : i + 1 + d = m := by omega
      have e1 : Int.tdiv x 256 = x / 256 := Int.tdiv_eq_ediv_of_nonneg x0
      have e2 : Int.tmod x 256 = x % 256 := Int.tmod_eq_emod_of_nonneg x0
      have e3 : x % 256 % 256 = x % 256 := Int.emod_emod_of_dvd _ (Int.dvd_refl _)
      have e4 : IntKind.u64.wrap (x / 256) = x / 256 := u64wr y0 y1
      have e5 : wrap64 ((i : Int) + 1) = ((i + 1 : Nat) : Int) := by unfold wrap64; omega
      have h := ih (i + 1) (x / 256) (acc ++ [x % 256]) hi2 y0 y1 ha2
      have e6 : acc ++ leB (d + 1) x = (acc ++ [x % 256]) ++ leB d (x / 256) := by rw [leB_succ, List.append_assoc, List.singleton_append]
      rw [e6]
      refine Ev.step (f := fun k => spec_little.l0 k (x / 256) (acc ++ [x % 256]) (m : Int) ((i + 1 : Nat) : Int)) (fun k => ?_) h
      rw [spec_little.l0, if_pos c1, if_pos c2, e1, e2, e3, e4, e5]
  have h := key m 0 n [] (by omega) h0 h1 (by simp)
  rw [List.nil_append] at h
  exact Ev.congr (fun k => by unfold spec_little.f; rfl) h
end Go.Proofs.YtigpdgfhngknhaaDoor.QFnTapRoot
/- A leaf, as the law says it. -/
namespace Go.Proofs.YtigpdgfhngknhaaDoor.Snk
open Go.RowKit Go.Proofs.YtigpdgfhngknhaaDoorW.PrintWords Go.Proofs.YtigpdgfhngknhaaDoorW.PrintLast Go.Proofs.YtigpdgfhngknhaaDoorW.PrintMore Go.Proofs.YtigpdgfhngknhaaDoor.QFnTapRoot
set_option linter.unusedVariables false
set_option linter.unusedSimpArgs false
theorem leB_two (x : Int) : leB 2 x = le2 x := rfl
theorem leB_four (x : Int) : leB 4 x = le4 x := by
  show [x % 256, x / 256 % 256, x / 256 / 256 % 256, x / 256 / 256 / 256 % 256] = [x % 256, (x / 256) % 256, (x / 65536) % 256, (x / 16777216) % 256]
  rw [Int.ediv_ediv_of_nonneg (by decide), Int.ediv_ediv_of_nonneg (by decide)]
  rfl
theorem varInt_ok (x : Int) (h0 : 0 ≤ x) (hx : x ≤ 4294967295) : ∃ k, spec_VarInt.f k x = some (viB x) := by
  unfold viB
  split
  · rename_i h1
    exact ⟨0, by unfold spec_VarInt.f; rw [if_pos h1, Int.emod_eq_of_lt h0 (by omega)]⟩
  · rename_i h1
    split
    · rename_i h2
      obtain ⟨k, hk⟩ := (ev_little x 2 h0 (by omega) (by decide)).rounds
      refine ⟨k, ?_⟩
      unfold spec_VarInt.f
      rw [if_neg h1, if_pos (by omega), Option.bind_some, show ((2 : Nat) : Int) = 2 from rfl] at *
      rw [hk, Option.bind_some, if_pos (by rw [leB_len]; decide), leB_two]
      rfl
    · rename_i h2
      obtain ⟨k, hk⟩ := (ev_little x 4 h0 (by omega) (by decide)).rounds
      refine ⟨k, ?_⟩
      unfold spec_VarInt.f
      rw [show ((4 : Nat) : Int) = 4 from rfl] at hk
      rw [if_neg h1, if_neg (by omega), if_pos (by omega), Option.bind_some, hk, Option.bind_some, if_pos (by rw [leB_len]; decide), leB_four]
      rfl
theorem varBytes_ok (p : List Int) (hp : p.length ≤ 1000000000) : ∃ k, spec_VarBytes.f k p = some (viB (p.length : Int) ++ p) := by
  obtain ⟨k, hk⟩ := varInt_ok (p.length : Int) (by omega) (by omega)
  refine ⟨k, ?_⟩
  unfold spec_VarBytes.f
  rw [u64wr (by omega) (by omega), hk, Option.bind_some, if_pos (by have := viB_len (p.length : Int); omega)]
theorem varBytesSpecC (A : Option Addr) (n c : Nat) (p : List Int) (w : World) (hr : ReadsInt w .u8 A n p) (hc : n ≤ c) (hn : n ≤ 1000000000) : Calls Tryd.prog 38 #[.slice A n c] w fun e w' => ∃ A1 m c1, e = .returned (.slice A1 m c1) ∧ ReadsInt w' .u8 A1 m (viB n ++ p) ∧ m ≤ c1 ∧ Below w.heap.size w w' := by
  obtain rfl : p.length = n := hr.1
  obtain ⟨k, hk⟩ := varBytes_ok p hn
  refine (spec_VarBytes.calls k A c p _ w (rdC hr) hc hk).mono ?_
  rintro e w' ⟨v0, rfl, h1, h2⟩
  obtain ⟨A1, c1, rfl, h3, h4⟩ := Kd.R_reads h1
  exact ⟨A1, _, c1, rfl, readsInt_of.2 (Kd.reads_of_C h4), h3, h2⟩
def sLeaf : ByteArray := { data := #[84, 97, 112, 76, 101, 97, 102] }
theorem sLeaf_ok : strI sLeaf = tLeaf := rfl
set_option maxRecDepth 100000 in
set_option maxHeartbeats 8000000 in
theorem leafSpecC (ver : Int) (A : Option Addr) (n c : Nat) (p kl : List Int) (w : World) (hr : ReadsInt w .u8 A n p) (hc : n ≤ c) (hn : n ≤ 100000000) (hk : Sha.KRow w kl) :
    Calls Tryd.prog 24 #[shaF, .int .u8 ver, .slice A n c] w fun e w' => e = .returned (.agg (byteC (Sha.tagL kl tLeaf ([ver] ++ (viB n ++ p)))).toArray) ∧ Below w.heap.size w w' := by
  have hpl : p.length = n := hr.1
  have hl2 := Sha.tagL_len kl tLeaf ([ver] ++ (viB n ++ p))
  have HVB : Aside0 (∀ w1, Below w.heap.size w w1 → Calls Tryd.prog 38 #[.slice A n c] w1 fun e w' => ∃ A1 m c1, e = .returned (.slice A1 m c1) ∧ ReadsInt w' .u8 A1 m (viB n ++ p) ∧ m ≤ c1 ∧ Below w1.heap.size w1 w') := ⟨fun w1 h => varBytesSpecC A n c p w1 (hr.below h) hc (by omega)⟩
  have HTS : Aside0 (∀ (w1 : World) v, Below w.heap.size w w1 → Kd.R (Kd.int .u8) 5 w1 w.heap.size (fun _ => True) v ([ver] ++ (viB n ++ p)) → Calls Tryd.prog 37 #[.func (.func 13) #[] #[], .string { data := #[84, 97, 112, 76, 101, 97, 102] }, v] w1 fun e w' => e = .returned (.agg (byteC (Sha.tagL kl tLeaf ([ver] ++ (viB n ++ p)))).toArray) ∧ Below w1.heap.size w1 w') := ⟨fun w1 v h1 h2 => by
    obtain ⟨A1, c1, rfl, h3, h4⟩ := Kd.R_reads h2
    exact tagSpecC sLeaf (by decide) A1 _ c1 _ kl w1 (readsInt_of.2 (Kd.reads_of_C h4)) h3 (by have := viB_len (n : Int); simp only [List.length_append, List.length_cons, List.length_nil]; omega) (hk.below h1)⟩
  have HLEN : Aside0 (∀ m (A1 : Option Addr) (w1 : World), ReadsInt w1 .u8 A1 m (viB n ++ p) → [ver].length + m ≤ 140737488355328) := ⟨fun m A1 w1 h => by
    have h1 := h.1
    have := viB_len (n : Int)
    rw [List.length_append] at h1
    simp only [List.length_cons, List.length_nil]
    omega⟩
  obtain ⟨hh, hhh⟩ : ∃ x, Sha.tagL kl tLeaf ([ver] ++ (viB n ++ p)) = x := ⟨_, rfl⟩
  rw [hhh] at hl2 HTS ⊢
  have HL2 := Aside0.mk hl2
  clear hr hc hn hk hpl hl2 hhh
  unfold shaF
  go_enter Tryd.func24, Tryd.ntmps24
  go_upto_region 1 with fail
  obtain ⟨r, hr⟩ : ∃ r, w.heap.size = r := ⟨_, rfl⟩
  have HR := Aside0.mk hr
  rw [hr]
  generalize hw1 : World.alloc _ _ = w1
  have HB1 : Aside0 (Below w.heap.size w w1) := ⟨by rw [← hw1]; exact below_alloc (Below.refl _ _) _⟩
  have HR1 : Aside0 (w1.heap[r]? = some (.cells (byteC (List.replicate 32 0)).toArray 22 (0, 0))) := ⟨by rw [← hw1, ← HR.out]; exact Sha.row_alloc w _⟩
  clear hw1 hr
  go_wp2_with (first
    | ((with_reducible refine gate_dst (N := 9) rfl ?_); refine Kd.R_lit (Kd.int .u8) _ 5 ?hg (N := 9) ?hd (xs := ([ver] : List Int)) (inner := [.int .u8 ver]) (ok := fun _ => True) (okp := fun _ => True) ?hr ?hp (fun _ hk => hk) trivial (Below.refl _ _) (Nat.le_refl _) (by simp) ?_; (case hd => rfl); (case hg => rfl); (case hr => first | (go_simp; done) | (go_simp; rfl)); (case hp => exact (Reps.one (show Kd.M (Kd.int .u8) _ _ _ ver [.int .u8 ver] from rfl) (Reps.none _ _))); intro v2 w2 k1 k2 k3 k4; have HV2 := Aside0.mk (Kd.R_lower k1 HB1.out.size); have HO2 := Aside0.mk k4; have HBs := Aside0.mk k2; have HB2 := Aside0.mk (Sha.below_tr HB1.out k2); have HR2 := Aside0.mk ((k2.block _ (blk_lt' HR1.out)).trans HR1.out); clear k1 k2 k3 k4)
    | (go_at_call 38; (with_reducible refine (HVB.out w2 HB2.out).mono ?_); rintro e w3 ⟨A3, m3, c3, rfl, k1, k2, k3⟩; have HR3 := Aside0.mk k1; have HB3 := Aside0.mk (Sha.below_tr HB2.out k3); have HV3 := Aside0.mk (Kd.R_below HV2.out k3); have HRr := Aside0.mk ((k3.block _ (blk_lt' HR2.out)).trans HR2.out); clear k1 k2 k3)
    | (refine appL_ (w0 := w) 12 rfl rfl (.tmp 9) (.tmp 11) rfl v2 [ver] (viB n ++ p) A3 m3 c3 rfl rfl HV3.out HR3.out HB3.out (HLEN.out m3 A3 w3 HR3.out) ?_; intro v4 w4 k1 k2 k3 k4; have HV4 := Aside0.mk k1; have HB4 := Aside0.mk k2; have HR4 : Aside0 (w4.heap[r]? = some (.cells (byteC (List.replicate 32 0)).toArray 22 (0, 0))) := ⟨(grown_keep k3 (blk_lt' HRr.out) (by obtain ⟨b, h1, h2⟩ := HO2.out; rw [h1]; intro e; obtain rfl := Option.some.inj e; exact absurd (blk_lt' HR1.out) (Nat.not_lt.2 h2))).trans HRr.out⟩; clear k1 k2 k3 k4)
    | (go_at_call 37; (with_reducible refine (HTS.out w4 v4 HB4.out HV4.out).mono ?_); rintro e w5 ⟨rfl, k1⟩; have HB5 := Aside0.mk k1; have HR5 := Aside0.mk ((k1.block _ (blk_lt' HR4.out)).trans HR4.out); clear k1)
    | (refine wpList_store_row rfl 22 (.tmp 6) (.tmp 13) rfl r (byteC hh).toArray rfl rfl 22 _ HR5.out (Sha.row32_info _ HL2.out) (Sha.row_size _ HL2.out) (Sha.byteC_one _) ?_))
  refine bodyPost_ret_by (results_cell_row rfl _ _ r 22 _ (0, 0) _ (by rfl) (setRow_heap _ _ _ _ _ _ HR5.out) Tryd.underlying22 rfl (Sha.row32_info _ HL2.out)) rfl ⟨rfl, Sha.below_setRow _ (Sha.below_tr HB4.out HB5.out) (by have := HR.out; omega)⟩
end Go.Proofs.YtigpdgfhngknhaaDoor.Snk
/- Strings compared. -/
namespace Go.Proofs.YtigpdgfhngknhaaDoor.Snk
open Go.RowKit Go.Proofs.YtigpdgfhngknhaaDoorW.PrintWords Go.Proofs.YtigpdgfhngknhaaDoorW.PrintLast Go.Proofs.YtigpdgfhngknhaaDoorW.PrintMore Go.Proofs.YtigpdgfhngknhaaDoor.QFnTapRoot
set_option linter.unusedVariables false
set_option linter.unusedSimpArgs false
theorem less_cmp : ∀ (a b : List UInt8), Op.bytesLess a b = decide (0 < Lib.compareBytes b a) := by
  intro a
  induction a with
  | nil => intro b; cases b <;> simp [Op.bytesLess, Lib.compareBytes]
  | cons x xs ih =>
    intro b
    cases b with
    | nil => simp [Op.bytesLess, Lib.compareBytes]
    | cons y ys =>
      rw [Op.bytesLess, Lib.compareBytes]
      by_cases h1 : x < y
      · have h2 : ¬ y < x := by rw [UInt8.lt_iff_toNat_lt] at *; omega
        simp [h1, h2]
      · by_cases h2 : y < x
        · have h3 : ¬ x = y := by intro e; subst e; exact h1 h2
          simp [h1, h2, h3]
        · have h3 : x = y := by
            apply UInt8.toNat_inj.1
            rw [UInt8.lt_iff_toNat_lt] at *
            omega
          simp [h1, h2, h3, ih]
theorem less_str (p q : List Int) : Op.bytesLess (strOfNums p).toList (strOfNums q).toList = decide (0 < cmpB q p) := by
  rw [less_cmp, Lib.toList_data, Lib.toList_data]
  rfl
theorem conv_op2 {P : Program} {ρ : Operand → Value} {o : Oper} {w w' : World} {v v' : Value} (t u : TypeId) (x : Operand) (ho : o.op = .convert t u x) (hx : ρ x = v) (h : (convert t u v).run P w = .ok v' w') : (execOp ρ o).run P w = .ok (.value v') w' := by
  unfold execOp
  rw [ho]
  simp [hx, h, Result.andThen]
end Go.Proofs.YtigpdgfhngknhaaDoor.Snk
/- Two nodes, as the law says it. -/
namespace Go.Proofs.YtigpdgfhngknhaaDoor.Snk
open Go.RowKit Go.Proofs.YtigpdgfhngknhaaDoorW.PrintWords Go.Proofs.YtigpdgfhngknhaaDoorW.PrintLast Go.Proofs.YtigpdgfhngknhaaDoorW.PrintMore Go.Proofs.YtigpdgfhngknhaaDoor.QFnTapRoot
set_option linter.unusedVariables false
set_option linter.unusedSimpArgs false
theorem appS_ {w0 W : World} {ops : Array Oper} {o : Oper} {a : Act} {Kc : Act → World → Prop} {Q : Exit → Act → World → Prop} (N : Tmp) (hN : o.dst = some N) (hw : Region.wanted o (yielded ops a.tmps) = true) (s x : Operand) (ho : o.op = .call { callee := .builtin .append, args := #[s, x], argTypes := #[26, 26] })
    (v : Value) (xs ys : List Int) (A : Option Addr) (m c : Nat) (hs : a.eval s = v) (hx : a.eval x = .slice A m c) (hR : Kd.R (Kd.int .u8) 5 W w0.heap.size (fun _ => True) v xs) (hr : ReadsInt W .u8 A m ys) (hB : Below w0.heap.size w0 W) (hL : xs.length + m ≤ 140737488355328)
    (h : ∀ v1 w1, Kd.R (Kd.int .u8) 5 w1 w0.heap.size (fun _ => True) v1 (xs ++ ys) → Below w0.heap.size w0 w1 → W.grownBy w1 v.ownBlock → (v1.ownBlock = v.ownBlock ∨ ∃ b, v1.ownBlock = some b ∧ W.heap.size ≤ b) → Kc (a.put (some N) v1) w1) : if Region.wanted o (yielded ops a.tmps) = true then Oper.wp Tryd.prog o a W Kc Q else Kc (a.put (some N) undef) W := by
  rw [← hN]
  refine Kd.R_append_rows_step (Kd.int .u8) (w0 := w0) w0.heap.size hw s x 26 5 (.int .u8 0) 1 ho Tryd.underlying26 info5 rfl (by decide) (by omega) v xs ys A m c (fun _ => True) (fun _ => False) hs hx hR (rdC hr) (fun _ _ h => h) (fun _ h => h.elim) (fun _ _ => trivial) hB hB.size (by omega) ?_
  intro v1 w1 h1 h2 h3 h4
  rw [hN]
  exact h v1 w1 h1 h2 h3 h4
def sBranch : ByteArray := { data := #[84, 97, 112, 66, 114, 97, 110, 99, 104] }
set_option maxRecDepth 100000 in
set_option maxHeartbeats 8000000 in
theorem branchSpecC (l r kl : List Int) (w : World) (hl : l.length = 32) (hr : r.length = 32) (hk : Sha.KRow w kl) :
    Calls Tryd.prog 25 #[shaF, .agg (byteC l).toArray, .agg (byteC r).toArray] w fun e w' => e = .returned (.agg (byteC (branL kl l r)).toArray) ∧ Below w.heap.size w w' := by
  have hl2 := branL_len kl l r
  have HTS : Aside0 (∀ (w1 : World) v q, q.length = 64 → Below w.heap.size w w1 → Kd.R (Kd.int .u8) 5 w1 w.heap.size (fun _ => True) v q → Calls Tryd.prog 37 #[.func (.func 13) #[] #[], .string { data := #[84, 97, 112, 66, 114, 97, 110, 99, 104] }, v] w1 fun e w' => e = .returned (.agg (byteC (Sha.tagL kl tBranch q)).toArray) ∧ Below w1.heap.size w1 w') := ⟨fun w1 v q hq h1 h2 => by
    obtain ⟨A1, c1, rfl, h3, h4⟩ := Kd.R_reads h2
    exact tagSpecC sBranch (by decide) A1 _ c1 _ kl w1 (readsInt_of.2 (Kd.reads_of_C h4)) h3 (by omega) (hk.below h1)⟩
  obtain ⟨hh, hhh⟩ : ∃ x, branL kl l r = x := ⟨_, rfl⟩
  rw [hhh] at hl2 ⊢
  have HL2 := Aside0.mk hl2
  have HLl := Aside0.mk hl
  have HLr := Aside0.mk hr
  unfold branL at hhh
  obtain ⟨d, hd⟩ : ∃ d, cmpB l r = d := ⟨_, rfl⟩
  rw [hd] at hhh
  have HD : Aside0 (Op.bytesLess (strOfNums r).toList (strOfNums l).toList = decide (0 < d)) := ⟨by rw [less_str, hd]⟩
  clear hl hr hk hl2 hd
  by_cases hd0 : 0 < d
  · rw [if_pos hd0] at hhh
    have HHH := Aside0.mk hhh
    clear hhh
    replace HTS := Aside0.mk (HTS.out)
    unfold shaF
    go_enter Tryd.func25, Tryd.ntmps25
    go_upto_region 1 with (first
      | ((with_reducible refine at_dst (N := 4) rfl ?_); refine wpList_run rfl _ (run_boxed 22 (.tmp 1) rfl (byteC l).toArray rfl) ?_)
      | ((with_reducible refine at_dst (N := 5) rfl ?_); refine wpList_run rfl _ (run_boxed 22 (.tmp 2) rfl (byteC r).toArray rfl) ?_))
    obtain ⟨w1, hw1⟩ : ∃ x, x = w.alloc (.cells (byteC l).toArray 22) := ⟨_, rfl⟩
    obtain ⟨w2, hw2⟩ : ∃ x, x = w1.alloc (.cells (byteC r).toArray 22) := ⟨_, rfl⟩
    have hs1 : w1.heap.size = w.heap.size + 1 := by rw [hw1]; simp
    have hs2 : w2.heap.size = w.heap.size + 1 + 1 := by rw [hw2]; simp [hs1]
    have q1 := heap_alloc_new w (.cells (byteC l).toArray 22)
    rw [← hw1] at q1 ⊢
    have q2 := heap_alloc_new w1 (.cells (byteC r).toArray 22)
    rw [← hw2] at q2 ⊢
    rw [hs1] at q2
    obtain ⟨g1, hg1⟩ : ∃ x, w.heap.size = x := ⟨_, rfl⟩
    obtain ⟨g2, hg2⟩ : ∃ x, w.heap.size + 1 = x := ⟨_, rfl⟩
    obtain ⟨g3, hg3⟩ : ∃ x, w.heap.size + 1 + 1 = x := ⟨_, rfl⟩
    have HG : Aside0 (w.heap.size = g1 ∧ w.heap.size + 1 = g2 ∧ w.heap.size + 1 + 1 = g3) := ⟨hg1, hg2, hg3⟩
    have q3 := Sha.row_alloc w2 22
    rw [hs2] at q3
    rw [hg3] at q3 ⊢
    rw [hg2] at q2 ⊢
    rw [hg1] at q1 ⊢
    generalize hw3 : World.alloc w2 _ = w3
    have HB3 : Aside0 (Below w.heap.size w w3) := ⟨by rw [← hw3, hw2, hw1]; exact below_alloc (below_alloc (below_alloc (Below.refl _ _) _) _) _⟩
    have HR3 : Aside0 (w3.heap[g3]? = some (.cells (byteC (List.replicate 32 0)).toArray 22 (0, 0))) := ⟨by rw [← hw3]; exact q3⟩
    have HQ2 : Aside0 (w3.heap[g2]? = some (.cells (byteC r).toArray 22 (0, 0))) := ⟨by rw [← hw3]; exact heap_alloc_lt q2 _⟩
    have HQ1 : Aside0 (w3.heap[g1]? = some (.cells (byteC l).toArray 22 (0, 0))) := ⟨by rw [← hw3]; exact heap_alloc_lt (by rw [hw2]; exact heap_alloc_lt q1 _) _⟩
    clear hw1 hw2 hw3 hs1 hs2 q1 q2 q3 hg1 hg2 hg3
    have hsl1 := Sha.slice_32 g1
    have hsl2 := Sha.slice_32 g2
    refine start_ (n := 5) (S := fun w' => w'.heap[g1]? = some (.cells (byteC l).toArray 22 (0, 0)) ∧ w'.heap[g2]? = some (.cells (byteC r).toArray 22 (0, 0))) (ds := []) #[false, false, false, false, false] (by kernel_rfl) rfl rfl ⟨HQ1.out, HQ2.out⟩ (fun hHeld => ?_)
    refine pure_ (i := 0) (N := some 7) (v := ?_) (a' := ?_) #[true, false, false, false, false] rfl rfl (by kernel_rfl) (fun _ _ _ h => h) (Or.inl ⟨by rfl, ?_⟩) ?_ ?_
    rotate_left
    · intro w'
      go_simp
      with_reducible rfl
    rotate_left
    · simp only [Act.put, List.setIfInBounds_toArray, List.set_cons_zero, List.set_cons_succ, i64_w, i32_w]
      rfl
    refine take_ (i := 1) (N := some 8) (v := ?_) (a' := ?_) #[true, true, false, false, false] rfl rfl (by kernel_rfl) (fun _ _ _ h => h) (Or.inl ⟨by rfl, ?_⟩) hHeld ?_ ?_
    rotate_left
    · rintro w' ⟨s0, s1⟩
      refine conv_op2 (v := .slice (some ⟨g2, 0, none⟩) 32 32) 26 9 (.tmp 7) ?_ ?_ ?_
      · rfl
      · rfl
      · exact string_of_reads Tryd.underlying26 Tryd.underlying5 Tryd.underlying9 (Sha.reads_row s1 HLr.out (by decide))
    rotate_left
    · simp only [Act.put, List.setIfInBounds_toArray, List.set_cons_zero, List.set_cons_succ, i64_w, i32_w]
      rfl
    refine pure_ (i := 2) (N := some 9) (v := ?_) (a' := ?_) #[true, true, true, false, false] rfl rfl (by kernel_rfl) (fun _ _ _ h => h) (Or.inl ⟨by rfl, ?_⟩) ?_ ?_
    rotate_left
    · intro w'
      go_simp
      with_reducible rfl
    rotate_left
    · simp only [Act.put, List.setIfInBounds_toArray, List.set_cons_zero, List.set_cons_succ, i64_w, i32_w]
      rfl
    refine take_ (i := 3) (N := some 10) (v := ?_) (a' := ?_) #[true, true, true, true, false] rfl rfl (by kernel_rfl) (fun _ _ _ h => h) (Or.inl ⟨by rfl, ?_⟩) hHeld ?_ ?_
    rotate_left
    · rintro w' ⟨s0, s1⟩
      refine conv_op2 (v := .slice (some ⟨g1, 0, none⟩) 32 32) 26 9 (.tmp 9) ?_ ?_ ?_
      · rfl
      · rfl
      · exact string_of_reads Tryd.underlying26 Tryd.underlying5 Tryd.underlying9 (Sha.reads_row s0 HLl.out (by decide))
    rotate_left
    · simp only [Act.put, List.setIfInBounds_toArray, List.set_cons_zero, List.set_cons_succ, i64_w, i32_w]
      rfl
    refine pure_ (i := 4) (N := some 11) (v := ?_) (a' := ?_) #[true, true, true, true, true] rfl rfl (by kernel_rfl) (fun _ _ _ h => h) (Or.inl ⟨by rfl, ?_⟩) ?_ ?_
    rotate_left
    · intro w'
      go_simp
      rw [HD.out]
    rotate_left
    · simp only [Act.put, List.setIfInBounds_toArray, List.set_cons_zero, List.set_cons_succ, i64_w, i32_w]
      rfl
    refine done_ (by kernel_rfl) ?_
    go_upto_region 2 with fail
    generalize hw4 : World.drew w3 = w4
    have HB4 : Aside0 (Below w.heap.size w w4) := ⟨by rw [← hw4]; exact below_drew HB3.out⟩
    have HR4 : Aside0 (w4.heap[g3]? = some (.cells (byteC (List.replicate 32 0)).toArray 22 (0, 0))) := ⟨by rw [← hw4]; exact HR3.out⟩
    have HP2 : Aside0 (w4.heap[g2]? = some (.cells (byteC r).toArray 22 (0, 0))) := ⟨by rw [← hw4]; exact HQ2.out⟩
    have HP1 : Aside0 (w4.heap[g1]? = some (.cells (byteC l).toArray 22 (0, 0))) := ⟨by rw [← hw4]; exact HQ1.out⟩
    clear hw4
    go_upto_region 3 with (first
      | ((with_reducible refine at_dst (N := 12) rfl ?_); refine wpList_load_row rfl 22 (.tmp 5) rfl g2 rfl 22 _ (0, 0) _ HP2.out Tryd.underlying22 rfl (Sha.row32_info _ HLr.out) ?_)
      | ((with_reducible refine at_dst (N := 13) rfl ?_); refine wpList_load_row rfl 22 (.tmp 4) rfl g1 rfl 22 _ (0, 0) _ HP1.out Tryd.underlying22 rfl (Sha.row32_info _ HLl.out) ?_)
      | (refine wpList_store_row rfl 22 (.tmp 4) (.tmp 12) rfl g1 (byteC r).toArray rfl rfl 22 _ HP1.out (Sha.row32_info _ HLr.out) (by simp only [List.size_toArray, byteC_len, HLl.out, HLr.out]) (Sha.byteC_one _) ?_)
      | (refine wpList_store_row rfl 22 (.tmp 5) (.tmp 13) rfl g2 (byteC l).toArray rfl rfl 22 _ ((setRow_other w4 g1 g2 _ (by have := HG.out; omega)).trans HP2.out) (Sha.row32_info _ HLl.out) (by simp only [List.size_toArray, byteC_len, HLl.out, HLr.out]) (Sha.byteC_one _) ?_))
    generalize hw5 : World.setRow (World.setRow w4 _ _) _ _ = w5
    have HB5 : Aside0 (Below w.heap.size w w5) := ⟨by rw [← hw5]; exact Sha.below_setRow _ (Sha.below_setRow _ HB4.out (by have := HG.out; omega)) (by have := HG.out; omega)⟩
    have HR5 : Aside0 (w5.heap[g3]? = some (.cells (byteC (List.replicate 32 0)).toArray 22 (0, 0))) := ⟨by rw [← hw5]; exact (setRow_other _ g2 g3 _ (by have := HG.out; omega)).trans ((setRow_other w4 g1 g3 _ (by have := HG.out; omega)).trans HR4.out)⟩
    have HA5 : Aside0 (w5.heap[g1]? = some (.cells (byteC r).toArray 22 (0, 0))) := ⟨by rw [← hw5]; exact (setRow_other _ g2 g1 _ (by have := HG.out; omega)).trans (setRow_heap _ _ _ _ _ _ HP1.out)⟩
    have HC5 : Aside0 (w5.heap[g2]? = some (.cells (byteC l).toArray 22 (0, 0))) := ⟨by rw [← hw5]; exact setRow_heap _ _ _ _ _ _ ((setRow_other w4 g1 g2 _ (by have := HG.out; omega)).trans HP2.out)⟩
    clear hw5
    refine start_ (n := 8) (S := fun w' => True) (ds := [7]) #[false, false, false, false, false, false, false, false] (by kernel_rfl) rfl rfl trivial (fun hHeld => ?_)
    generalize hu0 : World.drew w5 = u0
    have U0 : Aside0 (Below w.heap.size w u0) := ⟨by rw [← hu0]; exact below_drew HB5.out⟩
    have A0 : Aside0 (u0.heap[g1]? = some (.cells (byteC r).toArray 22 (0, 0))) := ⟨by rw [← hu0]; exact HA5.out⟩
    have C0 : Aside0 (u0.heap[g2]? = some (.cells (byteC l).toArray 22 (0, 0))) := ⟨by rw [← hu0]; exact HC5.out⟩
    have R0 : Aside0 (u0.heap[g3]? = some (.cells (byteC (List.replicate 32 0)).toArray 22 (0, 0))) := ⟨by rw [← hu0]; exact HR5.out⟩
    clear hu0
    refine pure_ (i := 0) (N := some 14) (v := ?_) (a' := ?_) #[true, false, false, false, false, false, false, false] rfl rfl (by kernel_rfl) (fun _ _ _ h => h) (Or.inl ⟨by rfl, ?_⟩) ?_ ?_
    rotate_left
    · intro w'
      go_simp
      with_reducible rfl
    rotate_left
    · simp only [Act.put, List.setIfInBounds_toArray, List.set_cons_zero, List.set_cons_succ, i64_w, i32_w]
      rfl
    refine pure_ (i := 2) (N := some 16) (v := ?_) (a' := ?_) #[true, false, true, false, false, false, false, false] rfl rfl (by kernel_rfl) (fun _ _ _ h => h) (Or.inl ⟨by rfl, ?_⟩) ?_ ?_
    rotate_left
    · intro w'
      go_simp
      with_reducible rfl
    rotate_left
    · simp only [Act.put, List.setIfInBounds_toArray, List.set_cons_zero, List.set_cons_succ, i64_w, i32_w]
      rfl
    refine pure_ (i := 4) (N := some 18) (v := ?_) (a' := ?_) #[true, false, true, false, true, false, false, false] rfl rfl (by kernel_rfl) (fun _ _ _ h => h) (Or.inl ⟨by rfl, ?_⟩) ?_ ?_
    rotate_left
    · intro w'
      go_simp
      with_reducible rfl
    rotate_left
    · simp only [Act.put, List.setIfInBounds_toArray, List.set_cons_zero, List.set_cons_succ, i64_w, i32_w]
      rfl
    refine one_ (i := 1) (N := some 15) #[true, true, true, false, true, false, false, false] rfl rfl (by kernel_rfl) (by decide) (fun K hK => ?_)
    refine Kd.R_lit_step (Kd.int .u8) (w0 := w) w.heap.size 5 (by rfl) (N := 15) rfl (xs := ([] : List Int)) (inner := []) (ok := fun _ => True) (okp := fun _ => True) ?hr (Reps.none _ _) (fun _ hk => hk) trivial U0.out U0.out.size (by simp) ?_
    (case hr => first | (go_simp; done) | (go_simp; rfl))
    intro v1 u1 k1 k2 k3 k4
    have V1 := Aside0.mk k1
    have U1 := Aside0.mk k2
    have A1 := Aside0.mk ((grown_keep k3 (blk_lt' A0.out) (by simp)).trans A0.out)
    have C1 := Aside0.mk ((grown_keep k3 (blk_lt' C0.out) (by simp)).trans C0.out)
    have R1 := Aside0.mk ((grown_keep k3 (blk_lt' R0.out) (by simp)).trans R0.out)
    have O1 : Aside0 (v1.ownBlock ≠ some g1 ∧ v1.ownBlock ≠ some g2 ∧ v1.ownBlock ≠ some g3) := ⟨by obtain ⟨b, e1, e2⟩ := k4; rw [e1]; have h1 := blk_lt' A0.out; have h2 := blk_lt' C0.out; have h3 := blk_lt' R0.out; refine ⟨?_, ?_, ?_⟩ <;> (intro e; obtain rfl := Option.some.inj e; omega)⟩
    clear k1 k2 k3 k4
    refine hK.out _ _ trivial (fun hHeld => ?_)
    clear hK K
    refine norm_ (a' := ?_) ?_ ?_
    rotate_left
    · show Act.put _ (some 15) _ = _
      simp only [Act.put, List.setIfInBounds_toArray, List.set_cons_zero, List.set_cons_succ, i64_w, i32_w]
      rfl
    refine one_ (i := 3) (N := some 17) #[true, true, true, true, true, false, false, false] rfl rfl (by kernel_rfl) (by decide) (fun K hK => ?_)
    refine appS_ (w0 := w) 17 rfl (by rfl) (.tmp 15) (.tmp 16) rfl v1 [] r (some ⟨g1, 0, none⟩) 32 32 rfl rfl V1.out (Sha.reads_row A1.out HLr.out (by decide)) U1.out (by simp only [List.length_append, List.length_nil, HLl.out, HLr.out]; decide) ?_
    intro v2 u2 k1 k2 k3 k4
    have V2 := Aside0.mk k1
    have U2 := Aside0.mk k2
    have A2 := Aside0.mk ((grown_keep k3 (blk_lt' A1.out) (O1.out.1)).trans A1.out)
    have C2 := Aside0.mk ((grown_keep k3 (blk_lt' C1.out) (O1.out.2.1)).trans C1.out)
    have R2 := Aside0.mk ((grown_keep k3 (blk_lt' R1.out) (O1.out.2.2)).trans R1.out)
    have O2 : Aside0 (v2.ownBlock ≠ some g1 ∧ v2.ownBlock ≠ some g2 ∧ v2.ownBlock ≠ some g3) := ⟨own_new k4 O1.out.1 (blk_lt' A1.out), own_new k4 O1.out.2.1 (blk_lt' C1.out), own_new k4 O1.out.2.2 (blk_lt' R1.out)⟩
    clear k1 k2 k3 k4
    refine hK.out _ _ trivial (fun hHeld => ?_)
    clear hK K
    refine norm_ (a' := ?_) ?_ ?_
    rotate_left
    · show Act.put _ (some 17) _ = _
      simp only [Act.put, List.setIfInBounds_toArray, List.set_cons_zero, List.set_cons_succ, i64_w, i32_w]
      rfl
    refine one_ (i := 5) (N := some 19) #[true, true, true, true, true, true, false, false] rfl rfl (by kernel_rfl) (by decide) (fun K hK => ?_)
    refine appS_ (w0 := w) 19 rfl (by rfl) (.tmp 17) (.tmp 18) rfl v2 ([] ++ r) l (some ⟨g2, 0, none⟩) 32 32 rfl rfl V2.out (Sha.reads_row C2.out HLl.out (by decide)) U2.out (by simp only [List.length_append, List.length_nil, HLl.out, HLr.out]; decide) ?_
    intro v3 u3 k1 k2 k3 k4
    have V3 := Aside0.mk k1
    have U3 := Aside0.mk k2
    have A3 := Aside0.mk ((grown_keep k3 (blk_lt' A2.out) (O2.out.1)).trans A2.out)
    have C3 := Aside0.mk ((grown_keep k3 (blk_lt' C2.out) (O2.out.2.1)).trans C2.out)
    have R3 := Aside0.mk ((grown_keep k3 (blk_lt' R2.out) (O2.out.2.2)).trans R2.out)
    have O3 : Aside0 (v3.ownBlock ≠ some g1 ∧ v3.ownBlock ≠ some g2 ∧ v3.ownBlock ≠ some g3) := ⟨own_new k4 O2.out.1 (blk_lt' A2.out), own_new k4 O2.out.2.1 (blk_lt' C2.out), own_new k4 O2.out.2.2 (blk_lt' R2.out)⟩
    clear k1 k2 k3 k4
    refine hK.out _ _ trivial (fun hHeld => ?_)
    clear hK K
    refine norm_ (a' := ?_) ?_ ?_
    rotate_left
    · show Act.put _ (some 19) _ = _
      simp only [Act.put, List.setIfInBounds_toArray, List.set_cons_zero, List.set_cons_succ, i64_w, i32_w]
      rfl
    have HC := Aside0.mk (HTS.out u3 v3 ([] ++ r ++ l) (by simp only [List.length_append, List.length_nil, HLl.out, HLr.out]) U3.out V3.out)
    rw [List.nil_append, HHH.out] at HC
    refine one_ (i := 6) (N := some 20) #[true, true, true, true, true, true, true, false] rfl rfl (by kernel_rfl) (by decide) (fun K hK => ?_)
    refine goes_ Tryd.func37 (by kernel_rfl) rfl #[.func (.func 13) #[] #[], .string { data := #[84, 97, 112, 66, 114, 97, 110, 99, 104] }, v3] (by rfl) rfl rfl (by (try simp only [List.map_toArray, List.map_cons, List.map_nil]); first | done | rfl | (simp only [List.length_drop, List.length_take]; rfl)) ?_
    with_reducible refine HC.out.mono ?_
    rintro e u4 ⟨rfl, k1⟩
    refine ⟨_, rfl, ?_⟩
    have U4 := Aside0.mk k1
    have R4 := Aside0.mk ((k1.block _ (blk_lt' R3.out)).trans R3.out)
    clear k1
    refine hK.out _ _ trivial (fun hHeld => ?_)
    clear hK K
    refine norm_ (a' := ?_) ?_ ?_
    rotate_left
    · show Act.put _ (some 20) _ = _
      simp only [Act.put, List.setIfInBounds_toArray, List.set_cons_zero, List.set_cons_succ, i64_w, i32_w]
      rfl
    refine last_ (i := 7) (N := none) #[true, true, true, true, true, true, true, true] rfl rfl (by kernel_rfl) (by decide) (fun K hK => ?_)
    rw [if_pos (show Region.wanted _ _ = true by rfl)]
    refine wp_store_row 22 (.tmp 6) (.tmp 20) rfl g3 (byteC hh).toArray rfl rfl 22 _ R4.out (Sha.row32_info _ HL2.out) (Sha.row_size _ HL2.out) (Sha.byteC_one _) ?_
    refine hK.out _ _ ?_
    clear hK K
    refine norm_ (a' := ?_) ?_ ?_
    rotate_left
    · rfl
    refine done_ (by kernel_rfl) ?_
    go_wp2_with fail
    refine bodyPost_ret_by (results_cell_row rfl _ _ g3 22 _ (0, 0) _ (by rfl) (setRow_heap _ _ _ _ _ _ R4.out) Tryd.underlying22 rfl (Sha.row32_info _ HL2.out)) rfl ⟨rfl, Sha.below_setRow _ (Sha.below_tr U3.out U4.out) (by have := HG.out; omega)⟩
  · rw [if_neg hd0] at hhh
    have HHH := Aside0.mk hhh
    clear hhh
    replace HTS := Aside0.mk (HTS.out)
    unfold shaF
    go_enter Tryd.func25, Tryd.ntmps25
    go_upto_region 1 with (first
      | ((with_reducible refine at_dst (N := 4) rfl ?_); refine wpList_run rfl _ (run_boxed 22 (.tmp 1) rfl (byteC l).toArray rfl) ?_)
      | ((with_reducible refine at_dst (N := 5) rfl ?_); refine wpList_run rfl _ (run_boxed 22 (.tmp 2) rfl (byteC r).toArray rfl) ?_))
    obtain ⟨w1, hw1⟩ : ∃ x, x = w.alloc (.cells (byteC l).toArray 22) := ⟨_, rfl⟩
    obtain ⟨w2, hw2⟩ : ∃ x, x = w1.alloc (.cells (byteC r).toArray 22) := ⟨_, rfl⟩
    have hs1 : w1.heap.size = w.heap.size + 1 := by rw [hw1]; simp
    have hs2 : w2.heap.size = w.heap.size + 1 + 1 := by rw [hw2]; simp [hs1]
    have q1 := heap_alloc_new w (.cells (byteC l).toArray 22)
    rw [← hw1] at q1 ⊢
    have q2 := heap_alloc_new w1 (.cells (byteC r).toArray 22)
    rw [← hw2] at q2 ⊢
    rw [hs1] at q2
    obtain ⟨g1, hg1⟩ : ∃ x, w.heap.size = x := ⟨_, rfl⟩
    obtain ⟨g2, hg2⟩ : ∃ x, w.heap.size + 1 = x := ⟨_, rfl⟩
    obtain ⟨g3, hg3⟩ : ∃ x, w.heap.size + 1 + 1 = x := ⟨_, rfl⟩
    have HG : Aside0 (w.heap.size = g1 ∧ w.heap.size + 1 = g2 ∧ w.heap.size + 1 + 1 = g3) := ⟨hg1, hg2, hg3⟩
    have q3 := Sha.row_alloc w2 22
    rw [hs2] at q3
    rw [hg3] at q3 ⊢
    rw [hg2] at q2 ⊢
    rw [hg1] at q1 ⊢
    generalize hw3 : World.alloc w2 _ = w3
    have HB3 : Aside0 (Below w.heap.size w w3) := ⟨by rw [← hw3, hw2, hw1]; exact below_alloc (below_alloc (below_alloc (Below.refl _ _) _) _) _⟩
    have HR3 : Aside0 (w3.heap[g3]? = some (.cells (byteC (List.replicate 32 0)).toArray 22 (0, 0))) := ⟨by rw [← hw3]; exact q3⟩
    have HQ2 : Aside0 (w3.heap[g2]? = some (.cells (byteC r).toArray 22 (0, 0))) := ⟨by rw [← hw3]; exact heap_alloc_lt q2 _⟩
    have HQ1 : Aside0 (w3.heap[g1]? = some (.cells (byteC l).toArray 22 (0, 0))) := ⟨by rw [← hw3]; exact heap_alloc_lt (by rw [hw2]; exact heap_alloc_lt q1 _) _⟩
    clear hw1 hw2 hw3 hs1 hs2 q1 q2 q3 hg1 hg2 hg3
    have hsl1 := Sha.slice_32 g1
    have hsl2 := Sha.slice_32 g2
    refine start_ (n := 5) (S := fun w' => w'.heap[g1]? = some (.cells (byteC l).toArray 22 (0, 0)) ∧ w'.heap[g2]? = some (.cells (byteC r).toArray 22 (0, 0))) (ds := []) #[false, false, false, false, false] (by kernel_rfl) rfl rfl ⟨HQ1.out, HQ2.out⟩ (fun hHeld => ?_)
    refine pure_ (i := 0) (N := some 7) (v := ?_) (a' := ?_) #[true, false, false, false, false] rfl rfl (by kernel_rfl) (fun _ _ _ h => h) (Or.inl ⟨by rfl, ?_⟩) ?_ ?_
    rotate_left
    · intro w'
      go_simp
      with_reducible rfl
    rotate_left
    · simp only [Act.put, List.setIfInBounds_toArray, List.set_cons_zero, List.set_cons_succ, i64_w, i32_w]
      rfl
    refine take_ (i := 1) (N := some 8) (v := ?_) (a' := ?_) #[true, true, false, false, false] rfl rfl (by kernel_rfl) (fun _ _ _ h => h) (Or.inl ⟨by rfl, ?_⟩) hHeld ?_ ?_
    rotate_left
    · rintro w' ⟨s0, s1⟩
      refine conv_op2 (v := .slice (some ⟨g2, 0, none⟩) 32 32) 26 9 (.tmp 7) ?_ ?_ ?_
      · rfl
      · rfl
      · exact string_of_reads Tryd.underlying26 Tryd.underlying5 Tryd.underlying9 (Sha.reads_row s1 HLr.out (by decide))
    rotate_left
    · simp only [Act.put, List.setIfInBounds_toArray, List.set_cons_zero, List.set_cons_succ, i64_w, i32_w]
      rfl
    refine pure_ (i := 2) (N := some 9) (v := ?_) (a' := ?_) #[true, true, true, false, false] rfl rfl (by kernel_rfl) (fun _ _ _ h => h) (Or.inl ⟨by rfl, ?_⟩) ?_ ?_
    rotate_left
    · intro w'
      go_simp
      with_reducible rfl
    rotate_left
    · simp only [Act.put, List.setIfInBounds_toArray, List.set_cons_zero, List.set_cons_succ, i64_w, i32_w]
      rfl
    refine take_ (i := 3) (N := some 10) (v := ?_) (a' := ?_) #[true, true, true, true, false] rfl rfl (by kernel_rfl) (fun _ _ _ h => h) (Or.inl ⟨by rfl, ?_⟩) hHeld ?_ ?_
    rotate_left
    · rintro w' ⟨s0, s1⟩
      refine conv_op2 (v := .slice (some ⟨g1, 0, none⟩) 32 32) 26 9 (.tmp 9) ?_ ?_ ?_
      · rfl
      · rfl
      · exact string_of_reads Tryd.underlying26 Tryd.underlying5 Tryd.underlying9 (Sha.reads_row s0 HLl.out (by decide))
    rotate_left
    · simp only [Act.put, List.setIfInBounds_toArray, List.set_cons_zero, List.set_cons_succ, i64_w, i32_w]
      rfl
    refine pure_ (i := 4) (N := some 11) (v := ?_) (a' := ?_) #[true, true, true, true, true] rfl rfl (by kernel_rfl) (fun _ _ _ h => h) (Or.inl ⟨by rfl, ?_⟩) ?_ ?_
    rotate_left
    · intro w'
      go_simp
      rw [HD.out]
    rotate_left
    · simp only [Act.put, List.setIfInBounds_toArray, List.set_cons_zero, List.set_cons_succ, i64_w, i32_w]
      rfl
    refine done_ (by kernel_rfl) ?_
    go_upto_region 3 with fail
    generalize hw4 : World.drew w3 = w4
    have HB4 : Aside0 (Below w.heap.size w w4) := ⟨by rw [← hw4]; exact below_drew HB3.out⟩
    have HR4 : Aside0 (w4.heap[g3]? = some (.cells (byteC (List.replicate 32 0)).toArray 22 (0, 0))) := ⟨by rw [← hw4]; exact HR3.out⟩
    have HP2 : Aside0 (w4.heap[g2]? = some (.cells (byteC r).toArray 22 (0, 0))) := ⟨by rw [← hw4]; exact HQ2.out⟩
    have HP1 : Aside0 (w4.heap[g1]? = some (.cells (byteC l).toArray 22 (0, 0))) := ⟨by rw [← hw4]; exact HQ1.out⟩
    clear hw4
    have HB5 := HB4
    have HR5 := HR4
    have HA5 := HP1
    have HC5 := HP2
    refine start_ (n := 8) (S := fun w' => True) (ds := [7]) #[false, false, false, false, false, false, false, false] (by kernel_rfl) rfl rfl trivial (fun hHeld => ?_)
    generalize hu0 : World.drew w4 = u0
    have U0 : Aside0 (Below w.heap.size w u0) := ⟨by rw [← hu0]; exact below_drew HB5.out⟩
    have A0 : Aside0 (u0.heap[g1]? = some (.cells (byteC l).toArray 22 (0, 0))) := ⟨by rw [← hu0]; exact HA5.out⟩
    have C0 : Aside0 (u0.heap[g2]? = some (.cells (byteC r).toArray 22 (0, 0))) := ⟨by rw [← hu0]; exact HC5.out⟩
    have R0 : Aside0 (u0.heap[g3]? = some (.cells (byteC (List.replicate 32 0)).toArray 22 (0, 0))) := ⟨by rw [← hu0]; exact HR5.out⟩
    clear hu0
    refine pure_ (i := 0) (N := some 14) (v := ?_) (a' := ?_) #[true, false, false, false, false, false, false, false] rfl rfl (by kernel_rfl) (fun _ _ _ h => h) (Or.inl ⟨by rfl, ?_⟩) ?_ ?_
    rotate_left
    · intro w'
      go_simp
      with_reducible rfl
    rotate_left
    · simp only [Act.put, List.setIfInBounds_toArray, List.set_cons_zero, List.set_cons_succ, i64_w, i32_w]
      rfl
    refine pure_ (i := 2) (N := some 16) (v := ?_) (a' := ?_) #[true, false, true, false, false, false, false, false] rfl rfl (by kernel_rfl) (fun _ _ _ h => h) (Or.inl ⟨by rfl, ?_⟩) ?_ ?_
    rotate_left
    · intro w'
      go_simp
      with_reducible rfl
    rotate_left
    · simp only [Act.put, List.setIfInBounds_toArray, List.set_cons_zero, List.set_cons_succ, i64_w, i32_w]
      rfl
    refine pure_ (i := 4) (N := some 18) (v := ?_) (a' := ?_) #[true, false, true, false, true, false, false, false] rfl rfl (by kernel_rfl) (fun _ _ _ h => h) (Or.inl ⟨by rfl, ?_⟩) ?_ ?_
    rotate_left
    · intro w'
      go_simp
      with_reducible rfl
    rotate_left
    · simp only [Act.put, List.setIfInBounds_toArray, List.set_cons_zero, List.set_cons_succ, i64_w, i32_w]
      rfl
    refine one_ (i := 1) (N := some 15) #[true, true, true, false, true, false, false, false] rfl rfl (by kernel_rfl) (by decide) (fun K hK => ?_)
    refine Kd.R_lit_step (Kd.int .u8) (w0 := w) w.heap.size 5 (by rfl) (N := 15) rfl (xs := ([] : List Int)) (inner := []) (ok := fun _ => True) (okp := fun _ => True) ?hr (Reps.none _ _) (fun _ hk => hk) trivial U0.out U0.out.size (by simp) ?_
    (case hr => first | (go_simp; done) | (go_simp; rfl))
    intro v1 u1 k1 k2 k3 k4
    have V1 := Aside0.mk k1
    have U1 := Aside0.mk k2
    have A1 := Aside0.mk ((grown_keep k3 (blk_lt' A0.out) (by simp)).trans A0.out)
    have C1 := Aside0.mk ((grown_keep k3 (blk_lt' C0.out) (by simp)).trans C0.out)
    have R1 := Aside0.mk ((grown_keep k3 (blk_lt' R0.out) (by simp)).trans R0.out)
    have O1 : Aside0 (v1.ownBlock ≠ some g1 ∧ v1.ownBlock ≠ some g2 ∧ v1.ownBlock ≠ some g3) := ⟨by obtain ⟨b, e1, e2⟩ := k4; rw [e1]; have h1 := blk_lt' A0.out; have h2 := blk_lt' C0.out; have h3 := blk_lt' R0.out; refine ⟨?_, ?_, ?_⟩ <;> (intro e; obtain rfl := Option.some.inj e; omega)⟩
    clear k1 k2 k3 k4
    refine hK.out _ _ trivial (fun hHeld => ?_)
    clear hK K
    refine norm_ (a' := ?_) ?_ ?_
    rotate_left
    · show Act.put _ (some 15) _ = _
      simp only [Act.put, List.setIfInBounds_toArray, List.set_cons_zero, List.set_cons_succ, i64_w, i32_w]
      rfl
    refine one_ (i := 3) (N := some 17) #[true, true, true, true, true, false, false, false] rfl rfl (by kernel_rfl) (by decide) (fun K hK => ?_)
    refine appS_ (w0 := w) 17 rfl (by rfl) (.tmp 15) (.tmp 16) rfl v1 [] l (some ⟨g1, 0, none⟩) 32 32 rfl rfl V1.out (Sha.reads_row A1.out HLl.out (by decide)) U1.out (by simp only [List.length_append, List.length_nil, HLl.out, HLr.out]; decide) ?_
    intro v2 u2 k1 k2 k3 k4
    have V2 := Aside0.mk k1
    have U2 := Aside0.mk k2
    have A2 := Aside0.mk ((grown_keep k3 (blk_lt' A1.out) (O1.out.1)).trans A1.out)
    have C2 := Aside0.mk ((grown_keep k3 (blk_lt' C1.out) (O1.out.2.1)).trans C1.out)
    have R2 := Aside0.mk ((grown_keep k3 (blk_lt' R1.out) (O1.out.2.2)).trans R1.out)
    have O2 : Aside0 (v2.ownBlock ≠ some g1 ∧ v2.ownBlock ≠ some g2 ∧ v2.ownBlock ≠ some g3) := ⟨own_new k4 O1.out.1 (blk_lt' A1.out), own_new k4 O1.out.2.1 (blk_lt' C1.out), own_new k4 O1.out.2.2 (blk_lt' R1.out)⟩
    clear k1 k2 k3 k4
    refine hK.out _ _ trivial (fun hHeld => ?_)
    clear hK K
    refine norm_ (a' := ?_) ?_ ?_
    rotate_left
    · show Act.put _ (some 17) _ = _
      simp only [Act.put, List.setIfInBounds_toArray, List.set_cons_zero, List.set_cons_succ, i64_w, i32_w]
      rfl
    refine one_ (i := 5) (N := some 19) #[true, true, true, true, true, true, false, false] rfl rfl (by kernel_rfl) (by decide) (fun K hK => ?_)
    refine appS_ (w0 := w) 19 rfl (by rfl) (.tmp 17) (.tmp 18) rfl v2 ([] ++ l) r (some ⟨g2, 0, none⟩) 32 32 rfl rfl V2.out (Sha.reads_row C2.out HLr.out (by decide)) U2.out (by simp only [List.length_append, List.length_nil, HLl.out, HLr.out]; decide) ?_
    intro v3 u3 k1 k2 k3 k4
    have V3 := Aside0.mk k1
    have U3 := Aside0.mk k2
    have A3 := Aside0.mk ((grown_keep k3 (blk_lt' A2.out) (O2.out.1)).trans A2.out)
    have C3 := Aside0.mk ((grown_keep k3 (blk_lt' C2.out) (O2.out.2.1)).trans C2.out)
    have R3 := Aside0.mk ((grown_keep k3 (blk_lt' R2.out) (O2.out.2.2)).trans R2.out)
    have O3 : Aside0 (v3.ownBlock ≠ some g1 ∧ v3.ownBlock ≠ some g2 ∧ v3.ownBlock ≠ some g3) := ⟨own_new k4 O2.out.1 (blk_lt' A2.out), own_new k4 O2.out.2.1 (blk_lt' C2.out), own_new k4 O2.out.2.2 (blk_lt' R2.out)⟩
    clear k1 k2 k3 k4
    refine hK.out _ _ trivial (fun hHeld => ?_)
    clear hK K
    refine norm_ (a' := ?_) ?_ ?_
    rotate_left
    · show Act.put _ (some 19) _ = _
      simp only [Act.put, List.setIfInBounds_toArray, List.set_cons_zero, List.set_cons_succ, i64_w, i32_w]
      rfl
    have HC := Aside0.mk (HTS.out u3 v3 ([] ++ l ++ r) (by simp only [List.length_append, List.length_nil, HLl.out, HLr.out]) U3.out V3.out)
    rw [List.nil_append, HHH.out] at HC
    refine one_ (i := 6) (N := some 20) #[true, true, true, true, true, true, true, false] rfl rfl (by kernel_rfl) (by decide) (fun K hK => ?_)
    refine goes_ Tryd.func37 (by kernel_rfl) rfl #[.func (.func 13) #[] #[], .string { data := #[84, 97, 112, 66, 114, 97, 110, 99, 104] }, v3] (by rfl) rfl rfl (by (try simp only [List.map_toArray, List.map_cons, List.map_nil]); first | done | rfl | (simp only [List.length_drop, List.length_take]; rfl)) ?_
    with_reducible refine HC.out.mono ?_
    rintro e u4 ⟨rfl, k1⟩
    refine ⟨_, rfl, ?_⟩
    have U4 := Aside0.mk k1
    have R4 := Aside0.mk ((k1.block _ (blk_lt' R3.out)).trans R3.out)
    clear k1
    refine hK.out _ _ trivial (fun hHeld => ?_)
    clear hK K
    refine norm_ (a' := ?_) ?_ ?_
    rotate_left
    · show Act.put _ (some 20) _ = _
      simp only [Act.put, List.setIfInBounds_toArray, List.set_cons_zero, List.set_cons_succ, i64_w, i32_w]
      rfl
    refine last_ (i := 7) (N := none) #[true, true, true, true, true, true, true, true] rfl rfl (by kernel_rfl) (by decide) (fun K hK => ?_)
    rw [if_pos (show Region.wanted _ _ = true by rfl)]
    refine wp_store_row 22 (.tmp 6) (.tmp 20) rfl g3 (byteC hh).toArray rfl rfl 22 _ R4.out (Sha.row32_info _ HL2.out) (Sha.row_size _ HL2.out) (Sha.byteC_one _) ?_
    refine hK.out _ _ ?_
    clear hK K
    refine norm_ (a' := ?_) ?_ ?_
    rotate_left
    · rfl
    refine done_ (by kernel_rfl) ?_
    go_wp2_with fail
    refine bodyPost_ret_by (results_cell_row rfl _ _ g3 22 _ (0, 0) _ (by rfl) (setRow_heap _ _ _ _ _ _ R4.out) Tryd.underlying22 rfl (Sha.row32_info _ HL2.out)) rfl ⟨rfl, Sha.below_setRow _ (Sha.below_tr U3.out U4.out) (by have := HG.out; omega)⟩
end Go.Proofs.YtigpdgfhngknhaaDoor.Snk
/- A struct, or an array, read, laid, built as a whole. -/
namespace Go.Proofs.YtigpdgfhngknhaaDoorW.PrintWords
open Go.RowKit
set_option linter.unusedVariables false
section
variable {P : Program} {ops : Array Oper} {rest : List Oper} {o : Oper} {a : Act} {w : World} {Q : Exit → Act → World → Prop}
/-- A struct, or an array, read as a whole, wherever it lies. -/
theorem run_loadVar_at (w : World) (p : Addr) (ty : TypeId) (cs : List Value) (d : TypeDesc) (hc : ∀ j v, cs[j]? = some v → w.cell? (p.add j) = some v)
    (hu : P.underlying ty = some d) (hd : (match d with | .struct _ | .array _ _ => true | _ => false) = true) (hi : (P.info? ty).map (·.size) = some cs.length) : (loadVar ty p).run P w = .ok (.agg cs.toArray) w := by
  have hl : (loadCells p cs.length).run P w = .ok cs.toArray w := run_loadCells_list (P := P) w p cs (fun j v hv => hc j v (by simpa using hv))
  cases hq : P.info? ty with
  | none => simp [hq] at hi
  | some i =>
    have hs : i.size = cs.length := by simpa [hq] using hi
    have hagg : (isAgg ty).run P w = .ok true w := by
      unfold isAgg
      rw [Sem.run_bind, run_underlying hu w]
      cases d <;> simp_all
    simp [loadVar, Sem.run_bind, hagg, sizeOf, typeInfo, hq, hs, hl]
theorem run_load_at {ρ : Operand → Value} (ty : TypeId) (x : Operand) (ho : o.op = .load ty x) (p : Addr) (hx : ρ x = .pointer (some p)) (cs : List Value) (d : TypeDesc) (hc : ∀ j v, cs[j]? = some v → w.cell? (p.add j) = some v)
    (hu : P.underlying ty = some d) (hd : (match d with | .struct _ | .array _ _ => true | _ => false) = true) (hi : (P.info? ty).map (·.size) = some cs.length) : (execOp ρ o).run P w = .ok (.value (.agg cs.toArray)) w := by
  unfold execOp
  simp only [ho, hx, Instr.loadAt, Instr.sureAddr, Sem.run_bind, Sem.run_pure, Result.andThen_ok, run_loadVar_at w p ty cs d hc hu hd hi]
theorem wpList_load_at (hgd : o.guard = none) (ty : TypeId) (x : Operand) (ho : o.op = .load ty x) (p : Addr) (hx : a.eval x = .pointer (some p)) (cs : List Value) (d : TypeDesc) (hc : ∀ j v, cs[j]? = some v → w.cell? (p.add j) = some v)
    (hu : P.underlying ty = some d) (hd : (match d with | .struct _ | .array _ _ => true | _ => false) = true) (hi : (P.info? ty).map (·.size) = some cs.length) (h : wpList P ops Q rest (a.put o.dst (.agg cs.toArray)) w) : wpList P ops Q (o :: rest) a w :=
  wpList_run hgd _ (run_load_at ty x ho p hx cs d hc hu hd hi) h
theorem at_none {P : Program} {ops : Array Oper} {rest : List Oper} {o : Oper} {a : Act} {w : World} {Q : Exit → Act → World → Prop} (_h : o.dst = none) (h : wpList P ops Q (o :: rest) a w) : wpList P ops Q (o :: rest) a w := h
/-- A store of a whole struct into a block that is told. -/
theorem wpList_store_whole (hgd : o.guard = none) (ty : TypeId) (x y : Operand) (ho : o.op = .store ty x y) (g : Nat) (cells : Array Value) (hx : a.eval x = .pointer (some ⟨g, 0, none⟩)) (hy : a.eval y = .agg cells)
    (t : TypeId) (old : Array Value) (hg : w.heap[g]? = some (.cells old t (0, 0))) (hi : (P.info? ty).map (·.size) = some cells.size) (hold : old.size = cells.size) (h1 : cells.all (·.oneCell') = true) {w0 : World} {B : Nat} (hB : Below B w0 w) (hg0 : B ≤ g)
    (h : ∀ W, W.heap[g]? = some (.cells cells t (0, 0)) → Below B w0 W → (∀ k, k ≠ g → W.heap[k]? = w.heap[k]?) → W.heap.size = w.heap.size → wpList P ops Q rest (a.put o.dst undef) W) : wpList P ops Q (o :: rest) a w := by
  refine wpList_store_row hgd ty x y ho g cells hx hy t old hg hi hold h1 ?_
  have hlt := blk_lt' hg
  have hs : (w.setRow g cells).heap.size = w.heap.size := by simp [World.setRow]
  have hk : ∀ k, k ≠ g → (w.setRow g cells).heap[k]? = w.heap[k]? := fun k hk => by simp [World.setRow, Array.getElem?_modify, Ne.symm hk]
  refine h _ (by simp [World.setRow, Array.getElem?_modify, hg]) ⟨hB.os, hB.tape, hB.output, by rw [hs]; exact hB.size, fun k hk2 => (hk k (by omega)).trans (hB.block k hk2)⟩ hk hs
end
theorem run_built {P : Program} {o : Oper} {w : World} {ρ : Operand → Value} (t : TypeId) (parts : Array (Nat × Operand)) (ho : o.op = .build t parts) (l : List (Nat × Value)) (hp : (parts.map fun (i, x) => (i, ρ x)).toList = l) (cells : Array Value) (h : P.built t l = some cells) : (execOp ρ o).run P w = .ok (.value (.agg cells)) w := by
  subst hp
  unfold execOp
  simp only [ho, Sem.run_bind, run_build w t _ cells h, Result.andThen_ok]
  rfl
theorem uncons_ {n : Nat} (h : List Value) (hl : h.length = n + 1) : ∃ a t, h = a :: t ∧ t.length = n := by
  cases h with
  | nil => simp at hl
  | cons a t => exact ⟨a, t, rfl, by simpa using hl⟩
theorem list32 (t0 : List Value) (l0 : t0.length = 32) : ∃ a0 a1 a2 a3 a4 a5 a6 a7 a8 a9 a10 a11 a12 a13 a14 a15 a16 a17 a18 a19 a20 a21 a22 a23 a24 a25 a26 a27 a28 a29 a30 a31 : Value, t0 = [a0, a1, a2, a3, a4, a5, a6, a7, a8, a9, a10, a11, a12, a13, a14, a15, a16, a17, a18, a19, a20, a21, a22, a23, a24, a25, a26, a27, a28, a29, a30, a31] := by
  obtain ⟨a0, t1, e0, l1⟩ := uncons_ (n := 31) t0 l0
  obtain ⟨a1, t2, e1, l2⟩ := uncons_ (n := 30) t1 l1
  obtain ⟨a2, t3, e2, l3⟩ := uncons_ (n := 29) t2 l2
  obtain ⟨a3, t4, e3, l4⟩ := uncons_ (n := 28) t3 l3
  obtain ⟨a4, t5, e4, l5⟩ := uncons_ (n := 27) t4 l4
  obtain ⟨a5, t6, e5, l6⟩ := uncons_ (n := 26) t5 l5
  obtain ⟨a6, t7, e6, l7⟩ := uncons_ (n := 25) t6 l6
  obtain ⟨a7, t8, e7, l8⟩ := uncons_ (n := 24) t7 l7
  obtain ⟨a8, t9, e8, l9⟩ := uncons_ (n := 23) t8 l8
  obtain ⟨a9, t10, e9, l10⟩ := uncons_ (n := 22) t9 l9
  obtain ⟨a10, t11, e10, l11⟩ := uncons_ (n := 21) t10 l10
  obtain ⟨a11, t12, e11, l12⟩ := uncons_ (n := 20) t11 l11
  obtain ⟨a12, t13, e12, l13⟩ := uncons_ (n := 19) t12 l12
  obtain ⟨a13, t14, e13, l14⟩ := uncons_ (n := 18) t13 l13
  obtain ⟨a14, t15, e14, l15⟩ := uncons_ (n := 17) t14 l14
  obtain ⟨a15, t16, e15, l16⟩ := uncons_ (n := 16) t15 l15
  obtain ⟨a16, t17, e16, l17⟩ := uncons_ (n := 15) t16 l16
  obtain ⟨a17, t18, e17, l18⟩ := uncons_ (n := 14) t17 l17
  obtain ⟨a18, t19, e18, l19⟩ := uncons_ (n := 13) t18 l18
  obtain ⟨a19, t20, e19, l20⟩ := uncons_ (n := 12) t19 l19
  obtain ⟨a20, t21, e20, l21⟩ := uncons_ (n := 11) t20 l20
  obtain ⟨a21, t22, e21, l22⟩ := uncons_ (n := 10) t21 l21
  obtain ⟨a22, t23, e22, l23⟩ := uncons_ (n := 9) t22 l22
  obtain ⟨a23, t24, e23, l24⟩ := uncons_ (n := 8) t23 l23
  obtain ⟨a24, t25, e24, l25⟩ := uncons_ (n := 7) t24 l24
  obtain ⟨a25, t26, e25, l26⟩ := uncons_ (n := 6) t25 l25
  obtain ⟨a26, t27, e26, l27⟩ := uncons_ (n := 5) t26 l26
  obtain ⟨a27, t28, e27, l28⟩ := uncons_ (n := 4) t27 l27
  obtain ⟨a28, t29, e28, l29⟩ := uncons_ (n := 3) t28 l28
  obtain ⟨a29, t30, e29, l30⟩ := uncons_ (n := 2) t29 l29
  obtain ⟨a30, t31, e30, l31⟩ := uncons_ (n := 1) t30 l30
  obtain ⟨a31, t32, e31, l32⟩ := uncons_ (n := 0) t31 l31
  have e := List.length_eq_zero_iff.1 l32
  exact ⟨_, _, _, _, _, _, _, _, _, _, _, _, _, _, _, _, _, _, _, _, _, _, _, _, _, _, _, _, _, _, _, _, by rw [e0, e1, e2, e3, e4, e5, e6, e7, e8, e9, e10, e11, e12, e13, e14, e15, e16, e17, e18, e19, e20, e21, e22, e23, e24, e25, e26, e27, e28, e29, e30, e31, e]⟩
theorem run_boxed {P : Program} {o : Oper} {w : World} {ρ : Operand → Value} (t : TypeId) (x : Operand) (ho : o.op = .box t x) (cs : Array Value) (hx : ρ x = .agg cs) : (execOp ρ o).run P w = .ok (.value (.pointer (some ⟨w.heap.size, 0, none⟩))) (w.alloc (.cells cs t)) := by
  unfold execOp
  simp [ho, hx, Instr.box, newVar, Value.cells, newRow]
end Go.Proofs.YtigpdgfhngknhaaDoorW.PrintWords
namespace Go.Proofs.YtigpdgfhngknhaaDoorW.PrintLast
open Go.RowKit Go.Proofs.YtigpdgfhngknhaaDoorW.PrintWords
/-- An operation of a drawn region that yields a value and turns the world. -/
theorem yval_ {P : Program} {ops : Array Oper} {Q : Exit → Act → World → Prop} {oi : Oper} {N : Option Tmp} {a : Act} {w w1 : World} {K : Act → World → Prop} (v : Value) (hw : Region.wanted oi (yielded ops a.tmps) = true) (hN : oi.dst = N) (hrun : (execOp a.eval oi).run P w = .ok (.value v) w1)
    (h : K (a.put N v) w1) : if Region.wanted oi (yielded ops a.tmps) = true then Oper.wp P oi a w K Q else K (a.put N undef) w := by
  rw [if_pos hw]
  unfold Oper.wp
  rw [hrun]
  subst hN
  exact h
end Go.Proofs.YtigpdgfhngknhaaDoorW.PrintLast
