/- A bloom filter of the text's own: made, asked, added to, told. -/
import Derived.Test.YtbbeedclkfcmeaaBm2
namespace Go.Proofs.Ytbbeedclkfcmeaa.Snk
open Go.RowKit Go.Proofs.YtbbeedclkfcmeaaW.PrintWords Go.Proofs.YtbbeedclkfcmeaaW.PrintLast Go.Proofs.YtbbeedclkfcmeaaW.PrintMore Go.Proofs.Ytbbeedclkfcmeaa.KFnBloom
set_option linter.unusedVariables false
set_option linter.unusedSimpArgs false
theorem FilAt.lock {w : World} {f m g c : Nat} {st : Int} {L : List Int} {n tw : Int} (h : FilAt w f m g c st L n tw) (u : Int) : FilAt (w.setCell ⟨f, 0, none⟩ (.int .i32 u)) f m g c u L n tw :=
  ⟨heap_set_same h.hf _, (Below.heap_setCell w ⟨f, 0, none⟩ _ m (fun e => h.fm e.symm)).trans h.hm, by
    obtain ⟨cs, N, M, h1, h2⟩ := h.hg
    exact ⟨cs, N, M, (Below.heap_setCell w ⟨f, 0, none⟩ _ g (fun e => h.fg e.symm)).trans h1, h2⟩, h.fm, h.fg, h.mg, h.lc⟩
theorem FilAt.froz {w : World} {f m g c : Nat} {st : Int} {L : List Int} {n tw : Int} (h : FilAt w f m g c st L n tw) : w.frozen? ⟨f, 0, none⟩ = false := by
  simp [World.frozen?, h.hf]
set_option maxRecDepth 100000 in
set_option maxHeartbeats 4000000 in
theorem addLC (f m g c : Nat) (L : List Int) (n : Nat) (tw : Int) (ht0 : 0 ≤ tw) (ht1 : tw < 4294967296) (w0 w : World) (h : FilAt w f m g c 0 L n tw) (hl1 : 1 ≤ L.length) (hl2 : L.length ≤ 2000) (hn50 : n ≤ 50) (hw : Below w0.heap.size w0 w) (hgs : w0.heap.size ≤ g) (hfs : w0.heap.size ≤ f)
    (A : Option Addr) (d : List Int) (cd : Nat) (hC : Kd.C (Kd.int .u8) w0 A d.length d) (hc : d.length ≤ cd) (hn : d.length ≤ 100000) (hB : Tok.ByteL d) :
    Calls Try.prog 12 #[.pointer (some ⟨f, 0, none⟩), .slice A d.length cd] w fun e w' => e = .returned (.tuple #[]) ∧ FilAt w' f m g c 0 (addF tw d L n) n tw ∧ Below w0.heap.size w0 w' := by
  have HF := Aside0.mk h
  have HW := Aside0.mk hw
  have HFS := Aside0.mk hfs
  have HAD : Aside0 (∀ wr, FilAt wr f m g c 1 L n tw → Below w0.heap.size w0 wr → Calls Try.prog 20 #[.pointer (some ⟨f, 0, none⟩), .slice A d.length cd] wr fun e w' => e = .returned (.tuple #[]) ∧ FilAt w' f m g c 1 (addF tw d L n) n tw ∧ Below w0.heap.size w0 w') := ⟨fun wr hf hb => addC f m g c 1 L n tw ht0 ht1 w0 wr hf hl1 hl2 hn50 hb hgs A d cd hC hc hn hB⟩
  obtain ⟨nd, hnd⟩ : ∃ n, d.length = n := ⟨_, rfl⟩
  rw [hnd] at HAD ⊢
  have c0 := cell_of h.hf (j := 0) rfl
  have z0 := h.froz
  clear h hw hl1 hl2 hC hc hn hB hnd hgs hfs ht0 ht1
  go_enter Try.func12, Try.ntmps12
  go_wp2_with fail
  go_at_call 19
  refine (Go.MuLone.lock_free Try.muLib ⟨f, 0, none⟩ w c0 z0).mono ?_
  rintro e w1 ⟨rfl, rfl⟩
  have HF1 := Aside0.mk (HF.out.lock 1)
  have HW1 : Aside0 (Below w0.heap.size w0 (w.setCell ⟨f, 0, none⟩ (.int .i32 1))) := ⟨HW.out.setCell (p := ⟨f, 0, none⟩) HFS.out _⟩
  clear c0 z0
  obtain ⟨w1, hw1⟩ : ∃ x, w.setCell ⟨f, 0, none⟩ (.int .i32 1) = x := ⟨_, rfl⟩
  rw [hw1] at HF1 HW1 ⊢
  clear hw1
  go_wp2_with fail
  go_at_call 20
  refine (HAD.out w1 HF1.out HW1.out).mono ?_
  rintro e w2 ⟨rfl, h2, b2⟩
  have HF2 := Aside0.mk h2
  have HW2 := Aside0.mk b2
  clear h2 b2
  go_wp2_with fail
  go_at_call 21
  refine (Go.MuLone.unlock_held Try.muLib ⟨f, 0, none⟩ w2 (cell_of HF2.out.hf (j := 0) rfl) HF2.out.froz).mono ?_
  rintro e w3 ⟨rfl, rfl⟩
  have HF3 := Aside0.mk (HF2.out.lock 0)
  have HW3 : Aside0 (Below w0.heap.size w0 (w2.setCell ⟨f, 0, none⟩ (.int .i32 0))) := ⟨HW2.out.setCell (p := ⟨f, 0, none⟩) HFS.out _⟩
  go_wp2_with fail
  go_end0
  exact ⟨rfl, HF3.out, HW3.out⟩
set_option maxRecDepth 100000 in
set_option maxHeartbeats 4000000 in
theorem matchLC (f m g c : Nat) (L : List Int) (n : Nat) (tw : Int) (ht0 : 0 ≤ tw) (ht1 : tw < 4294967296) (w0 w : World) (h : FilAt w f m g c 0 L n tw) (hl1 : 1 ≤ L.length) (hl2 : L.length ≤ 2000) (hn1 : 1 ≤ n) (hn50 : n ≤ 50) (hw : Below w0.heap.size w0 w) (hfs : w0.heap.size ≤ f)
    (A : Option Addr) (d : List Int) (cd : Nat) (hC : Kd.C (Kd.int .u8) w0 A d.length d) (hc : d.length ≤ cd) (hn : d.length ≤ 100000) (hB : Tok.ByteL d) :
    Calls Try.prog 16 #[.pointer (some ⟨f, 0, none⟩), .slice A d.length cd] w fun e w' => e = .returned (.bool (hasF tw d L n)) ∧ Below w0.heap.size w0 w' := by
  have HF := Aside0.mk h
  have HW := Aside0.mk hw
  have HFS := Aside0.mk hfs
  have HAD : Aside0 (∀ wr, FilAt wr f m g c 1 L n tw → Below w0.heap.size w0 wr → Calls Try.prog 24 #[.pointer (some ⟨f, 0, none⟩), .slice A d.length cd] wr fun e w' => e = .returned (.bool (hasF tw d L n)) ∧ Below wr.heap.size wr w') := ⟨fun wr hf hb => matchC f m g c 1 L n tw ht0 ht1 wr hf hl1 hl2 hn1 hn50 A d cd (Kd.C_below hC hb) hc hn hB⟩
  obtain ⟨nd, hnd⟩ : ∃ n, d.length = n := ⟨_, rfl⟩
  rw [hnd] at HAD ⊢
  have c0 := cell_of h.hf (j := 0) rfl
  have z0 := h.froz
  clear h hw hl1 hl2 hC hc hn hB hnd hfs ht0 ht1
  go_enter Try.func16, Try.ntmps16
  go_wp2_with fail
  go_at_call 19
  refine (Go.MuLone.lock_free Try.muLib ⟨f, 0, none⟩ w c0 z0).mono ?_
  rintro e w1 ⟨rfl, rfl⟩
  have HF1 := Aside0.mk (HF.out.lock 1)
  have HW1 : Aside0 (Below w0.heap.size w0 (w.setCell ⟨f, 0, none⟩ (.int .i32 1))) := ⟨HW.out.setCell (p := ⟨f, 0, none⟩) HFS.out _⟩
  clear c0 z0
  obtain ⟨w1, hw1⟩ : ∃ x, w.setCell ⟨f, 0, none⟩ (.int .i32 1) = x := ⟨_, rfl⟩
  rw [hw1] at HF1 HW1 ⊢
  clear hw1
  go_wp2_with fail
  go_at_call 24
  refine (HAD.out w1 HF1.out HW1.out).mono ?_
  rintro e w2 ⟨rfl, b2⟩
  have HF2 := Aside0.mk (HF1.out.below b2)
  have HW2 : Aside0 (Below w0.heap.size w0 w2) := ⟨HW1.out.trans ⟨b2.os, b2.tape, b2.output, b2.size, fun k hk => b2.block k (Nat.lt_of_lt_of_le hk HW1.out.size)⟩⟩
  clear b2
  go_wp2_with fail
  go_at_call 21
  refine (Go.MuLone.unlock_held Try.muLib ⟨f, 0, none⟩ w2 (cell_of HF2.out.hf (j := 0) rfl) HF2.out.froz).mono ?_
  rintro e w3 ⟨rfl, rfl⟩
  have HW3 : Aside0 (Below w0.heap.size w0 (w2.setCell ⟨f, 0, none⟩ (.int .i32 0))) := ⟨HW2.out.setCell (p := ⟨f, 0, none⟩) HFS.out _⟩
  go_wp2_with fail
  go_ret
  exact ⟨rfl, HW3.out⟩
set_option maxRecDepth 100000 in
set_option maxHeartbeats 4000000 in
theorem msgLC (f m g c : Nat) (L : List Int) (n tw : Int) (w0 w : World) (h : FilAt w f m g c 0 L n tw) (hw : Below w0.heap.size w0 w) (hfs : w0.heap.size ≤ f) :
    Calls Try.prog 22 #[.pointer (some ⟨f, 0, none⟩)] w fun e w' => e = .returned (.pointer (some ⟨m, 0, none⟩)) ∧ FilAt w' f m g c 0 L n tw ∧ Below w0.heap.size w0 w' ∧ Only f w w' := by
  have HF := Aside0.mk h
  have HW := Aside0.mk hw
  have HFS := Aside0.mk hfs
  have c0 := cell_of h.hf (j := 0) rfl
  have z0 := h.froz
  clear h hw hfs
  go_enter Try.func22, Try.ntmps22
  go_wp2_with fail
  go_at_call 19
  refine (Go.MuLone.lock_free Try.muLib ⟨f, 0, none⟩ w c0 z0).mono ?_
  rintro e w1 ⟨rfl, rfl⟩
  have HF1 := Aside0.mk (HF.out.lock 1)
  have HW1 : Aside0 (Below w0.heap.size w0 (w.setCell ⟨f, 0, none⟩ (.int .i32 1))) := ⟨HW.out.setCell (p := ⟨f, 0, none⟩) HFS.out _⟩
  clear c0 z0
  obtain ⟨w1, hw1⟩ : ∃ x, w.setCell ⟨f, 0, none⟩ (.int .i32 1) = x := ⟨_, rfl⟩
  rw [hw1] at HF1 HW1 ⊢
  have HO1 : Aside0 (Only f w w1) := ⟨by rw [← hw1]; exact (Only.refl f w).set _ _⟩
  clear hw1
  have c2 := cell_of HF1.out.hf (j := 2) rfl
  go_wp2_with fail
  go_at_call 21
  refine (Go.MuLone.unlock_held Try.muLib ⟨f, 0, none⟩ w1 (cell_of HF1.out.hf (j := 0) rfl) HF1.out.froz).mono ?_
  rintro e w3 ⟨rfl, rfl⟩
  have HF3 := Aside0.mk (HF1.out.lock 0)
  have HW3 : Aside0 (Below w0.heap.size w0 (w1.setCell ⟨f, 0, none⟩ (.int .i32 0))) := ⟨HW1.out.setCell (p := ⟨f, 0, none⟩) HFS.out _⟩
  clear c2
  go_wp2_with fail
  go_ret
  exact ⟨rfl, HF3.out, HW3.out, HO1.out.set _ _⟩
end Go.Proofs.Ytbbeedclkfcmeaa.Snk
