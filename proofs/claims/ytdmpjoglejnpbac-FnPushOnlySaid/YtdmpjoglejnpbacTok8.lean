/- The law FnPushOnly: its walk. -/
import Derived.Test.YtdmpjoglejnpbacTok7
namespace Go.Proofs.Ytdmpjoglejnpbac.Tok
open Go.RowKit Go.Proofs.YtdmpjoglejnpbacW.PrintWords Go.Proofs.YtdmpjoglejnpbacW.PrintLast Go.Proofs.YtdmpjoglejnpbacW.PrintMore Go.Proofs.Ytdmpjoglejnpbac.QFnPushOnly
set_option linter.unusedVariables false
set_option linter.unusedSimpArgs false
theorem reads_V {w : World} {e base : Nat} {A : Option Addr} {c : Nat} {xs : List Int} (h : ReadsInt w .u8 A xs.length xs) (hc : xs.length ≤ c) : Kd.V (Kd.int .u8) e w base (fun k => k < w.heap.size) (.slice A xs.length c) xs := by
  refine Kd.V_mk hc (fun W' hW => ?_)
  refine Kd.C_of_reads (enc := Value.int .u8) (d := 0) ⟨rfl, h.2.1, fun hn => ?_⟩
  obtain ⟨ad, e1, hcell⟩ := h.2.2 hn
  refine ⟨ad, e1, fun j hj => ?_⟩
  have h1 := hcell j hj
  have hlt := World.block_lt_of_cell? w _ h1
  exact (World.cell?_of_block (w := w) (hW _ hlt hlt)).trans h1
set_option maxRecDepth 100000 in
set_option maxHeartbeats 4000000 in
theorem walkPushOnly (A : Option Addr) (c : Nat) (s : List Int) (w : World) (hR : ReadsInt w .u8 A s.length s) (hc : s.length ≤ c) (hB : ByteL s) :
    Calls Try.prog 3 #[.slice A s.length c] w fun e w' => e = .returned (.bool true) ∧ Below w.heap.size w w' := by
  by_cases hn : s.length ≤ 100000
  · obtain ⟨r, hr⟩ := push_total s s.length 0 (by omega)
    obtain ⟨k, hk⟩ := (ev_PushOnly s (by omega) hB r hr).rounds
    have hV : Kd.V (Kd.int .u8) 5 w 0 (fun k => k < w.heap.size) (.slice A s.length c) s := reads_V hR hc
    have H1 := Aside0.mk (implPushC A s c _ 0 w r (fun k hk => hk) hV (by omega) hB hr)
    have HC := Aside0.mk (Kd.C_of_reads (enc := Value.int .u8) (d := (0 : Int)) (h1 := fun _ => rfl) hR)
    have HL := Aside0.mk hc
    have HK := Aside0.mk hk
    have b1 : decide ((2147483647 : Int) < s.length) = false := decide_eq_false (by omega)
    have b2 : decide ((100000 : Int) < s.length) = false := decide_eq_false (by omega)
    have b3 : decide (2147483647 < s.length) = false := decide_eq_false (by omega)
    have b4 : decide (100000 < s.length) = false := decide_eq_false (by omega)
    clear hR hc hB hr hk hV
    go_enter Try.func3, Try.ntmps3
    go_wp2_with (first
      | (go_at_call 5; refine H1.out.mono ?_; rintro e w1 ⟨rfl, hb⟩; have HB1 := Aside0.mk hb; clear hb)
      | (go_at_call 6; refine (spec_PushOnly.calls k A c s r _ (Kd.C_below HC.out HB1.out) HL.out HK.out).mono ?_; rintro e w2 ⟨rfl, hb⟩; have HB2 := Aside0.mk (HB1.out.trans (hb.mono HB1.out.size)); clear hb))
    go_ret
    exact ⟨by simp, HB2.out⟩
  · clear hR hc hB
    go_enter Try.func3, Try.ntmps3
    by_cases hm : s.length ≤ 2147483647
    · have b1 : decide ((2147483647 : Int) < s.length) = false := decide_eq_false (by omega)
      have b2 : decide ((100000 : Int) < s.length) = true := decide_eq_true (by omega)
      have b3 : decide (2147483647 < s.length) = false := decide_eq_false (by omega)
      have b4 : decide (100000 < s.length) = true := decide_eq_true (by omega)
      go_wp2
      go_ret
      exact ⟨rfl, Below.refl _ _⟩
    · have b1 : decide ((2147483647 : Int) < s.length) = true := decide_eq_true (by omega)
      have b3 : decide (2147483647 < s.length) = true := decide_eq_true (by omega)
      go_wp2
      go_ret
      exact ⟨rfl, Below.refl _ _⟩
end Go.Proofs.Ytdmpjoglejnpbac.Tok
