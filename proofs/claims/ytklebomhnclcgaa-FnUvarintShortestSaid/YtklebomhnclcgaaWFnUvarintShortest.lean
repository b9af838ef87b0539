/-
  The walk of FnUvarintShortest. No statement is proved here.
-/
import Derived.Test.YtklebomhnclcgaaCReads
import Derived.Test.YtklebomhnclcgaaCApU
import Derived.Test.YtklebomhnclcgaaCSame
import Derived.Test.YtklebomhnclcgaaMathW
namespace Go.Proofs.Ytklebomhnclcgaa
open Go.RowKit
set_option linter.unusedVariables false

set_option maxHeartbeats 1000000 in
set_option maxRecDepth 100000 in
theorem fnUvarintShortest_walk (w : World) (A0 : Option Addr) (n0 c0 : Nat) (l0 : List UInt8) (h0 : Byt w A0 n0 c0 l0) (s0 : c0 * 1 ≤ 140737488351232) :
    Calls Try.prog 6 #[.slice A0 n0 c0] w fun e w' => e = .returned (.bool true) ∧ Below w.heap.size w w' := by
  obtain ⟨a, b, hd⟩ : ∃ a b, Lib.uvarintDec l0 = (a, b) := ⟨_, _, rfl⟩
  have hps := dec_pos (l := l0)
  have ha := Lib.uvarintDec_lt l0
  have hcap := h0.cap
  have hbig := h0.big
  by_cases hb : 0 < b
  · rw [hd] at hps ha
    obtain ⟨m, hm, h9, hbm, h128, hall, htk⟩ := hps hb
    simp only at hbm ha
    subst hbm
    have hmn : m < n0 := by rw [← h0.len]; exact hm
    have htk0 := htk []
    rw [List.append_nil] at htk0
    obtain ⟨hsl, hse⟩ := dec_shortest hm h128 hall htk0 hb
    have HD := Lib.hid hd
    clear hps hb htk htk0 hall hd
    have bt := h0.take (k := m + 1) (by omega)
    obtain ⟨g, o, rfl, hg, hc⟩ := h0.cells (by omega)
    have hcell := hc m hm
    have hcut := fun W => run_cut_h (P := Try.prog) W 23 (some ⟨g, o, none⟩) n0 c0 Try.underlying23 (by kernel_rfl) .i64 ((m : Int) + 1) (by omega) (by omega)
    simp only [show ((m : Int) + 1).toNat = m + 1 from by omega] at hcut
    generalize hbt : (l0[m]).toNat = bb at *
    have HSE := Lib.hid hse
    have HA := Lib.hid ha
    clear hc hse hbt ha
    by_cases hz : 1 ≤ m ∧ bb = 0
    · obtain ⟨hz1, hz2⟩ := hz
      subst hz2
      clear HSE
      go_enter Try.func6, Try.ntmps6
      go_wp2_with fail
      refine (rd_U h0 HD.out).mono ?_
      rintro e w1 ⟨rfl, rfl⟩
      clear h0 HD
      go_wp2_with fail
      refine (ap_U_e w a HA.out).mono ?_
      rintro e w2 ⟨A2, c2, rfl, ho2, hb2⟩
      have hcell2 := (hb2.cell (p := ⟨g, o + m, none⟩) hg).trans hcell
      have hg2 : g < w2.heap.size := Nat.lt_of_lt_of_le hg hb2.size
      clear ho2 hcell
      go_wp2_with fail
      refine (reads_any _).mono ?_
      rintro e wR ⟨rfl, hbR⟩
      have hcellR := (hbR.cell (p := ⟨g, o + m, none⟩) hg2).trans hcell2
      clear hcell2 bt
      generalize (Lib.uvarint a).length = k at *
      go_wp2
      go_ret
      exact ⟨rfl, hb2.trans (hbR.mono hb2.size)⟩
    · have HEQ := Lib.hid (HSE.out (by omega))
      go_enter Try.func6, Try.ntmps6
      go_wp2_with fail
      refine (rd_U h0 HD.out).mono ?_
      rintro e w1 ⟨rfl, rfl⟩
      clear h0 HD
      go_wp2_with fail
      refine (ap_U_e w a HA.out).mono ?_
      rintro e w2 ⟨A2, c2, rfl, ho2, hb2⟩
      have hcell2 := (hb2.cell (p := ⟨g, o + m, none⟩) hg).trans hcell
      have hg2 : g < w2.heap.size := Nat.lt_of_lt_of_le hg hb2.size
      have b2 := Byt.of_own ho2
      have bt := bt.below hb2
      clear ho2 hcell
      go_wp2_with fail
      refine (reads_any _).mono ?_
      rintro e wR ⟨rfl, hbR⟩
      have hcellR := (hbR.cell (p := ⟨g, o + m, none⟩) hg2).trans hcell2
      have b2 := b2.below hbR
      have bt := bt.below hbR
      clear hcell2
      by_cases hm0 : 1 ≤ m
      · have hbb : ¬ bb = 0 := fun h => hz ⟨hm0, h⟩
        have hbb1 : ((bb : Int) == 0) = false := by simp; omega
        clear hz
        go_wp2_with fail
        refine (same_yes b2 bt HEQ.out).mono ?_
        rintro e w5 ⟨rfl, rfl⟩
        clear b2 bt
        go_wp2
        go_ret
        exact ⟨rfl, hb2.trans (hbR.mono hb2.size)⟩
      · obtain rfl : m = 0 := by omega
        clear hz
        go_wp2_with fail
        refine (same_yes b2 bt HEQ.out).mono ?_
        rintro e w5 ⟨rfl, rfl⟩
        clear b2 bt
        go_wp2
        go_ret
        exact ⟨rfl, hb2.trans (hbR.mono hb2.size)⟩
  · have HD := Lib.hid hd
    clear hd hps ha
    go_enter Try.func6, Try.ntmps6
    go_wp2_with fail
    refine (rd_U h0 HD.out).mono ?_
    rintro e w1 ⟨rfl, rfl⟩
    go_wp2_with fail
    refine (reads_any _).mono ?_
    rintro e wR ⟨rfl, hbR⟩
    go_wp2
    go_ret
    exact ⟨rfl, hbR⟩
end Go.Proofs.Ytklebomhnclcgaa
