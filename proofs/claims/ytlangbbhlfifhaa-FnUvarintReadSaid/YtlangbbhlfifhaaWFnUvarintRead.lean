/-
  The walk of FnUvarintRead. No statement is proved here.
-/
import Derived.Test.YtlangbbhlfifhaaCReads
import Derived.Test.YtlangbbhlfifhaaMathD
namespace Go.Proofs.Ytlangbbhlfifhaa
open Go.RowKit
set_option linter.unusedVariables false

set_option maxRecDepth 100000 in
theorem fnUvarintRead_walk (w : World) (A0 : Option Addr) (n0 c0 : Nat) (l0 : List UInt8) (h0 : Byt w A0 n0 c0 l0) (s0 : c0 * 1 ≤ 140737488351232) :
    Calls Try.prog 9 #[.slice A0 n0 c0] w fun e w' => e = .returned (.bool true) ∧ Below w.heap.size w w' := by
  obtain ⟨a, b, hd⟩ : ∃ a b, Lib.uvarintDec l0 = (a, b) := ⟨_, _, rfl⟩
  have hps := dec_pos (l := l0)
  rw [hd] at hps
  have HD := Lib.hid hd
  clear hd
  by_cases hb : 0 < b
  · obtain ⟨m, hm, h9, hbm, h128, _, _⟩ := hps hb
    simp only at hbm
    subst hbm
    have hmn : m < n0 := by rw [← h0.len]; exact hm
    have hbig := h0.big
    have hcap := h0.cap
    clear hps hb
    obtain ⟨g, o, rfl, hg, hc⟩ := h0.cells (by omega)
    have hcell := hc m hm
    generalize (l0[m]).toNat = bt at *
    clear hc
    go_enter Try.func9, Try.ntmps9
    go_wp2_with fail
    refine (rd_U h0 HD.out).mono ?_
    rintro e w1 ⟨rfl, rfl⟩
    clear h0 HD
    go_wp2_with fail
    refine (reads_any _).mono ?_
    rintro e wR ⟨rfl, hbR⟩
    have hcellR : wR.cell? ⟨g, o + m, none⟩ = some (.int .u8 (bt : Int)) := (hbR.cell (p := ⟨g, o + m, none⟩) hg).trans hcell
    clear hcell
    go_wp2
    go_ret
    exact ⟨ret_bool (by simp; try omega), hbR⟩
  · clear hps
    go_enter Try.func9, Try.ntmps9
    go_wp2_with fail
    refine (rd_U h0 HD.out).mono ?_
    rintro e w1 ⟨rfl, rfl⟩
    go_wp2_with fail
    refine (reads_any _).mono ?_
    rintro e wR ⟨rfl, hbR⟩
    go_wp2
    go_ret
    exact ⟨rfl, hbR⟩
end Go.Proofs.Ytlangbbhlfifhaa
