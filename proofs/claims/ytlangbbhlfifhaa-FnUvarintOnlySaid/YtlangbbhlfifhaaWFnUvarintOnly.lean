/-
  The walk of FnUvarintOnly. No statement is proved here.
-/
import Derived.Test.YtlangbbhlfifhaaCReads
import Derived.Test.YtlangbbhlfifhaaCClone
import Derived.Test.YtlangbbhlfifhaaMathD
namespace Go.Proofs.Ytlangbbhlfifhaa
open Go.RowKit
set_option linter.unusedVariables false

set_option maxHeartbeats 400000 in
set_option maxRecDepth 100000 in
theorem fnUvarintOnly_walk (w : World) (A0 : Option Addr) (n0 c0 : Nat) (l0 : List UInt8) (h0 : Byt w A0 n0 c0 l0) (s0 : c0 * 1 ≤ 140737488351232) (A1 : Option Addr) (n1 c1 : Nat) (l1 : List UInt8) (h1 : Byt w A1 n1 c1 l1) (s1 : c1 * 1 ≤ 140737488351232) :
    Calls Try.prog 7 #[.slice A0 n0 c0, .slice A1 n1 c1] w fun e w' => e = .returned (.bool true) ∧ Below w.heap.size w w' := by
  obtain ⟨a, b, hd⟩ : ∃ a b, Lib.uvarintDec l0 = (a, b) := ⟨_, _, rfl⟩
  have hps := dec_pos (l := l0)
  have hcap0 := h0.cap
  have hcap1 := h1.cap
  by_cases hb : 0 < b
  · rw [hd] at hps
    obtain ⟨m, hm, h9, hbm, _, _, htk⟩ := hps hb
    simp only at hbm
    subst hbm
    have hmn : m < n0 := by rw [← h0.len]; exact hm
    have HD := Lib.hid hd
    have HD2 := Lib.hid (htk l1)
    clear hps hb htk hd
    have hcut := fun W => run_cut_h (P := Try.prog) W 22 A0 n0 c0 Try.underlying22 (by kernel_rfl) .i64 ((m : Int) + 1) (by omega) (by omega)
    simp only [show ((m : Int) + 1).toNat = m + 1 from by omega] at hcut
    go_enter Try.func7, Try.ntmps7
    go_wp2_with fail
    refine (rd_U h0 HD.out).mono ?_
    rintro e w1 ⟨rfl, rfl⟩
    have bt := h0.take (k := m + 1) (by omega)
    clear HD h0
    go_wp2_with (first
      | (at_builtin; have _t := ho3; refine wpList_append_byt w3 rfl _ _ _ rfl w.heap.size 5 brow _ (m + 1) (l0.take (m + 1)) rfl ho3 _ _ _ _ rfl (h1.below hb3) (by omega) hb3.size ?_; intro A4 c4 w4 ho4 hb4 hg4; clear ho3)
      | (at_builtin; refine wpList_clone_byt w rfl _ _ _ rfl 5 brow rfl _ _ _ _ rfl bt (by omega) ?_; intro A3 c3 w3 ho3 hb3))
    have hB := hb3.trans hb4
    have b4 := Byt.of_own ho4
    clear ho4 hb3 hb4 hg4 bt h1
    refine (rd_U b4 HD2.out).mono ?_
    rintro e w5 ⟨rfl, rfl⟩
    clear HD2 b4
    go_wp2_with fail
    refine (reads_any _).mono ?_
    rintro e wR ⟨rfl, hbR⟩
    go_wp2
    go_ret
    exact ⟨rfl, hB.trans (hbR.mono hB.size)⟩
  · clear hps
    have HD := Lib.hid hd
    clear hd
    go_enter Try.func7, Try.ntmps7
    go_wp2_with fail
    refine (rd_U h0 HD.out).mono ?_
    rintro e w1 ⟨rfl, rfl⟩
    go_wp2_with fail
    refine (reads_any _).mono ?_
    rintro e wR ⟨rfl, hbR⟩
    go_wp2
    go_ret
    exact ⟨rfl, hbR⟩
end Go.Proofs.Ytlangbbhlfifhaa
