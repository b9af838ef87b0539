/-
  The walk of FnVarintFree. No statement is proved here.
-/
import Derived.Test.YtchikodhaeoehaaCApU
import Derived.Test.YtchikodhaeoehaaCSame
import Derived.Test.YtchikodhaeoehaaMathV
namespace Go.Proofs.Ytchikodhaeoehaa
open Go.RowKit

set_option maxRecDepth 100000 in
theorem fnVarintFree_walk (w : World) (x0 : Nat) (h0 : x0 < 18446744073709551616) (x1 : Nat) (h1 : x1 < 18446744073709551616) :
    Calls Try.prog 5 #[.int .u64 x0, .int .u64 x1] w fun e w' => e = .returned (.bool true) ∧ Below w.heap.size w w' := by
  have l0 := Lib.uvarint_length64 h0
  have l1 := Lib.uvarint_length64 h1
  by_cases hxy : x0 = x1
  · subst hxy
    go_enter Try.func5, Try.ntmps5
    go_wp2_with fail
    refine (ap_U_e w x0 h0).mono ?_
    rintro e w1 ⟨A1, c1, rfl, ho1, hb1⟩
    clear ho1
    go_wp2_with fail
    refine (ap_U_e w1 x0 h0).mono ?_
    rintro e w2 ⟨A2, c2, rfl, ho2, hb2⟩
    clear ho2 l0 l1
    go_wp2
    go_ret
    exact ⟨rfl, hb1.trans (hb2.mono hb1.size)⟩
  · have hb : ((x0 : Int) == (x1 : Int)) = false := by simp; omega
    have hb' : (x0 == x1) = false := by simpa using hxy
    by_cases hlen : (Lib.uvarint x0).length ≤ (Lib.uvarint x1).length
    · have hne : Lib.uvarint x0 ≠ (Lib.uvarint x1).take (Lib.uvarint x0).length := fun e => hxy (uvarint_free h0 h1 e)
      go_enter Try.func5, Try.ntmps5
      go_wp2_with fail
      refine (ap_U_e w x0 h0).mono ?_
      rintro e w1 ⟨A1, c1, rfl, ho1, hb1⟩
      have b1 := Byt.of_own ho1
      clear ho1
      go_wp2_with fail
      refine (ap_U_e w1 x1 h1).mono ?_
      rintro e w2 ⟨A2, c2, rfl, ho2, hb2⟩
      have b1 := b1.below hb2
      have b2 := Byt.of_own ho2
      have hcap := b2.cap
      have hcut := fun W => run_cut_h (P := Try.prog) W 22 A2 (Lib.uvarint x1).length c2 Try.underlying22 (by kernel_rfl) .i64 ((Lib.uvarint x0).length : Nat) (by omega) (by omega)
      simp only [Int.toNat_natCast] at hcut
      clear ho2
      go_wp2_with fail
      refine (same_no b1 (b2.take hlen) hne).mono ?_
      rintro e w3 ⟨rfl, rfl⟩
      clear b1 b2 hne
      go_wp2
      go_ret
      exact ⟨rfl, hb1.trans (hb2.mono hb1.size)⟩
    · go_enter Try.func5, Try.ntmps5
      go_wp2_with fail
      refine (ap_U_e w x0 h0).mono ?_
      rintro e w1 ⟨A1, c1, rfl, ho1, hb1⟩
      clear ho1
      go_wp2_with fail
      refine (ap_U_e w1 x1 h1).mono ?_
      rintro e w2 ⟨A2, c2, rfl, ho2, hb2⟩
      clear ho2
      go_wp2
      go_ret
      exact ⟨rfl, hb1.trans (hb2.mono hb1.size)⟩
end Go.Proofs.Ytchikodhaeoehaa
