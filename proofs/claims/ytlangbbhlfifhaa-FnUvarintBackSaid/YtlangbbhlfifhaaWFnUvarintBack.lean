/-
  The walk of FnUvarintBack. No statement is proved here.
-/
import Derived.Test.YtlangbbhlfifhaaCApU
import Derived.Test.YtlangbbhlfifhaaCRdU
import Derived.Test.YtlangbbhlfifhaaMathV
namespace Go.Proofs.Ytlangbbhlfifhaa
open Go.RowKit
set_option linter.unusedVariables false

set_option maxHeartbeats 400000 in
set_option maxRecDepth 100000 in
theorem fnUvarintBack_walk (w : World) (x0 : Nat) (h0 : x0 < 18446744073709551616) (A1 : Option Addr) (n1 c1 : Nat) (l1 : List UInt8) (h1 : Byt w A1 n1 c1 l1) (s1 : c1 * 1 ≤ 140737488351232) :
    Calls Try.prog 14 #[.int .u64 x0, .slice A1 n1 c1] w fun e w' => e = .returned (.bool true) ∧ Below w.heap.size w w' := by
  have hcap := h1.cap
  have h10 := Lib.uvarint_length64 h0
  have HD := Lib.hid (dec_enc x0 h0 l1)
  go_enter Try.func14, Try.ntmps14
  go_wp2_with fail
  refine (ap_U_e w x0 h0).mono ?_
  rintro e w2 ⟨A2, c2, rfl, ho2, hb2⟩
  have b1 := h1.below hb2
  have b2 := Byt.of_own ho2
  clear ho2 h1
  generalize Lib.uvarint x0 = z at *
  go_wp2_with (first
    | (at_builtin; have _t := ho3; refine wpList_append_byt w3 rfl _ _ _ rfl w2.heap.size 5 brow _ _ _ rfl ho3 _ _ _ _ rfl (b1.below hb3) (by omega) hb3.size ?_; intro A4 c4 w4 ho4 hb4 hg4; clear ho3)
    | (at_builtin; refine wpList_clone_byt w2 rfl _ _ _ rfl 5 brow rfl _ _ _ _ rfl b2 (by omega) ?_; intro A3 c3 w3 ho3 hb3))
  have hb34 := hb3.trans hb4
  have b4 := Byt.of_own ho4
  have hB := hb2.trans (hb34.mono hb2.size)
  clear ho4 b1 b2 hb2 hb3 hb4 hb34 hg4
  refine (rd_U b4 HD.out).mono ?_
  rintro e w5 ⟨rfl, rfl⟩
  clear HD
  go_wp2
  go_ret
  exact ⟨rfl, hB⟩
end Go.Proofs.Ytlangbbhlfifhaa
