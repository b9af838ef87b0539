/-
  The walk of FnVarintLongBytes. No statement is proved here.
-/
import Derived.Test.YtlangbbhlfifhaaCClone
import Derived.Test.YtlangbbhlfifhaaMathD
import Derived.Test.YtlangbbhlfifhaaCOr
import Derived.Test.YtlangbbhlfifhaaCRdV
namespace Go.Proofs.Ytlangbbhlfifhaa
open Go.RowKit
set_option linter.unusedVariables false

set_option maxHeartbeats 1000000 in
set_option maxRecDepth 100000 in
theorem fnVarintLongBytes_walk (w : World) (A0 : Option Addr) (n0 c0 : Nat) (l0 : List UInt8) (h0 : Byt w A0 n0 c0 l0) (s0 : c0 * 1 ≤ 140737488351232) (x1 : Nat) (g1 : x1 < 256) (A2 : Option Addr) (n2 c2 : Nat) (l2 : List UInt8) (h2 : Byt w A2 n2 c2 l2) (s2 : c2 * 1 ≤ 140737488351232) :
    Calls Try.prog 12 #[.slice A0 n0 c0, .int .u8 x1, .slice A2 n2 c2] w fun e w' => e = .returned (.bool true) ∧ Below w.heap.size w w' := by
  have hcap0 := h0.cap
  have hbig0 := h0.big
  have hcap2 := h2.cap
  by_cases hk : n0 < 10
  · go_enter Try.func12, Try.ntmps12
    go_wp2
    go_ret
    exact ⟨rfl, Below.refl _ _⟩
  · obtain ⟨g, o, rfl, hg, hc⟩ := h0.cells (by omega)
    have HL := Lib.hid h0.len
    have HC := Lib.hid hc
    clear hc h0
    go_enter Try.func12, Try.ntmps12
    go_wp2
    go_loopw [7, 8] (fun v i wr => ∃ (k : Nat) (A' : Option Addr) (c' : Nat), k ≤ 10 ∧ i = .int .i64 k ∧ v = .slice A' k c' ∧ wr.ownsRow w.heap.size 5 1 (.slice A' k c') k (Lib.byteCells ((l0.take k).map or128)) ∧ Below w.heap.size w wr) (fun _ i _ => 10 - (intOf i).toNat)
    case atStart => exact ⟨0, some ⟨w.heap.size, 0, none⟩, 0, by omega, rfl, rfl, own_empty w _, (Below.refl _ _).alloc (Nat.le_refl _) _⟩
    case round =>
      obtain ⟨k, A', c', hk10, rfl, rfl, hown, hbel⟩ := hrel
      by_cases hlt : k < 10
      · have hkl : k < l0.length := by rw [HL.out]; omega
        have hcell := (hbel.cell (p := ⟨g, o + k, none⟩) hg).trans (HC.out k hkl)
        have hor := or128_bits (l0[k])
        have HS := Lib.hid (or128_step l0 k hkl)
        generalize hq : (l0[k]).toNat % 128 + 128 = q at hor HS
        have hq2 : q < 256 := by omega
        clear hq
        have hsz := hbel.size
        go_wp2_with (at_builtin; refine wpList_append_byt _ rfl _ _ _ rfl w.heap.size 5 brow _ _ _ rfl (hown.alloc _) _ 1 1 [q.toUInt8] rfl (Byt.one wr _ _ hq2) (by omega) (by simp; omega) ?_; intro A2 c2 w2 hown2 hb2 hg2)
        go_roundw
        case rel => exact ⟨k + 1, A2, c2, by omega, by go_num, rfl, by rw [HS.out]; exact hown2, (hbel.alloc hbel.size _).trans hb2⟩
        case measure => simp [intOf]; omega
      · obtain rfl : k = 10 := by omega
        have hz := or128_all l0 10
        have hzl : ((l0.take 10).map or128).length = 10 := by simp [HL.out]; omega
        have HZ := Lib.hid hz
        have HZL := Lib.hid hzl
        clear hz hzl
        generalize (l0.take 10).map or128 = z at *
        have bz := Byt.of_own hown
        have HD1 := Lib.hid (show Lib.varintDec z = (0, 0) by unfold Lib.varintDec; rw [dec_ten HZL.out HZ.out]; rfl)
        have HD2 := Lib.hid (show Lib.varintDec (z ++ [x1.toUInt8] ++ l2) = (0, -11) by unfold Lib.varintDec; rw [List.append_assoc, List.singleton_append, dec_eleven HZL.out HZ.out]; rfl)
        go_wp2_with fail
        refine (rd_V bz HD1.out).mono ?_
        rintro e w5 ⟨rfl, rfl⟩
        clear HD1 bz
        have b2 := h2.below hbel
        have hsz := hbel.size
        go_wp2_with (first
          | (at_builtin; have _t := ho3; refine wpList_append_byt w3 rfl _ _ _ rfl w.heap.size 5 brow _ (10 + 1) (z ++ [x1.toUInt8]) rfl ho3 _ _ _ _ rfl ((h2.below hbel3)) (by omega) hbel3.size ?_; intro A4 c4 w4 ho4 hb4 hg4; clear ho3)
          | (at_builtin; refine wpList_append_byt _ rfl _ _ _ rfl w.heap.size 5 brow _ 10 z rfl (hown.alloc _) _ 1 1 [x1.toUInt8] rfl (Byt.one wr _ _ g1) (by omega) (by simp; omega) ?_; intro A3 c3 w3 ho3 hb3 hg3; have hbel3 := (hbel.alloc hbel.size _).trans hb3))
        have b4 := Byt.of_own ho4
        have hB := hbel3.trans hb4
        clear ho4 hb4 hg4 hown h2 b2 hb3 hg3
        refine (rd_V b4 HD2.out).mono ?_
        rintro e w5 ⟨rfl, rfl⟩
        clear HD2 b4
        go_wp2
        go_ret
        exact ⟨rfl, hB⟩
end Go.Proofs.Ytlangbbhlfifhaa
