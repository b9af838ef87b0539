/-
  The walk of FnVarintLong. No statement is proved here.
-/
import Derived.Test.YtlangbbhlfifhaaCClone
import Derived.Test.YtlangbbhlfifhaaMathD
import Derived.Test.YtlangbbhlfifhaaCOr
import Derived.Test.YtlangbbhlfifhaaCRdV
namespace Go.Proofs.Ytlangbbhlfifhaa
open Go.RowKit
set_option linter.unusedVariables false

set_option maxHeartbeats 1000000 in
set_option maxRecDepth 100000 in
theorem fnVarintLong_walk (w : World) (A0 : Option Addr) (n0 c0 : Nat) (l0 : List UInt8) (h0 : Byt w A0 n0 c0 l0) (s0 : c0 * 1 ≤ 140737488351232) (A1 : Option Addr) (n1 c1 : Nat) (l1 : List UInt8) (h1 : Byt w A1 n1 c1 l1) (s1 : c1 * 1 ≤ 140737488351232) :
    Calls Try.prog 11 #[.slice A0 n0 c0, .slice A1 n1 c1] w fun e w' => e = .returned (.bool true) ∧ Below w.heap.size w w' := by
  have hcap0 := h0.cap
  have hbig0 := h0.big
  have hcap1 := h1.cap
  by_cases hk : n0 < 10
  · go_enter Try.func11, Try.ntmps11
    go_wp2
    go_ret
    exact ⟨rfl, Below.refl _ _⟩
  · obtain ⟨g, o, rfl, hg, hc⟩ := h0.cells (by omega)
    have HL := Lib.hid h0.len
    have HC := Lib.hid hc
    clear hc h0
    go_enter Try.func11, Try.ntmps11
    go_wp2
    go_loopw [5, 6] (fun v i wr => ∃ (k : Nat) (A' : Option Addr) (c' : Nat), k ≤ 10 ∧ i = .int .i64 k ∧ v = .slice A' k c' ∧ wr.ownsRow w.heap.size 5 1 (.slice A' k c') k (Lib.byteCells ((l0.take k).map or128)) ∧ Below w.heap.size w wr) (fun _ i _ => 10 - (intOf i).toNat)
    case atStart => exact ⟨0, some ⟨w.heap.size, 0, none⟩, 0, by omega, rfl, rfl, own_empty w _, (Below.refl _ _).alloc (Nat.le_refl _) _⟩
    case round =>
      obtain ⟨k, A', c', hk10, rfl, rfl, hown, hbel⟩ := hrel
      by_cases hlt : k < 10
      · have hkl : k < l0.length := by rw [HL.out]; omega
        have hcell := (hbel.cell (p := ⟨g, o + k, none⟩) hg).trans (HC.out k hkl)
        have hor := or128_bits (l0[k])
        have HS := Lib.hid (or128_step l0 k hkl)
        generalize hq : (l0[k]).toNat % 128 + 128 = q at hor HS
        have hq2 : q < 256 := by omega
        clear hq
        have hsz := hbel.size
        go_wp2_with (at_builtin; refine wpList_append_byt _ rfl _ _ _ rfl w.heap.size 5 brow _ _ _ rfl (hown.alloc _) _ 1 1 [q.toUInt8] rfl (Byt.one wr _ _ hq2) (by omega) (by simp; omega) ?_; intro A2 c2 w2 hown2 hb2 hg2)
        go_roundw
        case rel => exact ⟨k + 1, A2, c2, by omega, by go_num, rfl, by rw [HS.out]; exact hown2, (hbel.alloc hbel.size _).trans hb2⟩
        case measure => simp [intOf]; omega
      · obtain rfl : k = 10 := by omega
        have hz := or128_all l0 10
        have hzl : ((l0.take 10).map or128).length = 10 := by simp [HL.out]; omega
        have HZ := Lib.hid hz
        have HZL := Lib.hid hzl
        clear hz hzl
        generalize (l0.take 10).map or128 = z at *
        go_wp2_with (at_builtin; refine wpList_append_byt wr rfl _ _ _ rfl w.heap.size 5 brow _ 10 z rfl hown _ _ _ _ rfl (h1.below hbel) (by omega) hbel.size ?_; intro A4 c4 w4 ho4 hb4 hg4)
        have b4 := Byt.of_own ho4
        have hB := hbel.trans hb4
        obtain ⟨a, b, hd⟩ : ∃ a b, Lib.uvarintDec (z ++ l1) = (a, b) := ⟨_, _, rfl⟩
        have hlong := dec_long HZL.out HZ.out l1
        rw [hd] at hlong
        obtain ⟨ha, hb⟩ := hlong
        simp only at ha hb
        subst ha
        have hv : Lib.varintDec (z ++ l1) = (0, b) := by unfold Lib.varintDec; rw [hd]; simp [Lib.unzigzag]
        have HD := Lib.hid hv
        clear hd hv ho4 hb4 hg4 hown h1
        refine (rd_V b4 HD.out).mono ?_
        rintro e w5 ⟨rfl, rfl⟩
        clear HD b4
        have bone : Byt (w4.alloc (.cells #[.int .u8 1] 5)) (some ⟨w4.heap.size, 0, none⟩) 1 1 [1] := Byt.one w4 5 1 (by omega)
        have H1 := Lib.hid (show Lib.varintDec [1] = (-1, 1) by decide)
        go_wp2_with fail
        refine (rd_V bone H1.out).mono ?_
        rintro e w6 ⟨rfl, rfl⟩
        clear H1 bone
        go_wp2
        go_ret
        exact ⟨rfl, hB.alloc hB.size _⟩
end Go.Proofs.Ytlangbbhlfifhaa
