/-
  The walk of FnLittlePut64. No statement is proved here.
-/
import Derived.Test.YtjonhbanbeleoaaCApLittle64
import Derived.Test.YtjonhbanbeleoaaCRdLittle64
import Derived.Test.YtjonhbanbeleoaaCPutLittle64
import Derived.Test.YtjonhbanbeleoaaCSame
import Derived.Test.YtjonhbanbeleoaaMath
import Derived.Deep.RegionWith
import Derived.Deep.DrawnRows
namespace Go.Proofs.Ytjonhbanbeleoaa
open Go.RowKit
set_option linter.unusedVariables false

attribute [local go_sem ↓] Go.wp_at_zero Go.wp_at_succ
set_option maxHeartbeats 4000000 in
set_option maxRecDepth 100000 in
theorem fnLittlePut64_walk (w : World) (A0 : Option Addr) (n0 c0 : Nat) (l0 : List UInt8) (h0 : Byt w A0 n0 c0 l0) (s0 : c0 * 1 ≤ 140737488351232) (x1 : Nat) (g1 : x1 < 18446744073709551616) :
    Calls Try.prog 13 #[.slice A0 n0 c0, .int .u64 x1] w fun e w' => e = .returned (.bool true) ∧ Below w.heap.size w w' := by
  have hcap0 := h0.cap
  by_cases hk : n0 < 8
  · have HR := Lib.hid (show Lib.leNat ((Lib.leBytes 8 x1).take 8) = x1 by
      rw [List.take_of_length_le (by rw [Lib.leBytes_length]; exact Nat.le_refl _), Lib.leNat_leBytes 8 x1 (by simpa using g1)])
    go_enter Try.func13, Try.ntmps13
    go_wp2_with fail
    refine (ap_Little64_0 (Byt.empty_ _ _) x1 g1).mono ?_
    rintro e w1 ⟨A1, c1, rfl, ho1, hb1⟩
    have b1 := Byt.of_own ho1
    clear ho1
    go_wp2_with fail
    refine (rd_Little64_v b1 (by omega) HR.out).mono ?_
    rintro e w2 ⟨rfl, hb2⟩
    clear HR b1
    go_wp2
    go_ret
    exact ⟨rfl, (((Below.refl _ w).alloc (Nat.le_refl _) _).trans (hb1.mono (by simp))).trans (hb2.mono (Nat.le_trans (by simp) hb1.size))⟩
  · have hl0 := h0.len
    have HR := Lib.hid (show Lib.leNat ((Lib.leBytes 8 x1 ++ l0.drop 8).take 8) = x1 by
      rw [List.take_left' (Lib.leBytes_length 8 x1), Lib.leNat_leBytes 8 x1 (by simpa using g1)])
    have htl : (l0.take 8).length = 8 := by rw [List.length_take, hl0]; omega
    have hvl : Lib.leNat (l0.take 8) < 18446744073709551616 := by
      have := leNat_lt (l0.take 8)
      rw [htl] at this
      simpa using this
    have HP := Lib.hid (show Lib.leBytes 8 (Lib.leNat (l0.take 8)) ++ l0.drop 8 = l0 by
      have := leBytes_leNat (l0.take 8)
      rw [htl] at this
      rw [this, List.take_append_drop])
    clear htl hl0
    generalize hV : Lib.leNat (l0.take 8) = V at *
    have HV := Lib.hid hV
    clear hV
    have hcut0 := fun W => run_cut_l (P := Try.prog) W 22 A0 n0 c0 Try.underlying22 (by kernel_rfl) .i64 8 (by omega) (by omega)
    simp only [show (8 : Int).toNat = 8 from rfl] at hcut0
    go_enter Try.func13, Try.ntmps13
    go_wp2_with fail
    refine (put_Little64 h0 x1 g1 (by omega) (by omega)).mono ?_
    rintro e w1 ⟨A1, c1, rfl, ho1, hb1⟩
    have b0 := h0.below hb1
    have b1 := Byt.of_own ho1
    have hcap1 := b1.cap
    have b1d := b1.drop (k := 8) (by omega)
    rw [List.drop_left' (Lib.leBytes_length 8 x1)] at b1d
    have b0d := b0.drop (k := 8) (by omega)
    have hcut1 := fun W => run_cut_l (P := Try.prog) W 22 A1 n0 c1 Try.underlying22 (by kernel_rfl) .i64 8 (by omega) (by omega)
    simp only [show (8 : Int).toNat = 8 from rfl] at hcut1
    clear ho1 h0
    go_wp2_with fail
    go_region_with (first
      | (go_at_call 23; refine (rd_Little64_v (l := Lib.leBytes 8 x1 ++ l0.drop 8) ?_ (by omega) HR.out).mono ?_; (exact b1.drew); rintro e w2 ⟨rfl, hb2⟩)
      | (go_at_call 16; refine (same_yes (l := l0.drop 8) (k := l0.drop 8) ?_ ?_ rfl).mono ?_; (exact b1d.drew.below hb2); (exact b0d.drew.below hb2); rintro e w3 ⟨rfl, rfl⟩))
    all_goals
      have hB := hb1.drew.trans (hb2.mono hb1.size)
      have b0 := b0.drew.below hb2
      clear b1d b0d b1 hb1 hb2 HR
      go_wp2_with fail
      refine (rd_Little64_v b0 (by omega) HV.out).mono ?_
      rintro e w4 ⟨rfl, hb4⟩
      have b0 := b0.below hb4
      have hB := hB.trans (hb4.mono hB.size)
      go_wp2_with fail
      refine (put_Little64 b0 V hvl (by omega) (by omega)).mono ?_
      rintro e w5 ⟨A5, c5, rfl, ho5, hb5⟩
      rw [HP.out] at ho5
      have b0 := b0.below hb5
      have b5 := Byt.of_own ho5
      have hB := hB.trans (hb5.mono hB.size)
      clear ho5 hb4 hb5
      go_wp2_with fail
      refine (same_yes b5 b0 rfl).mono ?_
      rintro e w6 ⟨rfl, rfl⟩
      clear b5 b0
      go_wp2_with fail
      go_ret
      exact ⟨rfl, hB⟩
end Go.Proofs.Ytjonhbanbeleoaa
