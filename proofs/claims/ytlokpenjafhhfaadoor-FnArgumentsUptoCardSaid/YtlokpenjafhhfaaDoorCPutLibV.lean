/-
  encoding/binary.PutVarint where the buffer is too small: it panics. No statement is proved here.
-/
import Derived.Test.YtlokpenjafhhfaaDoorCPutLib
import Derived.Lib.Zigzag
namespace Go.Proofs.YtlokpenjafhhfaaDoor
open Go.RowKit

set_option maxHeartbeats 1000000 in
set_option maxRecDepth 100000 in
theorem libPutV_panics {w : World} {B : Nat} (x : Int) (n c : Nat) (hx0 : -9223372036854775808 ≤ x) (hx1 : x ≤ 9223372036854775807) (A : Option Addr) (l : List UInt8) (hown : w.ownsRow B 5 1 (.slice A n c) n (Lib.byteCells l)) (hs : n < (Lib.uvarint (Lib.zigzag x)).length) :
    Calls Tryd.prog 38 #[.slice A n c, .int .i64 x] w (Panics B w) := by
  have hP := libPut_panics (Lib.zigzag x) n c (zigzag_lt hx0 hx1) A l hown hs
  clear hown hs
  by_cases h : x < 0
  · rw [← Lib.zigzag_neg hx0 h] at hP
    have HP := Lib.hid hP
    clear hP
    go_enter Tryd.func38, Tryd.ntmps38
    go_wp2_with fail
    refine HP.out.mono ?_
    rintro e w2 ⟨⟨u, pv, rfl⟩, hb2⟩
    go_wp2_with fail
    exact ⟨rfl, ⟨_, _, rfl⟩, hb2⟩
  · rw [Lib.zigzag_nonneg (by omega)] at hP
    have HP := Lib.hid hP
    clear hP
    go_enter Tryd.func38, Tryd.ntmps38
    go_wp2_with fail
    refine HP.out.mono ?_
    rintro e w2 ⟨⟨u, pv, rfl⟩, hb2⟩
    go_wp2_with fail
    exact ⟨rfl, ⟨_, _, rfl⟩, hb2⟩
end Go.Proofs.YtlokpenjafhhfaaDoor
