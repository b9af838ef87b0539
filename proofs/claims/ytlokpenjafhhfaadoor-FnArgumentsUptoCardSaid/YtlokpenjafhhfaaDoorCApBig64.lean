/-
  The contract of impl.AppendBigUint64 for every slice of bytes. No statement is proved here.
-/
import Derived.Test.YtlokpenjafhhfaaDoorCClone
import Derived.Deep.RegionWith
namespace Go.Proofs.YtlokpenjafhhfaaDoor
open Go.RowKit

theorem ap_Big64 {w : World} {A : Option Addr} {n c : Nat} {l : List UInt8} (h : Byt w A n c l) (v : Nat) (hv : v < 18446744073709551616) (hn : n + 8 ≤ 140737488355328) :
    Calls Tryd.prog 22 #[.slice A n c, .int .u64 v] w (Gives w 5 (n + 8) (l ++ Lib.beBytes 8 v)) := by
  go_enter Tryd.func22, Tryd.ntmps22
  go_wp2_with fail
  go_region_with (first
    | (go_at_call 26; refine (clone_any (n := n) (c := c) (l := l) h.drew (by omega)).mono ?_; rintro e w1 ⟨A1, c1, rfl, ho1, hb1⟩)
    | (go_at_call 46; refine (Tryd.binary_BE_AppendUint64 w.heap.size n v hv _ _ _ ho1 hb1.size hn).mono ?_; rintro e w2 ⟨v2, rfl, ho2, hb2⟩; obtain ⟨A2, c2, hv2⟩ := own_slice ho2; rw [hv2] at ho2 ⊢))
  all_goals
    go_wp2_with fail
    go_ret
    exact ⟨A2, c2, rfl, by rw [Lib.byteCells_append]; exact ho2, ((Below.refl _ w).drew.trans hb1).trans hb2⟩

theorem ap_Big64_0 {w : World} {A : Option Addr} {c : Nat} (h : Byt w A 0 c []) (v : Nat) (hv : v < 18446744073709551616) :
    Calls Tryd.prog 22 #[.slice A 0 c, .int .u64 v] w (Gives w 5 8 (Lib.beBytes 8 v)) := by
  have := ap_Big64 h v hv (by omega)
  rwa [Nat.zero_add, List.nil_append] at this
end Go.Proofs.YtlokpenjafhhfaaDoor
