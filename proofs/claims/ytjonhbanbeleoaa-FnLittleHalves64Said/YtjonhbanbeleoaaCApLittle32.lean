/-
  The contract of impl.AppendLittleUint32 for every slice of bytes. No statement is proved here.
-/
import Derived.Test.YtjonhbanbeleoaaCClone
import Derived.Deep.RegionWith
namespace Go.Proofs.Ytjonhbanbeleoaa
open Go.RowKit

theorem ap_Little32 {w : World} {A : Option Addr} {n c : Nat} {l : List UInt8} (h : Byt w A n c l) (v : Nat) (hv : v < 4294967296) (hn : n + 4 ≤ 140737488355328) :
    Calls Try.prog 25 #[.slice A n c, .int .u32 v] w (Gives w 5 (n + 4) (l ++ Lib.leBytes 4 v)) := by
  go_enter Try.func25, Try.ntmps25
  go_wp2_with fail
  go_region_with (first
    | (go_at_call 27; refine (clone_any (n := n) (c := c) (l := l) h.drew (by omega)).mono ?_; rintro e w1 ⟨A1, c1, rfl, ho1, hb1⟩)
    | (go_at_call 34; refine (Try.binary_LE_AppendUint32 w.heap.size n v hv _ _ _ ho1 hb1.size hn).mono ?_; rintro e w2 ⟨v2, rfl, ho2, hb2⟩; obtain ⟨A2, c2, hv2⟩ := own_slice ho2; rw [hv2] at ho2 ⊢))
  all_goals
    go_wp2_with fail
    go_ret
    exact ⟨A2, c2, rfl, by rw [Lib.byteCells_append]; exact ho2, ((Below.refl _ w).drew.trans hb1).trans hb2⟩

theorem ap_Little32_0 {w : World} {A : Option Addr} {c : Nat} (h : Byt w A 0 c []) (v : Nat) (hv : v < 4294967296) :
    Calls Try.prog 25 #[.slice A 0 c, .int .u32 v] w (Gives w 5 4 (Lib.leBytes 4 v)) := by
  have := ap_Little32 h v hv (by omega)
  rwa [Nat.zero_add, List.nil_append] at this
end Go.Proofs.Ytjonhbanbeleoaa
