/-
  The contract of impl.AppendUvarint for every slice of bytes. No statement is proved here.
-/
import Derived.Test.YtlokpenjafhhfaaDoorCClone
namespace Go.Proofs.YtlokpenjafhhfaaDoor
open Go.RowKit

theorem ap_U {w : World} {A : Option Addr} {n c : Nat} {l : List UInt8} (h : Byt w A n c l) (x : Nat) (hx : x < 18446744073709551616) (hn : n + 10 ≤ 140737488355328) :
    Calls Tryd.prog 5 #[.slice A n c, .int .u64 x] w (Gives w 5 (n + (Lib.uvarint x).length) (l ++ Lib.uvarint x)) := by
  have hcap := h.cap
  go_enter Tryd.func5, Tryd.ntmps5
  go_wp2_with fail
  refine (clone_any h (by omega)).mono ?_
  rintro e w1 ⟨A1, c1, rfl, ho1, hb1⟩
  go_wp2_with fail
  refine (Tryd.binary_AppendUvarint w.heap.size n x hx _ _ _ ho1 hb1.size hn).mono ?_
  rintro e w2 ⟨v2, rfl, ho2, hb2⟩
  obtain ⟨A2, c2, hv2⟩ := own_slice ho2
  rw [hv2] at ho2 ⊢
  go_wp2_with fail
  go_ret
  exact ⟨A2, c2, rfl, by rw [Lib.byteCells_append]; exact ho2, hb1.trans hb2⟩

theorem ap_U_0 {w : World} {A : Option Addr} {c : Nat} (h : Byt w A 0 c []) (x : Nat) (hx : x < 18446744073709551616) :
    Calls Tryd.prog 5 #[.slice A 0 c, .int .u64 x] w (Gives w 5 (Lib.uvarint x).length (Lib.uvarint x)) := by
  have := ap_U h x hx (by omega)
  rwa [Nat.zero_add, List.nil_append] at this

theorem ap_U_e (w : World) (x : Nat) (hx : x < 18446744073709551616) :
    Calls Tryd.prog 5 #[.slice (some ⟨w.heap.size, 0, none⟩) 0 0, .int .u64 x] (w.alloc (.cells #[] 5)) (Gives w 5 (Lib.uvarint x).length (Lib.uvarint x)) :=
  (ap_U_0 (Byt.empty_ _ _) x hx).mono fun _ _ ⟨A, c, he, ho, hb⟩ => ⟨A, c, he, own_base ho (by simp), ((Below.refl _ w).alloc (Nat.le_refl _) _).trans (hb.mono (by simp))⟩
end Go.Proofs.YtlokpenjafhhfaaDoor
