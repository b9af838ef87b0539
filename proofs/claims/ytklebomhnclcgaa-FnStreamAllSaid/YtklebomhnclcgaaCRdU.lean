/-
  The contract of impl.Uvarint for every slice of bytes. No statement is proved here.
-/
import Derived.Test.YtklebomhnclcgaaApp
import Derived.Test.YtklebomhnclcgaaShelf
namespace Go.Proofs.Ytklebomhnclcgaa
open Go.RowKit

theorem lib_U {w : World} {A : Option Addr} {n c : Nat} {l : List UInt8} (h : Byt w A n c l) :
    Calls Try.prog 26 #[.slice A n c] w fun e w' => e = .returned (.tuple #[.int .u64 (Lib.uvarintDec l).1, .int .i64 (Lib.uvarintDec l).2]) ∧ w = w' := by
  rcases Nat.eq_zero_or_pos n with h0 | h0
  · have hl : l = [] := List.eq_nil_of_length_eq_zero (by rw [h.len, h0])
    subst h0
    subst hl
    refine (Try.binary_Uvarint_empty A c w).mono ?_
    rintro e w1 ⟨he, hw⟩
    exact ⟨he, hw.symm⟩
  · obtain ⟨g, o, rfl, _, hc⟩ := h.cells h0
    refine (Try.binary_Uvarint g o n c l w h.len hc).mono ?_
    rintro e w1 ⟨he, hw⟩
    exact ⟨he, hw.symm⟩

theorem rd_U {w : World} {A : Option Addr} {n c : Nat} {l : List UInt8} (h : Byt w A n c l) {a : Nat} {b : Int} (hd : Lib.uvarintDec l = (a, b)) :
    Calls Try.prog 15 #[.slice A n c] w fun e w' => e = .returned (.tuple #[.int .u64 a, .int .i64 b]) ∧ w = w' := by
  have HD := Lib.hid hd
  clear hd
  go_enter Try.func15, Try.ntmps15
  go_wp2_with fail
  refine (lib_U h).mono ?_
  rintro e w1 ⟨rfl, rfl⟩
  rw [HD.out]
  clear HD
  go_wp2_with fail
  go_ret2
  exact ⟨rfl, rfl⟩
end Go.Proofs.Ytklebomhnclcgaa
