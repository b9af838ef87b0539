/-
  The contract of impl.Varint for every slice of bytes. No statement is proved here.
-/
import Derived.Test.YtklebomhnclcgaaApp
import Derived.Test.YtklebomhnclcgaaShelf
namespace Go.Proofs.Ytklebomhnclcgaa
open Go.RowKit

theorem lib_V {w : World} {A : Option Addr} {n c : Nat} {l : List UInt8} (h : Byt w A n c l) :
    Calls Try.prog 28 #[.slice A n c] w fun e w' => e = .returned (.tuple #[.int .i64 (Lib.varintDec l).1, .int .i64 (Lib.varintDec l).2]) ∧ w = w' := by
  rcases Nat.eq_zero_or_pos n with h0 | h0
  · have hl : l = [] := List.eq_nil_of_length_eq_zero (by rw [h.len, h0])
    subst h0
    subst hl
    refine (Try.binary_Varint_empty A c w).mono ?_
    rintro e w1 ⟨he, hw⟩
    exact ⟨he, hw.symm⟩
  · obtain ⟨g, o, rfl, _, hc⟩ := h.cells h0
    refine (Try.binary_Varint g o n c l w h.len hc).mono ?_
    rintro e w1 ⟨he, hw⟩
    exact ⟨he, hw.symm⟩

theorem rd_V {w : World} {A : Option Addr} {n c : Nat} {l : List UInt8} (h : Byt w A n c l) {a : Int} {b : Int} (hd : Lib.varintDec l = (a, b)) :
    Calls Try.prog 19 #[.slice A n c] w fun e w' => e = .returned (.tuple #[.int .i64 a, .int .i64 b]) ∧ w = w' := by
  have HD := Lib.hid hd
  clear hd
  go_enter Try.func19, Try.ntmps19
  go_wp2_with fail
  refine (lib_V h).mono ?_
  rintro e w1 ⟨rfl, rfl⟩
  rw [HD.out]
  clear HD
  go_wp2_with fail
  go_ret2
  exact ⟨rfl, rfl⟩
end Go.Proofs.Ytklebomhnclcgaa
