/-
  The contract of bytes.Clone for every slice of bytes. No statement is proved here.
-/
import Derived.Test.YtklebomhnclcgaaApp
import Derived.Test.YtklebomhnclcgaaShelf
namespace Go.Proofs.Ytklebomhnclcgaa
open Go.RowKit

theorem info_u8 : (Try.prog.info? 5).map (fun i => (i.zero, i.size, i.bytes)) = some (some (.int .u8 0), 1, 1) := by kernel_rfl
theorem brow : BRow Try.prog 23 5 := ⟨Try.underlying23, by obtain ⟨i, h1, h2, h3, h4⟩ := info_parts info_u8; exact ⟨i, h1, h2, h3, h4⟩⟩

theorem clone_any {w : World} {A : Option Addr} {n c : Nat} {l : List UInt8} (h : Byt w A n c l) (hn : n ≤ 140737488355328) :
    Calls Try.prog 25 #[.slice A n c] w (Gives w 5 n l) := by
  rcases A with _ | a
  · have hn0 : n = 0 := by
      rcases Nat.eq_zero_or_pos n with h0 | h0
      · exact h0
      · obtain ⟨_, _, e, _⟩ := h.cells h0; cases e
    have hl : l = [] := List.eq_nil_of_length_eq_zero (by rw [h.len, hn0])
    subst hn0
    subst hl
    refine (Try.bytes_Clone_nil 0 c w).mono ?_
    rintro e w' ⟨rfl, rfl⟩
    exact ⟨_, _, rfl, World.ownsRow_nil _ _ _ _, Below.refl _ _⟩
  · refine (Try.bytes_Clone_at a n c (nums l) w (by rw [nums_length, h.len]) hn (fun i hi => ?_)).mono ?_
    · obtain ⟨g, o, e, _, hc⟩ := h.cells (by omega)
      injection e with e
      subst e
      rw [add_spot, nums_getD l i (by rw [h.len]; exact hi)]
      exact hc i _
    · rintro e w' ⟨v', rfl, ho, _, hb⟩
      obtain ⟨A', c', rfl⟩ := own_slice ho
      exact ⟨A', c', rfl, by rw [← nums_cells]; exact ho, hb⟩
end Go.Proofs.Ytklebomhnclcgaa
