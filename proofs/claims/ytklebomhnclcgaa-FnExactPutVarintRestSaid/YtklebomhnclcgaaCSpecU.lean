/-
  The contract of spec.Uvarint: the bytes of a number. No statement is proved here.
-/
import Derived.Test.YtklebomhnclcgaaCClone
import Derived.Test.YtklebomhnclcgaaMathV
namespace Go.Proofs.Ytklebomhnclcgaa
open Go.RowKit

set_option maxHeartbeats 400000 in
set_option maxRecDepth 100000 in
theorem specU (x : Nat) : ∀ (w : World), x < 18446744073709551616 →
    Calls Try.prog 21 #[.int .u64 x] w (Gives w 5 (Lib.uvarint x).length (Lib.uvarint x)) := by
  induction x using Nat.strongRecOn with
  | ind x ih =>
    intro w hx
    have IH := Lib.hid ih
    clear ih
    by_cases h : x < 128
    · have hw : IntKind.u8.wrap (x : Int) = (x : Int) := by rw [wu8]; omega
      have HE := Lib.hid (Lib.uvarint_small h)
      go_enter Try.func21, Try.ntmps21
      go_wp2_with fail
      go_ret
      rw [HE.out]
      exact ⟨_, _, rfl, own_lit1 w _ x (by omega), (Below.refl _ _).alloc (Nat.le_refl _) _⟩
    · have HE := Lib.hid (Lib.uvarint_big (show 128 ≤ x by omega))
      have h10 := Lib.uvarint_length64 (x := x / 128) (by omega)
      go_enter Try.func21, Try.ntmps21
      go_wp2_with fail
      rw [show (x : Int) / 128 = ((x / 128 : Nat) : Int) from by omega, show (x : Int) % 128 + 128 = ((x % 128 + 128 : Nat) : Int) from by omega]
      refine (IH.out (x / 128) (by omega) _ (by omega)).mono ?_
      rintro e w2 ⟨A2, c2, rfl, ho2, hb2⟩
      have own1 := own_below (own_lit1 w 5 (x % 128 + 128) (by omega)) hb2
      have b2 := Byt.of_own ho2
      have hs := hb2.size
      simp only [World.size_alloc] at hs
      clear ho2 IH
      generalize Lib.uvarint (x / 128) = z at *
      go_wp2_with (at_builtin; refine wpList_append_byt w2 rfl _ _ _ rfl w.heap.size 5 brow _ 1 _ rfl own1 _ _ _ _ rfl b2 (by omega) (by omega) ?_; intro A3 c3 w3 ho3 hb3 hg3)
      go_ret
      rw [HE.out]
      refine ⟨A3, c3, ?_, ?_, (((Below.refl _ w).alloc (Nat.le_refl _) _).trans (hb2.mono (by simp))).trans hb3⟩
      · simp [Nat.add_comm]
      · simpa [Nat.add_comm] using ho3
end Go.Proofs.Ytklebomhnclcgaa
