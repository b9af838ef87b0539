/-
  The walk of FnAppendUvarintKeeps. No statement is proved here.
-/
import Derived.Test.YtchikodhaeoehaaCApU
import Derived.Test.YtchikodhaeoehaaCSame
import Derived.Deep.RegionHeld3
namespace Go.Proofs.Ytchikodhaeoehaa
open Go.RowKit
set_option linter.unusedVariables false

/-- two slices of bytes, and nothing that was there has turned -/
def Pair (w : World) (A1 : Option Addr) (n1 c1 : Nat) (l1 : List UInt8) (A2 : Option Addr) (n2 c2 : Nat) (l2 : List UInt8) (w' : World) : Prop :=
  Byt w' A1 n1 c1 l1 ∧ Byt w' A2 n2 c2 l2 ∧ Below w.heap.size w w'
section
variable {w W w' : World} {A1 A2 : Option Addr} {n1 c1 n2 c2 : Nat} {l1 l2 : List UInt8}
theorem Pair.keep (h : Pair w A1 n1 c1 l1 A2 n2 c2 l2 W) (hb : Below W.heap.size W w') : Pair w A1 n1 c1 l1 A2 n2 c2 l2 w' := ⟨h.1.below hb, h.2.1.below hb, h.2.2.trans (hb.mono h.2.2.size)⟩
theorem Pair.drew (h : Pair w A1 n1 c1 l1 A2 n2 c2 l2 W) : Pair w A1 n1 c1 l1 A2 n2 c2 l2 W.drew := ⟨h.1.drew, h.2.1.drew, h.2.2.drew⟩
theorem Pair.alloc (h : Pair w A1 n1 c1 l1 A2 n2 c2 l2 W) (o : Obj) : Pair w A1 n1 c1 l1 A2 n2 c2 l2 (W.alloc o) := ⟨h.1.alloc _, h.2.1.alloc _, h.2.2.alloc h.2.2.size _⟩
end

set_option maxHeartbeats 4000000 in
set_option maxRecDepth 100000 in
theorem fnAppendUvarintKeeps_walk (w : World) (A0 : Option Addr) (n0 c0 : Nat) (l0 : List UInt8) (h0 : Byt w A0 n0 c0 l0) (s0 : c0 * 1 ≤ 140737488351232) (x1 : Nat) (h1 : x1 < 18446744073709551616) :
    Calls Try.prog 3 #[.slice A0 n0 c0, .int .u64 x1] w fun e w' => e = .returned (.bool true) ∧ Below w.heap.size w w' := by
  have hcap := h0.cap
  have h10 := Lib.uvarint_length64 h1
  have hp := Lib.uvarint_pos x1
  go_enter Try.func3, Try.ntmps3
  go_wp2_with fail
  refine (ap_U h0 x1 h1 (by omega)).mono ?_
  rintro e w1 ⟨A1, c1, rfl, ho1, hb1⟩
  have b0 := h0.below hb1
  have b1 := Byt.of_own ho1
  have hl0 := h0.len
  obtain ⟨N, hN⟩ : ∃ N, n0 + (Lib.uvarint x1).length = N := ⟨_, rfl⟩
  rw [hN] at b1 ⊢
  have hcap1 := b1.cap
  have hlt : n0 < N := by omega
  have hNb : N ≤ 140737488355328 := by omega
  have HT := Lib.hid (List.take_left' (l₂ := Lib.uvarint x1) hl0)
  have HD := Lib.hid (List.drop_left' (l₂ := Lib.uvarint x1) hl0)
  have hS : Pair w A0 n0 c0 l0 A1 N c1 (l0 ++ Lib.uvarint x1) w1 := ⟨b0, b1, hb1⟩
  clear b1 b0 ho1 hl0 h0 hN hp hb1
  have hcuth := fun W => run_cut_h (P := Try.prog) W 22 A1 N c1 Try.underlying22 (by kernel_rfl) .i64 (n0 : Nat) (by omega) (by omega)
  have hcutl := fun W => run_cut_l (P := Try.prog) W 22 A1 N c1 Try.underlying22 (by kernel_rfl) .i64 (n0 : Nat) (by omega) (by omega)
  simp only [Int.toNat_natCast] at hcuth hcutl
  have hd1 : decide ((n0 : Int) < (N : Int)) = true := decide_eq_true (by omega)
  have hd2 : decide (n0 < N) = true := decide_eq_true hlt
  go_wp2_with fail
  go_region_held3 (fun w' => Pair w A0 n0 c0 l0 A1 N c1 (l0 ++ Lib.uvarint x1) w')
    (first | assumption | exact Pair.keep (by assumption) hbq | exact Pair.alloc (by assumption) _ | exact Pair.drew (by assumption))
    (first
      | (go_at_call 16; have _t := ho2; refine (same_yes (l := (l0 ++ Lib.uvarint x1).drop n0) (k := Lib.uvarint x1) ?_ ?_ HD.out).mono ?_; (exact (And.left (And.right (show Pair w A0 n0 c0 l0 A1 N c1 (l0 ++ Lib.uvarint x1) _ by assumption))).drop (by omega)); (exact Byt.of_own ho2); rintro e w3 ⟨rfl, rfl⟩)
      | (go_at_call 16; refine (same_yes (l := (l0 ++ Lib.uvarint x1).take n0) (k := l0) ?_ ?_ HT.out).mono ?_; (exact (And.left (And.right (show Pair w A0 n0 c0 l0 A1 N c1 (l0 ++ Lib.uvarint x1) _ by assumption))).take (by omega)); (exact (And.left (show Pair w A0 n0 c0 l0 A1 N c1 (l0 ++ Lib.uvarint x1) _ by assumption))); rintro e w3 ⟨rfl, rfl⟩)
      | (go_at_call 15; refine (ap_U_0 (Byt.empty_ _ _) x1 h1).mono ?_; rintro e w2 ⟨A2, c2, rfl, ho2, hbq⟩))
  have hB : Below w.heap.size w w2 := And.right (And.right (show Pair w A0 n0 c0 l0 A1 N c1 (l0 ++ Lib.uvarint x1) w2 by assumption))
  go_wp2
  go_ret
  exact ⟨rfl, hB⟩
end Go.Proofs.Ytchikodhaeoehaa
