/-
  The walk of FnVarintTurned. No statement is proved here.
-/
import Derived.Test.YtchikodhaeoehaaCApV
import Derived.Test.YtchikodhaeoehaaCSame
import Derived.Test.YtchikodhaeoehaaMathV
import Derived.Laws.BitsAllLaws
import Derived.Deep.QuietTactic
import Derived.BigQuiet
namespace Go.Proofs.Ytchikodhaeoehaa
open Go.RowKit

set_option maxHeartbeats 1000000 in
set_option maxRecDepth 100000 in
theorem fnVarintTurned_walk (w : World) (x0 : Int) (p0 : -9223372036854775808 ≤ x0) (q0 : x0 ≤ 9223372036854775807) :
    Calls Try.prog 12 #[.int .i64 x0] w fun e w' => e = .returned (.bool true) ∧ Below w.heap.size w w' := by
  obtain ⟨p, q, t, hz1, hz2, hxor⟩ := turned_pair x0
  have HZ1 := Lib.hid hz1
  have HZ2 := Lib.hid hz2
  have h10 := Lib.uvarint_length64 (zigzag_lt p0 q0)
  rw [hz1] at h10
  simp only [List.length_cons] at h10
  have hx : bits .xor .u8 (p.toNat : Int) (q.toNat : Int) = 1 := by rw [u8_xor_nat _ _ (UInt8.toNat_lt _) (UInt8.toNat_lt _), hxor]; rfl
  clear hz1 hz2 hxor
  go_enter Try.func12, Try.ntmps12
  go_wp2_with fail
  refine (ap_V_e w x0 p0 q0).mono ?_
  rintro e w1 ⟨A1, c1, rfl, ho1, hb1⟩
  rw [HZ1.out] at ho1 ⊢
  have b1 := Byt.of_own ho1
  clear ho1
  go_wp2_with fail
  refine (ap_V_e w1 (-1 - x0) (by omega) (by omega)).mono ?_
  rintro e w2 ⟨A2, c2, rfl, ho2, hb2⟩
  rw [HZ2.out] at ho2 ⊢
  have b1 := b1.below hb2
  have b2 := Byt.of_own ho2
  have hB := hb1.trans (hb2.mono hb1.size)
  clear ho2 hb1 hb2 HZ1 HZ2
  have hcap1 := b1.cap
  have hcap2 := b2.cap
  simp only [List.length_cons] at hcap1 hcap2 b1 b2 ⊢
  obtain ⟨g1, o1, rfl, _, d1⟩ := b1.cells (by omega)
  obtain ⟨g2, o2, rfl, _, d2⟩ := b2.cells (by omega)
  have c10 : w2.cell? ⟨g1, o1, none⟩ = some (.int .u8 (p.toNat : Int)) := d1 0 (by simp)
  have c20 : w2.cell? ⟨g2, o2, none⟩ = some (.int .u8 (q.toNat : Int)) := d2 0 (by simp)
  have b1t := b1.drop (k := 1) (by omega)
  have b2t := b2.drop (k := 1) (by omega)
  simp only [List.drop_succ_cons, List.drop_zero, Nat.add_sub_cancel] at b1t b2t
  have hcut1 := fun W => run_cut_l (P := Try.prog) W 22 (some ⟨g1, o1, none⟩) (t.length + 1) c1 Try.underlying22 (by kernel_rfl) .i64 1 (by omega) (by omega)
  have hcut2 := fun W => run_cut_l (P := Try.prog) W 22 (some ⟨g2, o2, none⟩) (t.length + 1) c2 Try.underlying22 (by kernel_rfl) .i64 1 (by omega) (by omega)
  simp only [Int.toNat_one, Nat.add_sub_cancel] at hcut1 hcut2
  clear b1 b2 d1 d2 p0 q0
  generalize t.length = m at *
  generalize p.toNat = pn at *
  generalize q.toNat = qn at *
  have e1 : decide ((0 : Int) < (m : Int) + 1) = true := decide_eq_true (by omega)
  have e2 : (0 : Int) < (m : Int) + 1 := by omega
  go_wp2_with fail
  go_quiet ((go_at_call 16; exact Calls.quiet_of_same (same_still (b1t.drewN _) (b2t.drewN _) rfl)))
  go_wp2
  go_ret
  exact ⟨rfl, bel_drewN hB _⟩
end Go.Proofs.Ytchikodhaeoehaa
