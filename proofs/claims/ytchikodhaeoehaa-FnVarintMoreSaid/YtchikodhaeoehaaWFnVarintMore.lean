/-
  The walk of FnVarintMore. No statement is proved here.
-/
import Derived.Test.YtchikodhaeoehaaCApU
import Derived.Test.YtchikodhaeoehaaMathV
namespace Go.Proofs.Ytchikodhaeoehaa
open Go.RowKit

set_option maxHeartbeats 400000 in
set_option maxRecDepth 100000 in
theorem fnVarintMore_walk (w : World) (x0 : Nat) (h0 : x0 < 18446744073709551616) :
    Calls Try.prog 7 #[.int .u64 x0] w fun e w' => e = .returned (.bool true) ∧ Below w.heap.size w w' := by
  have h10 := Lib.uvarint_length64 h0
  obtain ⟨n, hn⟩ : ∃ n, (Lib.uvarint x0).length = n + 1 := ⟨(Lib.uvarint x0).length - 1, by have := Lib.uvarint_pos x0; omega⟩
  have HN := Lib.hid hn
  have hn9 : n ≤ 9 := by omega
  clear h10 hn
  go_enter Try.func7, Try.ntmps7
  go_wp2_with fail
  refine (ap_U_e w x0 h0).mono ?_
  rintro e w1 ⟨A1, c1, rfl, ho1, hb1⟩
  have b1 := Byt.of_own ho1
  obtain ⟨g, o, rfl, _, hc⟩ := b1.cells (by rw [HN.out]; omega)
  have F1 : Hid (∀ j, j < n → ∃ b : Nat, 128 ≤ b ∧ w1.cell? ⟨g, o + j, none⟩ = some (.int .u8 (b : Int))) := fun j hj =>
    ⟨_, uvarint_more x0 j (by rw [HN.out]; omega), hc j (by rw [HN.out]; omega)⟩
  have F2 : Hid (∃ b : Nat, b < 128 ∧ (b = 0 → x0 = 0) ∧ w1.cell? ⟨g, o + n, none⟩ = some (.int .u8 (b : Int))) :=
    ⟨_, (uvarint_last x0 n HN.out.symm).1, (uvarint_last x0 n HN.out.symm).2, hc n (by rw [HN.out]; omega)⟩
  have hcap := b1.cap
  have hbig := b1.big
  rw [HN.out] at hcap ⊢
  clear ho1 hc b1 HN
  go_wp2
  go_loop [5] (fun i => ∃ j : Nat, j ≤ n ∧ i = .int .i64 j) (fun i => n + 1 - (intOf i).toNat)
  case atStart => exact ⟨0, by omega, rfl⟩
  case round =>
    obtain ⟨j, hj, rfl⟩ := hrel
    by_cases hlt : j < n
    · obtain ⟨b, hb, hcell⟩ := F1.out j hlt
      go_wp2
      go_round
      case rel => exact ⟨j + 1, by omega, by go_num⟩
      case measure => simp [intOf]; omega
    · obtain rfl : j = n := by omega
      obtain ⟨b, hb, hx, hcell⟩ := F2.out
      by_cases hb0 : b = 0
      · have hx0 := hx hb0
        subst hb0
        subst hx0
        clear hx
        go_wp2
        go_ret
        exact ⟨rfl, hb1⟩
      · clear hx
        have hb2 : 0 < b := by omega
        go_wp2
        go_ret
        exact ⟨rfl, hb1⟩
end Go.Proofs.Ytchikodhaeoehaa
