/-
  The contract of spec.BigBytes: the last k bytes of a number, the highest one first. No statement is proved here.
-/
import Derived.Test.YtjonhbanbeleoaaCClone
import Derived.Test.YtjonhbanbeleoaaMath
namespace Go.Proofs.Ytjonhbanbeleoaa
open Go.RowKit

theorem bigBytes_step (j m x : Nat) (u : Value) (hu : u = .int .u8 ((x / 256 ^ m % 256 : Nat) : Int)) :
    (List.replicate (j + 1) (Value.int .u8 0) ++ Lib.byteCells (Lib.beBytes m x)).set j u = List.replicate j (Value.int .u8 0) ++ Lib.byteCells (Lib.beBytes (m + 1) x) := by
  rw [beBytes_succ, List.replicate_succ', List.append_assoc, List.set_append, if_neg (by simp)]
  simp [Lib.byteCells, hu]

set_option maxHeartbeats 400000 in
theorem bigBytes_any {w : World} (x k : Nat) (hx : x < 18446744073709551616) (hk : 0 < k) (h8 : k ≤ 8) :
    Calls Try.prog 15 #[.int .u64 x, .int .i64 k] w (Gives w 5 k (Lib.beBytes k x)) := by
  obtain ⟨i0, hi0, hz0, hz1, hz2⟩ := info_parts info_u8
  go_enter Try.func15, Try.ntmps15
  go_wp2_with (at_make; refine wpList_make_full _ rfl _ _ _ rfl w.heap.size 5 i0 _ 1 Try.underlying22 hi0 hz0 hz1 .i64 .i64 _ _ k rfl rfl rfl rfl (by rw [hz2]; omega) (by simp [maxLen]; omega) (Nat.le_refl _) ?_; intro w1 hown1 hg1)
  have hrow : (madeCells (Value.int .u8 0).cells (k * 1)).toList = List.replicate k (Value.int .u8 0) := by rw [Nat.mul_one]; exact toList_madeCells_one _ _
  rw [hrow] at hown1
  have hb1 : Below w.heap.size w w1 := (Below.refl _ _).grown hg1 (Nat.le_refl _) (by simp)
  clear hrow hg1 hi0 hz0 hz1 hz2
  go_loopw [0, 6] (fun X i wr => ∃ (j : Nat), j ≤ k ∧ i = .int .i64 ((j : Int) - 1) ∧ X = .int .u64 ((x / 256 ^ (k - j) : Nat) : Int) ∧ wr.ownsRow w.heap.size 5 1 (.slice (some ⟨w.heap.size, 0, none⟩) k k) k (List.replicate j (Value.int .u8 0) ++ Lib.byteCells (Lib.beBytes (k - j) x)) ∧ Below w.heap.size w wr) (fun _ i _ => (intOf i + 1).toNat)
  case atStart =>
    refine ⟨k, Nat.le_refl _, rfl, by simp, ?_, hb1⟩
    rw [Nat.sub_self]
    simpa [Lib.beBytes, Lib.leBytes, Lib.byteCells] using hown1
  case round =>
    obtain ⟨j, hj, rfl, rfl, hown, hbel⟩ := hrel
    rcases Nat.eq_zero_or_pos j with h0 | h0
    · subst h0
      have e0 : (((0 : Nat) : Int) - 1) = -1 := rfl
      rw [e0]
      go_wp2
      go_ret
      exact ⟨_, _, rfl, by simpa using hown, hbel⟩
    · obtain ⟨m, rfl⟩ : ∃ m, j = m + 1 := ⟨j - 1, by omega⟩
      have e1 : (((m + 1 : Nat) : Int) - 1) = (m : Int) := by omega
      rw [e1]
      have hc0 : (wr.cell? ⟨w.heap.size, m, none⟩) = some (Value.int .u8 0) := by
        rw [hown.cellAt m (by omega), List.getElem?_append_left (by simp), List.getElem?_replicate, if_pos (by omega)]
      have hf0 := hown.frozenAt m
      have HS := Lib.hid (hown.stored m (.int .u8 ((x / 256 ^ (k - (m + 1)) % 256 : Nat) : Int)))
      have hq : x / 256 ^ (k - (m + 1)) < 18446744073709551616 := Nat.lt_of_le_of_lt (Nat.div_le_self _ _) hx
      have HQ := Lib.hid (show x / 256 ^ (k - m) = x / 256 ^ (k - (m + 1)) / 256 by rw [Nat.div_div_eq_div_mul, ← Nat.pow_succ]; congr 2; omega)
      have HB := Lib.hid (bigBytes_step m (k - (m + 1)) x (.int .u8 ((x / 256 ^ (k - (m + 1)) % 256 : Nat) : Int)) rfl)
      clear e1 hown1 hb1
      generalize x / 256 ^ (k - (m + 1)) = y at *
      go_wp2
      go_roundw
      case rel =>
        refine ⟨m, by omega, rfl, ?_, ?_, ?_⟩
        · rw [HQ.out]; congr 1
        · have e := HS.out.1
          rw [HB.out, show k - (m + 1) + 1 = k - m by omega] at e
          rw [show ((y : Int) % 256) = ((y % 256 : Nat) : Int) from by omega]
          exact e
        · exact hbel.setCell (Nat.le_refl _) _
      case measure => simp [intOf]
end Go.Proofs.Ytjonhbanbeleoaa
