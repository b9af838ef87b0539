/-
  encoding/binary.PutUvarint where the buffer is too small: it panics, and only the buffer's own block has turned. No statement is proved here.
-/
import Derived.Test.YtlokpenjafhhfaaDoorCClone
import Derived.Test.YtlokpenjafhhfaaDoorMathV
import Derived.Lib.BoundsPanic
import Derived.Lib.VarintMem
namespace Go.Proofs.YtlokpenjafhhfaaDoor
open Go.RowKit

/-- the call panics; below block B nothing has turned -/
def Panics (B : Nat) (w : World) (e : Ending) (w' : World) : Prop := (∃ (u : TypeId) (pv : Value), e = .panicked [{ v := .iface u pv, recovered := false }]) ∧ Below B w w'

set_option maxHeartbeats 8000000 in
set_option maxRecDepth 100000 in
theorem libPut_panics {w : World} {B : Nat} (x n c : Nat) (hx : x < 18446744073709551616) (A : Option Addr) (l : List UInt8) (hown : w.ownsRow B 5 1 (.slice A n c) n (Lib.byteCells l)) (hs : n < (Lib.uvarint x).length) :
    Calls Tryd.prog 36 #[.slice A n c, .int .u64 x] w (Panics B w) := by
  have hlen := Lib.uvarint_length64 hx
  have hn9 : n ≤ 9 := by omega
  rcases Nat.eq_zero_or_pos n with h0 | h0
  · subst h0
    have hbp0 := fun W => Lib.run_boundsPanic_index (α := Value) Tryd.prog (0 : Int) (0 : Int) W (by omega) (by omega)
    have hnil := fun W => Lib.run_indexAt_nil (P := Tryd.prog) W 23 5 0 c .i64 0 Tryd.underlying23
    clear hown hs hlen
    rcases A with _ | a
    all_goals
      go_enter Tryd.func36, Tryd.ntmps36
      go_wp2
      go_loopw [1, 5] (fun vx vi wr => vx = .int .u64 x ∧ vi = .int .i64 0 ∧ wr = w) (fun vx _ _ => (intOf vx).toNat)
      case atStart => exact ⟨rfl, rfl, rfl⟩
      case round =>
        obtain ⟨rfl, rfl, rfl⟩ := hrel
        by_cases h128 : 128 ≤ x
        · go_wp2
          exact ⟨rfl, ⟨_, _, rfl⟩, (Below.refl _ _).drew⟩
        · go_wp2
          exact ⟨rfl, ⟨_, _, rfl⟩, (Below.refl _ _).drew⟩
  · obtain ⟨g, cx, hvx, hbase, hlt⟩ := own_block hown h0
    injection hvx with e1 e2 e3
    subst e1
    clear e2 e3 cx
    have hbp := fun W => Lib.run_boundsPanic_index (α := Value) Tryd.prog (n : Int) (n : Int) W (by omega) (by omega)
    have HO := Lib.hid hown
    have HS := Lib.hid hs
    have hcapn : n ≤ c := (Byt.of_own hown).cap
    clear hown hs
    go_enter Tryd.func36, Tryd.ntmps36
    go_wp2
    go_loopw [1, 5] (fun vx vi wr => ∃ (y : Nat) (k : Nat) (xs : List Value), vx = .int .u64 y ∧ vi = .int .i64 k ∧ k ≤ n ∧ y ≤ x ∧ Hid (k + (Lib.uvarint y).length = (Lib.uvarint x).length) ∧ wr.ownsRow B 5 1 (.slice (some ⟨g, 0, none⟩) n c) n xs ∧ Below B w wr)
      (fun vx _ _ => (intOf vx).toNat)
    case atStart => exact ⟨x, 0, _, rfl, rfl, by omega, Nat.le_refl _, Nat.zero_add _, HO.out, Below.refl _ _⟩
    case round =>
      obtain ⟨y, k, xs, rfl, rfl, hkn, hy, hsum, hown, hbel⟩ := hrel
      have hyx : y < 18446744073709551616 := by omega
      by_cases hk : k < n
      · have hcell : ∃ u, wr.cell? ⟨g, k, none⟩ = some u := ⟨xs[k]'(by have := hown.1; omega), by rw [hown.cellAt k (by omega)]; exact List.getElem?_eq_getElem _⟩
        obtain ⟨u, hcell⟩ := hcell
        have hfro := hown.frozenAt k
        by_cases h128 : 128 ≤ y
        · have HE := Lib.hid (Lib.uvarint_big h128)
          have HST := Lib.hid (fun v => (hown.stored k v).1)
          go_wp2
          go_roundw
          case rel =>
            refine ⟨y / 128, k + 1, _, by go_num, by go_num, by omega, by omega, ?_, HST.out _, hbel.setCell hbase _⟩
            have e1 := hsum.out
            rw [HE.out, List.length_cons] at e1
            show k + 1 + (Lib.uvarint (y / 128)).length = _
            omega
          case measure => simp [intOf]; omega
        · exfalso
          have e1 := hsum.out
          have e2 := HS.out
          rw [Lib.uvarint_small (by omega)] at e1
          simp at e1
          omega
      · obtain rfl : k = n := by omega
        by_cases h128 : 128 ≤ y
        · go_wp2
          exact ⟨rfl, ⟨_, _, rfl⟩, hbel.drew⟩
        · go_wp2
          exact ⟨rfl, ⟨_, _, rfl⟩, hbel.drew⟩
end Go.Proofs.YtlokpenjafhhfaaDoor
