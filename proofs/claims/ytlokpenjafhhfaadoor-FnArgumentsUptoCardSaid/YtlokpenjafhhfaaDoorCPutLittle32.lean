/-
  The contract of impl.PutLittleUint32 for every slice with at least 4 bytes. No statement is proved here.
-/
import Derived.Test.YtlokpenjafhhfaaDoorCClone
namespace Go.Proofs.YtlokpenjafhhfaaDoor
open Go.RowKit

set_option maxRecDepth 100000 in
theorem put_Little32 {w : World} {A : Option Addr} {n c : Nat} {l : List UInt8} (h : Byt w A n c l) (v : Nat) (hv : v < 4294967296) (hk : 4 ≤ n) (hn : n ≤ 140737488355328) :
    Calls Tryd.prog 19 #[.slice A n c, .int .u32 v] w (Gives w 5 n (Lib.leBytes 4 v ++ l.drop 4)) := by
  go_enter Tryd.func19, Tryd.ntmps19
  go_wp2_with fail
  refine (clone_any h (by omega)).mono ?_
  rintro e w1 ⟨A1, c1, rfl, ho1, hb1⟩
  obtain ⟨g, cx, hvx, hbase, hlt⟩ := own_block ho1 (by omega)
  injection hvx with e1 e2 e3
  subst e1
  clear e2 e3 cx
  have hl1 : (Lib.byteCells l).length = n := by have := ho1.1; simpa using this
  have hcell : ∀ j, j < n → ∃ u, w1.cell? ⟨g, 0 + j, none⟩ = some u := fun j hj => ⟨(Lib.byteCells l)[j]'(by omega), by rw [Nat.zero_add, ho1.cellAt j (by omega)]; exact List.getElem?_eq_getElem _⟩
  have hfro : ∀ j, w1.frozen? ⟨g, 0 + j, none⟩ = false := fun j => by rw [Nat.zero_add]; exact ho1.frozenAt j
  obtain ⟨u0, k0⟩ := hcell 0 (by omega)
  obtain ⟨u1, k1⟩ := hcell 1 (by omega)
  obtain ⟨u2, k2⟩ := hcell 2 (by omega)
  obtain ⟨u3, k3⟩ := hcell 3 (by omega)
  have HO := Lib.hid ho1
  have HL := Lib.hid hl1
  have hP := fun W => Tryd.binary_LE_PutUint32 g 0 n c1 v hv u0 u1 u2 u3 W hk
  have HP := Lib.hid (Tryd.binary_LE_PutUint32 g 0 n c1 v hv u0 u1 u2 u3 w1 hk k0 k1 k2 k3 (hfro 0) (hfro 1) (hfro 2) (hfro 3))
  clear hP hcell hfro ho1 hl1
  clear k0 k1 k2 k3
  go_wp2_with fail
  refine (HP.out).mono ?_
  rintro e w2 ⟨rfl, hw2⟩
  have hlen : (Lib.byteCells (Lib.leBytes 4 v)).length = 4 := by rw [Lib.byteCells_length, Lib.leBytes_length]
  have ho2 : w2.ownsRow w.heap.size 5 1 (.slice (some ⟨g, 0, none⟩) n c1) n (Lib.byteCells (Lib.leBytes 4 v ++ l.drop 4)) := by
    have := own_setCells (Lib.byteCells (Lib.leBytes 4 v)) 0 _ _ (HO.out.alloc (.cells #[] 65)) (by rw [hlen]; omega)
    rw [hlen] at this
    rw [hw2, Lib.byteCells_append]
    simpa [Lib.byteCells, List.map_drop] using this
  have hB : Below w.heap.size w w2 := by
    rw [hw2]
    exact (hb1.alloc hb1.size _).trans (Lib.below_setCells_w hbase _ _ _)
  have HW := Lib.hid hw2
  clear hw2 hlen HP HO HL
  go_wp2_with fail
  go_ret
  exact ⟨_, _, rfl, ho2, hB⟩
end Go.Proofs.YtlokpenjafhhfaaDoor
