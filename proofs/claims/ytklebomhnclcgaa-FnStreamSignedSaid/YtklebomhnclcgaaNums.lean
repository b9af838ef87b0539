/-
  Rows of numbers that came in, and the bytes of many numbers one behind the other. No statement is proved here.
-/
import Derived.Test.YtklebomhnclcgaaBase
import Derived.Test.YtklebomhnclcgaaMathV
namespace Go.Proofs.Ytklebomhnclcgaa
open Go.RowKit

/-- the slice '.slice A n c' holds the numbers zs of kind k -/
structure Nums (k : IntKind) (w : World) (A : Option Addr) (n c : Nat) (zs : List Int) : Prop where
  len : zs.length = n
  cap : n ≤ c
  big : c ≤ 9223372036854775807
  wf : ∀ z ∈ zs, (Lit.int k z).wf = true
  cells : 0 < n → ∃ g o, A = some ⟨g, o, none⟩ ∧ g < w.heap.size ∧ ∀ j (h : j < zs.length), w.cell? ⟨g, o + j, none⟩ = some (.int k (zs[j]))
theorem Nums.nil_ (k : IntKind) (w : World) : Nums k w none 0 0 [] := ⟨rfl, Nat.le_refl _, by decide, (fun _ h => nomatch h), fun h => absurd h (by omega)⟩
theorem Nums.of_row {k : IntKind} {w : World} {a : Addr} {len cap : Nat} {zs : List Int} (hl : len ≤ cap) (hm : cap ≤ maxLen) (hz : zs.length = cap) (hcell : ∀ i, i < zs.length → w.cell? (a.add i) = some (.int k (zs.getD i 0)))
    (hwz : ∀ n ∈ zs, (Lit.int k n).wf = true) : Nums k w (some a) len cap (zs.take len) := by
  refine ⟨by simp; omega, hl, by simpa [maxLen] using hm, fun z h => hwz z (List.mem_of_mem_take h), fun hn => ?_⟩
  obtain ⟨b, off, spot⟩ := a
  have h0 := hcell 0 (by omega)
  have hspot : spot = none := by simpa [Addr.add] using World.cell?_spot h0
  subst hspot
  refine ⟨b, off, rfl, World.block_lt_of_cell? w _ (by simpa [Addr.add] using h0), fun j hj => ?_⟩
  have hj' : j < zs.length := by simp at hj; omega
  have := hcell j hj'
  rw [add_spot] at this
  rw [this]
  simp [List.getD, List.getElem?_eq_getElem hj']
theorem wf_u64 {z : Int} (h : (Lit.int .u64 z).wf = true) : 0 ≤ z ∧ z < 18446744073709551616 := by
  have : 0 ≤ z ∧ z ≤ 18446744073709551615 := by simpa [Lit.wf, IntKind.min, IntKind.max, IntKind.signed, IntKind.bits] using h
  omega
theorem wf_i64 {z : Int} (h : (Lit.int .i64 z).wf = true) : -9223372036854775808 ≤ z ∧ z ≤ 9223372036854775807 := by
  simpa [Lit.wf, IntKind.min, IntKind.max, IntKind.signed, IntKind.bits] using h

/-- numbers written one behind the other -/
def encs (f : Int → Nat) (l : List Int) : List UInt8 := l.flatMap fun z => Lib.uvarint (f z)
theorem encs_take (f : Int → Nat) (l : List Int) (k : Nat) (h : k < l.length) : encs f (l.take (k + 1)) = encs f (l.take k) ++ Lib.uvarint (f l[k]) := by
  unfold encs
  rw [List.take_succ_eq_append_getElem h, List.flatMap_append, List.flatMap_singleton]
theorem encs_drop (f : Int → Nat) (l : List Int) (k : Nat) (h : k < l.length) : encs f (l.drop k) = Lib.uvarint (f l[k]) ++ encs f (l.drop (k + 1)) := by
  unfold encs
  rw [List.drop_eq_getElem_cons h, List.flatMap_cons]
theorem encs_len (f : Int → Nat) : ∀ (l : List Int), (∀ z ∈ l, f z < 18446744073709551616) → (encs f l).length ≤ 10 * l.length
  | [], _ => by simp [encs]
  | z :: r, h => by
    have ih := encs_len f r (fun y hy => h y (List.mem_cons_of_mem _ hy))
    have h1 := Lib.uvarint_length64 (h z List.mem_cons_self)
    have e : encs f (z :: r) = Lib.uvarint (f z) ++ encs f r := by simp [encs]
    rw [e, List.length_append, List.length_cons]; omega
end Go.Proofs.Ytklebomhnclcgaa
