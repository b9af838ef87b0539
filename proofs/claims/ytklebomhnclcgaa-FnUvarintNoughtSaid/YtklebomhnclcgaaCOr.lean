/-
  Bytes that are made to ask for more. No statement is proved here.
-/
import Derived.Test.YtklebomhnclcgaaMathD
import Derived.Test.YtklebomhnclcgaaBase
namespace Go.Proofs.Ytklebomhnclcgaa

def or128 (b : UInt8) : UInt8 := (b.toNat % 128 + 128).toUInt8
theorem or128_bits (b : UInt8) : bits .or .u8 (b.toNat : Int) 128 = ((b.toNat % 128 + 128 : Nat) : Int) := by
  have := b.toNat_lt
  rw [Lib.u8_or128_any _ (by omega) (by omega)]; omega
theorem or128_step (l : List UInt8) (k : Nat) (h : k < l.length) : (l.take (k + 1)).map or128 = (l.take k).map or128 ++ [(l[k].toNat % 128 + 128).toUInt8] := by
  rw [List.take_succ_eq_append_getElem h, List.map_append]; rfl
theorem or128_all (l : List UInt8) (k : Nat) : ∀ b ∈ (l.take k).map or128, 128 ≤ b.toNat := by
  intro b hb
  obtain ⟨c, _, rfl⟩ := List.mem_map.1 hb
  unfold or128
  rw [toUInt8_small (by omega)]; omega
end Go.Proofs.Ytklebomhnclcgaa
