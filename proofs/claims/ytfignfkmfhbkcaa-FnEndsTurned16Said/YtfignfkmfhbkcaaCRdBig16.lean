/-
  The contract of impl.BigUint16 for every slice with at least 2 bytes. No statement is proved here.
-/
import Derived.Test.YtfignfkmfhbkcaaApp
import Derived.Test.YtfignfkmfhbkcaaShelf
namespace Go.Proofs.Ytfignfkmfhbkcaa
open Go.RowKit

theorem rd_Big16 {w : World} {A : Option Addr} {n c : Nat} {l : List UInt8} (h : Byt w A n c l) (hn : 2 ≤ n) :
    Calls Try.prog 23 #[.slice A n c] w fun e w' => e = .returned (.int .u16 (Lib.beNat (l.take 2))) ∧ Below w.heap.size w w' := by
  obtain ⟨g, o, rfl, _, hc⟩ := h.cells (by omega)
  have hl := h.len
  obtain ⟨b0, b1, r, rfl⟩ : ∃ b0 b1 r, l = b0 :: b1 :: r := by
    clear hc h
    rcases l with _ | ⟨b0, l⟩
    · simp at hl; omega
    simp only [List.length_cons] at hl
    rcases l with _ | ⟨b1, l⟩
    · simp at hl; omega
    simp only [List.length_cons] at hl
    exact ⟨b0, b1, l, rfl⟩
  have c0 : w.cell? ⟨g, o, none⟩ = some (.int .u8 b0.toNat) := hc 0 (by simp)
  have c1 : w.cell? ⟨g, o + 1, none⟩ = some (.int .u8 b1.toNat) := hc 1 (by simp)
  have hR := fun W => fun c0 c1 => Try.binary_BE_Uint16 g o n c b0 b1 W hn c0 c1
  go_enter Try.func23, Try.ntmps23
  go_wp2_with (go_at_call 39; refine (Try.binary_BE_Uint16 g o n c b0 b1 _ hn c0 c1).mono ?_; rintro e w1 ⟨rfl, hb⟩)
  go_ret
  exact ⟨rfl, hb⟩

theorem rd_Big16_v {w : World} {A : Option Addr} {n c : Nat} {l : List UInt8} (h : Byt w A n c l) (hn : 2 ≤ n) {v : Nat} (hv : Lib.beNat (l.take 2) = v) :
    Calls Try.prog 23 #[.slice A n c] w fun e w' => e = .returned (.int .u16 (v : Nat)) ∧ Below w.heap.size w w' := by
  rw [← hv]; exact rd_Big16 h hn
end Go.Proofs.Ytfignfkmfhbkcaa
