/-
  The contract of impl.BigUint32 for every slice with at least 4 bytes. No statement is proved here.
-/
import Derived.Test.YtfignfkmfhbkcaaApp
import Derived.Test.YtfignfkmfhbkcaaShelf
namespace Go.Proofs.Ytfignfkmfhbkcaa
open Go.RowKit

theorem rd_Big32 {w : World} {A : Option Addr} {n c : Nat} {l : List UInt8} (h : Byt w A n c l) (hn : 4 ≤ n) :
    Calls Try.prog 27 #[.slice A n c] w fun e w' => e = .returned (.int .u32 (Lib.beNat (l.take 4))) ∧ Below w.heap.size w w' := by
  obtain ⟨g, o, rfl, _, hc⟩ := h.cells (by omega)
  have hl := h.len
  obtain ⟨b0, b1, b2, b3, r, rfl⟩ : ∃ b0 b1 b2 b3 r, l = b0 :: b1 :: b2 :: b3 :: r := by
    clear hc h
    rcases l with _ | ⟨b0, l⟩
    · simp at hl; omega
    simp only [List.length_cons] at hl
    rcases l with _ | ⟨b1, l⟩
    · simp at hl; omega
    simp only [List.length_cons] at hl
    rcases l with _ | ⟨b2, l⟩
    · simp at hl; omega
    simp only [List.length_cons] at hl
    rcases l with _ | ⟨b3, l⟩
    · simp at hl; omega
    simp only [List.length_cons] at hl
    exact ⟨b0, b1, b2, b3, l, rfl⟩
  have c0 : w.cell? ⟨g, o, none⟩ = some (.int .u8 b0.toNat) := hc 0 (by simp)
  have c1 : w.cell? ⟨g, o + 1, none⟩ = some (.int .u8 b1.toNat) := hc 1 (by simp)
  have c2 : w.cell? ⟨g, o + 2, none⟩ = some (.int .u8 b2.toNat) := hc 2 (by simp)
  have c3 : w.cell? ⟨g, o + 3, none⟩ = some (.int .u8 b3.toNat) := hc 3 (by simp)
  have hR := fun W => fun c0 c1 c2 c3 => Try.binary_BE_Uint32 g o n c b0 b1 b2 b3 W hn c0 c1 c2 c3
  go_enter Try.func27, Try.ntmps27
  go_wp2_with (go_at_call 43; refine (Try.binary_BE_Uint32 g o n c b0 b1 b2 b3 _ hn c0 c1 c2 c3).mono ?_; rintro e w1 ⟨rfl, hb⟩)
  go_ret
  exact ⟨rfl, hb⟩

theorem rd_Big32_v {w : World} {A : Option Addr} {n c : Nat} {l : List UInt8} (h : Byt w A n c l) (hn : 4 ≤ n) {v : Nat} (hv : Lib.beNat (l.take 4) = v) :
    Calls Try.prog 27 #[.slice A n c] w fun e w' => e = .returned (.int .u32 (v : Nat)) ∧ Below w.heap.size w w' := by
  rw [← hv]; exact rd_Big32 h hn
end Go.Proofs.Ytfignfkmfhbkcaa
