/-
  The contract of impl.LittleUint64 for every slice with at least 8 bytes. No statement is proved here.
-/
import Derived.Test.YtlokpenjafhhfaaApp
import Derived.Test.YtlokpenjafhhfaaShelf
namespace Go.Proofs.Ytlokpenjafhhfaa
open Go.RowKit

theorem rd_Little64 {w : World} {A : Option Addr} {n c : Nat} {l : List UInt8} (h : Byt w A n c l) (hn : 8 ≤ n) :
    Calls Try.prog 10 #[.slice A n c] w fun e w' => e = .returned (.int .u64 (Lib.leNat (l.take 8))) ∧ Below w.heap.size w w' := by
  obtain ⟨g, o, rfl, _, hc⟩ := h.cells (by omega)
  have hl := h.len
  obtain ⟨b0, b1, b2, b3, b4, b5, b6, b7, r, rfl⟩ : ∃ b0 b1 b2 b3 b4 b5 b6 b7 r, l = b0 :: b1 :: b2 :: b3 :: b4 :: b5 :: b6 :: b7 :: r := by
    clear hc h
    rcases l with _ | ⟨b0, l⟩
    · simp at hl; omega
    simp only [List.length_cons] at hl
    rcases l with _ | ⟨b1, l⟩
    · simp at hl; omega
    simp only [List.length_cons] at hl
    rcases l with _ | ⟨b2, l⟩
    · simp at hl; omega
    simp only [List.length_cons] at hl
    rcases l with _ | ⟨b3, l⟩
    · simp at hl; omega
    simp only [List.length_cons] at hl
    rcases l with _ | ⟨b4, l⟩
    · simp at hl; omega
    simp only [List.length_cons] at hl
    rcases l with _ | ⟨b5, l⟩
    · simp at hl; omega
    simp only [List.length_cons] at hl
    rcases l with _ | ⟨b6, l⟩
    · simp at hl; omega
    simp only [List.length_cons] at hl
    rcases l with _ | ⟨b7, l⟩
    · simp at hl; omega
    simp only [List.length_cons] at hl
    exact ⟨b0, b1, b2, b3, b4, b5, b6, b7, l, rfl⟩
  have c0 : w.cell? ⟨g, o, none⟩ = some (.int .u8 b0.toNat) := hc 0 (by simp)
  have c1 : w.cell? ⟨g, o + 1, none⟩ = some (.int .u8 b1.toNat) := hc 1 (by simp)
  have c2 : w.cell? ⟨g, o + 2, none⟩ = some (.int .u8 b2.toNat) := hc 2 (by simp)
  have c3 : w.cell? ⟨g, o + 3, none⟩ = some (.int .u8 b3.toNat) := hc 3 (by simp)
  have c4 : w.cell? ⟨g, o + 4, none⟩ = some (.int .u8 b4.toNat) := hc 4 (by simp)
  have c5 : w.cell? ⟨g, o + 5, none⟩ = some (.int .u8 b5.toNat) := hc 5 (by simp)
  have c6 : w.cell? ⟨g, o + 6, none⟩ = some (.int .u8 b6.toNat) := hc 6 (by simp)
  have c7 : w.cell? ⟨g, o + 7, none⟩ = some (.int .u8 b7.toNat) := hc 7 (by simp)
  have hR := fun W => fun c0 c1 c2 c3 c4 c5 c6 c7 => Try.binary_LE_Uint64 g o n c b0 b1 b2 b3 b4 b5 b6 b7 W hn c0 c1 c2 c3 c4 c5 c6 c7
  go_enter Try.func10, Try.ntmps10
  go_wp2_with (go_at_call 16; refine (Try.binary_LE_Uint64 g o n c b0 b1 b2 b3 b4 b5 b6 b7 _ hn c0 c1 c2 c3 c4 c5 c6 c7).mono ?_; rintro e w1 ⟨rfl, hb⟩)
  go_ret
  exact ⟨rfl, hb⟩

theorem rd_Little64_v {w : World} {A : Option Addr} {n c : Nat} {l : List UInt8} (h : Byt w A n c l) (hn : 8 ≤ n) {v : Nat} (hv : Lib.leNat (l.take 8) = v) :
    Calls Try.prog 10 #[.slice A n c] w fun e w' => e = .returned (.int .u64 (v : Nat)) ∧ Below w.heap.size w w' := by
  rw [← hv]; exact rd_Little64 h hn
end Go.Proofs.Ytlokpenjafhhfaa
