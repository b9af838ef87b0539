/-
  The contract of spec.Turned: the bytes in the opposite order. No statement is proved here.
-/
import Derived.Test.YtjonhbanbeleoaaCClone
import Derived.Test.YtjonhbanbeleoaaMath
namespace Go.Proofs.Ytjonhbanbeleoaa
open Go.RowKit

theorem turned_step (l : List UInt8) (m : Nat) (h : m < l.length) : (l.drop m).reverse = (l.drop (m + 1)).reverse ++ [l[m]] := by
  rw [List.drop_eq_getElem_cons h, List.reverse_cons]

set_option maxHeartbeats 400000 in
theorem turned_any {w : World} {A : Option Addr} {n c : Nat} {l : List UInt8} (h : Byt w A n c l) (hn : 0 < n) (hm : n ≤ 140737488355328) :
    Calls Try.prog 18 #[.slice A n c] w (Gives w 5 n l.reverse) := by
  obtain ⟨g, o, rfl, hg, hc⟩ := h.cells hn
  have HL := Lib.hid h.len
  have HC := Lib.hid hc
  have hcap := h.cap
  have hbig := h.big
  clear hc h
  go_enter Try.func18, Try.ntmps18
  go_wp2
  go_loopw [3, 4] (fun v i wr => ∃ (k : Nat) (A' : Option Addr) (c' : Nat), k ≤ n ∧ i = .int .i64 ((k : Int) - 1) ∧ v = .slice A' (n - k) c' ∧ wr.ownsRow w.heap.size 5 1 (.slice A' (n - k) c') (n - k) (Lib.byteCells (l.drop k).reverse) ∧ Below w.heap.size w wr) (fun _ i _ => (intOf i + 1).toNat)
  case atStart =>
    have e1 : l.drop n = [] := List.drop_eq_nil_of_le (by rw [HL.out]; exact Nat.le_refl _)
    refine ⟨n, some ⟨w.heap.size, 0, none⟩, 0, Nat.le_refl _, rfl, ?_, ?_, (Below.refl _ _).alloc (Nat.le_refl _) _⟩
    · rw [Nat.sub_self]
    · rw [e1, Nat.sub_self]; exact own_empty w _
  case round =>
    obtain ⟨k, A', c', hk, rfl, rfl, hown, hbel⟩ := hrel
    rcases Nat.eq_zero_or_pos k with h0 | h0
    · subst h0
      have e0 : (((0 : Nat) : Int) - 1) = -1 := rfl
      rw [e0]
      go_wp2
      go_ret
      exact ⟨A', c', rfl, by simpa using hown, hbel⟩
    · obtain ⟨m, rfl⟩ : ∃ m, k = m + 1 := ⟨k - 1, by omega⟩
      have e1 : (((m + 1 : Nat) : Int) - 1) = (m : Int) := by omega
      rw [e1]
      have hml : m < l.length := by rw [HL.out]; omega
      have hcell := HC.out m hml
      have hcell' : wr.cell? ⟨g, o + m, none⟩ = some (.int .u8 ((l[m]).toNat : Int)) := (hbel.cell (p := ⟨g, o + m, none⟩) hg).trans hcell
      have hu := (l[m]).toNat_lt
      have HT := Lib.hid (turned_step l m hml)
      have e2 : (l[m]).toNat.toUInt8 = l[m] := by simp [Nat.toUInt8]
      have HE := Lib.hid e2
      clear hcell e2 e1
      go_wp2_with (at_builtin; refine wpList_append_byt _ rfl _ _ _ rfl w.heap.size 5 brow _ _ _ rfl (hown.alloc _) _ 1 1 [(l[m]).toNat.toUInt8] rfl (Byt.one wr _ _ hu) (by omega) (by have := hbel.size; simp; omega) ?_; intro A2 c2 w2 hown2 hb2 hg2)
      go_roundw
      case rel =>
        refine ⟨m, A2, c2, by omega, rfl, ?_, ?_, (hbel.alloc hbel.size _).trans hb2⟩
        · rw [show n - (m + 1) + 1 = n - m by omega]
        · rw [show n - (m + 1) + 1 = n - m by omega, HE.out, ← HT.out] at hown2; exact hown2
      case measure => simp [intOf]
end Go.Proofs.Ytjonhbanbeleoaa
