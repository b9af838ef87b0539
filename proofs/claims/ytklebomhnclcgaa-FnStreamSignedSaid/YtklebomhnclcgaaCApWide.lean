/-
  binary.AppendUvarint, binary.AppendVarint and their thin functions for rows of up to 199,999,999,999,990 bytes. No statement is proved here.
-/
import Derived.Test.YtklebomhnclcgaaWide
namespace Go.Proofs.Ytklebomhnclcgaa
open Go.RowKit
set_option linter.unusedVariables false

set_option maxHeartbeats 8000000 in
set_option maxRecDepth 100000 in
theorem lib_apU_wide (B n x : Nat) (hx : x < 18446744073709551616) (A : Option Addr) (c : Nat) (l : List UInt8) (w : World) (hown : w.ownsRow B 5 1 (.slice A n c) n (Lib.byteCells l)) (hBw : B ≤ w.heap.size) (hlim : n + 10 ≤ 200000000000000) :
    Calls Try.prog 24 #[.slice A n c, .int .u64 x] w fun e w' => ∃ A' c', e = .returned (.slice A' (n + (Lib.uvarint x).length) c') ∧ w'.ownsRow B 5 1 (.slice A' (n + (Lib.uvarint x).length) c') (n + (Lib.uvarint x).length) (Lib.byteCells (l ++ Lib.uvarint x)) ∧ Below B w w' := by
  have hlen := Lib.uvarint_length64 hx
  go_enter Try.func24, Try.ntmps24
  go_wp2
  go_loopw [0, 1] (fun vb vx wr => ∃ (y : Nat) (pre : List UInt8) (A' : Option Addr) (n' c' : Nat), vx = .int .u64 y ∧ y ≤ x ∧ vb = .slice A' n' c' ∧ n' = n + pre.length ∧ Hid (Lib.uvarint x = pre ++ Lib.uvarint y) ∧ wr.ownsRow B 5 1 (.slice A' n' c') n' (Lib.byteCells (l ++ pre)) ∧ Below B w wr)
    (fun _ vx _ => (intOf vx).toNat)
  case atStart => exact ⟨x, [], A, n, c, rfl, Nat.le_refl _, rfl, rfl, Lib.hid rfl, by simpa using hown, Below.refl _ _⟩
  case round =>
    obtain ⟨y, pre, A1, n1, c1, rfl, hy, rfl, hn1, hsplit, hown1, hnx⟩ := hrel
    have hpl : pre.length + (Lib.uvarint y).length ≤ 10 := by
      have h2 := congrArg List.length hsplit.out
      rw [List.length_append] at h2
      omega
    have hyp := Lib.uvarint_pos y
    have hn2 : n1 + 1 ≤ 200000000000000 := by omega
    have HN := Lib.hid hn1
    have hsz := hnx.size
    clear hn1 hpl hown
    by_cases h128 : 128 ≤ y
    · have hor : bits .or .u8 ((y : Int) % 256) 128 = ((y % 128 + 128 : Nat) : Int) := by
        rw [Lib.u8_or128_any _ (by omega) (by omega)]
        omega
      go_wp2_with (at_builtin; refine wpList_append_wide _ rfl _ _ _ rfl B 5 brow A1 n1 c1 (l ++ pre) rfl (hown1.alloc _) _ 1 1 [(y % 128 + 128).toUInt8] rfl (Byt.one wr _ (y % 128 + 128) (by omega)) (by omega) (by simp; omega) ?_; intro A2 c2 w2 ho2 hb2)
      have hB : Below B w w2 := (hnx.alloc (by omega) _).trans hb2
      clear hb2 hnx hown1 hor
      go_wp2
      go_roundw
      case rel =>
        refine ⟨y / 128, pre ++ [(y % 128 + 128).toUInt8], A2, n1 + 1, c2, by go_num, by omega, rfl, by rw [HN.out]; simp; omega, Lib.hid (by rw [hsplit.out, Lib.uvarint_big h128]; simp), by rw [← List.append_assoc]; exact ho2, hB⟩
      case measure => simp [intOf]; omega
    · have hsm : Lib.uvarint y = [y.toUInt8] := Lib.uvarint_small (by omega)
      have HS := Lib.hid hsm
      clear hsm hyp
      go_wp2_with (at_builtin; refine wpList_append_wide _ rfl _ _ _ rfl B 5 brow A1 n1 c1 (l ++ pre) rfl (hown1.alloc _) _ 1 1 [y.toUInt8] rfl (Byt.one wr _ y (by omega)) (by omega) (by simp; omega) ?_; intro A2 c2 w2 ho2 hb2)
      have hB : Below B w w2 := (hnx.alloc (by omega) _).trans hb2
      clear hb2 hnx hown1
      have he : l ++ pre ++ [y.toUInt8] = l ++ Lib.uvarint x := by rw [hsplit.out, HS.out, List.append_assoc]
      have hk : n1 + 1 = n + (Lib.uvarint x).length := by rw [hsplit.out, HS.out, HN.out]; simp; omega
      rw [he, hk] at ho2
      rw [hk]
      clear he hk
      go_wp2
      go_ret
      exact ⟨A2, c2, rfl, ho2, hB⟩

theorem ap_U_wide {w : World} {A : Option Addr} {n c : Nat} {l : List UInt8} (h : Byt w A n c l) (x : Nat) (hx : x < 18446744073709551616) (hn : n + 10 ≤ 200000000000000) :
    Calls Try.prog 14 #[.slice A n c, .int .u64 x] w (Gives w 5 (n + (Lib.uvarint x).length) (l ++ Lib.uvarint x)) := by
  have hcap := h.cap
  go_enter Try.func14, Try.ntmps14
  go_wp2_with fail
  refine (clone_wide h (by omega)).mono ?_
  rintro e w1 ⟨A1, c1, rfl, ho1, hb1⟩
  go_wp2_with fail
  refine (lib_apU_wide w.heap.size n x hx A1 c1 l _ ho1 hb1.size hn).mono ?_
  rintro e w2 ⟨A2, c2, rfl, ho2, hb2⟩
  go_wp2_with fail
  go_ret
  exact ⟨A2, c2, rfl, ho2, hb1.trans hb2⟩

set_option maxHeartbeats 4000000 in
set_option maxRecDepth 100000 in
theorem lib_apV_wide (B n : Nat) (x : Int) (h0 : -9223372036854775808 ≤ x) (h1 : x ≤ 9223372036854775807) (A : Option Addr) (c : Nat) (l : List UInt8) (w : World) (hown : w.ownsRow B 5 1 (.slice A n c) n (Lib.byteCells l)) (hBw : B ≤ w.heap.size) (hlim : n + 10 ≤ 200000000000000) :
    Calls Try.prog 27 #[.slice A n c, .int .i64 x] w fun e w' => ∃ A' c', e = .returned (.slice A' (n + (Lib.uvarint (Lib.zigzag x)).length) c') ∧ w'.ownsRow B 5 1 (.slice A' (n + (Lib.uvarint (Lib.zigzag x)).length) c') (n + (Lib.uvarint (Lib.zigzag x)).length) (Lib.byteCells (l ++ Lib.uvarint (Lib.zigzag x))) ∧ Below B w w' := by
  have hU := lib_apU_wide B n (Lib.zigzag x) (Lib.zigzag_lt h0 h1) A c l w hown hBw hlim
  clear hown
  generalize hz : ((Lib.zigzag x : Nat) : Int) = zv at hU
  by_cases hneg : x < 0
  · rw [← Lib.zigzag_neg h0 hneg] at hz
    subst hz
    go_enter Try.func27, Try.ntmps27
    go_wp2_with (go_at_call 24; refine hU.mono ?_; rintro e w1 ⟨A', c', rfl, ho, hb⟩)
    go_wp2
    go_ret
    exact ⟨A', c', rfl, ho, hb⟩
  · rw [Lib.zigzag_nonneg (by omega)] at hz
    subst hz
    go_enter Try.func27, Try.ntmps27
    go_wp2_with (go_at_call 24; refine hU.mono ?_; rintro e w1 ⟨A', c', rfl, ho, hb⟩)
    go_wp2
    go_ret
    exact ⟨A', c', rfl, ho, hb⟩

theorem ap_V_wide {w : World} {A : Option Addr} {n c : Nat} {l : List UInt8} (h : Byt w A n c l) (x : Int) (hx0 : -9223372036854775808 ≤ x) (hx1 : x ≤ 9223372036854775807) (hn : n + 10 ≤ 200000000000000) :
    Calls Try.prog 18 #[.slice A n c, .int .i64 x] w (Gives w 5 (n + (Lib.uvarint (Lib.zigzag x)).length) (l ++ Lib.uvarint (Lib.zigzag x))) := by
  have hcap := h.cap
  go_enter Try.func18, Try.ntmps18
  go_wp2_with fail
  refine (clone_wide h (by omega)).mono ?_
  rintro e w1 ⟨A1, c1, rfl, ho1, hb1⟩
  go_wp2_with fail
  refine (lib_apV_wide w.heap.size n x hx0 hx1 A1 c1 l _ ho1 hb1.size hn).mono ?_
  rintro e w2 ⟨A2, c2, rfl, ho2, hb2⟩
  go_wp2_with fail
  go_ret
  exact ⟨A2, c2, rfl, ho2, hb1.trans hb2⟩
end Go.Proofs.Ytklebomhnclcgaa
