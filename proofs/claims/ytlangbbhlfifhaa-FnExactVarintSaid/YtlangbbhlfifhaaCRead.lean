/-
  The contract of spec.Read: what the reference reads. No statement is proved here.
-/
import Derived.Test.YtlangbbhlfifhaaApp
import Derived.Test.YtlangbbhlfifhaaMathD
namespace Go.Proofs.Ytlangbbhlfifhaa
open Go.RowKit

theorem read_sum {k acc bt : Nat} (hk : k ≤ 9) (hacc : acc < 2 ^ (7 * k)) (h9 : k = 9 → bt ≤ 1) : acc + bt % 128 * 2 ^ (7 * k) < 18446744073709551616 ∧ acc + bt % 128 * 2 ^ (7 * k) < 2 ^ (7 * (k + 1)) := by
  have e : (2 : Nat) ^ (7 * (k + 1)) = 128 * 2 ^ (7 * k) := by rw [Nat.mul_add, Nat.pow_add]; omega
  have h1 : bt % 128 * 2 ^ (7 * k) ≤ 127 * 2 ^ (7 * k) := Nat.mul_le_mul_right _ (by omega)
  rw [e]
  refine ⟨?_, by omega⟩
  rcases Nat.lt_or_ge k 9 with h | h
  · have h2 : (2 : Nat) ^ (7 * (k + 1)) ≤ 2 ^ 63 := Nat.pow_le_pow_right (by omega) (by omega)
    have h3 : (2 : Nat) ^ 63 = 9223372036854775808 := by decide
    omega
  · obtain rfl : k = 9 := by omega
    have h2 : bt % 128 * 2 ^ (7 * 9) ≤ 1 * 2 ^ (7 * 9) := Nat.mul_le_mul_right _ (by have := h9 rfl; omega)
    have h3 : (2 : Nat) ^ (7 * 9) = 9223372036854775808 := by decide
    omega
theorem read_wrap {k acc bt : Nat} (hk : k ≤ 9) (hacc : acc < 2 ^ (7 * k)) (h9 : k = 9 → bt ≤ 1) :
    IntKind.u64.wrap ((acc : Int) + IntKind.u64.wrap ((bt : Int) % 128 * 2 ^ (7 * k))) = ((acc + bt % 128 * 2 ^ (7 * k) : Nat) : Int) := by
  have h := (read_sum hk hacc h9).1
  have e : ((bt : Int) % 128 * 2 ^ (7 * k)) = ((bt % 128 * 2 ^ (7 * k) : Nat) : Int) := by
    rw [Int.natCast_mul, Int.natCast_pow]; rfl
  rw [e, wu64, wu64]
  generalize bt % 128 * 2 ^ (7 * k) = q at *
  omega

set_option maxHeartbeats 4000000 in
set_option maxRecDepth 100000 in
theorem read_pos {w : World} {A : Option Addr} {n c : Nat} {l : List UInt8} (h : Byt w A n c l) (h0 : 0 < n) {a : Nat} {b : Int} (hd : readFrom 0 0 l = (a, b)) :
    Calls Try.prog 16 #[.slice A n c] w fun e w' => e = .returned (.tuple #[.int .u64 a, .int .i64 b]) ∧ w = w' := by
  have hbig := h.big
  have hcap := h.cap
  obtain ⟨g, o, rfl, _, hc⟩ := h.cells h0
  have HL := Lib.hid h.len
  have HC := Lib.hid hc
  have HD := Lib.hid hd
  clear hc h hd
  go_enter Try.func16, Try.ntmps16
  go_wp2
  go_loop [4, 5] (fun x i => ∃ k acc : Nat, k ≤ 10 ∧ k ≤ n ∧ i = .int .i64 k ∧ x = .int .u64 acc ∧ Hid (acc < 2 ^ (7 * k)) ∧ Hid (readFrom k acc (l.drop k) = readFrom 0 0 l)) (fun _ i => 10 - (intOf i).toNat)
  case atStart => exact ⟨0, 0, by omega, by omega, rfl, rfl, (by decide : 0 < 2 ^ (7 * 0)), rfl⟩
  case round =>
    obtain ⟨k, acc, hk, hkn, rfl, rfl, hacc, hrd⟩ := hrel
    by_cases hlt : k < n
    · by_cases h10 : k < 10
      · have hkl : k < l.length := by rw [HL.out]; omega
        have hcell := HC.out k hkl
        have hu := (l[k]).toNat_lt
        have hstep : Hid (readFrom k acc (l.drop k) = if k = 10 then (0, 0) else if k = 9 ∧ 1 < (l[k]).toNat then (0, -10) else if (l[k]).toNat < 128 then (acc + (l[k]).toNat % 128 * 2 ^ (7 * k), (k : Int) + 1) else readFrom (k + 1) (acc + (l[k]).toNat % 128 * 2 ^ (7 * k)) (l.drop (k + 1))) := by
          rw [List.drop_eq_getElem_cons hkl]; rfl
        generalize (l[k]).toNat = bt at *
        by_cases h9 : k = 9 ∧ 1 < bt
        · have HR : Hid ((0, -10) = (a, b)) := by
            have e := hstep.out
            rw [if_neg (by omega), if_pos h9] at e
            exact e.symm.trans (hrd.out.trans HD.out)
          have hb9 : ((k : Int) == 9) = true := by simp; omega
          have h1 := h9.2
          clear h9 hstep
          go_wp2
          go_ret2
          have e := HR.out
          injection e with e1 e2
          subst e1 e2
          exact ⟨rfl, rfl⟩
        · have HW := Lib.hid (read_wrap (bt := bt) (show k ≤ 9 by omega) hacc.out (by omega))
          have HS := Lib.hid (read_sum (bt := bt) (show k ≤ 9 by omega) hacc.out (by omega))
          by_cases hb : bt < 128
          · have HR : Hid ((acc + bt % 128 * 2 ^ (7 * k), (k : Int) + 1) = (a, b)) := by
              have e := hstep.out
              rw [if_neg (by omega), if_neg h9, if_pos hb] at e
              exact e.symm.trans (hrd.out.trans HD.out)
            by_cases hk9 : k = 9
            · have hb9 : ((k : Int) == 9) = true := by simp; omega
              have h1 : bt ≤ 1 := by omega
              clear h9 hk9 hstep
              go_wp2
              go_ret2
              have e := HR.out
              injection e with e1 e2
              subst e1 e2
              refine ⟨?_, rfl⟩
              rw [← HW.out]; rfl
            · have hb9 : ((k : Int) == 9) = false := by simp; omega
              clear h9 hk9 hstep
              go_wp2
              go_ret2
              have e := HR.out
              injection e with e1 e2
              subst e1 e2
              refine ⟨?_, rfl⟩
              rw [← HW.out]; rfl
          · have hb9 : ((k : Int) == 9) = false := by simp; omega
            have HR : Hid (readFrom (k + 1) (acc + bt % 128 * 2 ^ (7 * k)) (l.drop (k + 1)) = readFrom 0 0 l) := by
              have e := hstep.out
              rw [if_neg (by omega), if_neg h9, if_neg hb] at e
              exact e.symm.trans hrd.out
            have hb2 : 128 ≤ bt := by omega
            clear h9 hb hstep
            go_wp2
            go_round
            case rel => exact ⟨k + 1, acc + bt % 128 * 2 ^ (7 * k), by omega, by omega, by go_num, by rw [HW.out], HS.out.2, HR⟩
            case measure => simp [intOf]; omega
      · obtain rfl : k = 10 := by omega
        have HR : Hid ((0, 0) = (a, b)) := by
          have hkl : 10 < l.length := by rw [HL.out]; omega
          have e := hrd.out
          rw [List.drop_eq_getElem_cons hkl] at e
          exact e.trans HD.out
        go_wp2
        go_ret2
        have e := HR.out
        injection e with e1 e2
        subst e1 e2
        exact ⟨rfl, rfl⟩
    · obtain rfl : k = n := by omega
      have HR : Hid ((0, 0) = (a, b)) := by
        have e := hrd.out
        rw [List.drop_eq_nil_of_le (by rw [HL.out]; exact Nat.le_refl _)] at e
        exact e.trans HD.out
      go_wp2
      go_ret2
      have e := HR.out
      injection e with e1 e2
      subst e1 e2
      exact ⟨rfl, rfl⟩

theorem read_any {w : World} {A : Option Addr} {n c : Nat} {l : List UInt8} (h : Byt w A n c l) {a : Nat} {b : Int} (hd : readFrom 0 0 l = (a, b)) :
    Calls Try.prog 16 #[.slice A n c] w fun e w' => e = .returned (.tuple #[.int .u64 a, .int .i64 b]) ∧ w = w' := by
  rcases Nat.eq_zero_or_pos n with h0 | h0
  · have hl : l = [] := List.eq_nil_of_length_eq_zero (by rw [h.len, h0])
    subst h0
    subst hl
    have HD := Lib.hid hd
    clear h hd
    go_enter Try.func16, Try.ntmps16
    go_wp2
    go_loop [4, 5] (fun x i => x = .int .u64 0 ∧ i = .int .i64 0) (fun _ i => 10 - (intOf i).toNat)
    case atStart => exact ⟨rfl, rfl⟩
    case round =>
      obtain ⟨rfl, rfl⟩ := hrel
      go_wp2
      go_ret2
      have e := HD.out
      injection e with e1 e2
      subst e1 e2
      exact ⟨rfl, rfl⟩
  · exact read_pos h h0 hd
end Go.Proofs.Ytlangbbhlfifhaa
