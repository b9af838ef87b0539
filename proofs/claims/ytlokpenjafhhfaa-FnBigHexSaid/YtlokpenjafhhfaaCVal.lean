/-
  Digits of numbers to the base 16, spec.Value and impl.EncodeToString. No statement is proved here.
-/
import Derived.Test.YtlokpenjafhhfaaApp
import Derived.Test.YtlokpenjafhhfaaMath
import Derived.Test.YtlokpenjafhhfaaShelf
namespace Go.Proofs.Ytlokpenjafhhfaa
open Go.RowKit Go.Lib

theorem digit_cases {d : Nat} (h : d < 16) : (d ≤ 9 ∧ (Hx.digit d).toNat = d + 48) ∨ (10 ≤ d ∧ (Hx.digit d).toNat = d + 87) := by
  have : ∀ d : Fin 16, (d.val ≤ 9 ∧ (Hx.digit d.val).toNat = d.val + 48) ∨ (10 ≤ d.val ∧ (Hx.digit d.val).toNat = d.val + 87) := by decide
  exact this ⟨d, h⟩
theorem encode_at : ∀ (l : List UInt8) (i : Nat) (h : i < l.length), (Hx.encode l)[2 * i]? = some (Hx.digit ((l[i]).toNat / 16)) ∧ (Hx.encode l)[2 * i + 1]? = some (Hx.digit ((l[i]).toNat % 16))
  | [], i, h => by simp at h
  | a :: t, 0, _ => by rw [Hx.encode_cons]; exact ⟨rfl, rfl⟩
  | a :: t, i + 1, h => by
    have ih := encode_at t i (by simpa using h)
    rw [Hx.encode_cons, show 2 * (i + 1) = 2 * i + 1 + 1 by omega]
    simpa using ih
theorem bigHex_at (x j : Nat) (h : j < 16) : (Hx.encode (beBytes 8 x))[15 - j]? = some (Hx.digit (x / 16 ^ j % 16)) := by
  have hl : (beBytes 8 x).length = 8 := beBytes_length 8 x
  obtain ⟨m, hm | hm⟩ : ∃ m, j = 2 * m ∨ j = 2 * m + 1 := ⟨j / 2, by omega⟩
  · have := (encode_at (beBytes 8 x) (7 - m) (by omega)).2
    rw [beBytes_getElem, show 8 - 1 - (7 - m) = m by omega, show 2 * (7 - m) + 1 = 15 - j by omega] at this
    rw [this, hm, show (16 : Nat) ^ (2 * m) = 256 ^ m by rw [Nat.pow_mul]]
    congr 2
    generalize x / 256 ^ m = y
    omega
  · have := (encode_at (beBytes 8 x) (7 - m) (by omega)).1
    rw [beBytes_getElem, show 8 - 1 - (7 - m) = m by omega, show 2 * (7 - m) = 15 - j by omega] at this
    rw [this, hm, show (16 : Nat) ^ (2 * m + 1) = 256 ^ m * 16 by rw [Nat.pow_succ, Nat.pow_mul], ← Nat.div_div_eq_div_mul]
    congr 2
    generalize x / 256 ^ m = y
    omega

theorem idx_str {P : Program} (W : World) (t : TypeId) (ht : P.underlying t = some .string) (s : List UInt8) (k : IntKind) (i : Int) (n : Nat) (b : UInt8) (hi : i = (n : Int)) (hb : s[n]? = some b) :
    (Instr.index t (.string ⟨s.toArray⟩) (.int k i)).run P W = .ok (.int .u8 (b.toNat : Int)) W := by
  subst hi
  obtain ⟨hl, he⟩ := List.getElem?_eq_some_iff.1 hb
  rw [run_index_string W t _ k _ ht, dif_pos ⟨by omega, by show (n : Int) < ((s.toArray.size : Nat) : Int); simp; omega⟩]
  subst he
  rfl

set_option maxRecDepth 100000 in
theorem val_digit (w : World) {d : Nat} (h : d < 16) :
    Calls Try.prog 7 #[.int .u8 ((Hx.digit d).toNat : Int)] w fun e w' => e = .returned (.int .i64 (d : Int)) ∧ w' = w := by
  rcases digit_cases h with ⟨h1, h2⟩ | ⟨h1, h2⟩
  · rw [h2]
    clear h2
    go_enter Try.func7, Try.ntmps7
    go_wp2
    go_ret
    exact ⟨ret_int (by omega), rfl⟩
  · rw [h2]
    clear h2
    go_enter Try.func7, Try.ntmps7
    go_wp2
    go_ret
    exact ⟨ret_int (by omega), rfl⟩

theorem enc_any {w : World} {A : Option Addr} {n c : Nat} {l : List UInt8} (h : Byt w A n c l) (h0 : 0 < n) (hn : 2 * n ≤ 281474976710656) :
    Calls Try.prog 5 #[.slice A n c] w fun e w' => e = .returned (.string ⟨(Hx.encode l).toArray⟩) ∧ Below w.heap.size w w' := by
  obtain ⟨g, o, rfl, hg, hc⟩ := h.cells h0
  have hl := h.len
  subst hl
  go_enter Try.func5, Try.ntmps5
  go_wp2_with fail
  refine (Try.hex_EncodeToString_bytes g o c l w hc hg hn).mono ?_
  rintro e w1 ⟨rfl, hb⟩
  go_wp2_with fail
  go_ret
  exact ⟨rfl, hb⟩
end Go.Proofs.Ytlokpenjafhhfaa
