/-
  Numbers of variable length, in plain Lean: no program in sight. No statement is proved here.
-/
import Derived.Test.YtklebomhnclcgaaMath
namespace Go.Proofs.Ytklebomhnclcgaa

theorem toUInt8_small {x : Nat} (h : x < 256) : (x.toUInt8).toNat = x := by simp only [Nat.toUInt8, UInt8.toNat_ofNat']; omega

/-- a number is read back, whatever is behind, from place i on -/
theorem uvarintFrom_enc (x : Nat) : ∀ (i acc : Nat) (r : List UInt8), i ≤ 9 → x * 2 ^ (7 * i) < 18446744073709551616 →
    Lib.uvarintFrom i acc (Lib.uvarint x ++ r) = (acc + x * 2 ^ (7 * i), (i : Int) + (Lib.uvarint x).length) := by
  induction x using Nat.strongRecOn with
  | ind x ih =>
    intro i acc r hi hx
    have h63 : i = 9 → (2 : Nat) ^ (7 * i) = 9223372036854775808 := by rintro rfl; decide
    by_cases h : x < 128
    · rw [Lib.uvarint_small h]
      simp only [List.cons_append, List.nil_append, Lib.uvarintFrom, toUInt8_small (show x < 256 by omega)]
      rw [if_neg (by omega), if_pos h, if_neg (fun ⟨h9, h1⟩ => by rw [h63 h9] at hx; omega)]
      simp
    · rw [Lib.uvarint_big (by omega)]
      simp only [List.cons_append, Lib.uvarintFrom, toUInt8_small (show x % 128 + 128 < 256 by omega)]
      rw [if_neg (by omega), if_neg (by omega)]
      have hi' : i + 1 ≤ 9 := by
        rcases Nat.lt_or_ge i 9 with h9 | h9
        · omega
        · rw [h63 (by omega)] at hx; omega
      have e : (2 : Nat) ^ (7 * (i + 1)) = 128 * 2 ^ (7 * i) := by rw [Nat.mul_add, Nat.pow_add]; omega
      have e2 : x / 128 * (128 * 2 ^ (7 * i)) + x % 128 * 2 ^ (7 * i) = x * 2 ^ (7 * i) := by
        rw [← Nat.mul_assoc, ← Nat.add_mul]; congr 1; omega
      rw [ih (x / 128) (by omega) (i + 1) _ r hi' (by rw [e]; omega), e]
      have e3 : (x % 128 + 128) % 128 = x % 128 := by omega
      rw [e3]
      simp only [List.length_cons, Prod.mk.injEq]
      constructor
      · omega
      · omega

theorem dec_enc (x : Nat) (hx : x < 18446744073709551616) (r : List UInt8) : Lib.uvarintDec (Lib.uvarint x ++ r) = (x, ((Lib.uvarint x).length : Int)) := by
  unfold Lib.uvarintDec
  rw [uvarintFrom_enc x 0 0 r (by omega) (by simpa using hx)]
  simp

theorem uvarint_inj {x y : Nat} (hx : x < 18446744073709551616) (hy : y < 18446744073709551616) (h : Lib.uvarint x = Lib.uvarint y) : x = y := by
  have h1 := dec_enc x hx []
  have h2 := dec_enc y hy []
  rw [h, h2] at h1
  injection h1 with h1 _
  exact h1.symm

/-- no number's bytes are the beginning of those of another one -/
theorem uvarint_free {x y : Nat} (hx : x < 18446744073709551616) (hy : y < 18446744073709551616) (h : Lib.uvarint x = (Lib.uvarint y).take (Lib.uvarint x).length) : x = y := by
  have h1 := dec_enc x hx ((Lib.uvarint y).drop (Lib.uvarint x).length)
  have h2 := dec_enc y hy []
  have e : Lib.uvarint x ++ (Lib.uvarint y).drop (Lib.uvarint x).length = Lib.uvarint y ++ [] := by
    rw [List.append_nil]
    conv => lhs; lhs; rw [h]
    exact List.take_append_drop _ _
  rw [e, h2] at h1
  injection h1 with h1 _
  exact h1.symm

theorem unzigzag_zigzag (x : Int) : Lib.unzigzag (Lib.zigzag x) = x := by
  unfold Lib.unzigzag Lib.zigzag
  by_cases h : 0 ≤ x
  · rw [if_pos h, if_pos (by omega)]; omega
  · rw [if_neg h, if_neg (by omega)]; omega
theorem zigzag_unzigzag (u : Nat) : Lib.zigzag (Lib.unzigzag u) = u := by
  unfold Lib.unzigzag Lib.zigzag
  by_cases h : u % 2 = 0
  · rw [if_pos h, if_pos (by omega)]; omega
  · rw [if_neg h, if_neg (by omega)]; omega
theorem zigzag_lt {x : Int} (h0 : -9223372036854775808 ≤ x) (h1 : x ≤ 9223372036854775807) : Lib.zigzag x < 18446744073709551616 := by
  unfold Lib.zigzag; split <;> omega
theorem vdec_enc (x : Int) (h0 : -9223372036854775808 ≤ x) (h1 : x ≤ 9223372036854775807) (r : List UInt8) :
    Lib.varintDec (Lib.uvarint (Lib.zigzag x) ++ r) = (x, ((Lib.uvarint (Lib.zigzag x)).length : Int)) := by
  unfold Lib.varintDec
  rw [dec_enc _ (zigzag_lt h0 h1) r, unzigzag_zigzag]

/-- the number of bytes -/
theorem uvarint_len_le : ∀ (k x : Nat), (Lib.uvarint x).length ≤ k + 1 ↔ x < 128 ^ (k + 1)
  | 0, x => by
    by_cases h : x < 128
    · rw [Lib.uvarint_small h]; simp [h]
    · rw [Lib.uvarint_big (by omega)]
      have := Lib.uvarint_pos (x / 128)
      simp only [List.length_cons]; omega
  | k + 1, x => by
    by_cases h : x < 128
    · rw [Lib.uvarint_small h]
      have : (128 : Nat) ^ 1 ≤ 128 ^ (k + 1 + 1) := Nat.pow_le_pow_right (by omega) (by omega)
      simp; omega
    · rw [Lib.uvarint_big (by omega), List.length_cons]
      have ih := uvarint_len_le k (x / 128)
      rw [Nat.pow_succ]
      have : x / 128 < 128 ^ (k + 1) ↔ x < 128 ^ (k + 1) * 128 := Nat.div_lt_iff_lt_mul (by omega)
      omega
theorem uvarint_len_mono {x y : Nat} (h : x ≤ y) : (Lib.uvarint x).length ≤ (Lib.uvarint y).length := by
  have h1 := Lib.uvarint_pos y
  obtain ⟨k, hk⟩ : ∃ k, (Lib.uvarint y).length = k + 1 := ⟨(Lib.uvarint y).length - 1, by omega⟩
  rw [hk, uvarint_len_le]
  have := (uvarint_len_le k y).1 (by omega)
  omega

/-- all bytes but the last one ask for more -/
theorem uvarint_more (x : Nat) : ∀ (j : Nat) (h : j + 1 < (Lib.uvarint x).length), 128 ≤ ((Lib.uvarint x)[j]'(by omega)).toNat := by
  induction x using Nat.strongRecOn with
  | ind x ih =>
    intro j h
    by_cases hx : x < 128
    · rw [Lib.uvarint_small hx] at h; simp at h
    · have e := Lib.uvarint_big (show 128 ≤ x by omega)
      have hl : (Lib.uvarint x).length = (Lib.uvarint (x / 128)).length + 1 := by rw [e]; rfl
      rcases j with _ | j
      · have e0 : (Lib.uvarint x)[0]? = some (x % 128 + 128).toUInt8 := by rw [e]; rfl
        rw [(List.getElem_of_getElem? e0).2, toUInt8_small (by omega)]; omega
      · have := ih (x / 128) (by omega) j (by omega)
        have e1 : (Lib.uvarint x)[j + 1]? = (Lib.uvarint (x / 128))[j]? := by rw [e]; rfl
        rw [List.getElem?_eq_getElem (by omega), List.getElem?_eq_getElem (by omega)] at e1
        injection e1 with e1
        rw [e1]; exact this
/-- the last one does not, and it is not 0 but for the number 0 -/
theorem uvarint_last (x : Nat) : ∀ (j : Nat) (h : j + 1 = (Lib.uvarint x).length), ((Lib.uvarint x)[j]'(by omega)).toNat < 128 ∧ (((Lib.uvarint x)[j]'(by omega)).toNat = 0 → x = 0) := by
  induction x using Nat.strongRecOn with
  | ind x ih =>
    intro j h
    by_cases hx : x < 128
    · have e := Lib.uvarint_small hx
      have hl : (Lib.uvarint x).length = 1 := by rw [e]; rfl
      obtain rfl : j = 0 := by omega
      have e0 : (Lib.uvarint x)[0]? = some x.toUInt8 := by rw [e]; rfl
      rw [(List.getElem_of_getElem? e0).2, toUInt8_small (by omega)]
      exact ⟨hx, id⟩
    · have e := Lib.uvarint_big (show 128 ≤ x by omega)
      have hl : (Lib.uvarint x).length = (Lib.uvarint (x / 128)).length + 1 := by rw [e]; rfl
      have hp := Lib.uvarint_pos (x / 128)
      obtain ⟨i, rfl⟩ : ∃ i, j = i + 1 := ⟨j - 1, by omega⟩
      have := ih (x / 128) (by omega) i (by omega)
      have e1 : (Lib.uvarint x)[i + 1]? = (Lib.uvarint (x / 128))[i]? := by rw [e]; rfl
      rw [List.getElem?_eq_getElem (by omega), List.getElem?_eq_getElem (by omega)] at e1
      injection e1 with e1
      rw [e1]
      exact ⟨this.1, fun h0 => by have := this.2 h0; omega⟩

theorem zigzag_small (x : Int) : (Lib.uvarint (Lib.zigzag x)).length = 1 ↔ -64 ≤ x ∧ x ≤ 63 := by
  have h := uvarint_len_le 0 (Lib.zigzag x)
  have hp := Lib.uvarint_pos (Lib.zigzag x)
  have : Lib.zigzag x < 128 ^ (0 + 1) ↔ -64 ≤ x ∧ x ≤ 63 := by unfold Lib.zigzag; split <;> omega
  omega

theorem xor_one_even (m : Nat) : (2 * m) ^^^ (2 * m + 1) = 1 ∧ (2 * m + 1) ^^^ (2 * m) = 1 := by
  have h : (2 * m) ^^^ (2 * m + 1) = 1 := by
    apply Nat.eq_of_testBit_eq
    intro i
    rcases i with _ | i
    · simp [Nat.testBit_zero]
    · rw [Nat.testBit_xor, Nat.testBit_succ, Nat.testBit_succ, Nat.testBit_succ, show 2 * m / 2 = m by omega, show (2 * m + 1) / 2 = m by omega]
      simp
  exact ⟨h, by rw [Nat.xor_comm]; exact h⟩
theorem turned_even (m : Nat) : ∃ p q t, Lib.uvarint (2 * m) = p :: t ∧ Lib.uvarint (2 * m + 1) = q :: t ∧ p.toNat ^^^ q.toNat = 1 ∧ q.toNat ^^^ p.toNat = 1 := by
  by_cases h : 2 * m < 128
  · refine ⟨_, _, [], Lib.uvarint_small h, Lib.uvarint_small (by omega), ?_⟩
    rw [toUInt8_small (by omega), toUInt8_small (by omega)]
    exact xor_one_even m
  · refine ⟨_, _, Lib.uvarint (2 * m / 128), Lib.uvarint_big (by omega), by rw [Lib.uvarint_big (by omega), show (2 * m + 1) / 128 = 2 * m / 128 by omega], ?_⟩
    rw [toUInt8_small (by omega), toUInt8_small (by omega)]
    have := xor_one_even (m % 64 + 64)
    rw [show 2 * m % 128 + 128 = 2 * (m % 64 + 64) by omega, show (2 * m + 1) % 128 + 128 = 2 * (m % 64 + 64) + 1 by omega]
    exact this
/-- a number and the one less than its opposite -/
theorem turned_pair (x : Int) : ∃ p q t, Lib.uvarint (Lib.zigzag x) = p :: t ∧ Lib.uvarint (Lib.zigzag (-1 - x)) = q :: t ∧ p.toNat ^^^ q.toNat = 1 := by
  by_cases h : 0 ≤ x
  · obtain ⟨p, q, t, h1, h2, h3, _⟩ := turned_even x.toNat
    refine ⟨p, q, t, ?_, ?_, h3⟩
    · rw [← h1]; congr 1; unfold Lib.zigzag; rw [if_pos h]; omega
    · rw [← h2]; congr 1; unfold Lib.zigzag; rw [if_neg (by omega)]; omega
  · obtain ⟨p, q, t, h1, h2, _, h3⟩ := turned_even (-1 - x).toNat
    refine ⟨q, p, t, ?_, ?_, h3⟩
    · rw [← h2]; congr 1; unfold Lib.zigzag; rw [if_neg h]; omega
    · rw [← h1]; congr 1; unfold Lib.zigzag; rw [if_pos (by omega)]; omega
end Go.Proofs.Ytklebomhnclcgaa
