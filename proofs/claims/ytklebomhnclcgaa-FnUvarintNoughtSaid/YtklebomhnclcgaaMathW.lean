/-
  Writings of numbers that are longer than the shortest one, in plain Lean: no program in sight. No statement is proved here.
-/
import Derived.Test.YtklebomhnclcgaaMathD
namespace Go.Proofs.Ytklebomhnclcgaa

/-- the number of groups of seven bits, the lowest first -/
def val128 : List UInt8 → Nat
  | [] => 0
  | b :: r => b.toNat % 128 + 128 * val128 r
/-- a writing: all bytes but the last one ask for more, the last one does not -/
def Wr : List UInt8 → Prop
  | [] => False
  | [b] => b.toNat < 128
  | b :: c :: r => 128 ≤ b.toNat ∧ Wr (c :: r)
def lastOf : List UInt8 → Nat
  | [] => 0
  | [b] => b.toNat
  | _ :: c :: r => lastOf (c :: r)

theorem wr_of : ∀ (l : List UInt8) (m : Nat) (hm : m < l.length), (l[m]).toNat < 128 → (∀ j (hj : j < m), 128 ≤ (l[j]).toNat) → Wr (l.take (m + 1)) ∧ lastOf (l.take (m + 1)) = (l[m]).toNat
  | [], m, hm, _, _ => by simp at hm
  | b :: r, 0, _, h, _ => by simpa [Wr, lastOf] using h
  | b :: r, m + 1, hm, h, ha => by
    have hm' : m < r.length := by simpa using hm
    obtain ⟨ih1, ih2⟩ := wr_of r m hm' (by simpa using h) (fun j hj => by have := ha (j + 1) (by omega); simpa using this)
    have hb := ha 0 (by omega)
    simp only [List.getElem_cons_zero] at hb
    rcases r with _ | ⟨c, r⟩
    · simp at hm'
    · simp only [List.take_succ_cons, List.getElem_cons_succ] at ih1 ih2 ⊢
      exact ⟨⟨hb, ih1⟩, ih2⟩

theorem pow7 (i : Nat) : (2 : Nat) ^ (7 * (i + 1)) = 128 * 2 ^ (7 * i) := by rw [Nat.mul_add, Nat.pow_add]; omega
theorem from_val : ∀ (p : List UInt8) (i acc : Nat), Wr p → 0 < (Lib.uvarintFrom i acc p).2 → (Lib.uvarintFrom i acc p).1 = acc + val128 p * 2 ^ (7 * i)
  | [], _, _, h, _ => by simp [Wr] at h
  | [b], i, acc, h, hp => by
    have hb : b.toNat < 128 := h
    simp only [Lib.uvarintFrom] at hp ⊢
    by_cases h10 : i = 10
    · rw [if_pos h10] at hp; simp at hp; omega
    · rw [if_neg h10, if_pos hb] at hp ⊢
      by_cases h9 : i = 9 ∧ 1 < b.toNat
      · rw [if_pos h9] at hp; simp at hp; omega
      · rw [if_neg h9]; simp [val128, Nat.mod_eq_of_lt hb]
  | b :: c :: r, i, acc, h, hp => by
    obtain ⟨hb, hw⟩ := h
    rw [Lib.uvarintFrom] at hp ⊢
    by_cases h10 : i = 10
    · rw [if_pos h10] at hp; simp at hp; omega
    · rw [if_neg h10, if_neg (by omega)] at hp ⊢
      rw [from_val (c :: r) (i + 1) _ hw hp, pow7]
      show _ = acc + (b.toNat % 128 + 128 * val128 (c :: r)) * 2 ^ (7 * i)
      rw [Nat.add_mul, ← Nat.mul_assoc, Nat.mul_comm (val128 (c :: r)) 128]
      omega
/-- a writing of at most ten bytes is read, if its tenth byte is at most 1 -/
theorem from_wr : ∀ (p : List UInt8) (i acc : Nat), Wr p → i + p.length ≤ 10 → (i + p.length = 10 → lastOf p ≤ 1) → Lib.uvarintFrom i acc p = (acc + val128 p * 2 ^ (7 * i), ((i + p.length : Nat) : Int))
  | [], _, _, h, _, _ => by simp [Wr] at h
  | [b], i, acc, h, hi, h1 => by
    have hb : b.toNat < 128 := h
    simp only [List.length_cons, List.length_nil] at hi h1
    simp only [Lib.uvarintFrom]
    rw [if_neg (by omega), if_pos hb, if_neg (fun h9 => by have := h1 (by omega); simp only [lastOf] at this; omega)]
    simp [val128, Nat.mod_eq_of_lt hb]
  | b :: c :: r, i, acc, h, hi, h1 => by
    obtain ⟨hb, hw⟩ := h
    simp only [List.length_cons] at hi h1
    rw [Lib.uvarintFrom, if_neg (by omega), if_neg (by omega)]
    rw [from_wr (c :: r) (i + 1) _ hw (by simp only [List.length_cons]; omega) (fun h => h1 (by simp only [List.length_cons] at h; omega)), pow7]
    have e : acc + b.toNat % 128 * 2 ^ (7 * i) + val128 (c :: r) * (128 * 2 ^ (7 * i)) = acc + (b.toNat % 128 + 128 * val128 (c :: r)) * 2 ^ (7 * i) := by
      rw [Nat.add_mul, ← Nat.mul_assoc, Nat.mul_comm (val128 (c :: r)) 128]; omega
    rw [e]
    show (_, _) = (acc + (b.toNat % 128 + 128 * val128 (c :: r)) * 2 ^ (7 * i), _)
    congr 1
    simp only [List.length_cons]; omega
theorem dec_wr {p : List UInt8} (h : Wr p) (h10 : p.length ≤ 10) (h1 : p.length = 10 → lastOf p ≤ 1) : Lib.uvarintDec p = (val128 p, (p.length : Int)) := by
  unfold Lib.uvarintDec
  rw [from_wr p 0 0 h (by omega) (fun e => h1 (by omega))]
  simp

/-- the shortest writing is no longer, and it is this one if the last byte is not 0, or alone -/
theorem shortest : ∀ (p : List UInt8), Wr p → (Lib.uvarint (val128 p)).length ≤ p.length ∧ (p.length = 1 ∨ lastOf p ≠ 0 → Lib.uvarint (val128 p) = p)
  | [], h => by simp [Wr] at h
  | [b], h => by
    have hb : b.toNat < 128 := h
    have e : val128 [b] = b.toNat := by simp [val128, Nat.mod_eq_of_lt hb]
    have e2 : Lib.uvarint (val128 [b]) = [b] := by
      rw [e, Lib.uvarint_small hb]
      congr 1
      exact byte_ext (toUInt8_small (by omega))
    rw [e2]; exact ⟨Nat.le_refl _, fun _ => rfl⟩
  | b :: c :: r, h => by
    obtain ⟨hb, hw⟩ := h
    have hu := b.toNat_lt
    obtain ⟨ih1, ih2⟩ := shortest (c :: r) hw
    have e : val128 (b :: c :: r) = b.toNat % 128 + 128 * val128 (c :: r) := rfl
    rw [e]
    by_cases h0 : val128 (c :: r) = 0
    · rw [h0, Lib.uvarint_small (by omega)]
      refine ⟨by simp, fun h => ?_⟩
      exfalso
      rcases h with h | h
      · simp at h
      · have := ih2 (.inr h)
        rw [h0, Lib.uvarint_small (by omega)] at this
        injection this with a1 a2
        subst a2
        have : lastOf [c] = 0 := by rw [← a1]; rfl
        exact h this
    · rw [Lib.uvarint_big (by omega), show (b.toNat % 128 + 128 * val128 (c :: r)) / 128 = val128 (c :: r) by omega, show (b.toNat % 128 + 128 * val128 (c :: r)) % 128 + 128 = b.toNat by omega]
      refine ⟨by simp only [List.length_cons] at ih1 ⊢; omega, fun h => ?_⟩
      rcases h with h | h
      · simp at h
      · rw [ih2 (.inr h)]
        congr 1
        exact byte_ext (toUInt8_small hu)
/-- what was read is a writing of the value -/
theorem dec_shortest {l : List UInt8} {m : Nat} (hm : m < l.length) (h1 : (l[m]).toNat < 128) (h2 : ∀ j (hj : j < m), 128 ≤ (l[j]).toNat) {a : Nat} {b : Int} (hd : Lib.uvarintDec (l.take (m + 1)) = (a, b)) (hb : 0 < b) :
    (Lib.uvarint a).length ≤ m + 1 ∧ (m = 0 ∨ (l[m]).toNat ≠ 0 → Lib.uvarint a = l.take (m + 1)) := by
  obtain ⟨hw, hlast⟩ := wr_of l m hm h1 h2
  have hv := from_val (l.take (m + 1)) 0 0 hw (by show 0 < (Lib.uvarintDec _).2; rw [hd]; exact hb)
  have ha : a = val128 (l.take (m + 1)) := by
    have : (Lib.uvarintDec (l.take (m + 1))).1 = a := by rw [hd]
    rw [← this]; unfold Lib.uvarintDec; rw [hv]; simp
  have hl : (l.take (m + 1)).length = m + 1 := by rw [List.length_take]; omega
  obtain ⟨s1, s2⟩ := shortest _ hw
  rw [ha]
  refine ⟨by rw [hl] at s1; exact s1, fun h => s2 ?_⟩
  rcases h with h | h
  · exact .inl (by rw [hl, h])
  · exact .inr (by rw [hlast]; exact h)
end Go.Proofs.Ytklebomhnclcgaa
