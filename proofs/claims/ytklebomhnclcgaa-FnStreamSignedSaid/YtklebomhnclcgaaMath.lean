/-
  Numbers and their bytes, in plain Lean: no program in sight. No statement is proved here.
-/
import Derived.Lib.EndianMore
import Derived.Lib.Varint
import Derived.Lib.VarintDec
import GoSem.Op.String
namespace Go.Proofs.Ytklebomhnclcgaa

theorem beFrom_append : ∀ (a b : List UInt8) (acc : Nat), Lib.beFrom acc (a ++ b) = Lib.beFrom (Lib.beFrom acc a) b
  | [], b, acc => rfl
  | x :: a, b, acc => by simp only [List.cons_append, Lib.beFrom]; exact beFrom_append a b _
theorem beNat_snoc (l : List UInt8) (b : UInt8) : Lib.beNat (l ++ [b]) = Lib.beNat l * 256 + b.toNat := by
  unfold Lib.beNat; rw [beFrom_append]; rfl
theorem beNat_take_succ (l : List UInt8) (k : Nat) (h : k < l.length) : Lib.beNat (l.take (k + 1)) = Lib.beNat (l.take k) * 256 + l[k].toNat := by
  rw [List.take_succ_eq_append_getElem h, beNat_snoc]
theorem leNat_lt : ∀ (l : List UInt8), Lib.leNat l < 256 ^ l.length
  | [] => by simp [Lib.leNat]
  | b :: r => by
    have h1 := leNat_lt r
    have h2 := b.toNat_lt
    simp only [Lib.leNat, List.length_cons, Nat.pow_succ]
    omega
theorem beNat_lt (l : List UInt8) : Lib.beNat l < 256 ^ l.length := by
  rw [Lib.beNat_eq]; have := leNat_lt l.reverse; simpa using this
theorem beNat_reverse (l : List UInt8) : Lib.beNat l.reverse = Lib.leNat l := by rw [Lib.beNat_eq, List.reverse_reverse]

theorem leBytes_snoc : ∀ (k v : Nat), Lib.leBytes (k + 1) v = Lib.leBytes k v ++ [(v / 256 ^ k % 256).toUInt8]
  | 0, v => by simp [Lib.leBytes]
  | k + 1, v => by
    rw [Lib.leBytes, leBytes_snoc k (v / 256), Lib.leBytes, List.cons_append, Nat.div_div_eq_div_mul, Nat.pow_succ, Nat.mul_comm (256 ^ k) 256]
theorem beBytes_succ (k v : Nat) : Lib.beBytes (k + 1) v = (v / 256 ^ k % 256).toUInt8 :: Lib.beBytes k v := by
  unfold Lib.beBytes; rw [leBytes_snoc, List.reverse_append]; rfl
theorem leBytes_getElem : ∀ (k v j : Nat) (h : j < (Lib.leBytes k v).length), (Lib.leBytes k v)[j].toNat = v / 256 ^ j % 256
  | 0, _, _, h => by simp [Lib.leBytes] at h
  | k + 1, v, 0, h => by simp only [Lib.leBytes, List.getElem_cons_zero, Lib.toUInt8_mod]; simp
  | k + 1, v, j + 1, h => by
    simp only [Lib.leBytes, List.getElem_cons_succ]
    rw [leBytes_getElem k (v / 256) j, Nat.div_div_eq_div_mul, Nat.pow_succ, Nat.mul_comm 256]
theorem beBytes_getElem (k v j : Nat) (h : j < (Lib.beBytes k v).length) : (Lib.beBytes k v)[j].toNat = v / 256 ^ (k - 1 - j) % 256 := by
  have hl := Lib.beBytes_length k v
  have hl2 := Lib.leBytes_length k v
  unfold Lib.beBytes at h ⊢
  rw [List.getElem_reverse, leBytes_getElem, hl2]

theorem byte_ext {a b : UInt8} (h : a.toNat = b.toNat) : a = b := UInt8.toNat_inj.1 h
theorem bytes_ext {a b : List UInt8} (h : a.map UInt8.toNat = b.map UInt8.toNat) : a = b := by
  exact (List.map_inj_right (fun _ _ h => byte_ext h)).1 h

/-- what is read of bytes and written again is those bytes -/
theorem leBytes_leNat : ∀ (l : List UInt8), Lib.leBytes l.length (Lib.leNat l) = l
  | [] => rfl
  | b :: r => by
    have hb := b.toNat_lt
    have h1 : (b.toNat + 256 * Lib.leNat r) % 256 = b.toNat := by omega
    have h2 : (b.toNat + 256 * Lib.leNat r) / 256 = Lib.leNat r := by omega
    simp only [List.length_cons, Lib.leBytes, Lib.leNat, h1, h2, leBytes_leNat r]
    congr 1
    exact byte_ext (by simp [Nat.toUInt8])
theorem beBytes_beNat (l : List UInt8) : Lib.beBytes l.length (Lib.beNat l) = l := by
  have := leBytes_leNat l.reverse
  unfold Lib.beBytes
  rw [Lib.beNat_eq]
  rw [List.length_reverse] at this
  rw [this, List.reverse_reverse]

theorem beNat_cons (x : UInt8) (a : List UInt8) : Lib.beNat (x :: a) = x.toNat * 256 ^ a.length + Lib.beNat a := by
  rw [Lib.beNat_eq a]
  show Lib.beFrom (0 * 256 + x.toNat) a = _
  rw [Lib.beFrom_eq]
  simp
/-- bytes with the highest one first are in the order of their numbers -/
theorem bytesLess_beNat : ∀ (a b : List UInt8), a.length = b.length → Op.bytesLess a b = decide (Lib.beNat a < Lib.beNat b)
  | [], [], _ => by simp [Op.bytesLess]
  | [], _ :: _, h => by simp at h
  | _ :: _, [], h => by simp at h
  | x :: a, y :: b, h => by
    have hl : a.length = b.length := by simpa using h
    have ih := bytesLess_beNat a b hl
    have ha := beNat_lt a
    have hb := beNat_lt b
    rw [hl] at ha
    rw [Op.bytesLess, ih, beNat_cons, beNat_cons, hl]
    generalize 256 ^ b.length = P at *
    generalize Lib.beNat a = na at *
    generalize Lib.beNat b = nb at *
    have hx : decide (x < y) = decide (x.toNat < y.toNat) := by simp [UInt8.lt_iff_toNat_lt]
    have he : (x == y) = (x.toNat == y.toNat) := by
      rw [Bool.eq_iff_iff]; simp [UInt8.toNat_inj]
    rw [hx, he]
    generalize x.toNat = p at *
    generalize y.toNat = q at *
    rcases Nat.lt_trichotomy p q with h1 | h1 | h1
    · have : (p + 1) * P ≤ q * P := Nat.mul_le_mul_right _ h1
      rw [Nat.add_mul] at this
      have h2 : p * P + na < q * P + nb := by omega
      simp [h1, h2]
    · subst h1; simp
    · have : (q + 1) * P ≤ p * P := Nat.mul_le_mul_right _ h1
      rw [Nat.add_mul] at this
      have h2 : ¬ p * P + na < q * P + nb := by omega
      have h3 : ¬ p < q := by omega
      have h4 : ¬ p = q := by omega
      simp [h2, h3, h4]
theorem beBytes_less (k v w : Nat) (hv : v < 256 ^ k) (hw : w < 256 ^ k) : Op.bytesLess (Lib.beBytes k v) (Lib.beBytes k w) = decide (v < w) := by
  rw [bytesLess_beNat _ _ (by simp [Lib.beBytes_length]), Lib.beNat_beBytes k v hv, Lib.beNat_beBytes k w hw]
theorem beBytes_inj (k v w : Nat) (hv : v < 256 ^ k) (hw : w < 256 ^ k) : Lib.beBytes k v = Lib.beBytes k w ↔ v = w :=
  ⟨fun h => by rw [← Lib.beNat_beBytes k v hv, h, Lib.beNat_beBytes k w hw], fun h => by rw [h]⟩

theorem byte_xor (v w j : Nat) : (v ^^^ w) / 256 ^ j % 256 = (v / 256 ^ j % 256) ^^^ (w / 256 ^ j % 256) := by
  have h : (256 : Nat) ^ j = 2 ^ (8 * j) := by rw [Nat.pow_mul]
  rw [h, show (256 : Nat) = 2 ^ 8 from rfl, ← Nat.shiftRight_eq_div_pow, ← Nat.shiftRight_eq_div_pow, ← Nat.shiftRight_eq_div_pow, Nat.shiftRight_xor_distrib, Nat.xor_mod_two_pow]

theorem leBytes_add : ∀ (a b x : Nat), Lib.leBytes (a + b) x = Lib.leBytes a x ++ Lib.leBytes b (x / 256 ^ a)
  | 0, b, x => by simp [Lib.leBytes]
  | a + 1, b, x => by
    rw [show a + 1 + b = (a + b) + 1 by omega, Lib.leBytes, leBytes_add a b (x / 256), Lib.leBytes, List.cons_append, Nat.div_div_eq_div_mul, Nat.pow_succ, Nat.mul_comm (256 ^ a) 256]
theorem leBytes_mod : ∀ (a x : Nat), Lib.leBytes a (x % 256 ^ a) = Lib.leBytes a x
  | 0, x => by simp [Lib.leBytes]
  | a + 1, x => by
    have h1 : x % 256 ^ (a + 1) % 256 = x % 256 := by rw [Nat.pow_succ, Nat.mul_comm, Nat.mod_mul_right_mod]
    have h2 : x % 256 ^ (a + 1) / 256 = x / 256 % 256 ^ a := by rw [Nat.pow_succ, Nat.mul_comm, Nat.mod_mul_right_div_self]
    rw [Lib.leBytes, Lib.leBytes, h1, h2, leBytes_mod a]
/-- the bytes of a number are those of both its halves -/
theorem le_halves (a x : Nat) : Lib.leBytes a (x % 256 ^ a) ++ Lib.leBytes a (x / 256 ^ a) = Lib.leBytes (a + a) x := by rw [leBytes_mod, leBytes_add]
theorem be_halves (a x : Nat) : Lib.beBytes a (x / 256 ^ a) ++ Lib.beBytes a (x % 256 ^ a) = Lib.beBytes (a + a) x := by
  unfold Lib.beBytes; rw [leBytes_mod, leBytes_add, List.reverse_append]
end Go.Proofs.Ytklebomhnclcgaa
