/-
  A number with bytes of nothing behind, in plain Lean: no program in sight. No statement is proved here.
-/
import Derived.Test.YtklebomhnclcgaaMathW
import Derived.Test.YtklebomhnclcgaaCOr
namespace Go.Proofs.Ytklebomhnclcgaa

theorem wr_cons {b : UInt8} {r : List UInt8} (hb : 128 ≤ b.toNat) (h : Wr r) : Wr (b :: r) := by
  rcases r with _ | ⟨c, r⟩
  · simp [Wr] at h
  · exact ⟨hb, h⟩
theorem last_cons (b : UInt8) {r : List UInt8} (h : Wr r) : lastOf (b :: r) = lastOf r := by
  rcases r with _ | ⟨c, r⟩
  · simp [Wr] at h
  · rfl
/-- the last byte is made to ask for more -/
def askLast (l : List UInt8) : List UInt8 := l.set (l.length - 1) (((l.getD (l.length - 1) 0).toNat % 128 + 128).toUInt8)
theorem askLast_length (l : List UInt8) : (askLast l).length = l.length := by simp [askLast]
theorem askLast_cons (b c : UInt8) (r : List UInt8) : askLast (b :: c :: r) = b :: askLast (c :: r) := by
  simp [askLast, List.getD]
theorem noughts : ∀ m : Nat, Wr (List.replicate m 128 ++ [0]) ∧ val128 (List.replicate m (128 : UInt8) ++ [0]) = 0 ∧ lastOf (List.replicate m 128 ++ [0]) = 0
  | 0 => ⟨by show (0 : UInt8).toNat < 128; decide, rfl, rfl⟩
  | m + 1 => by
    obtain ⟨h1, h2, h3⟩ := noughts m
    rw [List.replicate_succ, List.cons_append]
    refine ⟨wr_cons (by decide) h1, ?_, by rw [last_cons _ h1, h3]⟩
    show (128 : UInt8).toNat % 128 + 128 * val128 (List.replicate m 128 ++ [0]) = 0
    rw [h2]; decide
theorem nought (m : Nat) (x : Nat) : Wr (askLast (Lib.uvarint x) ++ (List.replicate m 128 ++ [0])) ∧ val128 (askLast (Lib.uvarint x) ++ (List.replicate m 128 ++ [0])) = x ∧ lastOf (askLast (Lib.uvarint x) ++ (List.replicate m 128 ++ [0])) = 0 := by
  obtain ⟨h1, h2, h3⟩ := noughts m
  induction x using Nat.strongRecOn with
  | ind x ih =>
    by_cases hx : x < 128
    · rw [Lib.uvarint_small hx]
      have e : askLast [x.toUInt8] = [(x + 128).toUInt8] := by
        simp only [askLast, List.length_cons, List.length_nil, List.getD, List.getElem?_cons_zero, Option.getD_some, List.set_cons_zero, Nat.zero_add, Nat.sub_self]
        rw [toUInt8_small (by omega), Nat.mod_eq_of_lt hx]
      rw [e, List.singleton_append]
      have eb : ((x + 128).toUInt8).toNat = x + 128 := toUInt8_small (by omega)
      refine ⟨wr_cons (by omega) h1, ?_, by rw [last_cons _ h1, h3]⟩
      show ((x + 128).toUInt8).toNat % 128 + 128 * val128 (List.replicate m 128 ++ [0]) = x
      rw [h2, eb]; omega
    · rw [Lib.uvarint_big (by omega)]
      obtain ⟨i1, i2, i3⟩ := ih (x / 128) (by omega)
      have hp := Lib.uvarint_pos (x / 128)
      generalize Lib.uvarint (x / 128) = u at *
      rcases u with _ | ⟨c, r⟩
      · simp at hp
      · rw [askLast_cons, List.cons_append]
        have eb : ((x % 128 + 128).toUInt8).toNat = x % 128 + 128 := toUInt8_small (by omega)
        refine ⟨wr_cons (by omega) i1, ?_, by rw [last_cons _ i1, i3]⟩
        show ((x % 128 + 128).toUInt8).toNat % 128 + 128 * val128 (askLast (c :: r) ++ (List.replicate m 128 ++ [0])) = x
        rw [i2, eb]; omega
theorem askLast_eq {z : List UInt8} {m : Nat} (h : z.length = m + 1) : askLast z = z.set m (((z[m]'(by omega)).toNat % 128 + 128).toUInt8) := by
  have e : z.length - 1 = m := by omega
  unfold askLast
  rw [e]
  congr 3
  simp [List.getD, List.getElem?_eq_getElem (show m < z.length by omega)]
theorem dec_nought (m x : Nat) (h : (Lib.uvarint x).length + m + 1 ≤ 10) : Lib.uvarintDec (askLast (Lib.uvarint x) ++ List.replicate m 128 ++ [0]) = (x, (((Lib.uvarint x).length + m + 1 : Nat) : Int)) := by
  obtain ⟨h1, h2, h3⟩ := nought m x
  have hl : (askLast (Lib.uvarint x) ++ (List.replicate m 128 ++ [0])).length = (Lib.uvarint x).length + m + 1 := by simp [askLast_length]; omega
  rw [List.append_assoc, dec_wr h1 (by omega) (fun _ => by omega), h2, hl]
end Go.Proofs.Ytklebomhnclcgaa
