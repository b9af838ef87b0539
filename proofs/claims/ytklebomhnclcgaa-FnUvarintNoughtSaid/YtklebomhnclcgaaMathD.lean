/-
  What is read of bytes as a number of variable length, in plain Lean: no program in sight. No statement is proved here.
-/
import Derived.Test.YtklebomhnclcgaaMathV
namespace Go.Proofs.Ytklebomhnclcgaa

/-- the first ten bytes all ask for one more -/
def openL (l : List UInt8) : Prop := 10 ≤ l.length ∧ ∀ j (h : j < l.length), j < 10 → 128 ≤ (l[j]).toNat

/-- what the reference reads, from place i on -/
def readFrom (i acc : Nat) : List UInt8 → Nat × Int
  | [] => (0, 0)
  | b :: r =>
    if i = 10 then (0, 0)
    else if i = 9 ∧ 1 < b.toNat then (0, -10)
    else if b.toNat < 128 then (acc + b.toNat % 128 * 2 ^ (7 * i), (i : Int) + 1)
    else readFrom (i + 1) (acc + b.toNat % 128 * 2 ^ (7 * i)) r

theorem readFrom_eq : ∀ (l : List UInt8) (i acc : Nat), i ≤ 9 → ¬ (10 - i ≤ l.length ∧ ∀ j (h : j < l.length), j < 10 - i → 128 ≤ (l[j]).toNat) → readFrom i acc l = Lib.uvarintFrom i acc l
  | [], i, acc, _, _ => by simp [readFrom, Lib.uvarintFrom]
  | b :: r, i, acc, hi, ho => by
    have h10 : ¬ i = 10 := by omega
    simp only [readFrom, Lib.uvarintFrom]
    rw [if_neg h10, if_neg h10]
    by_cases hb : b.toNat < 128
    · rw [if_pos hb, if_pos hb]
      by_cases h9 : i = 9 ∧ 1 < b.toNat
      · rw [if_pos h9, if_pos h9]
        obtain ⟨rfl, _⟩ := h9
        rfl
      · rw [if_neg h9, if_neg h9, Nat.mod_eq_of_lt hb]
    · rw [if_neg hb, if_neg hb]
      have hi' : i ≠ 9 := by
        rintro rfl
        apply ho
        refine ⟨by simp, fun j h hj => ?_⟩
        obtain rfl : j = 0 := by omega
        simp only [List.getElem_cons_zero]; omega
      have h9 : ¬ (i = 9 ∧ 1 < b.toNat) := fun h => hi' h.1
      rw [if_neg h9]
      refine readFrom_eq r (i + 1) _ (by omega) (fun hc => ho ⟨by simp only [List.length_cons]; omega, fun j h hj => ?_⟩)
      rcases j with _ | j
      · simp only [List.getElem_cons_zero]; omega
      · simp only [List.getElem_cons_succ]; exact hc.2 j (by simpa using h) (by omega)

theorem read_eq {l : List UInt8} (h : ¬ openL l) : readFrom 0 0 l = Lib.uvarintDec l :=
  readFrom_eq l 0 0 (by omega) (fun hc => h ⟨by simpa using hc.1, fun j hj h10 => hc.2 j hj (by omega)⟩)

/-- where something is read, it ends at a byte that does not ask for more, and what is behind does not matter -/
theorem uvarintFrom_pos : ∀ (l : List UInt8) (i acc : Nat), i ≤ 10 → 0 < (Lib.uvarintFrom i acc l).2 →
    ∃ m : Nat, ∃ h : m < l.length, i + m ≤ 9 ∧ (Lib.uvarintFrom i acc l).2 = (i : Int) + m + 1 ∧ (l[m]).toNat < 128 ∧ (∀ j (hj : j < m), 128 ≤ (l[j]).toNat) ∧
      ∀ r, Lib.uvarintFrom i acc (l.take (m + 1) ++ r) = Lib.uvarintFrom i acc l
  | [], i, acc, _, hp => by simp [Lib.uvarintFrom] at hp
  | b :: r, i, acc, hi, hp => by
    simp only [Lib.uvarintFrom] at hp ⊢
    by_cases h10 : i = 10
    · rw [if_pos h10] at hp; simp at hp; omega
    · rw [if_neg h10] at hp
      by_cases hb : b.toNat < 128
      · rw [if_pos hb] at hp
        by_cases h9 : i = 9 ∧ 1 < b.toNat
        · rw [if_pos h9] at hp; simp at hp; omega
        · refine ⟨0, by simp, by omega, ?_, by simpa using hb, fun j hj => by omega, fun r' => ?_⟩
          · rw [if_neg h10, if_pos hb, if_neg h9]; simp
          · simp only [List.take_succ_cons, List.take_zero, List.cons_append, List.nil_append, Lib.uvarintFrom]
            rw [if_neg h10, if_neg h10, if_pos hb, if_pos hb]
      · rw [if_neg hb] at hp
        obtain ⟨m, hm, h1, h2, h3, h4, h5⟩ := uvarintFrom_pos r (i + 1) _ (by omega) hp
        refine ⟨m + 1, by simp; omega, by omega, ?_, by simpa using h3, fun j hj => ?_, fun r' => ?_⟩
        · rw [if_neg h10, if_neg hb, h2]; omega
        · rcases j with _ | j
          · simp only [List.getElem_cons_zero]; omega
          · simp only [List.getElem_cons_succ]; exact h4 j (by omega)
        · simp only [List.take_succ_cons, List.cons_append, Lib.uvarintFrom]
          rw [if_neg h10, if_neg h10, if_neg hb, if_neg hb, h5 r']
/-- where nothing is read, the value is 0 -/
theorem uvarintFrom_nonpos : ∀ (l : List UInt8) (i acc : Nat), i ≤ 10 → (Lib.uvarintFrom i acc l).2 ≤ 0 → (Lib.uvarintFrom i acc l).1 = 0
  | [], i, acc, _, _ => by simp [Lib.uvarintFrom]
  | b :: r, i, acc, hi, hp => by
    simp only [Lib.uvarintFrom] at hp ⊢
    by_cases h10 : i = 10
    · rw [if_pos h10]
    · rw [if_neg h10] at hp ⊢
      by_cases hb : b.toNat < 128
      · rw [if_pos hb] at hp ⊢
        by_cases h9 : i = 9 ∧ 1 < b.toNat
        · rw [if_pos h9]
        · rw [if_neg h9] at hp; simp at hp; omega
      · rw [if_neg hb] at hp ⊢
        exact uvarintFrom_nonpos r (i + 1) _ (by omega) hp
/-- no more than eleven bytes are told -/
theorem uvarintFrom_ge : ∀ (l : List UInt8) (i acc : Nat), i ≤ 10 → -11 ≤ (Lib.uvarintFrom i acc l).2 ∧ (Lib.uvarintFrom i acc l).2 ≤ 10
  | [], i, acc, _ => by simp [Lib.uvarintFrom]
  | b :: r, i, acc, hi => by
    simp only [Lib.uvarintFrom]
    by_cases h10 : i = 10
    · rw [if_pos h10]; simp; omega
    · rw [if_neg h10]
      by_cases hb : b.toNat < 128
      · rw [if_pos hb]
        by_cases h9 : i = 9 ∧ 1 < b.toNat
        · rw [if_pos h9]; simp; omega
        · rw [if_neg h9]; simp; omega
      · rw [if_neg hb]
        exact uvarintFrom_ge r (i + 1) _ (by omega)

theorem dec_pos {l : List UInt8} (h : 0 < (Lib.uvarintDec l).2) : ∃ m : Nat, ∃ hm : m < l.length, m ≤ 9 ∧ (Lib.uvarintDec l).2 = (m : Int) + 1 ∧ (l[m]).toNat < 128 ∧ (∀ j (hj : j < m), 128 ≤ (l[j]).toNat) ∧
    ∀ r, Lib.uvarintDec (l.take (m + 1) ++ r) = Lib.uvarintDec l := by
  obtain ⟨m, hm, h1, h2, h3, h4, h5⟩ := uvarintFrom_pos l 0 0 (by omega) h
  exact ⟨m, hm, by omega, by unfold Lib.uvarintDec; rw [h2]; simp, h3, h4, h5⟩
theorem dec_nonpos {l : List UInt8} (h : (Lib.uvarintDec l).2 ≤ 0) : (Lib.uvarintDec l).1 = 0 := uvarintFrom_nonpos l 0 0 (by omega) h
theorem dec_ge (l : List UInt8) : -11 ≤ (Lib.uvarintDec l).2 ∧ (Lib.uvarintDec l).2 ≤ 10 := uvarintFrom_ge l 0 0 (by omega)

/-- bytes that all ask for more, then others -/
theorem uvarintFrom_more : ∀ (a : List UInt8) (i acc : Nat) (r : List UInt8), i + a.length ≤ 10 → (∀ b ∈ a, 128 ≤ b.toNat) → ∃ acc', Lib.uvarintFrom i acc (a ++ r) = Lib.uvarintFrom (i + a.length) acc' r
  | [], i, acc, r, _, _ => ⟨acc, rfl⟩
  | b :: a, i, acc, r, hi, hm => by
    have hb := hm b (by simp)
    simp only [List.length_cons] at hi
    obtain ⟨acc', h⟩ := uvarintFrom_more a (i + 1) (acc + b.toNat % 128 * 2 ^ (7 * i)) r (by omega) (fun c hc => hm c (by simp [hc]))
    refine ⟨acc', ?_⟩
    simp only [List.cons_append, Lib.uvarintFrom]
    rw [if_neg (by omega), if_neg (by omega), h]
    congr 1
    simp only [List.length_cons]; omega
/-- ten bytes that all ask for more alone -/
theorem dec_ten {a : List UInt8} (h : a.length = 10) (hm : ∀ b ∈ a, 128 ≤ b.toNat) : Lib.uvarintDec a = (0, 0) := by
  obtain ⟨acc, e⟩ := uvarintFrom_more a 0 0 [] (by omega) hm
  rw [List.append_nil] at e
  unfold Lib.uvarintDec
  rw [e]
  simp [Lib.uvarintFrom]
/-- .. and one byte more -/
theorem dec_eleven {a : List UInt8} (h : a.length = 10) (hm : ∀ b ∈ a, 128 ≤ b.toNat) (b : UInt8) (r : List UInt8) : Lib.uvarintDec (a ++ b :: r) = (0, -11) := by
  obtain ⟨acc, e⟩ := uvarintFrom_more a 0 0 (b :: r) (by omega) hm
  unfold Lib.uvarintDec
  rw [e]
  simp [Lib.uvarintFrom, h]
theorem dec_long {a : List UInt8} (h : a.length = 10) (hm : ∀ b ∈ a, 128 ≤ b.toNat) (r : List UInt8) : (Lib.uvarintDec (a ++ r)).1 = 0 ∧ (Lib.uvarintDec (a ++ r)).2 ≤ 0 := by
  rcases r with _ | ⟨b, r⟩
  · rw [List.append_nil, dec_ten h hm]; simp
  · rw [dec_eleven h hm]; simp
/-- nine bytes that ask for more, and a tenth one from 2 to 127 -/
theorem dec_over {a : List UInt8} (h : a.length = 9) (hm : ∀ b ∈ a, 128 ≤ b.toNat) (b : UInt8) (h2 : 2 ≤ b.toNat) (h127 : b.toNat ≤ 127) (r : List UInt8) : Lib.uvarintDec (a ++ b :: r) = (0, -10) := by
  obtain ⟨acc, e⟩ := uvarintFrom_more a 0 0 (b :: r) (by omega) hm
  unfold Lib.uvarintDec
  rw [e]
  simp only [Lib.uvarintFrom, h]
  rw [if_neg (by omega), if_pos (by omega), if_pos ⟨trivial, by omega⟩]
  rfl
end Go.Proofs.Ytklebomhnclcgaa
