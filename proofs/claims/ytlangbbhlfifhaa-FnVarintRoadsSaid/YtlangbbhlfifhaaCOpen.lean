/-
  The contract of spec.Open: whether the first ten bytes all ask for one more. No statement is proved here.
-/
import Derived.Test.YtlangbbhlfifhaaApp
import Derived.Test.YtlangbbhlfifhaaMathD
namespace Go.Proofs.Ytlangbbhlfifhaa
open Go.RowKit

theorem open_yes {w : World} {A : Option Addr} {n c : Nat} {l : List UInt8} (h : Byt w A n c l) (ho : openL l) :
    Calls Try.prog 17 #[.slice A n c] w fun e w' => e = .returned (.bool true) ∧ w = w' := by
  have hn : 10 ≤ n := by have := ho.1; rwa [h.len] at this
  obtain ⟨g, o, rfl, _, hc⟩ := h.cells (by omega)
  have hbig := h.big
  have hcap := h.cap
  have HL := Lib.hid h.len
  have HC := Lib.hid hc
  have HO := Lib.hid ho
  clear hc h ho
  go_enter Try.func17, Try.ntmps17
  go_wp2
  go_loop [3] (fun i => ∃ k : Nat, k ≤ 10 ∧ i = .int .i64 k) (fun i => 10 - (intOf i).toNat)
  case atStart => exact ⟨0, by omega, rfl⟩
  case round =>
    obtain ⟨k, hk, rfl⟩ := hrel
    by_cases hlt : k < 10
    · have hkl : k < l.length := by rw [HL.out]; omega
      have hcell := HC.out k hkl
      have hm := HO.out.2 k hkl hlt
      generalize (l[k]).toNat = b at *
      go_wp2
      go_round
      case rel => exact ⟨k + 1, by omega, by go_num⟩
      case measure => simp [intOf]; omega
    · obtain rfl : k = 10 := by omega
      go_wp2
      go_ret
      exact ⟨rfl, rfl⟩

theorem open_no {w : World} {A : Option Addr} {n c : Nat} {l : List UInt8} (h : Byt w A n c l) (ho : ¬ openL l) :
    Calls Try.prog 17 #[.slice A n c] w fun e w' => e = .returned (.bool false) ∧ w = w' := by
  have hbig := h.big
  have hcap := h.cap
  rcases Nat.eq_zero_or_pos n with h0 | h0
  · subst h0
    clear h ho
    go_enter Try.func17, Try.ntmps17
    go_wp2
    go_loop [3] (fun i => i = .int .i64 0) (fun i => 10 - (intOf i).toNat)
    case atStart => rfl
    case round =>
      subst hrel
      go_wp2
      go_ret
      exact ⟨rfl, rfl⟩
  · obtain ⟨g, o, rfl, _, hc⟩ := h.cells h0
    have HL := Lib.hid h.len
    have HC := Lib.hid hc
    have HO := Lib.hid ho
    clear hc h ho
    go_enter Try.func17, Try.ntmps17
    go_wp2
    go_loop [3] (fun i => ∃ k : Nat, k ≤ 10 ∧ k ≤ n ∧ i = .int .i64 k ∧ Hid (∀ j (h : j < l.length), j < k → 128 ≤ (l[j]).toNat)) (fun i => 10 - (intOf i).toNat)
    case atStart => exact ⟨0, by omega, by omega, rfl, fun j _ hj => absurd hj (by omega)⟩
    case round =>
      obtain ⟨k, hk, hkn, rfl, hall⟩ := hrel
      have h10 : k < 10 := by
        rcases Nat.lt_or_ge k 10 with h | h
        · exact h
        · exact absurd ⟨by rw [HL.out]; omega, fun j hj h10 => hall.out j hj (by omega)⟩ HO.out
      by_cases hlt : k < n
      · have hkl : k < l.length := by rw [HL.out]; omega
        have hcell := HC.out k hkl
        by_cases hb : (l[k]).toNat < 128
        · generalize (l[k]).toNat = b at *
          go_wp2
          go_ret
          exact ⟨rfl, rfl⟩
        · have HB := Lib.hid hb
          have hb2 : 128 ≤ (l[k]).toNat := by omega
          clear hb
          generalize hbk : (l[k]).toNat = b at hcell hb2
          have HBK := Lib.hid hbk
          clear hbk
          go_wp2
          go_round
          case rel =>
            refine ⟨k + 1, by omega, by omega, by go_num, fun j hj hjk => ?_⟩
            rcases Nat.lt_or_ge j k with h | h
            · exact hall.out j hj h
            · obtain rfl : j = k := by omega
              have := HB.out
              omega
          case measure => simp [intOf]; omega
      · obtain rfl : k = n := by omega
        go_wp2
        go_ret
        exact ⟨rfl, rfl⟩
end Go.Proofs.Ytlangbbhlfifhaa
