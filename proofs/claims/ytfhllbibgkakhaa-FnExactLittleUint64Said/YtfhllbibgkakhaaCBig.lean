/-
  The contract of spec.Big: the number of at most eight bytes, the highest one first. No statement is proved here.
-/
import Derived.Test.YtfhllbibgkakhaaApp
import Derived.Test.YtfhllbibgkakhaaMath
namespace Go.Proofs.Ytfhllbibgkakhaa
open Go.RowKit

theorem big_bound {l : List UInt8} {k : Nat} (h : k < l.length) (h8 : l.length ≤ 8) : Lib.beNat (l.take k) * 256 + l[k].toNat < 18446744073709551616 ∧ Lib.beNat (l.take k) * 256 < 18446744073709551616 := by
  have h1 := beNat_lt (l.take (k + 1))
  rw [beNat_take_succ l k h] at h1
  have h2 : (256 : Nat) ^ (l.take (k + 1)).length ≤ 256 ^ 8 := Nat.pow_le_pow_right (by omega) (by simp; omega)
  have h3 : (256 : Nat) ^ 8 = 18446744073709551616 := by decide
  omega

theorem big_any {w : World} {A : Option Addr} {n c : Nat} {l : List UInt8} (h : Byt w A n c l) (hn : 0 < n) (h8 : n ≤ 8) :
    Calls Try.prog 16 #[.slice A n c] w fun e w' => e = .returned (.int .u64 (Lib.beNat l)) ∧ w = w' := by
  obtain ⟨g, o, rfl, _, hc⟩ := h.cells hn
  have HL := Lib.hid h.len
  have HC := Lib.hid hc
  clear hc h
  go_enter Try.func16, Try.ntmps16
  go_wp2
  go_loop [3, 4] (fun x i => ∃ k : Nat, k ≤ n ∧ i = .int .i64 k ∧ x = .int .u64 (Lib.beNat (l.take k) : Nat)) (fun _ i => n - (intOf i).toNat)
  case atStart => exact ⟨0, by omega, rfl, by simp [Lib.beNat, Lib.beFrom]⟩
  case round =>
    obtain ⟨k, hk, rfl, rfl⟩ := hrel
    by_cases hlt : k < n
    · have hkl : k < l.length := by rw [HL.out]; exact hlt
      have hcell := HC.out k hkl
      have hb := big_bound hkl (by rw [HL.out]; exact h8)
      have hs := beNat_take_succ l k hkl
      have hu := (l[k]).toNat_lt
      generalize (l[k]).toNat = b at *
      generalize Lib.beNat (l.take k) = X at *
      have HS := Lib.hid hs
      have HB := Lib.hid hb
      clear hs hb
      go_wp2
      go_round
      case rel =>
        refine ⟨k + 1, by omega, by go_num, ?_⟩
        rw [HS.out, wu64, wu64]
        have := HB.out
        congr 1
        omega
      case measure => simp [intOf]; omega
    · obtain rfl : k = n := by omega
      have he : l.take k = l := List.take_of_length_le (by rw [HL.out]; exact Nat.le_refl _)
      rw [he]
      clear he
      go_wp2
      go_ret
      exact ⟨rfl, rfl⟩

theorem big_rev {w : World} {A : Option Addr} {n c : Nat} {l : List UInt8} (h : Byt w A n c l.reverse) (hn : 0 < n) (h8 : n ≤ 8) :
    Calls Try.prog 16 #[.slice A n c] w fun e w' => e = .returned (.int .u64 (Lib.leNat l)) ∧ w = w' := by
  rw [← beNat_reverse]; exact big_any h hn h8
end Go.Proofs.Ytfhllbibgkakhaa
