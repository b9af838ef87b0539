/-
  The walk of FnUvarintNought. No statement is proved here.
-/
import Derived.Test.YtklebomhnclcgaaCApU
import Derived.Test.YtklebomhnclcgaaCRdU
import Derived.Test.YtklebomhnclcgaaMathX
namespace Go.Proofs.Ytklebomhnclcgaa
open Go.RowKit
set_option linter.unusedVariables false

set_option maxHeartbeats 1000000 in
set_option maxRecDepth 100000 in
theorem fnUvarintNought_walk (w : World) (x0 : Nat) (g0 : x0 < 18446744073709551616) (x1 : Nat) (g1 : x1 < 256) :
    Calls Try.prog 4 #[.int .u64 x0, .int .u8 x1] w fun e w' => e = .returned (.bool true) ∧ Below w.heap.size w w' := by
  have h10 := Lib.uvarint_length64 g0
  have hp := Lib.uvarint_pos x0
  obtain ⟨N, hN⟩ : ∃ N : Nat, N = x1 % 10 := ⟨_, rfl⟩
  have hrem : Int.tmod (x1 : Int) 10 = (N : Int) := by rw [hN, Int.tmod_eq_emod_of_nonneg (by omega)]; omega
  have hN10 : N < 10 := by omega
  have hemod : (x1 : Int) % 10 = (N : Int) := by omega
  clear hN
  by_cases hz : N = 0 ∨ 10 < (Lib.uvarint x0).length + N
  · go_enter Try.func4, Try.ntmps4
    go_wp2_with fail
    refine (ap_U_e w x0 g0).mono ?_
    rintro e w2 ⟨A2, c2, rfl, ho2, hb2⟩
    clear ho2
    generalize (Lib.uvarint x0).length = L at *
    rcases Nat.eq_zero_or_pos N with h0 | h0
    · subst h0
      clear hz
      go_wp2
      go_ret
      exact ⟨rfl, hb2⟩
    · have hz2 : 10 < L + N := by omega
      clear hz
      go_wp2
      go_ret
      exact ⟨rfl, hb2⟩
  · have hN1 : 1 ≤ N := by omega
    have hLN : (Lib.uvarint x0).length + N ≤ 10 := by omega
    have HD := Lib.hid (dec_nought (N - 1) x0 (by omega))
    clear hz
    go_enter Try.func4, Try.ntmps4
    go_wp2_with fail
    refine (ap_U_e w x0 g0).mono ?_
    rintro e w2 ⟨A2, c2, rfl, ho2, hb2⟩
    obtain ⟨g, c, hv, hgb, hgs⟩ := own_block ho2 (by omega)
    injection hv with hv1 hv2 hv3
    subst hv1 hv3
    generalize Lib.uvarint x0 = z at *
    obtain ⟨m, hm⟩ : ∃ m, z.length = m + 1 := ⟨z.length - 1, by omega⟩
    have HL := Lib.hid hm
    have HA := Lib.hid (askLast_eq hm)
    rw [hm] at ho2 HD hLN h10 hp ⊢
    have hcell : w2.cell? ⟨g, m, none⟩ = some (.int .u8 ((z[m]'(by omega)).toNat : Int)) := by
      rw [ho2.cellAt m (by omega)]
      simp [Lib.byteCells, List.getElem?_eq_getElem (show m < z.length by omega)]
    have hf0 := ho2.frozenAt m
    have hor := or128_bits (z[m]'(by omega))
    have HS := Lib.hid (ho2.stored m (.int .u8 ((((z[m]'(by omega)).toNat % 128 + 128 : Nat) : Int)))).1
    generalize hq : (z[m]'(by omega)).toNat % 128 + 128 = q at hor HA HS
    have hq2 : q < 256 := by omega
    generalize (z[m]'(by omega)).toNat = bt at *
    have hsz := hb2.size
    clear hq hm ho2
    have HO : Hid ((w2.setCell ⟨g, m, none⟩ (.int .u8 (q : Int))).ownsRow w.heap.size 5 1 (.slice (some ⟨g, 0, none⟩) (m + 1) c2) (m + 1) (Lib.byteCells (askLast z))) := by
      have := HS.out
      rw [HA.out]
      have e : Lib.byteCells (z.set m q.toUInt8) = (Lib.byteCells z).set m (.int .u8 (q : Int)) := by
        simp only [Lib.byteCells, List.map_set]
        rw [toUInt8_small hq2]
      rw [e]
      exact Lib.hid this
    have HBS := Lib.hid (fun v => hb2.setCell (p := ⟨g, m, none⟩) hgb v)
    clear HS HA hb2
    have hm0 : (((m : Int) + 1) == 0) = false := by simp; omega
    have hNe : ((N : Int) == 0) = false := by simp; omega
    have hNl : decide ((10 : Int) < (m : Int) + 1 + (N : Int)) = false := by simp; omega
    go_wp2
    clear hNe hNl hrem hemod
    go_loopw [5, 7] (fun v i wr => ∃ (j : Nat) (A' : Option Addr) (c' : Nat), j + 1 ≤ N ∧ i = .int .i64 ((j : Int) + 1) ∧ v = .slice A' (m + 1 + j) c' ∧ wr.ownsRow w.heap.size 5 1 (.slice A' (m + 1 + j) c') (m + 1 + j) (Lib.byteCells (askLast z ++ List.replicate j 128)) ∧ Below w.heap.size w wr) (fun _ i _ => N - (intOf i).toNat)
    case atStart => exact ⟨0, _, _, hN1, rfl, rfl, by rw [List.replicate_zero, List.append_nil]; exact HO.out, HBS.out _⟩
    case round =>
      obtain ⟨j, A', c', hj, rfl, rfl, hown, hbel⟩ := hrel
      have hsz2 := hbel.size
      by_cases hlt : j + 1 < N
      · have HR := Lib.hid (show askLast z ++ List.replicate (j + 1) 128 = askLast z ++ List.replicate j 128 ++ [(128 : Nat).toUInt8] by rw [List.replicate_succ', List.append_assoc]; rfl)
        clear HD HO HBS
        go_wp2_with (at_builtin; refine wpList_append_byt _ rfl _ _ _ rfl w.heap.size 5 brow _ _ _ rfl (hown.alloc _) _ 1 1 [(128 : Nat).toUInt8] rfl (Byt.one wr _ 128 (by decide)) (by omega) (by simp; omega) ?_; intro A2 c3 w3 ho3 hb3 hg3)
        go_roundw
        case rel => exact ⟨j + 1, A2, c3, by omega, by go_num, rfl, by rw [HR.out]; exact ho3, (hbel.alloc hbel.size _).trans hb3⟩
        case measure => simp [intOf]; omega
      · obtain rfl : N = j + 1 := by omega
        rw [Nat.add_sub_cancel] at HD
        go_wp2_with (at_builtin; refine wpList_append_byt _ rfl _ _ _ rfl w.heap.size 5 brow _ _ _ rfl (hown.alloc _) _ 1 1 [(0 : Nat).toUInt8] rfl (Byt.one wr _ 0 (by decide)) (by omega) (by simp; omega) ?_; intro A2 c3 w3 ho3 hb3 hg3)
        have hB := (hbel.alloc hbel.size _).trans hb3
        have b3 := Byt.of_own ho3
        clear ho3 hb3 hg3 hown hbel HO HBS
        refine (rd_U b3 HD.out).mono ?_
        rintro e w5 ⟨rfl, rfl⟩
        clear HD b3
        go_wp2
        go_ret
        exact ⟨ret_bool (by simp; try omega), hB⟩
end Go.Proofs.Ytklebomhnclcgaa
