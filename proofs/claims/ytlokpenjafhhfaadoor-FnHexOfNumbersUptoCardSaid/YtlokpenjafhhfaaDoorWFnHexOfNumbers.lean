/-
  The walk of FnHexOfNumbers. No statement is proved here.
-/
import Derived.Test.YtlokpenjafhhfaaDoorCApU
import Derived.Test.YtlokpenjafhhfaaDoorCRdU
import Derived.Test.YtlokpenjafhhfaaDoorCHex
import Derived.Test.YtlokpenjafhhfaaDoorNums
namespace Go.Proofs.YtlokpenjafhhfaaDoor
open Go.RowKit
set_option linter.unusedVariables false

set_option maxHeartbeats 2000000 in
set_option maxRecDepth 100000 in
theorem fnHexOfNumbers_walk (w : World) (ev : Value) (hE : w.cell? ⟨2, 0, none⟩ = some ev) (A0 : Option Addr) (n0 c0 : Nat) (l0 : List Int) (h0 : Nums .u64 w A0 n0 c0 l0) (s0 : c0 * 8 ≤ 140737488351232) (hub : c0 ≤ 1048576) :
    Calls Tryd.prog 3 #[.slice A0 n0 c0] w fun e w' => e = .returned (.bool true) ∧ Below w.heap.size w w' := by
  have hcap := h0.cap
  have hlt64 : ∀ z ∈ l0, Int.toNat z < 18446744073709551616 := fun z hz => by have := wf_u64 (h0.wf z hz); omega
  have HT := Lib.hid (fun k => Nat.le_trans (encs_len (Int.toNat) (l0.take k) (fun z hz => hlt64 z (List.mem_of_mem_take hz))) (show 10 * (l0.take k).length ≤ 10 * n0 by rw [List.length_take, h0.len]; omega))
  have HDL := Lib.hid (fun k => Nat.le_trans (encs_len (Int.toNat) (l0.drop k) (fun z hz => hlt64 z (List.mem_of_mem_drop hz))) (show 10 * (l0.drop k).length ≤ 10 * n0 by rw [List.length_drop, h0.len]; omega))
  have HL := Lib.hid h0.len
  have HW := Lib.hid (fun k (hk : k < l0.length) => wf_u64 (h0.wf _ (List.getElem_mem hk)))
  have HC : Hid (∀ k (hk : k < l0.length), ∃ g o, A0 = some ⟨g, o, none⟩ ∧ g < w.heap.size ∧ w.cell? ⟨g, o + k, none⟩ = some (.int .u64 (l0[k]))) := Lib.hid fun k hk => by
    obtain ⟨g, o, h1, h2, h3⟩ := h0.cells (by rw [← h0.len]; omega)
    exact ⟨g, o, h1, h2, h3 k hk⟩
  have HN := Lib.hid (show encs (Int.toNat) (l0.drop n0) = [] by rw [← h0.len, List.drop_length]; rfl)
  have HF := Lib.hid (show encs (Int.toNat) (l0.take n0) = encs (Int.toNat) (l0.drop 0) by rw [← h0.len, List.take_length, List.drop_zero])
  have HE := Lib.hid hE
  have HElt := Lib.hid (World.block_lt_of_cell? w _ hE)
  clear hlt64 h0 hE
  go_enter Tryd.func3, Tryd.ntmps3
  go_wp2
  go_loopw [3, 4] (fun v i wr => ∃ (k : Nat) (g o : Nat) (n' c' : Nat), k ≤ n0 ∧ i = .int .i64 k ∧ v = .slice (some ⟨g, o, none⟩) n' c' ∧ g < wr.heap.size ∧ Byt wr (some ⟨g, o, none⟩) n' c' (encs (Int.toNat) (l0.take k)) ∧ Below w.heap.size w wr) (fun _ i _ => n0 - (intOf i).toNat)
  case atStart => exact ⟨0, w.heap.size, 0, 0, 0, by omega, rfl, rfl, by simp, by rw [List.take_zero]; exact Byt.empty_ _ _, (Below.refl _ _).alloc (Nat.le_refl _) _⟩
  case round =>
    obtain ⟨k, g', o', n', c', hk, rfl, rfl, hg', hby, hbel⟩ := hrel
    by_cases hlt : k < n0
    · have hkl : k < l0.length := by rw [HL.out]; exact hlt
      obtain ⟨g, o, rfl, hg, hcell0⟩ := HC.out k hkl
      have hcell := (hbel.cell (p := ⟨g, o + k, none⟩) hg).trans hcell0
      have HE := Lib.hid (encs_take (Int.toNat) l0 k hkl)
      have hz := HW.out k hkl
      have hn' : n' + 10 ≤ 140737488355328 := by have := HT.out k; rw [hby.len] at this; omega
      clear hcell0 HC HW HT HDL HN HF
      generalize l0[k] = z at *
      obtain ⟨x, rfl⟩ := Int.eq_ofNat_of_zero_le hz.1
      simp only [Int.toNat_natCast] at *
      have hx : x < 18446744073709551616 := by omega
      go_wp2_with fail
      refine (ap_U hby x hx hn').mono ?_
      rintro e w2 ⟨A2, c2, rfl, ho2, hb2⟩
      have hB := hbel.trans (hb2.mono hbel.size)
      have b2 := Byt.of_own ho2
      obtain ⟨g2, o2, rfl, hg2, _⟩ := b2.cells (by have := Lib.uvarint_pos x; omega)
      clear ho2 hby hb2 hbel hcell
      go_wp2
      go_roundw
      case rel => exact ⟨k + 1, g2, o2, _, c2, by omega, by go_num, rfl, hg2, by rw [HE.out]; exact b2, hB⟩
      case measure => simp [intOf]; omega
    · obtain rfl : k = n0 := by omega
      rw [HF.out] at hby
      have hn' : n' ≤ 10485760 := by have := HDL.out 0; rw [hby.len] at this; omega
      have HLn := Lib.hid hby.len
      clear HF HT
      go_wp2_with fail
      refine (enc_at hby hg' (by omega)).mono ?_
      rintro e w2 ⟨rfl, hb2⟩
      have hB2 := hbel.trans (hb2.mono hbel.size)
      have hE2 := (hB2.cell (p := ⟨2, 0, none⟩) HElt.out).trans HE.out
      have HD2 := Lib.hid (dec_enc_any w2 (encs Int.toNat (l0.drop 0)) ev hE2 (by rw [HLn.out]; omega))
      clear hb2 hbel hE2 hby
      go_wp2_with fail
      refine HD2.out.mono ?_
      rintro e w3 ⟨A3, c3, rfl, b3, hb3⟩
      have hB3 := hB2.trans (hb3.mono hB2.size)
      clear hb3 hB2 HD2
      rw [HLn.out] at b3 ⊢
      clear HLn
      go_wp2
      go_loopw [5, 7] (fun v i wr => ∃ (k2 : Nat) (A' : Option Addr) (n' c' : Nat), k2 ≤ k ∧ i = .int .i64 k2 ∧ v = .slice A' n' c' ∧ Byt wr A' n' c' (encs (Int.toNat) (l0.drop k2)) ∧ wr.cell? ⟨w3.heap.size, 0, none⟩ = some (.bool false) ∧ Below w.heap.size w wr) (fun _ i _ => k - (intOf i).toNat)
      case atStart => exact ⟨0, A3, n', c3, by omega, rfl, rfl, b3.alloc _, World.cell?_alloc_at _ _ _ _ rfl, hB3.alloc hB3.size _⟩
      case round =>
        clear b3 hB3
        obtain ⟨k2, A2, n2, c2, hk2, rfl, rfl, hby, hfc, hbel⟩ := hrel
        by_cases hlt2 : k2 < k
        · have hkl : k2 < l0.length := by rw [HL.out]; exact hlt2
          obtain ⟨g, o, rfl, hg, hcell0⟩ := HC.out k2 hkl
          have hcell := (hbel.cell (p := ⟨g, o + k2, none⟩) hg).trans hcell0
          have hz := HW.out k2 hkl
          have HE := Lib.hid (encs_drop (Int.toNat) l0 k2 hkl)
          have hn2 : n2 ≤ 10485760 := by have := HDL.out k2; rw [hby.len] at this; omega
          clear hcell0 HC HW HDL HN
          generalize l0[k2] = z at *
          obtain ⟨x, rfl⟩ := Int.eq_ofNat_of_zero_le hz.1
          simp only [Int.toNat_natCast] at *
          have hx : x < 18446744073709551616 := by omega
          have hlen := hby.len
          rw [HE.out] at hby hlen
          rw [List.length_append] at hlen
          have hp := Lib.uvarint_pos (x)
          have HD := Lib.hid (dec_enc x hx (encs Int.toNat (l0.drop (k2 + 1))))
          have hdrop := hby.drop (k := (Lib.uvarint (x)).length) (by omega)
          rw [List.drop_append_of_le_length (Nat.le_refl _), List.drop_length, List.nil_append] at hdrop
          have hcap2 := hby.cap
          generalize (Lib.uvarint (x)).length = L at *
          have hL2 : L ≤ n2 := by omega
          have hpos : 0 < n2 := by omega
          have hL1 : decide ((L : Int) ≤ 0) = false := by simp; omega
          have hL3 : decide ((n2 : Int) < (L : Int)) = false := by simp; omega
          have hL4 : decide ((k : Int) ≤ (k2 : Int)) = false := by simp; omega
          have hcut := fun W => run_cut_l (P := Tryd.prog) W 23 A2 n2 c2 Tryd.underlying23 (by kernel_rfl) .i64 (L : Int) (by omega) (by omega)
          simp only [Int.toNat_natCast] at hcut
          clear hlen HE
          go_wp2_with fail
          refine (rd_U hby HD.out).mono ?_
          rintro e w5 ⟨rfl, rfl⟩
          clear HD hby
          go_wp2
          go_roundw
          case rel => exact ⟨k2 + 1, _, _, _, by omega, by go_num, rfl, hdrop, hfc, hbel⟩
          case measure => simp [intOf]; omega
        · obtain rfl : k2 = k := by omega
          have hl := hby.len
          rw [HN.out] at hl
          simp only [List.length_nil] at hl
          subst hl
          clear HC HW HDL HN hby
          go_wp2
          go_ret
          exact ⟨rfl, hbel⟩
end Go.Proofs.YtlokpenjafhhfaaDoor
