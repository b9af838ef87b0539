/-
  The walk of FnStreamSigned. No statement is proved here.
-/
import Derived.Test.YtklebomhnclcgaaCApWide
import Derived.Test.YtklebomhnclcgaaCRdV
import Derived.Test.YtklebomhnclcgaaNums
namespace Go.Proofs.Ytklebomhnclcgaa
open Go.RowKit
set_option linter.unusedVariables false

set_option maxHeartbeats 1000000 in
set_option maxRecDepth 100000 in
theorem fnStreamSigned_walk (w : World) (A0 : Option Addr) (n0 c0 : Nat) (l0 : List Int) (h0 : Nums .i64 w A0 n0 c0 l0) (s0 : c0 * 8 ≤ 140737488351232) :
    Calls Try.prog 7 #[.slice A0 n0 c0] w fun e w' => e = .returned (.bool true) ∧ Below w.heap.size w w' := by
  have hcap := h0.cap
  have hlt64 : ∀ z ∈ l0, Lib.zigzag z < 18446744073709551616 := fun z hz => by have := wf_i64 (h0.wf z hz); exact zigzag_lt this.1 this.2
  have HT := Lib.hid (fun k => Nat.le_trans (encs_len (Lib.zigzag) (l0.take k) (fun z hz => hlt64 z (List.mem_of_mem_take hz))) (show 10 * (l0.take k).length ≤ 10 * n0 by rw [List.length_take, h0.len]; omega))
  have HDL := Lib.hid (fun k => Nat.le_trans (encs_len (Lib.zigzag) (l0.drop k) (fun z hz => hlt64 z (List.mem_of_mem_drop hz))) (show 10 * (l0.drop k).length ≤ 10 * n0 by rw [List.length_drop, h0.len]; omega))
  have HL := Lib.hid h0.len
  have HW := Lib.hid (fun k (hk : k < l0.length) => wf_i64 (h0.wf _ (List.getElem_mem hk)))
  have HC : Hid (∀ k (hk : k < l0.length), ∃ g o, A0 = some ⟨g, o, none⟩ ∧ g < w.heap.size ∧ w.cell? ⟨g, o + k, none⟩ = some (.int .i64 (l0[k]))) := Lib.hid fun k hk => by
    obtain ⟨g, o, h1, h2, h3⟩ := h0.cells (by rw [← h0.len]; omega)
    exact ⟨g, o, h1, h2, h3 k hk⟩
  have HN := Lib.hid (show encs (Lib.zigzag) (l0.drop n0) = [] by rw [← h0.len, List.drop_length]; rfl)
  have HF := Lib.hid (show encs (Lib.zigzag) (l0.take n0) = encs (Lib.zigzag) (l0.drop 0) by rw [← h0.len, List.take_length, List.drop_zero])
  clear hlt64 h0
  go_enter Try.func7, Try.ntmps7
  go_wp2
  go_loopw [3, 4] (fun v i wr => ∃ (k : Nat) (A' : Option Addr) (n' c' : Nat), k ≤ n0 ∧ i = .int .i64 k ∧ v = .slice A' n' c' ∧ Byt wr A' n' c' (encs (Lib.zigzag) (l0.take k)) ∧ Below w.heap.size w wr) (fun _ i _ => n0 - (intOf i).toNat)
  case atStart => exact ⟨0, some ⟨w.heap.size, 0, none⟩, 0, 0, by omega, rfl, rfl, by rw [List.take_zero]; exact Byt.empty_ _ _, (Below.refl _ _).alloc (Nat.le_refl _) _⟩
  case round =>
    obtain ⟨k, A', n', c', hk, rfl, rfl, hby, hbel⟩ := hrel
    by_cases hlt : k < n0
    · have hkl : k < l0.length := by rw [HL.out]; exact hlt
      obtain ⟨g, o, rfl, hg, hcell0⟩ := HC.out k hkl
      have hcell := (hbel.cell (p := ⟨g, o + k, none⟩) hg).trans hcell0
      have HE := Lib.hid (encs_take (Lib.zigzag) l0 k hkl)
      have hz := HW.out k hkl
      have hn' : n' + 10 ≤ 200000000000000 := by have := HT.out k; rw [hby.len] at this; omega
      clear hcell0 HC HW HT HDL HN HF
      generalize l0[k] = z at *
      obtain ⟨hz0, hz1⟩ := hz
      go_wp2_with fail
      refine (ap_V_wide hby z hz0 hz1 hn').mono ?_
      rintro e w2 ⟨A2, c2, rfl, ho2, hb2⟩
      have hB := hbel.trans (hb2.mono hbel.size)
      have b2 := Byt.of_own ho2
      clear ho2 hby hb2 hbel hcell
      go_wp2
      go_roundw
      case rel => exact ⟨k + 1, A2, _, c2, by omega, by go_num, rfl, by rw [HE.out]; exact b2, hB⟩
      case measure => simp [intOf]; omega
    · obtain rfl : k = n0 := by omega
      rw [HF.out] at hby
      clear HF HT
      go_wp2
      go_loopw [3, 5] (fun v i wr => ∃ (k2 : Nat) (A' : Option Addr) (n' c' : Nat), k2 ≤ k ∧ i = .int .i64 k2 ∧ v = .slice A' n' c' ∧ Byt wr A' n' c' (encs (Lib.zigzag) (l0.drop k2)) ∧ Below w.heap.size w wr) (fun _ i _ => k - (intOf i).toNat)
      case atStart => exact ⟨0, A', n', c', by omega, rfl, rfl, hby, hbel⟩
      case round =>
        clear hby hbel
        obtain ⟨k2, A2, n2, c2, hk2, rfl, rfl, hby, hbel⟩ := hrel
        by_cases hlt2 : k2 < k
        · have hkl : k2 < l0.length := by rw [HL.out]; exact hlt2
          obtain ⟨g, o, rfl, hg, hcell0⟩ := HC.out k2 hkl
          have hcell := (hbel.cell (p := ⟨g, o + k2, none⟩) hg).trans hcell0
          have hz := HW.out k2 hkl
          have HE := Lib.hid (encs_drop (Lib.zigzag) l0 k2 hkl)
          have hn2 : n2 ≤ 200000000000000 := by have := HDL.out k2; rw [hby.len] at this; omega
          clear hcell0 HC HW HDL HN
          generalize l0[k2] = z at *
          obtain ⟨hz0, hz1⟩ := hz
          have hlen := hby.len
          rw [HE.out] at hby hlen
          rw [List.length_append] at hlen
          have hp := Lib.uvarint_pos (Lib.zigzag z)
          have HD := Lib.hid (vdec_enc z hz0 hz1 (encs Lib.zigzag (l0.drop (k2 + 1))))
          have hdrop := hby.drop (k := (Lib.uvarint (Lib.zigzag z)).length) (by omega)
          rw [List.drop_append_of_le_length (Nat.le_refl _), List.drop_length, List.nil_append] at hdrop
          have hcap2 := hby.cap
          generalize (Lib.uvarint (Lib.zigzag z)).length = L at *
          have hL2 : L ≤ n2 := by omega
          have hL1 : decide ((L : Int) ≤ 0) = false := by simp; omega
          have hL3 : decide ((n2 : Int) < (L : Int)) = false := by simp; omega
          have hcut := fun W => run_cut_l (P := Try.prog) W 23 A2 n2 c2 Try.underlying23 (by kernel_rfl) .i64 (L : Int) (by omega) (by omega)
          simp only [Int.toNat_natCast] at hcut
          clear hlen HE
          go_wp2_with fail
          refine (rd_V hby HD.out).mono ?_
          rintro e w5 ⟨rfl, rfl⟩
          clear HD hby
          go_wp2
          go_roundw
          case rel => exact ⟨k2 + 1, _, _, _, by omega, by go_num, rfl, hdrop, hbel⟩
          case measure => simp [intOf]; omega
        · obtain rfl : k2 = k := by omega
          have hl := hby.len
          rw [HN.out] at hl
          simp only [List.length_nil] at hl
          subst hl
          clear HC HW HDL HN hby
          go_wp2
          go_ret
          exact ⟨rfl, hbel⟩
end Go.Proofs.Ytklebomhnclcgaa
