/-
  The walk of FnEndsNumbers. No statement is proved here.
-/
import Derived.Test.YtlokpenjafhhfaaCApBig64
import Derived.Test.YtlokpenjafhhfaaCApLittle64
import Derived.Test.YtlokpenjafhhfaaCRdBig64
import Derived.Test.YtlokpenjafhhfaaCRdLittle64
import Derived.Test.YtlokpenjafhhfaaMathE
import Derived.Deep.RegionHeld3
namespace Go.Proofs.Ytlokpenjafhhfaa
open Go.RowKit
set_option linter.unusedVariables false

/-- two slices of bytes, and nothing that was there has turned -/
def Two (w : World) (A1 : Option Addr) (n1 c1 : Nat) (l1 : List UInt8) (A2 : Option Addr) (n2 c2 : Nat) (l2 : List UInt8) (w' : World) : Prop :=
  Byt w' A1 n1 c1 l1 ∧ Byt w' A2 n2 c2 l2 ∧ Below w.heap.size w w'
section
variable {w W w' : World} {A1 A2 : Option Addr} {n1 c1 n2 c2 : Nat} {l1 l2 : List UInt8} {p : Addr} {v : Value}
theorem Two.keep (h : W.cell? p = some v ∧ Two w A1 n1 c1 l1 A2 n2 c2 l2 W) (hg : p.block < w.heap.size) (hb : Below W.heap.size W w') : w'.cell? p = some v ∧ Two w A1 n1 c1 l1 A2 n2 c2 l2 w' :=
  ⟨(hb.cell (Nat.lt_of_lt_of_le hg h.2.2.2.size)).trans h.1, h.2.1.below hb, h.2.2.1.below hb, h.2.2.2.trans (hb.mono h.2.2.2.size)⟩
theorem Two.drew (h : W.cell? p = some v ∧ Two w A1 n1 c1 l1 A2 n2 c2 l2 W) : W.drew.cell? p = some v ∧ Two w A1 n1 c1 l1 A2 n2 c2 l2 W.drew :=
  ⟨h.1, h.2.1.drew, h.2.2.1.drew, h.2.2.2.drew⟩
theorem Two.fst (h : W.cell? p = some v ∧ Two w A1 n1 c1 l1 A2 n2 c2 l2 W) : Byt W A1 n1 c1 l1 := h.2.1
theorem Two.snd (h : W.cell? p = some v ∧ Two w A1 n1 c1 l1 A2 n2 c2 l2 W) : Byt W A2 n2 c2 l2 := h.2.2.1
theorem Two.bel (h : W.cell? p = some v ∧ Two w A1 n1 c1 l1 A2 n2 c2 l2 W) : Below w.heap.size w W := h.2.2.2
end

set_option maxHeartbeats 4000000 in
set_option maxRecDepth 100000 in
theorem fnEndsNumbers_walk (w : World) (A0 : Option Addr) (n0 c0 : Nat) (l0 : List Int) (h0 : Nums .u64 w A0 n0 c0 l0) (s0 : c0 * 8 ≤ 140737488351232) :
    Calls Try.prog 4 #[.slice A0 n0 c0] w fun e w' => e = .returned (.bool true) ∧ Below w.heap.size w w' := by
  have hcap := h0.cap
  have HL := Lib.hid h0.len
  have HW := Lib.hid (fun k (hk : k < l0.length) => wf_u64 (h0.wf _ (List.getElem_mem hk)))
  have HC : Hid (∀ k (hk : k < l0.length), ∃ g o, A0 = some ⟨g, o, none⟩ ∧ g < w.heap.size ∧ w.cell? ⟨g, o + k, none⟩ = some (.int .u64 (l0[k]))) := Lib.hid fun k hk => by
    obtain ⟨g, o, h1, h2, h3⟩ := h0.cells (by rw [← h0.len]; omega)
    exact ⟨g, o, h1, h2, h3 k hk⟩
  have HF := Lib.hid (show l0.take n0 = l0 by rw [← h0.len, List.take_length])
  clear h0
  go_enter Try.func4, Try.ntmps4
  go_wp2
  go_loopw [3, 4, 5] (fun v u i wr => ∃ (k : Nat) (A1 : Option Addr) (c1 : Nat) (A2 : Option Addr) (c2 : Nat), k ≤ n0 ∧ i = .int .i64 k ∧ v = .slice A1 (8 * k) c1 ∧ u = .slice A2 (8 * k) c2 ∧ Byt wr A1 (8 * k) c1 (cats (Lib.beBytes 8) (l0.take k)) ∧ Byt wr A2 (8 * k) c2 (cats (Lib.leBytes 8) (l0.take k)) ∧ Below w.heap.size w wr) (fun _ _ i _ => n0 - (intOf i).toNat)
  case atStart => exact ⟨0, some ⟨w.heap.size, 0, none⟩, 0, some ⟨w.heap.size + 1, 0, none⟩, 0, by omega, rfl, rfl, by simp, by rw [List.take_zero]; exact Byt.empty_ _ _, by rw [List.take_zero]; exact Byt.empty_ _ _, ((Below.refl _ _).alloc (Nat.le_refl _) _).alloc (by simp) _⟩
  case round =>
    obtain ⟨k, A1, c1, A2, c2, hk, rfl, rfl, rfl, hy1, hy2, hbel⟩ := hrel
    by_cases hlt : k < n0
    · have hkl : k < l0.length := by rw [HL.out]; exact hlt
      obtain ⟨g, o, rfl, hg, hcell0⟩ := HC.out k hkl
      have hcell := (hbel.cell (p := ⟨g, o + k, none⟩) hg).trans hcell0
      have HE1 := Lib.hid (cats_take (Lib.beBytes 8) l0 k hkl)
      have HE2 := Lib.hid (cats_take (Lib.leBytes 8) l0 k hkl)
      have hz := HW.out k hkl
      clear hcell0 HC HW HF
      generalize l0[k] = z at *
      obtain ⟨x, rfl⟩ := Int.eq_ofNat_of_zero_le hz.1
      simp only [Int.toNat_natCast] at HE1 HE2
      have hx : x < 18446744073709551616 := by omega
      go_wp2_with fail
      refine (ap_Big64 hy1 x hx (by omega)).mono ?_
      rintro e w2 ⟨A3, c3, rfl, ho2, hb2⟩
      have hcell2 := (hb2.cell (p := ⟨g, o + k, none⟩) (Nat.lt_of_lt_of_le hg hbel.size)).trans hcell
      have hB := hbel.trans (hb2.mono hbel.size)
      have b2 := Byt.of_own ho2
      have hy2 := hy2.below hb2
      clear ho2 hy1 hb2 hbel hcell
      go_wp2_with fail
      refine (ap_Little64 hy2 x hx (by omega)).mono ?_
      rintro e w3 ⟨A4, c4, rfl, ho3, hb3⟩
      have hB := hB.trans (hb3.mono hB.size)
      have b3 := Byt.of_own ho3
      have b2 := b2.below hb3
      clear ho3 hy2 hb3 hcell2
      go_wp2
      go_roundw
      case rel => exact ⟨k + 1, A3, c3, A4, c4, by omega, by go_num, rfl, rfl, by rw [HE1.out]; exact b2, by rw [HE2.out]; exact b3, hB⟩
      case measure => simp [intOf]; omega
    · obtain rfl : k = n0 := by omega
      rw [HF.out] at hy1 hy2
      clear HF
      go_wp2
      go_loopw [6] (fun i wr => ∃ (k2 : Nat), k2 ≤ k ∧ i = .int .i64 k2 ∧ Byt wr A1 (8 * k) c1 (cats (Lib.beBytes 8) l0) ∧ Byt wr A2 (8 * k) c2 (cats (Lib.leBytes 8) l0) ∧ Below w.heap.size w wr) (fun i _ => k - (intOf i).toNat)
      case atStart => exact ⟨0, by omega, rfl, hy1, hy2, hbel⟩
      case round =>
        clear hy1 hy2 hbel
        obtain ⟨k2, hk2, rfl, hy1, hy2, hbel⟩ := hrel
        by_cases hlt2 : k2 < k
        · have hkl : k2 < l0.length := by rw [HL.out]; exact hlt2
          obtain ⟨g, o, rfl, hg, hcell0⟩ := HC.out k2 hkl
          have hcell := (hbel.cell (p := ⟨g, o + k2, none⟩) hg).trans hcell0
          have hz := HW.out k2 hkl
          have HV1 := Lib.hid (congrArg Lib.beNat (cats_at (Lib.beBytes 8) (Lib.beBytes_length 8) l0 k2 hkl))
          have HV2 := Lib.hid (congrArg Lib.leNat (cats_at (Lib.leBytes 8) (Lib.leBytes_length 8) l0 k2 hkl))
          clear hcell0 HC HW
          generalize l0[k2] = z at *
          obtain ⟨x, rfl⟩ := Int.eq_ofNat_of_zero_le hz.1
          simp only [Int.toNat_natCast] at HV1 HV2
          have hx : x < 18446744073709551616 := by omega
          have HV1 := Lib.hid (HV1.out.trans (Lib.beNat_beBytes 8 x (by simpa using hx)))
          have HV2 := Lib.hid (HV2.out.trans (Lib.leNat_leBytes 8 x (by simpa using hx)))
          have hgs := Nat.lt_of_lt_of_le hg hbel.size
          have hcapa := hy1.cap
          have hcapb := hy2.cap
          have hcut1 := fun W => run_cut_l (P := Try.prog) W 24 A1 (8 * k) c1 Try.underlying24 (by kernel_rfl) .i64 (8 * (k2 : Int)) (by omega) (by omega)
          have hcut2 := fun W => run_cut_l (P := Try.prog) W 24 A2 (8 * k) c2 Try.underlying24 (by kernel_rfl) .i64 (8 * (k2 : Int)) (by omega) (by omega)
          simp only [show (8 * (k2 : Int)).toNat = 8 * k2 from by omega] at hcut1 hcut2
          have hm1 : IntKind.i64.wrap (8 * (k2 : Int)) = 8 * (k2 : Int) := by rw [IntKind.wrap_i64]; omega
          have hS := And.intro hcell (show Two w _ _ _ _ _ _ _ _ _ from ⟨hy1, hy2, hbel⟩)
          have hi1 : (0 : Int) ≤ (k2 : Int) := by omega
          have hi2 : (k2 : Int) < (k : Int) := by omega
          clear hcell hy1 hy2 hbel hgs hcapa hcapb
          go_wp2_with fail
          go_region_held3 (fun w' => w'.cell? ⟨g, o + k2, none⟩ = some (.int .u64 (x : Nat)) ∧ Two w A1 (8 * k) c1 (cats (Lib.beBytes 8) l0) A2 (8 * k) c2 (cats (Lib.leBytes 8) l0) w')
            (first | exact Two.keep (by assumption) hg hbq | exact Two.drew (by assumption) | assumption)
            (first
              | (go_at_call 9; refine (rd_Big64_v (l := (cats (Lib.beBytes 8) l0).drop (8 * k2)) (v := x) ?_ (by omega) HV1.out).mono ?_; (exact (Two.fst (by assumption)).drop (k := 8 * k2) (by omega)); rintro e w5 ⟨rfl, hbq⟩)
              | (go_at_call 10; refine (rd_Little64_v (l := (cats (Lib.leBytes 8) l0).drop (8 * k2)) (v := x) ?_ (by omega) HV2.out).mono ?_; (exact (Two.snd (by assumption)).drop (k := 8 * k2) (by omega)); rintro e w5 ⟨rfl, hbq⟩))
          have b1 : Byt w5 A1 (8 * k) c1 (cats (Lib.beBytes 8) l0) := Two.fst (by assumption)
          have b2 : Byt w5 A2 (8 * k) c2 (cats (Lib.leBytes 8) l0) := Two.snd (by assumption)
          have hB : Below w.heap.size w w5 := Two.bel (by assumption)
          clear hm1 hcut1 hcut2 hS hbq
          go_wp2
          go_roundw
          case rel => exact ⟨k2 + 1, by omega, by go_num, b1, b2, hB⟩
          case measure => simp [intOf]; omega
        · obtain rfl : k2 = k := by omega
          clear HC HW hy1 hy2
          go_wp2
          go_ret
          exact ⟨rfl, hbel⟩
end Go.Proofs.Ytlokpenjafhhfaa
