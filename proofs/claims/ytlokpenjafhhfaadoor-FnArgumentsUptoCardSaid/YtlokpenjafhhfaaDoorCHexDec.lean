/-
  impl.Decode, impl.AppendEncode and impl.AppendDecode: they come back, and nothing that was there has turned. No statement is proved here.
-/
import Derived.Test.YtlokpenjafhhfaaDoorCHexApp
namespace Go.Proofs.YtlokpenjafhhfaaDoor
open Go.RowKit Go.Lib
set_option linter.unusedVariables false

theorem alloc_block (w : World) (o : Obj) : (w.alloc o).heap[w.heap.size]? = some o := by show (w.heap.push o)[w.heap.size]? = _; exact Array.getElem?_push_size

set_option maxHeartbeats 1000000 in
set_option maxRecDepth 100000 in
theorem decode_any {w : World} {A B : Option Addr} {n c m d : Nat} {l k : List UInt8} {aE : Addr} (h1 : Byt w A n c l) (h2 : Byt w B m d k) (hn : n ≤ 140737488355328) (hm : 2 * m ≤ n)
    (hE : w.cell? ⟨2, 0, none⟩ = some (.iface 73 (.pointer (some aE)))) :
    Calls Tryd.prog 10 #[.slice A n c, .slice B m d] w (Still w) := by
  have hlt := World.block_lt_of_cell? w _ hE
  have HB0 := Lib.hid (alloc_block w (.cells #[.bool false, .bool false, .int .u8 0] 27))
  have HE := Lib.hid ((World.cell?_alloc_lt w (.cells #[.bool false, .bool false, .int .u8 0] 27) ⟨2, 0, none⟩ hlt).trans hE)
  clear hE
  go_enter Tryd.func10, Tryd.ntmps10
  go_wp2_with fail
  refine (clone_any (h1.alloc _) hn).mono ?_
  rintro e w1 ⟨A1, c1, rfl, ho1, hb1⟩
  have hlt' : 2 < w.heap.size := hlt
  have HX := Lib.hid (lib_dec_all (Y := c1) (place_of_own ho1 (show m / 2 ≤ n by omega)) (show m / 2 ≤ n by omega) ((h2.alloc _).below hb1) (under_of_byt (h2.alloc (.cells #[.bool false, .bool false, .int .u8 0] 27)) (Nat.le_refl _)) hb1.size (by omega)
    ((hb1.cell (p := ⟨2, 0, none⟩) (by simp; omega)).trans HE.out) (by simp; omega))
  have K1 := Lib.hid ((hb1.block w.heap.size (by simp)).trans HB0.out)
  simp only [World.size_alloc] at hb1
  have hz1 := hb1.size
  simp only [World.size_alloc] at hz1
  have hB1 : Below w.heap.size w w1 := ((Below.refl _ w).alloc (Nat.le_refl _) _).trans (hb1.mono (by omega))
  clear ho1 hb1 HE HB0
  go_wp2_with fail
  refine HX.out.mono ?_
  rintro e w2 ⟨j, q, hj, rfl, hb2⟩
  simp only [World.size_alloc] at hb2
  have hz2 := hb2.size
  have K2 := Lib.hid ((hb2.block w.heap.size (by omega)).trans K1.out)
  have hB2 := hB1.trans (hb2.mono (by omega))
  clear HX K1 hb2 hB1
  have HQ := Lib.hid (fun W => fault_any W aE q)
  generalize Hx.errVal 70 (.iface 73 (.pointer (some aE))) q = ev at *
  go_wp2_with fail
  refine (HQ.out _).mono ?_
  rintro e w3 ⟨b1, b2, x, rfl, hb3⟩
  have hz3 := hb3.size
  have K3 := (hb3.block w.heap.size (by omega)).trans K2.out
  obtain ⟨c0', c1', c2', f0, f1, f2⟩ := three_cells K3
  have hB3 := hB2.trans (hb3.mono (by omega))
  clear HQ K2 K3 hb3 hB2
  have hlt3 : w.heap.size < w3.heap.size := by omega
  go_wp2
  exact bodyPost_ret (v := .tuple #[.slice A1 n c1, .int .i64 (j : Int), .agg #[.bool b1, .bool b2, .int .u8 x]]) (by simp [results, Tryd.results10, go_sem, c0', c1', c2']) rfl
    ⟨_, rfl, ((hB3.setCell (Nat.le_refl _) _).setCell (Nat.le_refl _) _).setCell (Nat.le_refl _) _⟩

theorem Byt.under {w w' : World} {A : Option Addr} {n c base : Nat} {l : List UInt8} (h : Byt w A n c l) (hu : Under base n A) (hb : Below base w w') : Byt w' A n c l :=
  ⟨h.len, h.cap, h.big, fun hn => by
    obtain ⟨g, o, e, hg, hc⟩ := h.cells hn
    exact ⟨g, o, e, Nat.lt_of_lt_of_le hg hb.size, fun j hj => (hb.cell (p := ⟨g, o + j, none⟩) (hu hn g o e)).trans (hc j hj)⟩⟩

set_option maxHeartbeats 1000000 in
set_option maxRecDepth 100000 in
theorem lib_apenc {w : World} {base : Nat} {A B : Option Addr} {l c m d : Nat} {xs : List Value} {k : List UInt8} (ho : w.ownsRow base 5 1 (.slice A l c) l xs) (hbase : base ≤ w.heap.size) (h2 : Byt w B m d k) (hB : Under base m B) (hlim : l + 2 * m ≤ 140737488355328) :
    Calls Tryd.prog 33 #[.slice A l c, .slice B m d] w fun e w' => ∃ A' n' c', e = .returned (.slice A' n' c') ∧ Below base w w' := by
  go_enter Tryd.func33, Tryd.ntmps33
  go_wp2_with fail
  refine (Tryd.hex_EncodedLen (m : Int) (by omega) (by omega) _).mono ?_
  rintro e w' ⟨rfl, rfl⟩
  have HG := Lib.hid (grow_own (k := 2 * m) ho hbase hlim)
  rw [show (((2 * m : Nat) : Int)) = (m : Int) * 2 by omega] at HG
  clear ho
  go_wp2_with fail
  refine HG.out.mono ?_
  rintro e w1 ⟨A1, c1, rfl, hroom, hbig, hrow, hb1⟩
  clear HG
  have HX : Hid (Calls Tryd.prog 31 #[.slice (cutAt A1 c1 l) (2 * m) (c1 - l), .slice B m d] w1 fun e w' => e = .returned (.int .i64 ((m : Int) * 2)) ∧ Below base w1 w') := Lib.hid (lib_enc_all (fun h0 => by
      obtain ⟨g, f, rfl, hg, hr⟩ := hrow (by omega)
      refine ⟨g, l, c1, f, ?_, hg, by omega, hr⟩
      unfold cutAt
      rw [if_neg (by omega)]
      simp [add_spot]) (Nat.le_refl _) (h2.under hB hb1) hB (Nat.le_trans hbase hb1.size) (by omega))
  have hc1 := fun W => run_cut_l (P := Tryd.prog) W 23 A1 l c1 Tryd.underlying23 (by kernel_rfl) .i64 (l : Int) (by omega) (by omega)
  simp only [Int.toNat_natCast, Nat.sub_self] at hc1
  clear hrow h2
  have hc2 := fun W => run_cut_h (P := Tryd.prog) W 23 (cutAt A1 c1 l) 0 (c1 - l) Tryd.underlying23 (by kernel_rfl) .i64 ((m : Int) * 2) (by omega) (by omega)
  simp only [show ((m : Int) * 2).toNat = 2 * m from by omega] at hc2
  have hc3 := fun W => run_cut_h (P := Tryd.prog) W 23 A1 l c1 Tryd.underlying23 (by kernel_rfl) .i64 ((l : Int) + (m : Int) * 2) (by omega) (by omega)
  generalize cutAt A1 c1 l = X at *
  generalize c1 - l = Y at *
  go_wp2_with fail
  refine HX.out.mono ?_
  rintro e w2 ⟨rfl, hb2⟩
  have hB2 := hb1.trans hb2
  clear HX hb1 hb2 hc1 hc2
  go_wp2
  go_ret
  exact ⟨_, _, _, rfl, hB2⟩

set_option maxRecDepth 100000 in
theorem apenc_any {w : World} {A B : Option Addr} {n c m d : Nat} {l k : List UInt8} (h1 : Byt w A n c l) (h2 : Byt w B m d k) (hlim : n + 2 * m ≤ 140737488355328) :
    Calls Tryd.prog 11 #[.slice A n c, .slice B m d] w (Still w) := by
  go_enter Tryd.func11, Tryd.ntmps11
  go_wp2_with fail
  refine (clone_any h1 (by omega)).mono ?_
  rintro e w1 ⟨A1, c1, rfl, ho1, hb1⟩
  have HX := Lib.hid (lib_apenc ho1 hb1.size (h2.below hb1) (under_of_byt h2 (Nat.le_refl _)) hlim)
  clear ho1
  go_wp2_with fail
  refine HX.out.mono ?_
  rintro e w2 ⟨A2, n2, c2, rfl, hb2⟩
  have hB := hb1.trans hb2
  clear HX hb1 hb2
  go_wp2_with fail
  go_ret
  exact ⟨_, rfl, hB⟩

set_option maxHeartbeats 1000000 in
set_option maxRecDepth 100000 in
theorem lib_apdec {w : World} {base : Nat} {A B : Option Addr} {l c m d : Nat} {xs : List Value} {k : List UInt8} {ev : Value} (ho : w.ownsRow base 5 1 (.slice A l c) l xs) (hbase : base ≤ w.heap.size) (h2 : Byt w B m d k) (hB : Under base m B) (hlim : l + 2 * m ≤ 140737488355328)
    (hE : w.cell? ⟨2, 0, none⟩ = some ev) (hEb : 2 < base) :
    Calls Tryd.prog 34 #[.slice A l c, .slice B m d] w fun e w' => ∃ A' n' c' o, e = .returned (.tuple #[.slice A' n' c', Hx.errVal 70 ev o]) ∧ Below base w w' := by
  have HE := Lib.hid hE
  clear hE
  go_enter Tryd.func34, Tryd.ntmps34
  go_wp2_with fail
  refine (Tryd.hex_DecodedLen (m : Int) (by omega) (by omega) _).mono ?_
  rintro e w' ⟨rfl, rfl⟩
  have HG := Lib.hid (grow_own (k := m / 2) ho hbase (by omega))
  rw [show (((m / 2 : Nat) : Int)) = (m : Int) / 2 by omega] at HG
  clear ho
  go_wp2_with fail
  refine HG.out.mono ?_
  rintro e w1 ⟨A1, c1, rfl, hroom, hbig, hrow, hb1⟩
  clear HG
  have HX : Hid (Calls Tryd.prog 32 #[.slice (cutAt A1 c1 l) (m / 2) (c1 - l), .slice B m d] w1 (DecAll w1 base (m / 2) ev)) := Lib.hid (lib_dec_all (fun h0 => by
      obtain ⟨g, f, rfl, hg, hr⟩ := hrow (by omega)
      refine ⟨g, l, c1, f, ?_, hg, by omega, hr⟩
      unfold cutAt
      rw [if_neg (by omega)]
      simp [add_spot]) (Nat.le_refl _) (h2.under hB hb1) hB (Nat.le_trans hbase hb1.size) (by omega) ((hb1.cell (p := ⟨2, 0, none⟩) hEb).trans HE.out) hEb)
  have hc1 := fun W => run_cut_l (P := Tryd.prog) W 23 A1 l c1 Tryd.underlying23 (by kernel_rfl) .i64 (l : Int) (by omega) (by omega)
  simp only [Int.toNat_natCast, Nat.sub_self] at hc1
  clear hrow h2 HE
  have hc2 := fun W => run_cut_h (P := Tryd.prog) W 23 (cutAt A1 c1 l) 0 (c1 - l) Tryd.underlying23 (by kernel_rfl) .i64 ((m : Int) / 2) (by omega) (by omega)
  simp only [show ((m : Int) / 2).toNat = m / 2 from by omega] at hc2
  generalize cutAt A1 c1 l = X at *
  generalize c1 - l = Y at *
  go_wp2_with fail
  refine HX.out.mono ?_
  rintro e w2 ⟨j, q, hj, rfl, hb2⟩
  have hB2 := hb1.trans hb2
  have hc3 := fun W => run_cut_h (P := Tryd.prog) W 23 A1 l c1 Tryd.underlying23 (by kernel_rfl) .i64 ((l : Int) + (j : Int)) (by omega) (by omega)
  clear HX hb1 hb2 hc1 hc2
  generalize hev : Hx.errVal 70 ev q = er at *
  have HV := Lib.hid hev
  clear hev
  go_wp2
  go_ret2
  exact ⟨_, _, _, q, by rw [HV.out]; rfl, hB2⟩

set_option maxHeartbeats 1000000 in
set_option maxRecDepth 100000 in
theorem apdec_any {w : World} {A B : Option Addr} {n c m d : Nat} {l k : List UInt8} {aE : Addr} (h1 : Byt w A n c l) (h2 : Byt w B m d k) (hlim : n + 2 * m ≤ 140737488355328)
    (hE : w.cell? ⟨2, 0, none⟩ = some (.iface 73 (.pointer (some aE)))) :
    Calls Tryd.prog 12 #[.slice A n c, .slice B m d] w (Still w) := by
  have hlt := World.block_lt_of_cell? w _ hE
  have HB0 := Lib.hid (alloc_block w (.cells #[.bool false, .bool false, .int .u8 0] 27))
  have HE := Lib.hid ((World.cell?_alloc_lt w (.cells #[.bool false, .bool false, .int .u8 0] 27) ⟨2, 0, none⟩ hlt).trans hE)
  clear hE
  go_enter Tryd.func12, Tryd.ntmps12
  go_wp2_with fail
  refine (clone_any (h1.alloc _) (by omega)).mono ?_
  rintro e w1 ⟨A1, c1, rfl, ho1, hb1⟩
  have hlt' : 2 < w.heap.size := hlt
  have HX := Lib.hid (lib_apdec ho1 hb1.size ((h2.alloc _).below hb1) (under_of_byt (h2.alloc (.cells #[.bool false, .bool false, .int .u8 0] 27)) (Nat.le_refl _)) hlim
    ((hb1.cell (p := ⟨2, 0, none⟩) (by simp; omega)).trans HE.out) (by simp; omega))
  have K1 := Lib.hid ((hb1.block w.heap.size (by simp)).trans HB0.out)
  simp only [World.size_alloc] at hb1
  have hz1 := hb1.size
  simp only [World.size_alloc] at hz1
  have hB1 : Below w.heap.size w w1 := ((Below.refl _ w).alloc (Nat.le_refl _) _).trans (hb1.mono (by omega))
  clear ho1 hb1 HE HB0
  go_wp2_with fail
  refine HX.out.mono ?_
  rintro e w2 ⟨A2, n2, c2, q, rfl, hb2⟩
  simp only [World.size_alloc] at hb2
  have hz2 := hb2.size
  have K2 := Lib.hid ((hb2.block w.heap.size (by omega)).trans K1.out)
  have hB2 := hB1.trans (hb2.mono (by omega))
  clear HX K1 hb2 hB1
  have HQ := Lib.hid (fun W => fault_any W aE q)
  generalize Hx.errVal 70 (.iface 73 (.pointer (some aE))) q = ev at *
  go_wp2_with fail
  refine (HQ.out _).mono ?_
  rintro e w3 ⟨b1, b2, x, rfl, hb3⟩
  have hz3 := hb3.size
  have K3 := (hb3.block w.heap.size (by omega)).trans K2.out
  obtain ⟨c0', c1', c2', f0, f1, f2⟩ := three_cells K3
  have hB3 := hB2.trans (hb3.mono (by omega))
  clear HQ K2 K3 hb3 hB2
  have hlt3 : w.heap.size < w3.heap.size := by omega
  go_wp2
  exact bodyPost_ret (v := .tuple #[.slice A2 n2 c2, .agg #[.bool b1, .bool b2, .int .u8 x]]) (by simp [results, Tryd.results12, go_sem, c0', c1', c2']) rfl
    ⟨_, rfl, ((hB3.setCell (Nat.le_refl _) _).setCell (Nat.le_refl _) _).setCell (Nat.le_refl _) _⟩
end Go.Proofs.YtlokpenjafhhfaaDoor
