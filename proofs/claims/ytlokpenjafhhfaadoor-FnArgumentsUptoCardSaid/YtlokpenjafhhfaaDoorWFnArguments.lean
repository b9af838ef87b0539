/-
  The walk of FnArguments. No statement is proved here.
-/
import Derived.Test.YtlokpenjafhhfaaDoorCZeros
import Derived.Test.YtlokpenjafhhfaaDoorCHexDec
import Derived.Test.YtlokpenjafhhfaaDoorCSame
import Derived.Test.YtlokpenjafhhfaaDoorCPutU
import Derived.Test.YtlokpenjafhhfaaDoorCPutV
import Derived.Test.YtlokpenjafhhfaaDoorCApU
import Derived.Test.YtlokpenjafhhfaaDoorCApV
import Derived.Test.YtlokpenjafhhfaaDoorCPutBig64
import Derived.Test.YtlokpenjafhhfaaDoorCPutBig32
import Derived.Test.YtlokpenjafhhfaaDoorCPutBig16
import Derived.Test.YtlokpenjafhhfaaDoorCPutLittle64
import Derived.Test.YtlokpenjafhhfaaDoorCPutLittle32
import Derived.Test.YtlokpenjafhhfaaDoorCPutLittle16
import Derived.Test.YtlokpenjafhhfaaDoorCApBig64
import Derived.Test.YtlokpenjafhhfaaDoorCApLittle64
namespace Go.Proofs.YtlokpenjafhhfaaDoor
open Go.RowKit
set_option linter.unusedVariables false

theorem Gives.still {w : World} {T n : Nat} {l : List UInt8} {e : Ending} {w' : World} (h : Gives w T n l e w') : Still w e w' := by
  obtain ⟨A, c, he, _, hb⟩ := h
  exact ⟨_, he, hb⟩
theorem putU_still {w : World} {A : Option Addr} {n c : Nat} {l : List UInt8} (h : Byt w A n c l) (x : Nat) (hx : x < 18446744073709551616) (hn : n ≤ 140737488355328) :
    Calls Tryd.prog 13 #[.slice A n c, .int .u64 x] w (Still w) := by
  rcases Nat.lt_or_ge n (Lib.uvarint x).length with hs | hs
  · exact (putU_small h x hx hn hs).mono fun e w' ⟨_, he, hb⟩ => ⟨_, he, hb⟩
  · exact (putU_room h x hx hn hs).mono fun e w' ⟨_, _, he, _, hb⟩ => ⟨_, he, hb⟩
theorem putV_still {w : World} {A : Option Addr} {n c : Nat} {l : List UInt8} (h : Byt w A n c l) (x : Int) (hx0 : -9223372036854775808 ≤ x) (hx1 : x ≤ 9223372036854775807) (hn : n ≤ 140737488355328) :
    Calls Tryd.prog 14 #[.slice A n c, .int .i64 x] w (Still w) := by
  rcases Nat.lt_or_ge n (Lib.uvarint (Lib.zigzag x)).length with hs | hs
  · exact (putV_small h x hx0 hx1 hn hs).mono fun e w' ⟨_, he, hb⟩ => ⟨_, he, hb⟩
  · exact (putV_room h x hx0 hx1 hn hs).mono fun e w' ⟨_, _, he, _, hb⟩ => ⟨_, he, hb⟩

theorem wrap64_low (z : Int) : -9223372036854775808 ≤ wrap64 z := by unfold wrap64; omega
theorem wrap64_top (z : Int) : wrap64 z ≤ 9223372036854775807 := by unfold wrap64; omega

/-- the six slices, the listed variable, and that nothing that was there has turned -/
structure Six (w : World) (E : Value) (A0 : Option Addr) (n0 c0 : Nat) (A1 : Option Addr) (n1 c1 : Nat) (Aa : Option Addr) (ca : Nat) (Ab : Option Addr) (cb : Nat) (Ar : Option Addr) (nr cr : Nat) (Ac : Option Addr) (cc : Nat) (l0 l1 lr : List UInt8) (w' : World) : Prop where
  d : Byt w' A0 n0 c0 l0
  s : Byt w' A1 n1 c1 l1
  a : Byt w' Aa n0 ca l0
  b : Byt w' Ab n1 cb l1
  r : Byt w' Ar nr cr lr
  c : Byt w' Ac nr cc lr
  e : w'.cell? ⟨2, 0, none⟩ = some E
  bel : Below w.heap.size w w'

section
variable {w W w' : World} {E : Value} {A0 A1 Aa Ab Ar Ac : Option Addr} {n0 c0 n1 c1 ca cb nr cr cc : Nat} {l0 l1 lr : List UInt8}
theorem Six.keep (h : Six w E A0 n0 c0 A1 n1 c1 Aa ca Ab cb Ar nr cr Ac cc l0 l1 lr W) (hb : Below W.heap.size W w') : Six w E A0 n0 c0 A1 n1 c1 Aa ca Ab cb Ar nr cr Ac cc l0 l1 lr w' :=
  ⟨h.d.below hb, h.s.below hb, h.a.below hb, h.b.below hb, h.r.below hb, h.c.below hb, (hb.cell (World.block_lt_of_cell? W _ h.e)).trans h.e, h.bel.trans (hb.mono h.bel.size)⟩
end

set_option maxHeartbeats 4000000 in
set_option maxRecDepth 100000 in
theorem fnArguments_walk (w : World) (aE : Addr) (hE : w.cell? ⟨2, 0, none⟩ = some (.iface 73 (.pointer (some aE)))) (A0 : Option Addr) (n0 c0 : Nat) (l0 : List UInt8) (h0 : Byt w A0 n0 c0 l0) (s0 : c0 * 1 ≤ 140737488351232) (A1 : Option Addr) (n1 c1 : Nat) (l1 : List UInt8) (h1 : Byt w A1 n1 c1 l1) (s1 : c1 * 1 ≤ 140737488351232) (x2 : Nat) (h2 : x2 < 18446744073709551616) (hub : c0 + c1 ≤ 1048576) :
    Calls Tryd.prog 4 #[.slice A0 n0 c0, .slice A1 n1 c1, .int .u64 x2] w fun e w' => e = .returned (.bool true) ∧ Below w.heap.size w w' := by
  have hcap0 := h0.cap
  have hcap1 := h1.cap
  go_enter Tryd.func4, Tryd.ntmps4
  go_wp2_with (first
    | (at_builtin; refine wpList_clone_byt w rfl (.tmp 13) (.tmp 14) _ rfl 5 brow rfl A0 n0 c0 l0 rfl h0 (by omega) ?_; intro Aa ca wa hoa hba)
    | (at_builtin; refine wpList_clone_byt wa rfl (.tmp 16) (.tmp 17) _ rfl 5 brow rfl A1 n1 c1 l1 rfl (h1.below hba) (by omega) ?_; intro Ab cb wb hob hbb)
    | (at_builtin; refine wpList_clone_byt wb rfl (.tmp 19) (.tmp 20) _ rfl 5 brow rfl A0 n0 c0 l0 rfl ((h0.below hba).below hbb) (by omega) ?_; intro A3 c3 w3 ho3 hb3)
    | (at_builtin; refine wpList_zeros_byt w3 rfl (.tmp 21) (.tmp 25) _ _ rfl wb.heap.size 5 brow .i64 Tryd.underlying3 A3 n0 c3 l0 rfl ho3 .i64 _ (2 * n1 + 8) rfl (by omega) (by omega) (by omega) hb3.size ?_; intro Ar cr w4 ho4 hb4)
    | (at_builtin; refine wpList_clone_byt w4 rfl (.tmp 27) (.tmp 28) _ rfl 5 brow rfl Ar (n0 + (2 * n1 + 8)) cr _ rfl (Byt.of_own ho4) (by omega) ?_; intro Ac cc w5 ho5 hb5))
  obtain ⟨nr, hnr⟩ : ∃ nr, nr = n0 + (2 * n1 + 8) := ⟨_, rfl⟩
  rw [← hnr] at ho4 ho5 ⊢
  have hnr1 : nr ≤ 1048584 * 2 := by omega
  have hnr2 : 2 * n1 + 8 ≤ nr := by omega
  have h34 := hb3.trans hb4
  have hS : Six w (.iface 73 (.pointer (some aE))) A0 n0 c0 A1 n1 c1 Aa ca Ab cb Ar nr cr Ac cc l0 l1 (l0 ++ List.replicate (2 * n1 + 8) 0) w5 := by
    have hB : Below w.heap.size w w5 := (((hba.trans (hbb.mono hba.size)).trans (h34.mono (Nat.le_trans hba.size hbb.size)))).trans (hb5.mono (Nat.le_trans (Nat.le_trans hba.size hbb.size) h34.size))
    exact ⟨(((h0.below hba).below hbb).below h34).below hb5, (((h1.below hba).below hbb).below h34).below hb5, (((Byt.of_own hoa).below hbb).below h34).below hb5, ((Byt.of_own hob).below h34).below hb5, (Byt.of_own ho4).below hb5, Byt.of_own ho5, (hB.cell (World.block_lt_of_cell? w _ hE)).trans hE, hB⟩
  clear hoa hob ho3 ho4 ho5 hba hbb hb3 hb4 hb5 h34 h0 h1 hE hnr
  generalize l0 ++ List.replicate (2 * n1 + 8) 0 = lr at *
  go_wp2_with fail
  refine (encode_any hS.r hS.s (by omega) (by omega)).mono ?_
  rintro e w6 ⟨Ao, co, rfl, hbq⟩
  have hS := hS.keep hbq
  clear hbq
  go_wp2_with fail
  refine (decode_any hS.r hS.s (by omega) (by omega) hS.e).mono ?_
  rintro e w7 ⟨v7, rfl, hbq⟩
  have hS := hS.keep hbq
  clear hbq
  go_wp2_with fail
  refine (apenc_any hS.d hS.s (by omega)).mono ?_
  rintro e w8 ⟨v8, rfl, hbq⟩
  have hS := hS.keep hbq
  clear hbq
  go_wp2_with fail
  refine (apdec_any hS.d hS.s (by omega) hS.e).mono ?_
  rintro e w9 ⟨v9, rfl, hbq⟩
  have hS := hS.keep hbq
  clear hbq
  go_wp2_with fail
  refine (putU_still hS.r x2 h2 (by omega)).mono ?_
  rintro e w10 ⟨v10, rfl, hbq⟩
  have hS := hS.keep hbq
  clear hbq
  go_wp2_with fail
  refine (putV_still hS.r _ (wrap64_low _) (wrap64_top _) (by omega)).mono ?_
  rintro e w11 ⟨v11, rfl, hbq⟩
  have hS := hS.keep hbq
  clear hbq
  have hcut := fun W => run_cut_h (P := Tryd.prog) W 23 A0 n0 c0 Tryd.underlying23 (by kernel_rfl) .i64 ((n0 : Int) / 2) (by omega) (by omega)
  simp only [show ((n0 : Int) / 2).toNat = n0 / 2 from by omega] at hcut
  go_wp2_with fail
  refine (ap_U (hS.d.take (k := n0 / 2) (by omega)) x2 h2 (by omega)).mono ?_
  rintro e w12 ⟨A12', c12', rfl, _, hbq⟩
  have hS := hS.keep hbq
  clear hbq
  go_wp2_with fail
  refine (ap_V (hS.d.take (k := n0 / 2) (by omega)) _ (wrap64_low _) (wrap64_top _) (by omega)).mono ?_
  rintro e w13 ⟨A13', c13', rfl, _, hbq⟩
  have hS := hS.keep hbq
  clear hbq
  go_wp2_with fail
  refine (put_Big64 hS.r x2 h2 (by omega) (by omega)).mono ?_
  rintro e w14 ⟨A14', c14', rfl, _, hbq⟩
  have hS := hS.keep hbq
  clear hbq
  go_wp2_with fail
  refine (put_Little64 hS.r x2 h2 (by omega) (by omega)).mono ?_
  rintro e w15 ⟨A15', c15', rfl, _, hbq⟩
  have hS := hS.keep hbq
  clear hbq
  go_wp2_with fail
  rw [show ((x2 : Int) % 4294967296) = ((x2 % 4294967296 : Nat) : Int) from by omega]
  refine (put_Big32 hS.r (x2 % 4294967296) (by omega) (by omega) (by omega)).mono ?_
  rintro e w16 ⟨A16', c16', rfl, _, hbq⟩
  have hS := hS.keep hbq
  clear hbq
  go_wp2_with fail
  rw [show ((x2 : Int) % 4294967296) = ((x2 % 4294967296 : Nat) : Int) from by omega]
  refine (put_Little32 hS.r (x2 % 4294967296) (by omega) (by omega) (by omega)).mono ?_
  rintro e w17 ⟨A17', c17', rfl, _, hbq⟩
  have hS := hS.keep hbq
  clear hbq
  go_wp2_with fail
  rw [show IntKind.u16.wrap (x2 : Int) = ((x2 % 65536 : Nat) : Int) from by rw [wu16]; omega]
  refine (put_Big16 hS.r (x2 % 65536) (by omega) (by omega) (by omega)).mono ?_
  rintro e w18 ⟨A18', c18', rfl, _, hbq⟩
  have hS := hS.keep hbq
  clear hbq
  go_wp2_with fail
  rw [show IntKind.u16.wrap (x2 : Int) = ((x2 % 65536 : Nat) : Int) from by rw [wu16]; omega]
  refine (put_Little16 hS.r (x2 % 65536) (by omega) (by omega) (by omega)).mono ?_
  rintro e w19 ⟨A19', c19', rfl, _, hbq⟩
  have hS := hS.keep hbq
  clear hbq
  go_wp2_with fail
  refine (ap_Big64 (hS.d.take (k := n0 / 2) (by omega)) x2 h2 (by omega)).mono ?_
  rintro e w20 ⟨A20', c20', rfl, _, hbq⟩
  have hS := hS.keep hbq
  clear hbq
  go_wp2_with fail
  refine (ap_Little64 (hS.d.take (k := n0 / 2) (by omega)) x2 h2 (by omega)).mono ?_
  rintro e w21 ⟨A21', c21', rfl, _, hbq⟩
  have hS := hS.keep hbq
  clear hbq
  clear hcut
  have hq1 : (((n1 : Int) * 2) == (2 * (n1 : Int))) = true := by simp; omega
  go_wp2_with fail
  refine (same_yes hS.d hS.a rfl).mono ?_
  rintro e w22 ⟨rfl, rfl⟩
  go_wp2_with fail
  refine (same_yes hS.s hS.b rfl).mono ?_
  rintro e w23 ⟨rfl, rfl⟩
  go_wp2_with fail
  refine (same_yes hS.r hS.c rfl).mono ?_
  rintro e w24 ⟨rfl, rfl⟩
  go_wp2
  go_ret
  exact ⟨rfl, hS.bel⟩
end Go.Proofs.YtlokpenjafhhfaaDoor
