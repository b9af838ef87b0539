/-
  hex.Encode and hex.Decode into a row of the call's own, for every slice of bytes that is read; impl.fault at every error. No statement is proved here.
-/
import Derived.Test.YtlokpenjafhhfaaDoorCHex
import Derived.Test.YtlokpenjafhhfaaDoorCClone
import Derived.RegionTactic
import Derived.Deep.QuietTactic
import Derived.BigQuiet
namespace Go.Proofs.YtlokpenjafhhfaaDoor
open Go.RowKit Go.Lib
set_option linter.unusedVariables false

/-- 'it comes back, and nothing that was there has turned' -/
def Still (w : World) (e : Ending) (w' : World) : Prop := ∃ v, e = .returned v ∧ Below w.heap.size w w'

/-- the block of a row of the call's own, as a row -/
theorem own_row {w : World} {base : Nat} {e : TypeId} {g n c : Nat} {xs : List Value} (h : w.ownsRow base e 1 (.slice (some ⟨g, 0, none⟩) n c) n xs) : ∃ f, w.rowIs g e c f := by
  rcases h.2 with ⟨h', _⟩ | ⟨g', cap, cur, h', _, hg, _, _, hs, _⟩
  · cases h'
  · injection h' with h1 h2 h3
    injection h1 with h1
    injection h1 with h1
    subst h1 h3
    refine ⟨fun i => cur[i]?.getD .nilIface, cur, hg, by simpa using hs, fun i hi => ?_⟩
    have hi' : i < cur.size := by omega
    simp [Array.getElem?_eq_getElem hi']

theorem nums_range (l : List UInt8) (i : Nat) (hi : i < l.length) : 0 ≤ (nums l).getD i 0 ∧ (nums l).getD i 0 < 256 := by
  rw [nums_getD l i hi]
  have := (l[i]).toNat_lt
  omega

set_option maxRecDepth 100000 in
theorem lib_enc_zero (w : World) (dst : Value) (A : Option Addr) (c : Nat) :
    Calls Tryd.prog 31 #[dst, .slice A 0 c] w fun e w' => e = .returned (.int .i64 0) ∧ w = w' := by
  go_enter Tryd.func31, Tryd.ntmps31
  go_wp2
  go_loop [5, 10] (fun vj vi => vi = .int .i64 0 ∧ vj = .int .i64 0) (fun _ _ => 0)
  case atStart => exact ⟨rfl, rfl⟩
  case round =>
    obtain ⟨rfl, rfl⟩ := hrel
    go_wp2
    go_ret
    exact ⟨rfl, rfl⟩

set_option maxRecDepth 100000 in
theorem lib_dec_zero (w : World) (dst : Value) (A : Option Addr) (c : Nat) :
    Calls Tryd.prog 32 #[dst, .slice A 0 c] w fun e w' => e = .returned (.tuple #[.int .i64 0, .nilIface]) ∧ w = w' := by
  go_enter Tryd.func32, Tryd.ntmps32
  go_wp2
  go_loop [6, 7] (fun vi vj => vi = .int .i64 0 ∧ vj = .int .i64 0) (fun _ _ => 0)
  case atStart => exact ⟨rfl, rfl⟩
  case round =>
    obtain ⟨rfl, rfl⟩ := hrel
    go_wp2
    go_ret2
    exact ⟨rfl, rfl⟩

/-- what Decode gives at one byte: nothing is written -/
def DecOne (w : World) (ev : Value) (e : Ending) (w' : World) : Prop :=
  ∃ o : Hx.Out, e = .returned (.tuple #[.int .i64 0, Hx.errVal 70 ev o]) ∧ Below w.heap.size w w'

set_option maxHeartbeats 2000000 in
set_option maxRecDepth 100000 in
theorem lib_dec_one (w : World) (dst : Value) (g o c : Nat) (b : UInt8) (ev : Value) (hc : w.cell? ⟨g, o, none⟩ = some (.int .u8 (b.toNat : Int))) (hE : w.cell? ⟨2, 0, none⟩ = some ev) :
    Calls Tryd.prog 32 #[dst, .slice (some ⟨g, o, none⟩) 1 c] w (DecOne w ev) := by
  have hb := b.toNat_lt
  obtain ⟨x, hx⟩ : ∃ x : Int, x = (b.toNat : Int) := ⟨_, rfl⟩
  rw [← hx] at hc
  have hx0 : 0 ≤ x := by omega
  have hx1 : x < 256 := by omega
  have HX := Lib.hid hx
  clear hx
  have sx : x.toNat < Hx.rev.size := by rw [Hx.rev_size]; omega
  go_enter Tryd.func32, Tryd.ntmps32
  go_wp2
  go_loop [6, 7] (fun vi vj => vi = .int .i64 0 ∧ vj = .int .i64 0) (fun _ _ => 0)
  case atStart => exact ⟨rfl, rfl⟩
  case round =>
    obtain ⟨rfl, rfl⟩ := hrel
    go_wp2
    · go_region
      go_wp2
      go_ret2
      have hv : Hx.errVal 70 ev (.bad b) = .iface 70 (.int .u8 x) := by rw [HX.out]; rfl
      exact ⟨.bad b, by rw [hv]; rfl, (Below.refl _ _).drew⟩
    · go_region
      go_wp2
      go_ret2
      exact ⟨.odd, rfl, (Below.refl _ _).drew⟩

/-- hex.Encode from place od of a row on -/
theorem lib_enc_row {w : World} {base g od nd cd N : Nat} {f : Nat → Value} {B : Option Addr} {m d : Nat} {l : List UInt8} (hrow : w.rowIs g 5 N f) (hbase : base ≤ g) (hfit : od + nd ≤ N) (h : Byt w B m d l) (hm : 0 < m) (hlen : 2 * m ≤ nd) (hne : ∀ b o, B = some ⟨b, o, none⟩ → b ≠ g) (hbig : m ≤ 140737488355328) :
    Calls Tryd.prog 31 #[.slice (some ⟨g, od, none⟩) nd cd, .slice B m d] w fun e w' => e = .returned (.int .i64 ((m : Int) * 2)) ∧ Below (min base w.heap.size) w w' := by
  obtain ⟨b, o, rfl, hb, hc⟩ := h.cells hm
  have hl := h.len
  refine (Tryd.hex_Encode g od nd cd N f b o m d (nums l) w (by rw [nums_length, hl]) (fun i hi => nums_range l i (by omega)) (fun i hi => by rw [nums_getD l i (by omega)]; exact hc i (by omega)) hrow hfit hlen (Ne.symm (hne b o rfl)) (by omega)).mono ?_
  rintro e w' ⟨rfl, _, hg⟩
  exact ⟨rfl, (Below.refl _ w).grown hg (Nat.min_le_right _ _) (fun k hk => by injection hk with hk; subst hk; exact Nat.le_trans (Nat.min_le_left _ _) hbase)⟩

/-- hex.Decode from place od of a row on -/
theorem lib_dec_row {w : World} {base g od nd cd N : Nat} {f : Nat → Value} {B : Option Addr} {m d : Nat} {l : List UInt8} {ev : Value} (hrow : w.rowIs g 5 N f) (hbase : base ≤ g) (hfit : od + nd ≤ N) (h : Byt w B m d l) (hm : 0 < m) (hlen : m / 2 ≤ nd) (hne : ∀ b o, B = some ⟨b, o, none⟩ → b ≠ g) (hbig : m ≤ 140737488355328)
    (hE : w.cell? ⟨2, 0, none⟩ = some ev) (hgE : 2 ≠ g) :
    Calls Tryd.prog 32 #[.slice (some ⟨g, od, none⟩) nd cd, .slice B m d] w fun e w' => ∃ (k : Nat) (o : Hx.Out), k ≤ m / 2 ∧ e = .returned (.tuple #[.int .i64 (k : Int), Hx.errVal 70 ev o]) ∧ Below (min base w.heap.size) w w' := by
  obtain ⟨b, o, rfl, hb, hc⟩ := h.cells hm
  have hl := h.len
  refine (Tryd.hex_Decode g od nd cd N f b o m d (nums l) w ev (by rw [nums_length, hl]) (fun i hi => nums_range l i (by omega)) (fun i hi => by rw [nums_getD l i (by omega)]; exact hc i (by omega)) hrow hfit hlen (Ne.symm (hne b o rfl)) (by omega) hE hgE).mono ?_
  rintro e w' ⟨rfl, _, hg⟩
  refine ⟨_, _, ?_, rfl, (Below.refl _ w).grown hg (Nat.min_le_right _ _) (fun k hk => by injection hk with hk; subst hk; exact Nat.le_trans (Nat.min_le_left _ _) hbase)⟩
  have := Hx.decode_len (Lib.bytesOf (nums l))
  rwa [Lib.bytesOf_length, nums_length, hl] at this

theorem ta_yes (W : World) (v : Value) : (Instr.typeAssert (.iface 70 v) 52 70 true).run Tryd.prog W = .ok (.tuple #[v, .bool true]) W := by
  simp [Instr.typeAssert, run_underlying Tryd.underlying70]
theorem ta_no (W : World) (v : Value) : (Instr.typeAssert (.iface 73 v) 52 70 true).run Tryd.prog W = .ok (.tuple #[.int .u8 0, .bool false]) W := by
  simp [Instr.typeAssert, run_underlying Tryd.underlying70, Tryd.zeroValue70]

/-- impl.fault at every error that Decode gives -/
def FaultGives (w : World) (e : Ending) (w' : World) : Prop :=
  ∃ (b1 b2 : Bool) (x : Int), e = .returned (.agg #[.bool b1, .bool b2, .int .u8 x]) ∧ Below w.heap.size w w'
set_option maxHeartbeats 1000000 in
set_option maxRecDepth 100000 in
theorem fault_bad (w : World) (x : Int) :
    Calls Tryd.prog 28 #[.iface 70 (.int .u8 x)] w fun e w' => e = .returned (.agg #[.bool true, .bool true, .int .u8 x]) ∧ Below w.heap.size w w' := by
  have h1 := ta_yes
  go_enter Tryd.func28, Tryd.ntmps28
  go_wp2
  exact bodyPost_ret (v := .agg #[.bool true, .bool true, .int .u8 x]) (by simp [results, Tryd.results28, go_sem]) rfl ⟨rfl, by repeat (first | exact Below.refl _ _ | refine Below.setCell ?_ (by simp) _ | refine Below.alloc ?_ (by simp) _)⟩
set_option maxHeartbeats 1000000 in
set_option maxRecDepth 100000 in
theorem fault_odd (w : World) (a : Addr) :
    Calls Tryd.prog 28 #[.iface 73 (.pointer (some a))] w fun e w' => e = .returned (.agg #[.bool true, .bool false, .int .u8 0]) ∧ Below w.heap.size w w' := by
  have h1 := ta_no
  go_enter Tryd.func28, Tryd.ntmps28
  go_wp2
  exact bodyPost_ret (v := .agg #[.bool true, .bool false, .int .u8 0]) (by simp [results, Tryd.results28, go_sem]) rfl ⟨rfl, by repeat (first | exact Below.refl _ _ | refine Below.setCell ?_ (by simp) _ | refine Below.alloc ?_ (by simp) _)⟩
theorem fault_any (w : World) (a : Addr) (o : Hx.Out) :
    Calls Tryd.prog 28 #[Hx.errVal 70 (.iface 73 (.pointer (some a))) o] w (FaultGives w) := by
  cases o with
  | ok => exact (fault_nil w).mono fun e w' ⟨h1, h2⟩ => ⟨_, _, _, h1, h2⟩
  | bad c => exact (fault_bad w _).mono fun e w' ⟨h1, h2⟩ => ⟨_, _, _, h1, h2⟩
  | odd => exact (fault_odd w a).mono fun e w' ⟨h1, h2⟩ => ⟨_, _, _, h1, h2⟩
end Go.Proofs.YtlokpenjafhhfaaDoor
