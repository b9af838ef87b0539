/-
  The contract of impl.PutVarint for every slice of bytes, with and without room. No statement is proved here.
-/
import Derived.Test.YtlokpenjafhhfaaDoorCPutLibV
import Derived.Defers
import Derived.Recover
import Derived.Laws.Pointers
namespace Go.Proofs.YtlokpenjafhhfaaDoor
open Go.RowKit

theorem catchIdle_V (p0 p1 p2 : Addr) (w : World) :
    CallsD Tryd.prog 37 #[.pointer (some p0), .pointer (some p1), .pointer (some p2)] .returning w fun e u' w' => e = .returned (.tuple #[]) ∧ u' = .returning ∧ w' = w := by
  refine callsD_of_wpS Tryd.func37 rfl fun c₀ cs hu => ?_
  apply wpS_seq
  apply wpS_region
  simp [wpOpsS, go_sem, recoverD, hu, Tryd.ntmps37, Exit.thenS]
  refine wpS_cond (t := false) (by simp [Act.eval, Array.replicate]) ?_
  simp only [Bool.false_eq_true, if_false]
  refine wpS_of_wp (wp_skip ?_)
  cases c₀
  simp_all [bodyPostS, results, Tryd.results37]

set_option maxHeartbeats 1000000 in
theorem catchPanic_V (b : Nat) (u : TypeId) (pv : Value) (older : List PanicEntry) (w : World) (hb : b + 2 < w.heap.size)
    (c0 : w.cell? ⟨b, 0, none⟩ = some (.slice none 0 0)) (c1 : w.cell? ⟨b + 1, 0, none⟩ = some (.int .i64 0)) (c2 : w.cell? ⟨b + 2, 0, none⟩ = some (.bool false))
    (f0 : w.frozen? ⟨b, 0, none⟩ = false) (f1 : w.frozen? ⟨b + 1, 0, none⟩ = false) (f2 : w.frozen? ⟨b + 2, 0, none⟩ = false) :
    CallsD Tryd.prog 37 #[.pointer (some ⟨b, 0, none⟩), .pointer (some ⟨b + 1, 0, none⟩), .pointer (some ⟨b + 2, 0, none⟩)] (.panicking ({ v := .iface u pv, recovered := false } :: older)) w fun e u' w' =>
      e = .returned (.tuple #[]) ∧ u' = .panicking ({ v := .iface u pv, recovered := true } :: older) ∧ w'.cell? ⟨b, 0, none⟩ = some (.slice (some ⟨w.heap.size, 0, none⟩) 0 0) ∧ w'.cell? ⟨b + 1, 0, none⟩ = some (.int .i64 0) ∧ w'.cell? ⟨b + 2, 0, none⟩ = some (.bool true) ∧ Below b w w' := by
  refine callsD_of_wpS Tryd.func37 rfl fun c₀ cs hu => ?_
  apply wpS_seq
  apply wpS_region
  simp [wpOpsS, go_sem, recoverD, hu, Tryd.ntmps37, Exit.thenS]
  refine wpS_cond (t := true) (by simp [Act.eval, Array.replicate]) ?_
  simp only [if_true]
  refine wpS_of_wp ?_
  have hb0 : b < w.heap.size := by omega
  have hb1 : b + 1 < w.heap.size := by omega
  go_wp2
  cases c₀
  simp_all [bodyPostS, results, Tryd.results37]
  refine ⟨by simp [go_sem, *], by simp [go_sem, *], by simp [go_sem, *], ?_⟩
  exact ((((Below.refl _ w).setCell (p := ⟨b, 0, none⟩) (Nat.le_refl _) _).setCell (p := ⟨b + 1, 0, none⟩) (Nat.le_succ _) _).setCell (p := ⟨b + 2, 0, none⟩) (Nat.le_add_right _ _) _).alloc (by simp; omega) _

/-- what a call that put a number gives: the buffer's copy with the number's bytes ahead, how many, and no panic -/
def PutGives_V (w : World) (n k : Nat) (l : List UInt8) (e : Ending) (w' : World) : Prop :=
  ∃ A c, e = .returned (.tuple #[.slice A n c, .int .i64 (k : Int), .bool false]) ∧ Byt w' A n c l ∧ Below w.heap.size w w'
def PutFails_V (w : World) (e : Ending) (w' : World) : Prop :=
  ∃ A, e = .returned (.tuple #[.slice A 0 0, .int .i64 0, .bool true]) ∧ Below w.heap.size w w'

set_option maxHeartbeats 2000000 in
set_option maxRecDepth 100000 in
theorem putV_small {w : World} {A : Option Addr} {n c : Nat} {l : List UInt8} (h : Byt w A n c l) (x : Int) (hx0 : -9223372036854775808 ≤ x) (hx1 : x ≤ 9223372036854775807) (hn : n ≤ 140737488355328) (hs : n < (Lib.uvarint (Lib.zigzag x)).length) :
    Calls Tryd.prog 14 #[.slice A n c, .int .i64 x] w (PutFails_V w) := by
  have hmf : ∀ (fn : Fn) (first cap : Array Value) (w : World), (Instr.makeFunc fn first cap).run Tryd.prog w = .ok (.func fn first cap) w := fun _ _ _ _ => rfl
  have HS := Lib.hid hs
  clear hs
  go_enter_defers Tryd.func14, Tryd.ntmps14
  go_wp2_with fail
  refine (clone_any (((h.alloc _).alloc _).alloc _) hn).mono ?_
  rintro e w1 ⟨A1, c1, rfl, ho1, hb1⟩
  have hs := HS.out
  have hz1 := hb1.size
  simp only [World.size_alloc] at hz1 hb1 ho1
  have k0 : w1.cell? ⟨w.heap.size, 0, none⟩ = some (.slice none 0 0) := (hb1.cell (p := ⟨w.heap.size, 0, none⟩) (show w.heap.size < w.heap.size + 1 + 1 + 1 by omega)).trans (by simp [go_sem])
  have k1 : w1.cell? ⟨w.heap.size + 1, 0, none⟩ = some (.int .i64 0) := (hb1.cell (p := ⟨w.heap.size + 1, 0, none⟩) (show w.heap.size + 1 < w.heap.size + 1 + 1 + 1 by omega)).trans (by simp [go_sem])
  have k2 : w1.cell? ⟨w.heap.size + 2, 0, none⟩ = some (.bool false) := (hb1.cell (p := ⟨w.heap.size + 2, 0, none⟩) (show w.heap.size + 2 < w.heap.size + 1 + 1 + 1 by omega)).trans (by simp [go_sem])
  have f0 : w1.frozen? ⟨w.heap.size, 0, none⟩ = false := (hb1.frozen (p := ⟨w.heap.size, 0, none⟩) (show w.heap.size < w.heap.size + 1 + 1 + 1 by omega)).trans (by simp [go_sem])
  have f1 : w1.frozen? ⟨w.heap.size + 1, 0, none⟩ = false := (hb1.frozen (p := ⟨w.heap.size + 1, 0, none⟩) (show w.heap.size + 1 < w.heap.size + 1 + 1 + 1 by omega)).trans (by simp [go_sem])
  have f2 : w1.frozen? ⟨w.heap.size + 2, 0, none⟩ = false := (hb1.frozen (p := ⟨w.heap.size + 2, 0, none⟩) (show w.heap.size + 2 < w.heap.size + 1 + 1 + 1 by omega)).trans (by simp [go_sem])
  have hB : Below w.heap.size w w1 := ((((Below.refl _ w).alloc (Nat.le_refl _) _).alloc (by simp) _).alloc (by simp; omega) _).trans (hb1.mono (by omega))
  have HP := Lib.hid (libPutV_panics x n c1 hx0 hx1 A1 l ho1 hs)
  clear hs ho1 hb1
  go_wp2_with fail
  refine HP.out.mono ?_
  rintro e w2 ⟨⟨u, pv, rfl⟩, hb2⟩
  have hz2 := hb2.size
  have k0' := (hb2.cell (p := ⟨w.heap.size, 0, none⟩) (show w.heap.size < w.heap.size + 1 + 1 + 1 by omega)).trans k0
  have k1' := (hb2.cell (p := ⟨w.heap.size + 1, 0, none⟩) (show w.heap.size + 1 < w.heap.size + 1 + 1 + 1 by omega)).trans k1
  have k2' := (hb2.cell (p := ⟨w.heap.size + 2, 0, none⟩) (show w.heap.size + 2 < w.heap.size + 1 + 1 + 1 by omega)).trans k2
  have f0' := (hb2.frozen (p := ⟨w.heap.size, 0, none⟩) (show w.heap.size < w.heap.size + 1 + 1 + 1 by omega)).trans f0
  have f1' := (hb2.frozen (p := ⟨w.heap.size + 1, 0, none⟩) (show w.heap.size + 1 < w.heap.size + 1 + 1 + 1 by omega)).trans f1
  have f2' := (hb2.frozen (p := ⟨w.heap.size + 2, 0, none⟩) (show w.heap.size + 2 < w.heap.size + 1 + 1 + 1 by omega)).trans f2
  have hB2 := hB.trans (hb2.mono (by omega))
  clear k0 k1 k2 f0 f1 f2 HP hB hb2
  go_wp2_with fail
  refine leaves_cons (f := 37) (args := #[.pointer (some ⟨w.heap.size, 0, none⟩), .pointer (some ⟨w.heap.size + 1, 0, none⟩), .pointer (some ⟨w.heap.size + 2, 0, none⟩)]) (by simp) (by simp [go_sem]) ?_
  refine (catchPanic_V w.heap.size u pv [] _ (by omega) k0' k1' k2' f0' f1' f2').mono ?_
  rintro e u' w3 ⟨rfl, rfl, q0, q1, q2, hb3⟩
  refine ⟨.tuple #[.slice (some ⟨w2.heap.size, 0, none⟩) 0 0, .int .i64 0, .bool true], ?_, ⟨_, rfl, hB2.trans hb3⟩⟩
  simp [results, Tryd.results14, go_sem, q0, q1, q2]

set_option maxHeartbeats 2000000 in
set_option maxRecDepth 100000 in
theorem putV_room {w : World} {A : Option Addr} {n c : Nat} {l : List UInt8} (h : Byt w A n c l) (x : Int) (hx0 : -9223372036854775808 ≤ x) (hx1 : x ≤ 9223372036854775807) (hn : n ≤ 140737488355328) (hs : (Lib.uvarint (Lib.zigzag x)).length ≤ n) :
    Calls Tryd.prog 14 #[.slice A n c, .int .i64 x] w (PutGives_V w n (Lib.uvarint (Lib.zigzag x)).length (Lib.uvarint (Lib.zigzag x) ++ l.drop (Lib.uvarint (Lib.zigzag x)).length)) := by
  have hmf : ∀ (fn : Fn) (first cap : Array Value) (w : World), (Instr.makeFunc fn first cap).run Tryd.prog w = .ok (.func fn first cap) w := fun _ _ _ _ => rfl
  have HS := Lib.hid hs
  have hpos := Lib.uvarint_pos (Lib.zigzag x)
  have hn0 : 0 < n := by omega
  clear hs
  go_enter_defers Tryd.func14, Tryd.ntmps14
  go_wp2_with fail
  refine (clone_any (((h.alloc _).alloc _).alloc _) hn).mono ?_
  rintro e w1 ⟨A1, c1, rfl, ho1, hb1⟩
  have hs := HS.out
  have hz1 := hb1.size
  simp only [World.size_alloc] at hz1 hb1 ho1
  obtain ⟨g, cx, hvx, hbase, hlt⟩ := own_block ho1 hn0
  injection hvx with e1 e2 e3
  subst e1
  clear e2 e3 cx
  have k0 : w1.cell? ⟨w.heap.size, 0, none⟩ = some (.slice none 0 0) := (hb1.cell (p := ⟨w.heap.size, 0, none⟩) (show w.heap.size < w.heap.size + 1 + 1 + 1 by omega)).trans (by simp [go_sem])
  have k1 : w1.cell? ⟨w.heap.size + 1, 0, none⟩ = some (.int .i64 0) := (hb1.cell (p := ⟨w.heap.size + 1, 0, none⟩) (show w.heap.size + 1 < w.heap.size + 1 + 1 + 1 by omega)).trans (by simp [go_sem])
  have k2 : w1.cell? ⟨w.heap.size + 2, 0, none⟩ = some (.bool false) := (hb1.cell (p := ⟨w.heap.size + 2, 0, none⟩) (show w.heap.size + 2 < w.heap.size + 1 + 1 + 1 by omega)).trans (by simp [go_sem])
  have f0 : w1.frozen? ⟨w.heap.size, 0, none⟩ = false := (hb1.frozen (p := ⟨w.heap.size, 0, none⟩) (show w.heap.size < w.heap.size + 1 + 1 + 1 by omega)).trans (by simp [go_sem])
  have f1 : w1.frozen? ⟨w.heap.size + 1, 0, none⟩ = false := (hb1.frozen (p := ⟨w.heap.size + 1, 0, none⟩) (show w.heap.size + 1 < w.heap.size + 1 + 1 + 1 by omega)).trans (by simp [go_sem])
  have f2 : w1.frozen? ⟨w.heap.size + 2, 0, none⟩ = false := (hb1.frozen (p := ⟨w.heap.size + 2, 0, none⟩) (show w.heap.size + 2 < w.heap.size + 1 + 1 + 1 by omega)).trans (by simp [go_sem])
  have hB : Below w.heap.size w w1 := ((((Below.refl _ w).alloc (Nat.le_refl _) _).alloc (by simp) _).alloc (by simp; omega) _).trans (hb1.mono (by omega))
  have hcs : ∀ j, j < (Lib.uvarint (Lib.zigzag x)).length → (w1.cell? ⟨g, 0 + j, none⟩).isSome = true ∧ w1.frozen? ⟨g, 0 + j, none⟩ = false := fun j hj => by
    have hl1 : (Lib.byteCells l).length = n := by have := ho1.1; simpa using this
    rw [Nat.zero_add]
    refine ⟨?_, ho1.frozenAt j⟩
    rw [ho1.cellAt j (by omega), List.getElem?_eq_getElem (by omega)]; rfl
  have HP := Lib.hid (Tryd.binary_PutVarint g 0 n c1 x hx0 hx1 w1 hs hcs)
  have HO := Lib.hid ho1
  clear hs ho1 hb1 hcs
  go_wp2_with fail
  refine HP.out.mono ?_
  rintro e w2 ⟨rfl, hw2⟩
  have hb2 : Below (w.heap.size + 1 + 1 + 1) w1 w2 := by rw [hw2]; exact Lib.below_setCells_w hbase _ _ _
  have ho2 : w2.ownsRow (w.heap.size + 1 + 1 + 1) 5 1 (.slice (some ⟨g, 0, none⟩) n c1) n (Lib.byteCells (Lib.uvarint (Lib.zigzag x) ++ l.drop (Lib.uvarint (Lib.zigzag x)).length)) := by
    have hs := HS.out
    have := own_setCells (Lib.byteCells (Lib.uvarint (Lib.zigzag x))) 0 _ _ HO.out (by rw [Lib.byteCells_length]; omega)
    rw [hw2, Lib.byteCells_append]
    simpa [Lib.byteCells, List.map_drop] using this
  have b2 := Byt.of_own ho2
  have hz2 := hb2.size
  have k0' := (hb2.cell (p := ⟨w.heap.size, 0, none⟩) (show w.heap.size < w.heap.size + 1 + 1 + 1 by omega)).trans k0
  have k1' := (hb2.cell (p := ⟨w.heap.size + 1, 0, none⟩) (show w.heap.size + 1 < w.heap.size + 1 + 1 + 1 by omega)).trans k1
  have k2' := (hb2.cell (p := ⟨w.heap.size + 2, 0, none⟩) (show w.heap.size + 2 < w.heap.size + 1 + 1 + 1 by omega)).trans k2
  have f0' := (hb2.frozen (p := ⟨w.heap.size, 0, none⟩) (show w.heap.size < w.heap.size + 1 + 1 + 1 by omega)).trans f0
  have f1' := (hb2.frozen (p := ⟨w.heap.size + 1, 0, none⟩) (show w.heap.size + 1 < w.heap.size + 1 + 1 + 1 by omega)).trans f1
  have f2' := (hb2.frozen (p := ⟨w.heap.size + 2, 0, none⟩) (show w.heap.size + 2 < w.heap.size + 1 + 1 + 1 by omega)).trans f2
  have hB2 := hB.trans (hb2.mono (by omega))
  have HG : Hid (∀ v0 v1 v2, Byt (((w2.setCell ⟨w.heap.size, 0, none⟩ v0).setCell ⟨w.heap.size + 1, 0, none⟩ v1).setCell ⟨w.heap.size + 2, 0, none⟩ v2) (some ⟨g, 0, none⟩) n c1 (Lib.uvarint (Lib.zigzag x) ++ l.drop (Lib.uvarint (Lib.zigzag x)).length)) := fun v0 v1 v2 =>
    Byt.of_own (ownsRow_setCell_below (ownsRow_setCell_below (ownsRow_setCell_below ho2 (a := ⟨w.heap.size, 0, none⟩) (show w.heap.size < w.heap.size + 1 + 1 + 1 by omega) v0) (a := ⟨w.heap.size + 1, 0, none⟩) (show w.heap.size + 1 < w.heap.size + 1 + 1 + 1 by omega) v1) (a := ⟨w.heap.size + 2, 0, none⟩) (show w.heap.size + 2 < w.heap.size + 1 + 1 + 1 by omega) v2)
  clear k0 k1 k2 f0 f1 f2 HP HO hB hb2 hw2 ho2 b2
  go_wp2_with fail
  refine leaves_cons (f := 37) (args := #[.pointer (some ⟨w.heap.size, 0, none⟩), .pointer (some ⟨w.heap.size + 1, 0, none⟩), .pointer (some ⟨w.heap.size + 2, 0, none⟩)]) (by simp) (by simp [go_sem]) ?_
  refine (catchIdle_V _ _ _ _).mono ?_
  rintro e u' w3 ⟨rfl, rfl, rfl⟩
  refine ⟨.tuple #[.slice (some ⟨g, 0, none⟩) n c1, .int .i64 (Lib.uvarint (Lib.zigzag x)).length, .bool false], ?_, ⟨_, _, rfl, HG.out _ _ _, ?_⟩⟩
  · simp [results, Tryd.results14, go_sem, k0', k1', k2']
  · exact ((hB2.setCell (p := ⟨w.heap.size, 0, none⟩) (Nat.le_refl _) _).setCell (p := ⟨w.heap.size + 1, 0, none⟩) (Nat.le_succ _) _).setCell (p := ⟨w.heap.size + 2, 0, none⟩) (Nat.le_add_right _ _) _
end Go.Proofs.YtlokpenjafhhfaaDoor
