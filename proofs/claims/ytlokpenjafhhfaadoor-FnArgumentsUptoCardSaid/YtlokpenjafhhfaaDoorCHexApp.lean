/-
  impl.Encode, impl.Decode, impl.AppendEncode and impl.AppendDecode: they come back, and nothing that was there has turned. No statement is proved here.
-/
import Derived.Test.YtlokpenjafhhfaaDoorCGrow
namespace Go.Proofs.YtlokpenjafhhfaaDoor
open Go.RowKit Go.Lib
set_option linter.unusedVariables false

/-- where what is decoded or encoded is laid: at a place of a row of the call's own, if anything is laid -/
def Place (w : World) (base nd need : Nat) (X : Option Addr) : Prop := 0 < need → ∃ g od N f, X = some ⟨g, od, none⟩ ∧ base ≤ g ∧ od + nd ≤ N ∧ w.rowIs g 5 N f
/-- the block of what is read lies below -/
def Under (base m : Nat) (B : Option Addr) : Prop := 0 < m → ∀ b o, B = some ⟨b, o, none⟩ → b < base

theorem lib_enc_all {w : World} {base nd Y m d : Nat} {X B : Option Addr} {l : List UInt8} (hX : Place w base nd (2 * m) X) (hnd : 2 * m ≤ nd) (h : Byt w B m d l) (hB : Under base m B) (hbase : base ≤ w.heap.size) (hm : m ≤ 140737488355328) :
    Calls Tryd.prog 31 #[.slice X nd Y, .slice B m d] w fun e w' => e = .returned (.int .i64 ((m : Int) * 2)) ∧ Below base w w' := by
  rcases Nat.eq_zero_or_pos m with h0 | h0
  · subst h0
    exact (lib_enc_zero w _ B d).mono fun e w' ⟨h1, h2⟩ => ⟨h1, by subst h2; exact Below.refl _ _⟩
  · obtain ⟨g, od, N, f, rfl, hg, hfit, hrow⟩ := hX (by omega)
    refine (lib_enc_row hrow hg hfit h h0 hnd (fun b o hb => by have := hB h0 b o hb; omega) hm).mono ?_
    rintro e w' ⟨rfl, hb⟩
    rw [Nat.min_eq_left hbase] at hb
    exact ⟨rfl, hb⟩

def DecAll (w : World) (base k : Nat) (ev : Value) (e : Ending) (w' : World) : Prop :=
  ∃ (j : Nat) (o : Hx.Out), j ≤ k ∧ e = .returned (.tuple #[.int .i64 (j : Int), Hx.errVal 70 ev o]) ∧ Below base w w'

theorem lib_dec_all {w : World} {base nd Y m d : Nat} {X B : Option Addr} {l : List UInt8} {ev : Value} (hX : Place w base nd (m / 2) X) (hnd : m / 2 ≤ nd) (h : Byt w B m d l) (hB : Under base m B) (hbase : base ≤ w.heap.size) (hm : m ≤ 140737488355328)
    (hE : w.cell? ⟨2, 0, none⟩ = some ev) (hEb : 2 < base) :
    Calls Tryd.prog 32 #[.slice X nd Y, .slice B m d] w (DecAll w base (m / 2) ev) := by
  rcases Nat.eq_zero_or_pos m with h0 | h0
  · subst h0
    exact (lib_dec_zero w _ B d).mono fun e w' ⟨h1, h2⟩ => ⟨0, .ok, by omega, h1, by subst h2; exact Below.refl _ _⟩
  · rcases Nat.eq_zero_or_pos (m / 2) with h1 | h1
    · obtain rfl : m = 1 := by omega
      obtain ⟨g, o, rfl, hg, hc⟩ := h.cells h0
      have c0 := hc 0 (by rw [h.len]; exact h0)
      exact (lib_dec_one w _ g o d _ ev c0 hE).mono fun e w' ⟨q, h1, h2⟩ => ⟨0, q, by omega, h1, h2.mono hbase⟩
    · obtain ⟨g, od, N, f, rfl, hg, hfit, hrow⟩ := hX h1
      refine (lib_dec_row hrow hg hfit h h0 hnd (fun b o hb => by have := hB h0 b o hb; omega) hm hE (by omega)).mono ?_
      rintro e w' ⟨k, q, hk, rfl, hb⟩
      rw [Nat.min_eq_left hbase] at hb
      exact ⟨k, q, hk, rfl, hb⟩

/-- a row that a call of Clone gave, as a place -/
theorem place_of_own {w : World} {base : Nat} {A : Option Addr} {n c need : Nat} {xs : List Value} (h : w.ownsRow base 5 1 (.slice A n c) n xs) (hn : need ≤ n) : Place w base n need A := fun h0 => by
  obtain ⟨g, c', he, hb, _⟩ := own_block h (by omega)
  injection he with e1 e2 e3
  subst e1
  obtain ⟨f, hf⟩ := own_row h
  rcases h.2 with ⟨h', _⟩ | ⟨_, _, _, h', _, _, hcap, _⟩
  · cases h'
  · injection h' with _ _ h3
    subst h3
    exact ⟨g, 0, c, f, rfl, hb, by omega, hf⟩
theorem under_of_byt {w : World} {B : Option Addr} {m d base : Nat} {l : List UInt8} (h : Byt w B m d l) (hb : w.heap.size ≤ base) : Under base m B := fun h0 b o e => by
  obtain ⟨g, o', e', hg, _⟩ := h.cells h0
  rw [e] at e'
  injection e' with e'
  injection e' with e'
  subst e'
  omega

def EncGives (w : World) (n m : Nat) (e : Ending) (w' : World) : Prop :=
  ∃ A c, e = .returned (.tuple #[.slice A n c, .int .i64 ((m : Int) * 2)]) ∧ Below w.heap.size w w'
set_option maxRecDepth 100000 in
theorem encode_any {w : World} {A B : Option Addr} {n c m d : Nat} {l k : List UInt8} (h1 : Byt w A n c l) (h2 : Byt w B m d k) (hn : n ≤ 140737488355328) (hm : 2 * m ≤ n) :
    Calls Tryd.prog 9 #[.slice A n c, .slice B m d] w (EncGives w n m) := by
  go_enter Tryd.func9, Tryd.ntmps9
  go_wp2_with fail
  refine (clone_any h1 hn).mono ?_
  rintro e w1 ⟨A1, c1, rfl, ho1, hb1⟩
  have HX := Lib.hid (lib_enc_all (Y := c1) (place_of_own ho1 hm) hm (h2.below hb1) (under_of_byt h2 (Nat.le_refl _)) hb1.size (by omega))
  clear ho1
  go_wp2_with fail
  refine HX.out.mono ?_
  rintro e w2 ⟨rfl, hb2⟩
  have hB := hb1.trans hb2
  clear HX hb1 hb2
  go_wp2_with fail
  go_ret2
  exact ⟨_, _, rfl, hB⟩
end Go.Proofs.YtlokpenjafhhfaaDoor
