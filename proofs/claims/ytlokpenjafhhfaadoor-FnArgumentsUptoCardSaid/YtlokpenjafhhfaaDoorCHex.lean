/-
  impl.fault, impl.EncodeToString and impl.DecodeString, and that what is written as digits is read back. No statement is proved here.
-/
import Derived.Test.YtlokpenjafhhfaaDoorApp
import Derived.Test.YtlokpenjafhhfaaDoorShelf
namespace Go.Proofs.YtlokpenjafhhfaaDoor
open Go.RowKit Go.Lib

theorem v_digit {d : Nat} (h : d < 16) : Hx.v (Hx.digit d) = d := by
  have : ∀ d : Fin 16, Hx.v (Hx.digit d.val) = d.val := by decide
  exact this ⟨d, h⟩
theorem decode_encode : ∀ l : List UInt8, Hx.decode (Hx.encode l) = (l, .ok)
  | [] => Hx.decode_nil
  | a :: t => by
    have ha := a.toNat_lt
    have h1 := v_digit (d := a.toNat / 16) (by omega)
    have h2 := v_digit (d := a.toNat % 16) (by omega)
    rw [Hx.encode_cons, Hx.decode_two, h1, h2, if_neg (by omega), if_neg (by omega), decode_encode t, show a.toNat / 16 * 16 + a.toNat % 16 = a.toNat by omega, UInt8.ofNat_toNat]

theorem Byt.setCell {w : World} {A : Option Addr} {n c : Nat} {l : List UInt8} (h : Byt w A n c l) (p : Addr) (v : Value) (hne : ∀ g o, A = some ⟨g, o, none⟩ → g ≠ p.block) : Byt (w.setCell p v) A n c l :=
  ⟨h.len, h.cap, h.big, fun hn => by
    obtain ⟨g, o, e, hlt, hc⟩ := h.cells hn
    exact ⟨g, o, e, by simpa [World.setCell] using hlt, fun j hj => (World.cell?_of_block (a := ⟨g, o + j, none⟩) (Below.heap_setCell _ _ _ _ (hne g o e))).trans (hc j hj)⟩⟩
theorem three_cells {w : World} {b : Nat} {x y z : Value} {t : TypeId} (h : w.heap[b]? = some (.cells #[x, y, z] t (0, 0))) :
    w.cell? ⟨b, 0, none⟩ = some x ∧ w.cell? ⟨b, 1, none⟩ = some y ∧ w.cell? ⟨b, 2, none⟩ = some z ∧ w.frozen? ⟨b, 0, none⟩ = false ∧ w.frozen? ⟨b, 1, none⟩ = false ∧ w.frozen? ⟨b, 2, none⟩ = false := by
  refine ⟨?_, ?_, ?_, ?_, ?_, ?_⟩ <;> simp [World.cell?, World.frozen?, h]

set_option maxRecDepth 100000 in
theorem fault_nil (w : World) :
    Calls Tryd.prog 28 #[.nilIface] w fun e w' => e = .returned (.agg #[.bool false, .bool false, .int .u8 0]) ∧ Below w.heap.size w w' := by
  go_enter Tryd.func28, Tryd.ntmps28
  go_wp2
  exact bodyPost_ret (v := .agg #[.bool false, .bool false, .int .u8 0]) (by simp [results, Tryd.results28, go_sem]) rfl ⟨rfl, by repeat (first | exact Below.refl _ _ | refine Below.setCell ?_ (by simp) _ | refine Below.alloc ?_ (by simp) _)⟩

theorem enc_at {w : World} {g o n c : Nat} {l : List UInt8} (h : Byt w (some ⟨g, o, none⟩) n c l) (hg : g < w.heap.size) (hn : 2 * n ≤ 281474976710656) :
    Calls Tryd.prog 7 #[.slice (some ⟨g, o, none⟩) n c] w fun e w' => e = .returned (.string ⟨(Hx.encode l).toArray⟩) ∧ Below w.heap.size w w' := by
  have hc : ∀ j (hj : j < l.length), w.cell? ⟨g, o + j, none⟩ = some (.int .u8 ((l[j]).toNat : Int)) := fun j hj => by
    obtain ⟨g', o', e, _, hc⟩ := h.cells (by have := h.len; omega)
    injection e with e
    injection e with e1 e2
    subst e1 e2
    exact hc j hj
  have hl := h.len
  subst hl
  go_enter Tryd.func7, Tryd.ntmps7
  go_wp2_with fail
  refine (Tryd.hex_EncodeToString_bytes g o c l w hc hg hn).mono ?_
  rintro e w1 ⟨rfl, hb⟩
  go_wp2_with fail
  go_ret
  exact ⟨rfl, hb⟩

/-- the bytes of a text of digits -/
def DecGives (w : World) (l : List UInt8) (e : Ending) (w' : World) : Prop :=
  ∃ A c, e = .returned (.tuple #[.slice A l.length c, .agg #[.bool false, .bool false, .int .u8 0]]) ∧ Byt w' A l.length c l ∧ Below w.heap.size w w'

set_option maxHeartbeats 1000000 in
set_option maxRecDepth 100000 in
theorem dec_enc_any (w : World) (l : List UInt8) (ev : Value) (hE : w.cell? ⟨2, 0, none⟩ = some ev) (hn : 2 * l.length ≤ 281474976710656) :
    Calls Tryd.prog 6 #[.string ⟨(Hx.encode l).toArray⟩] w (DecGives w l) := by
  have hlt := World.block_lt_of_cell? w _ hE
  have H := Lib.hid (Tryd.hex_DecodeString_owns ⟨(Hx.encode l).toArray⟩ (w.alloc (.cells #[.bool false, .bool false, .int .u8 0] 27)) ev (by rw [World.cell?_alloc_lt _ _ _ hlt]; exact hE) (by show (Hx.encode l).toArray.size ≤ _; rw [List.size_toArray, Hx.encode_length]; exact hn))
  have hd : Hx.decode ((⟨(Hx.encode l).toArray⟩ : ByteArray).data.toList) = (l, .ok) := by simpa using decode_encode l
  rw [hd] at H
  clear hE hlt hd
  generalize (⟨(Hx.encode l).toArray⟩ : ByteArray) = s at *
  go_enter Tryd.func6, Tryd.ntmps6
  go_wp2_with fail
  refine H.out.mono ?_
  rintro e w1 ⟨v1, rfl, ho1, hb1⟩
  clear H
  obtain ⟨A1, c1', rfl⟩ := own_slice ho1
  have b1 : Byt w1 A1 l.length c1' l := Byt.of_own ho1
  have hne : ∀ g o, A1 = some ⟨g, o, none⟩ → g ≠ w.heap.size := by
    rintro g o rfl
    have := (ho1.lt g rfl).1
    simp only [World.size_alloc] at this
    omega
  have Hne := Lib.hid hne
  clear ho1 hne
  have hz1 := hb1.size
  simp only [World.size_alloc] at hz1 hb1
  have k0 : w1.heap[w.heap.size]? = some (.cells #[.bool false, .bool false, .int .u8 0] 27 (0, 0)) := (hb1.block w.heap.size (by omega)).trans (by show (w.heap.push _)[w.heap.size]? = _; exact Array.getElem?_push_size)
  have hB : Below w.heap.size w w1 := ((Below.refl _ w).alloc (Nat.le_refl _) _).trans (hb1.mono (by omega))
  clear hb1
  simp only [Hx.errVal]
  go_wp2_with fail
  refine (fault_nil _).mono ?_
  rintro e w2 ⟨rfl, hb2⟩
  have b2 := b1.below hb2
  have hz2 := hb2.size
  have k1 := (hb2.block w.heap.size (by omega)).trans k0
  have hB2 := hB.trans (hb2.mono hB.size)
  obtain ⟨c0, c1, c2, f0, f1, f2⟩ := three_cells k1
  clear hb2 hB b1 k0 k1
  have hlt : w.heap.size < w2.heap.size := by omega
  go_wp2
  exact bodyPost_ret (v := .tuple #[.slice A1 l.length c1', .agg #[.bool false, .bool false, .int .u8 0]]) (by simp [results, Tryd.results6, go_sem, c0, c1, c2]) rfl
    ⟨A1, c1', rfl, ((b2.setCell _ _ Hne.out).setCell _ _ Hne.out).setCell _ _ Hne.out, ((hB2.setCell (Nat.le_refl _) _).setCell (Nat.le_refl _) _).setCell (Nat.le_refl _) _⟩
end Go.Proofs.YtlokpenjafhhfaaDoor
