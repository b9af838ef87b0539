/-
  Words for memory: a slice value that holds a list of bytes, and what it is good for. No statement is proved here.
-/
import Derived.Test.YtklebomhnclcgaaProg
import Derived.WalkKit
import Derived.Below
import Derived.Laws.OwnMore
import Derived.Laws.BytesArg
import Derived.Lib.EndianMore
import Derived.Lib.Varint
import Derived.Lib.VarintDec
import Derived.Lib.UnsafeStr
import Derived.Lib.Hide
import Derived.Deep.Draws
namespace Go.Proofs.Ytklebomhnclcgaa
open Go.RowKit

theorem wu64 (n : Int) : IntKind.u64.wrap n = n % 18446744073709551616 := by simp [IntKind.wrap, IntKind.bits, IntKind.signed]
theorem wu32 (n : Int) : IntKind.u32.wrap n = n % 4294967296 := by simp [IntKind.wrap, IntKind.bits, IntKind.signed]
theorem wu16 (n : Int) : IntKind.u16.wrap n = n % 65536 := by simp [IntKind.wrap, IntKind.bits, IntKind.signed]
theorem wu8 (n : Int) : IntKind.u8.wrap n = n % 256 := by simp [IntKind.wrap, IntKind.bits, IntKind.signed]
theorem ret_int {k : IntKind} {a b : Int} (h : a = b) : Ending.returned (.int k a) = .returned (.int k b) := by rw [h]
theorem ret_bool {b : Bool} (h : b = true) : Ending.returned (.bool b) = .returned (.bool true) := by rw [h]
theorem add_spot (g o j : Nat) : (⟨g, o, none⟩ : Addr).add j = ⟨g, o + j, none⟩ := by unfold Addr.add; split <;> simp_all

/-- the slice '.slice A n c' holds the bytes l -/
structure Byt (w : World) (A : Option Addr) (n c : Nat) (l : List UInt8) : Prop where
  len : l.length = n
  cap : n ≤ c
  big : c ≤ 9223372036854775807
  cells : 0 < n → ∃ g o, A = some ⟨g, o, none⟩ ∧ g < w.heap.size ∧ ∀ j (h : j < l.length), w.cell? ⟨g, o + j, none⟩ = some (.int .u8 ((l[j]).toNat : Int))

theorem bel_drewN {B : Nat} {a w : World} (h : Below B a w) (n : Nat) : Below B a (w.drewN n) := ⟨h.os, h.tape, h.output, h.size, h.block⟩

def cutAt (A : Option Addr) (c k : Nat) : Option Addr := if c = k then A else A.map (·.add k)

section
variable {w w' : World} {A : Option Addr} {n c : Nat} {l : List UInt8}

theorem Byt.nil_ (w : World) : Byt w none 0 0 [] := ⟨rfl, Nat.le_refl _, by decide, fun h => absurd h (by omega)⟩
theorem Byt.keep (h : Byt w A n c l) (hs : w.heap.size ≤ w'.heap.size) (hk : ∀ p : Addr, p.block < w.heap.size → w'.cell? p = w.cell? p) : Byt w' A n c l :=
  ⟨h.len, h.cap, h.big, fun hn => by
    obtain ⟨g, o, e, hg, hc⟩ := h.cells hn
    exact ⟨g, o, e, Nat.lt_of_lt_of_le hg hs, fun j hj => (hk _ hg).trans (hc j hj)⟩⟩
theorem Byt.below (h : Byt w A n c l) (hb : Below w.heap.size w w') : Byt w' A n c l := h.keep hb.size fun _ hp => hb.cell hp
theorem Byt.drew (h : Byt w A n c l) : Byt w.drew A n c l := ⟨h.len, h.cap, h.big, h.cells⟩
theorem Byt.drewN (h : Byt w A n c l) (k : Nat) : Byt (w.drewN k) A n c l := ⟨h.len, h.cap, h.big, h.cells⟩
theorem Byt.alloc (h : Byt w A n c l) (o : Obj) : Byt (w.alloc o) A n c l := h.keep (by simp) fun p hp => World.cell?_alloc_lt w o p hp
theorem Byt.take (h : Byt w A n c l) {k : Nat} (hk : k ≤ n) : Byt w A k c (l.take k) :=
  ⟨by rw [List.length_take, h.len]; omega, by have := h.cap; omega, h.big, fun hn => by
    obtain ⟨g, o, e, hg, hc⟩ := h.cells (by omega)
    exact ⟨g, o, e, hg, fun j hj => by rw [hc j (by simp at hj; omega)]; simp⟩⟩
theorem Byt.drop (h : Byt w A n c l) {k : Nat} (hk : k ≤ n) : Byt w (cutAt A c k) (n - k) (c - k) (l.drop k) :=
  ⟨by rw [List.length_drop, h.len], by have := h.cap; omega, by have := h.big; omega, fun hn => by
    obtain ⟨g, o, rfl, hg, hc⟩ := h.cells (by omega)
    have hcap := h.cap
    refine ⟨g, o + k, ?_, hg, fun j hj => ?_⟩
    · unfold cutAt; rw [if_neg (by omega)]; simp [add_spot]
    · have := hc (k + j) (by simp at hj; omega)
      rw [Nat.add_assoc, this]; simp⟩
theorem Byt.at_ (h : Byt w A n c l) {k : Nat} (hk : k < n) : ∃ g o, A = some ⟨g, o, none⟩ ∧ g < w.heap.size ∧ w.cell? ⟨g, o + k, none⟩ = some (.int .u8 ((l[k]'(by rw [h.len]; exact hk)).toNat : Int)) := by
  obtain ⟨g, o, e, hg, hc⟩ := h.cells (by omega)
  exact ⟨g, o, e, hg, hc k (by rw [h.len]; exact hk)⟩
theorem Byt.addr (h : Byt w A n c l) (hk : 0 < n) : ∃ g o, A = some ⟨g, o, none⟩ ∧ g < w.heap.size ∧ ∀ j (h : j < l.length), w.cell? ⟨g, o + j, none⟩ = some (.int .u8 ((l[j]).toNat : Int)) := h.cells hk

/-- a row of the call's own holds its bytes -/
theorem Byt.of_own {base : Nat} {e : TypeId} (h : w.ownsRow base e 1 (.slice A n c) n (Lib.byteCells l)) : Byt w A n c l := by
  have hl : l.length = n := by have := h.1; simpa [Lib.byteCells] using this
  have h0 := h
  rcases h.2 with ⟨hv, hn⟩ | ⟨g, cap, cur, hv, _, hg, hc, hm, _, ht⟩
  · injection hv with h1 h2 h3
    subst h1 h2 h3
    exact ⟨hl, Nat.le_refl _, by decide, fun h => absurd h (by omega)⟩
  · injection hv with h1 h2 h3
    subst h1 h3
    refine ⟨hl, hc, by simpa [maxLen] using hm, fun _ => ⟨g, 0, rfl, (Array.getElem?_eq_some_iff.1 hg).1, fun j hj => ?_⟩⟩
    rw [Nat.zero_add, h0.cellAt j (by omega)]
    simp [Lib.byteCells, List.getElem?_eq_getElem hj]

/-- the value of a row of the call's own is a slice -/
theorem own_slice {base : Nat} {e : TypeId} {v : Value} {xs : List Value} (h : w.ownsRow base e 1 v n xs) : ∃ A c, v = .slice A n c := by
  rcases h.2 with ⟨rfl, rfl⟩ | ⟨g, cap, _, rfl, _⟩
  · exact ⟨_, _, rfl⟩
  · exact ⟨_, _, rfl⟩
theorem own_block {base : Nat} {e : TypeId} {v : Value} {xs : List Value} (h : w.ownsRow base e 1 v n xs) (hn : 0 < n) : ∃ g c, v = .slice (some ⟨g, 0, none⟩) n c ∧ base ≤ g ∧ g < w.heap.size := by
  rcases h.2 with ⟨rfl, rfl⟩ | ⟨g, cap, _, rfl, hb, hg, _⟩
  · omega
  · exact ⟨_, _, rfl, hb, (Array.getElem?_eq_some_iff.1 hg).1⟩
end

/-- a row that came in, as the shell of a proof tells it, holds bytes -/
theorem byte_of_wf {z : Int} (h : (Lit.int .u8 z).wf = true) : 0 ≤ z ∧ z ≤ 255 := by simpa [Lit.wf, IntKind.min, IntKind.max, IntKind.signed, IntKind.bits] using h
def bytesOf (zs : List Int) : List UInt8 := zs.map fun z => z.toNat.toUInt8
theorem Byt.of_row {w : World} {a : Addr} {len cap : Nat} {zs : List Int} (hl : len ≤ cap) (hm : cap ≤ maxLen) (hz : zs.length = cap) (hcell : ∀ i, i < zs.length → w.cell? (a.add i) = some (.int .u8 (zs.getD i 0)))
    (hwz : ∀ n ∈ zs, (Lit.int .u8 n).wf = true) : Byt w (some a) len cap (bytesOf (zs.take len)) := by
  refine ⟨by simp [bytesOf]; omega, hl, by simpa [maxLen] using hm, fun hn => ?_⟩
  obtain ⟨b, off, spot⟩ := a
  have h0 := hcell 0 (by omega)
  have hspot : spot = none := by simpa [Addr.add] using World.cell?_spot h0
  subst hspot
  refine ⟨b, off, rfl, World.block_lt_of_cell? w _ (by simpa [Addr.add] using h0), fun j hj => ?_⟩
  have hj' : j < zs.length := by simp [bytesOf] at hj; omega
  have := hcell j hj'
  rw [add_spot] at this
  rw [this]
  have hb := byte_of_wf (hwz zs[j] (List.getElem_mem hj'))
  have e : (zs.getD j 0) = zs[j] := by simp [List.getD, List.getElem?_eq_getElem hj']
  rw [e]
  simp only [bytesOf, List.getElem_map, List.getElem_take]
  have : ((zs[j].toNat.toUInt8).toNat : Int) = zs[j] := by
    simp only [Nat.toUInt8, UInt8.toNat_ofNat']
    omega
  rw [this]

/-- the bytes as numbers, for the contracts that speak of numbers -/
def nums (l : List UInt8) : List Int := l.map fun b => (b.toNat : Int)
theorem nums_length (l : List UInt8) : (nums l).length = l.length := by simp [nums]
theorem nums_getD (l : List UInt8) (j : Nat) (h : j < l.length) : (nums l).getD j 0 = (l[j].toNat : Int) := by simp [nums, List.getD, h]
theorem nums_cells (l : List UInt8) : (nums l).map (Value.int .u8) = Lib.byteCells l := by simp [nums, Lib.byteCells]

/-- the text of bytes -/
def strOf (l : List UInt8) : ByteArray := ⟨l.toArray⟩
theorem strOf_toList (l : List UInt8) : (strOf l).data.toList = l := rfl
theorem strOf_list (l : List UInt8) : (strOf l).toList = l := by rw [ByteArray.toList_eq]; rfl
theorem strOf_inj {a b : List UInt8} : strOf a = strOf b ↔ a = b := by
  constructor
  · intro h
    have := congrArg (fun s : ByteArray => s.data.toList) h
    simpa [strOf] using this
  · rintro rfl; rfl
theorem toUInt8_back (b : UInt8) : UInt8.ofNat b.toNat = b := by simp
theorem strOfNums_nums (l : List UInt8) : strOfNums (nums l) = strOf l := by
  simp only [strOfNums, nums, strOf, List.map_map]
  congr 2
  conv => rhs; rw [← List.map_id l]
  apply List.map_congr_left
  intro b _
  simp

/-- string(b) -/
theorem Byt.text {P : Program} {w : World} {A : Option Addr} {n c : Nat} {l : List UInt8} (h : Byt w A n c l) (src e : TypeId) (hs : P.underlying src = some (.slice e)) (he : P.underlying e = some (.int .u8)) (dst : TypeId) (hd : P.underlying dst = some .string) :
    (convert src dst (.slice A n c)).run P w = .ok (.string (strOf l)) w := by
  rcases A with _ | a
  · have hn : n = 0 := by
      rcases Nat.eq_zero_or_pos n with h0 | h0
      · exact h0
      · obtain ⟨g, o, e, _⟩ := h.cells h0; cases e
    have hl : l = [] := List.eq_nil_of_length_eq_zero (by rw [h.len, hn])
    subst hl
    rw [run_convert_bytes_nil w src e hs he n c dst hd]
    rfl
  · rcases Nat.eq_zero_or_pos n with h0 | h0
    · have hl : l = [] := List.eq_nil_of_length_eq_zero (by rw [h.len, h0])
      subst hl
      subst h0
      rw [run_convert_bytes_string w src dst e _ 0 c hs he hd, run_bytesToString w _ 0 c [] (by simp [loadCells, loadCellsFrom])]
      rfl
    · obtain ⟨g, o, ea, hg, hc⟩ := h.cells h0
      injection ea with ea
      subst ea
      rw [run_convert_bytes_arg w src e hs he g o n c (nums l) (by rw [nums_length, h.len]) (fun i hi => by rw [nums_getD l i (by rw [h.len]; exact hi)]; exact hc i (by rw [h.len]; exact hi)) dst hd, strOfNums_nums]

theorem run_size1 {P : Program} (w : World) (t : TypeId) (hz : (P.info? (P.elem t)).map (·.size) = some 1) : (sizeOf (P.elem t)).run P w = .ok 1 w := by
  cases hi : P.info? (P.elem t) with
  | none => rw [hi] at hz; cases hz
  | some i => rw [hi] at hz; injection hz with hz; simp [sizeOf, typeInfo, hi, hz]

section
variable {P : Program} (w : World) (t : TypeId) (A : Option Addr) (n c : Nat) (ht : P.underlying t = some (.slice (P.elem t))) (hz : (P.info? (P.elem t)).map (·.size) = some 1)
include ht hz
/-- b[:k], without parting on the capacity -/
theorem run_cut_h (kh : IntKind) (h : Int) (h0 : 0 ≤ h) (h2 : h ≤ c) :
    (Instr.slice t (.slice A n c) none (some (.int kh h)) none).run P w = .ok (.slice A h.toNat c) w := by
  rw [run_slice_h w t A n c ht kh h h0 h2, run_size1 w t hz]
  simp only [Result.andThen, sliced]
  cases A <;> simp [Addr.add]
/-- b[k:], without parting on the capacity -/
theorem run_cut_l (kl : IntKind) (l : Int) (h0 : 0 ≤ l) (h1 : l ≤ n) :
    (Instr.slice t (.slice A n c) (some (.int kl l)) none none).run P w = .ok (.slice (cutAt A c l.toNat) (n - l.toNat) (c - l.toNat)) w := by
  rw [run_slice_l w t A n c ht kl l h0 h1, run_size1 w t hz]
  simp only [Result.andThen, sliced, cutAt, Nat.mul_one]
end
end Go.Proofs.Ytklebomhnclcgaa
