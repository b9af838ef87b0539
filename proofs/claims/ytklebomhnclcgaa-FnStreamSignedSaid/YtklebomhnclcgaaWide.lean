/-
  append, bytes.Clone, binary.AppendUvarint and binary.AppendVarint for rows of up to 200,000,000,000,000 bytes (more than 2^47, and with the growth by a quarter still below 2^48). No statement is proved here.
-/
import Derived.Test.YtklebomhnclcgaaCClone
import Derived.Deep.AppendSrc
import Derived.Lib.VarintMem
import Derived.Lib.Walk
import Derived.Lib.Slices
namespace Go.Proofs.Ytklebomhnclcgaa
open Go.RowKit
set_option linter.unusedVariables false

theorem growBy_wide (need : Nat) : ∀ (r c : Nat), c < need → Builtin.growBy need r c ≤ need + (need + 768) / 4
  | 0, c, h => by simp only [Builtin.growBy]; omega
  | r + 1, c, h => by
    simp only [Builtin.growBy]
    rw [if_neg (by omega)]
    rcases Nat.lt_or_ge (c + (c + 768) / 4) need with h1 | h1
    · exact growBy_wide need r _ h1
    · cases r with
      | zero => simp only [Builtin.growBy]; omega
      | succ r => simp only [Builtin.growBy]; rw [if_pos h1]; omega
theorem nextcap_wide {need c : Nat} (h : c < need) (hb : need ≤ 200000000000000) : Builtin.nextslicecap need c ≤ 281474976710656 := by
  unfold Builtin.nextslicecap
  split
  · omega
  · split
    · omega
    · have := growBy_wide need 4 c h
      omega

theorem wide_full {w : World} {base : Nat} {e : TypeId} {g n c : Nat} {xs : List Value} (h : w.ownsRow base e 1 (.slice (some ⟨g, 0, none⟩) n c) n xs) :
    ∃ ys : List Value, ys.length = c ∧ ys.take n = xs ∧ w.ownsRow base e 1 (.slice (some ⟨g, 0, none⟩) c c) c ys := by
  rcases h.2 with ⟨h', _⟩ | ⟨g', cap, cur, h', hb, hg, hn, hm, hs, ht⟩
  · cases h'
  · injection h' with h1 _ h3
    injection h1 with h1
    injection h1 with h1
    subst h1 h3
    refine ⟨cur.toList, by simpa using hs, by simpa using ht, by simpa using hs, .inr ⟨g, c, cur, rfl, hb, hg, Nat.le_refl _, hm, hs, ?_⟩⟩
    rw [List.take_of_length_le (by simp [hs])]
theorem wide_part {w : World} {base : Nat} {e : TypeId} {g c m : Nat} {ys : List Value} (h : w.ownsRow base e 1 (.slice (some ⟨g, 0, none⟩) c c) c ys) (hm : m ≤ c) :
    w.ownsRow base e 1 (.slice (some ⟨g, 0, none⟩) m c) m (ys.take m) := by
  have hl : ys.length = c := by simpa using h.1
  rcases h.2 with ⟨h', _⟩ | ⟨g', cap, cur, h', hb, hg, hn, hmx, hs, ht⟩
  · cases h'
  · injection h' with h1 _ h3
    injection h1 with h1
    injection h1 with h1
    subst h1 h3
    refine ⟨by simp; omega, .inr ⟨g, c, cur, rfl, hb, hg, hm, hmx, hs, ?_⟩⟩
    rw [← ht, List.take_take, Nat.mul_one, Nat.mul_one, Nat.min_eq_left hm]
theorem wide_new (w : World) (o : Obj) : (w.alloc o).heap[w.heap.size]? = some o := by show (w.heap.push o)[w.heap.size]? = _; exact Array.getElem?_push_size
theorem wide_cells (l : List UInt8) : (Lib.byteCells l).length = l.length := by simp [Lib.byteCells]

theorem src_of_byt {P : Program} {w : World} {tx e : TypeId} {B : Option Addr} {m d : Nat} {l : List UInt8} (hk : P.underlying tx = some (.slice e)) (h : Byt w B m d l) : Src P 1 tx (.slice B m d) m (Lib.byteCells l) w := by
  rcases B with _ | a
  · have hm : m = 0 := by
      rcases Nat.eq_zero_or_pos m with h0 | h0
      · exact h0
      · obtain ⟨_, _, h', _⟩ := h.cells h0
        cases h'
    subst hm
    rw [List.eq_nil_of_length_eq_zero h.len]
    exact Src.ofNil w hk d
  · refine Src.ofSlice w hk a m d _ (by rw [wide_cells, h.len, Nat.mul_one]) (fun j u hu => ?_) (one_cells l)
    have hj : j < l.length := by
      rcases Nat.lt_or_ge j l.length with h' | h'
      · exact h'
      · rw [List.getElem?_eq_none (by rw [wide_cells]; exact h')] at hu; cases hu
    obtain ⟨g, o, h', _, hc⟩ := h.cells (by have := h.len; omega)
    injection h' with h'
    subst h'
    rw [add_spot, hc j hj]
    simpa [Lib.byteCells, List.getElem?_eq_getElem hj] using hu

theorem run_append_wide {P : Program} (w : World) (base : Nat) (t ty e : TypeId) (hB : BRow P t e) (A : Option Addr) (n c : Nat) (l1 : List UInt8) (h : w.ownsRow base e 1 (.slice A n c) n (Lib.byteCells l1))
    (B : Option Addr) (m d : Nat) (l2 : List UInt8) (hr : Byt w B m d l2) (hlim : n + m ≤ 200000000000000) (hbase : base ≤ w.heap.size) :
    ∃ A' c' w', (Builtin.append_ #[t, t] ty #[.slice A n c, .slice B m d]).run P w = .ok (.slice A' (n + m) c') w' ∧ w'.ownsRow base e 1 (.slice A' (n + m) c') (n + m) (Lib.byteCells (l1 ++ l2)) ∧ Below base w w' := by
  obtain ⟨ht, i, hi, hz, hs, hby⟩ := hB
  have hl : l1.length = n := by have := h.1; simpa [Lib.byteCells] using this
  have hbl : (Lib.byteCells l1).length = n := by rw [wide_cells, hl]
  have hbm : (Lib.byteCells l2).length = m := by rw [wide_cells, hr.len]
  have hsrc : Src P i.size t (.slice B m d) m (Lib.byteCells l2) w := by rw [hs]; exact src_of_byt ht hr
  have hcn : n ≤ c := by
    rcases h.2 with ⟨h', h0⟩ | ⟨g, cap, cur, h', _, _, hn, _⟩
    · omega
    · injection h' with _ _ h3
      omega
  by_cases hfit : n + m ≤ c
  · rcases h.2 with ⟨h', h0⟩ | ⟨g, cap, cur, h', hg, _⟩
    · injection h' with h1 _ h3
      subst h1 h3 h0
      obtain rfl : m = 0 := by omega
      have hl2 : l2 = [] := List.eq_nil_of_length_eq_zero hr.len
      have hl1 : l1 = [] := List.eq_nil_of_length_eq_zero hl
      subst hl1 hl2
      refine ⟨none, 0, w, ?_, World.ownsRow_nil _ _ _ _, Below.refl _ _⟩
      have hc0 := hsrc.cells
      have hln := hsrc.len
      simp [Builtin.append_, run_underlying ht, sizeOf, typeInfo, hi, Builtin.lenOf, hc0]
    · injection h' with h1 _ h3
      subst h1 h3
      obtain ⟨ys, hyl, hyt, hw⟩ := wide_full h
      have hrun := run_append_room_src w t t ty e i ht hi g 0 n c (.slice B m d) m (Lib.byteCells l2) hsrc hfit
        (fun j hj => by
          rw [hbm] at hj
          rw [hs, Nat.zero_add, Nat.mul_one, hw.cellAt (n + j) (by omega), List.getElem?_eq_getElem (by omega)]
          rfl)
        (fun j _ => hw.frozenAt _)
      rw [hs, Nat.zero_add, Nat.mul_one] at hrun
      refine ⟨_, _, _, hrun, ?_, (Below.refl _ w).trans (Lib.below_setCells_w hg _ _ _)⟩
      have h2 := wide_part (own_setCells (Lib.byteCells l2) n ys w hw (by rw [hbm]; exact hfit)) hfit
      rw [hyt, List.take_append_of_le_length (by rw [List.length_append, hbl, hbm]; omega), List.take_of_length_le (by rw [List.length_append, hbl, hbm]; omega)] at h2
      rw [Lib.byteCells_append]
      exact h2
  · have hold : (Builtin.firstCells i.size n (.slice A n c)).run P w.drew = .ok (Lib.byteCells l1).toArray w.drew := by
      rcases A with _ | a
      · have h0 : n = 0 := by
          rcases h.2 with ⟨_, h0⟩ | ⟨g, cap, cur, h', _⟩
          · exact h0
          · injection h' with h1 _ _
            cases h1
        subst h0
        rw [List.eq_nil_of_length_eq_zero hbl]
        exact run_firstCells_none w.drew i.size 0 _ _
      · refine run_firstCells_some w.drew i.size n a n c _ (by rw [hs, hbl, Nat.mul_one]) (fun j v hj => ?_)
        have hjn : j < n := by
          rcases Nat.lt_or_ge j n with h' | h'
          · exact h'
          · rw [List.getElem?_eq_none (by omega)] at hj; cases hj
        obtain ⟨g, c', he, _, _⟩ := own_block h (by omega)
        injection he with h1 _ _
        injection h1 with h1
        subst h1
        rw [add_spot, Nat.zero_add]
        exact (h.cellAt j (by omega)).trans hj
    have hrun := run_append_grow_src w t t ty e i (Value.int .u8 0) ht hi hz A n c _ hold (.slice B m d) m (Lib.byteCells l2) hsrc (by omega) (by omega) (by rw [hby, Nat.mul_one]; exact nextcap_wide (by omega) hlim)
    have hGn : n + m ≤ grownCap w (n + m) c e := grownCap_ge w _ _ _
    have hG := grownCap_le_maxLen w (n + m) c e (by unfold maxLen; omega)
    refine ⟨_, _, _, hrun, ?_, (Below.refl _ w).drew.alloc hbase _⟩
    generalize grownCap w (n + m) c e = G at *
    refine ⟨by simp [Lib.byteCells, hl, hr.len], .inr ⟨w.heap.size, G, _, rfl, hbase, wide_new w.drew _, hGn, hG, ?_, ?_⟩⟩
    · simp [Builtin.zeroCells, Value.cells, hbl, hbm]
      omega
    · simp only [Array.toList_append, Nat.mul_one]
      rw [List.take_append_of_le_length (by simp [hbl, hbm]), List.take_of_length_le (by simp [hbl, hbm]), Lib.byteCells_append]

theorem wpList_append_wide {P : Program} (w : World) {ops : Array Oper} {rest : List Oper} {o : Oper} {a : Act} {Q : Exit → Act → World → Prop} (hgd : o.guard = none) (s x : Operand) (t : TypeId)
    (ho : o.op = .call { callee := .builtin .append, args := #[s, x], argTypes := #[t, t] })
    (base : Nat) (e : TypeId) (hB : BRow P t e) (A : Option Addr) (n c : Nat) (l1 : List UInt8) (hs : a.eval s = .slice A n c) (hown : w.ownsRow base e 1 (.slice A n c) n (Lib.byteCells l1))
    (B : Option Addr) (m d : Nat) (l2 : List UInt8) (hx : a.eval x = .slice B m d) (hr : Byt w B m d l2) (hlim : n + m ≤ 200000000000000) (hbase : base ≤ w.heap.size)
    (h : ∀ A' c' w', w'.ownsRow base e 1 (.slice A' (n + m) c') (n + m) (Lib.byteCells (l1 ++ l2)) → Below base w w' → wpList P ops Q rest (a.put o.dst (.slice A' (n + m) c')) w') : wpList P ops Q (o :: rest) a w := by
  obtain ⟨A', c', w', hrun, h2, h3⟩ := run_append_wide w base t o.type e hB A n c l1 hown B m d l2 hr hlim hbase
  refine wpList_plain hgd fun K hK => ?_
  unfold Oper.wp execOp
  simp only [ho, resolve, invoke, builtin, Sem.run_bind, Sem.run_pure, Result.andThen_ok, List.map_toArray, List.map_cons, List.map_nil, hs, hx, hrun]
  exact hK _ _ (h A' c' w' h2 h3)

set_option maxRecDepth 100000 in
theorem clone_wide {w : World} {A : Option Addr} {n c : Nat} {l : List UInt8} (h : Byt w A n c l) (hn : n ≤ 200000000000000) :
    Calls Try.prog 25 #[.slice A n c] w (Gives w 5 n l) := by
  rcases A with _ | a
  · have hn0 : n = 0 := by
      rcases Nat.eq_zero_or_pos n with h0 | h0
      · exact h0
      · obtain ⟨_, _, e, _⟩ := h.cells h0; cases e
    have hl : l = [] := List.eq_nil_of_length_eq_zero (by rw [h.len, hn0])
    subst hn0
    subst hl
    refine (Try.bytes_Clone_nil 0 c w).mono ?_
    rintro e w' ⟨rfl, rfl⟩
    exact ⟨_, _, rfl, World.ownsRow_nil _ _ _ _, Below.refl _ _⟩
  · have hq : ∀ (w : World) (a : Option Addr) (n c n' c' : Nat), (binOp .eql 23 (.slice a n c) (.slice none n' c')).run Try.prog w = .ok (.bool a.isNone) w := fun w a n c n' c' => Lib.run_eql_slice_nil w _ _ a n c n' c' Try.underlying23
    go_enter Try.func25, Try.ntmps25
    go_wp2_with (at_builtin; refine wpList_append_wide _ rfl _ _ _ rfl w.heap.size 5 brow _ 0 _ [] rfl (own_empty w _) (some a) n c l rfl (h.alloc _) (by omega) (by simp) ?_; intro A1 c1 w1 ho1 hb1)
    rw [Nat.zero_add, List.nil_append] at ho1
    have hB : Below w.heap.size w w1 := ((Below.refl _ w).alloc (Nat.le_refl _) _).trans hb1
    clear hb1
    go_wp2
    go_ret
    exact ⟨_, _, rfl, ho1, hB⟩
end Go.Proofs.Ytklebomhnclcgaa
