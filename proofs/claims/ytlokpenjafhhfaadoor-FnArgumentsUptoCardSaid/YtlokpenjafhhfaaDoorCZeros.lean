/-
  append of a make: zeros behind a row of bytes of the call's own. No statement is proved here.
-/
import Derived.Test.YtlokpenjafhhfaaDoorCGrow
import Derived.Laws.IdiomCopy
namespace Go.Proofs.YtlokpenjafhhfaaDoor
open Go.RowKit Go.Lib
set_option linter.unusedVariables false

theorem own_widen {w : World} {base : Nat} {e : TypeId} {g n c : Nat} {xs : List Value} (h : w.ownsRow base e 1 (.slice (some ⟨g, 0, none⟩) n c) n xs) :
    ∃ ys : List Value, ys.length = c ∧ ys.take n = xs ∧ w.ownsRow base e 1 (.slice (some ⟨g, 0, none⟩) c c) c ys := by
  rcases h.2 with ⟨h', _⟩ | ⟨g', cap, cur, h', hb, hg, hn, hm, hs, ht⟩
  · cases h'
  · injection h' with h1 _ h3
    injection h1 with h1
    injection h1 with h1
    subst h1 h3
    refine ⟨cur.toList, by simpa using hs, by simpa using ht, by simpa using hs, .inr ⟨g, c, cur, rfl, hb, hg, Nat.le_refl _, hm, hs, ?_⟩⟩
    rw [List.take_of_length_le (by simp [hs])]
theorem own_narrow {w : World} {base : Nat} {e : TypeId} {g c m : Nat} {ys : List Value} (h : w.ownsRow base e 1 (.slice (some ⟨g, 0, none⟩) c c) c ys) (hm : m ≤ c) :
    w.ownsRow base e 1 (.slice (some ⟨g, 0, none⟩) m c) m (ys.take m) := by
  have hl : ys.length = c := by simpa using h.1
  rcases h.2 with ⟨h', _⟩ | ⟨g', cap, cur, h', hb, hg, hn, hmx, hs, ht⟩
  · cases h'
  · injection h' with h1 _ h3
    injection h1 with h1
    injection h1 with h1
    subst h1 h3
    refine ⟨by simp; omega, .inr ⟨g, c, cur, rfl, hb, hg, hm, hmx, hs, ?_⟩⟩
    rw [← ht, List.take_take, Nat.mul_one, Nat.mul_one, Nat.min_eq_left hm]

theorem alloc_at (w : World) (o : Obj) : (w.alloc o).heap[w.heap.size]? = some o := by show (w.heap.push o)[w.heap.size]? = _; exact Array.getElem?_push_size
theorem zeroCells_list (k : Nat) : (Builtin.zeroCells (Value.int .u8 0).cells k).toList = List.replicate k (Value.int .u8 0) := by
  apply List.ext_getElem
  · simp [Builtin.zeroCells, Value.cells]
  · intro i h1 h2
    simp [Builtin.zeroCells, Value.cells, Nat.mod_one]

theorem zeros_bytes (k : Nat) : Lib.byteCells (List.replicate k 0) = List.replicate k (Value.int .u8 0) := by simp [Lib.byteCells]

theorem run_zeros_fit {P : Program} (w : World) (t tn ty e : TypeId) (kq kn : IntKind) (hB : BRow P t e) (htn : P.underlying tn = some (.int kn)) (g n c k : Nat) (xs : List Value) {base : Nat} (h : w.ownsRow base e 1 (.slice (some ⟨g, 0, none⟩) n c) n xs) (hfit : n + k ≤ c) (hk : 0 < k) (hbig : k ≤ 140737488355328) :
    (Builtin.append_ #[t, tn] ty #[.slice (some ⟨g, 0, none⟩) n c, .int kq (k : Int)]).run P w = .ok (.slice (some ⟨g, 0, none⟩) (n + k) c) (w.setCells g n (List.replicate k (Value.int .u8 0))) := by
  obtain ⟨ht, i, hi, hz, hs, hby⟩ := hB
  obtain ⟨ys, hyl, _, hw⟩ := own_widen h
  have hst := run_storeCells_cells (P := P) g n (List.replicate k (Value.int .u8 0)) 0 w
    (fun j hj => by
      have hj' : j < k := by simpa using hj
      rw [show n + 0 + j = n + j by omega, hw.cellAt (n + j) (by omega), List.getElem?_eq_getElem (by omega)]
      rfl)
    (fun j _ => hw.frozenAt _) (fun v hv => by rw [List.eq_of_mem_replicate hv]; rfl)
  rw [Nat.add_zero] at hst
  have hwr : IntKind.i64.wrap (k : Int) = k := by rw [IntKind.wrap_i64]; omega
  have hk0 : ¬ k = 0 := by omega
  have h48i : ¬ (281474976710656 < (k : Int)) := by omega
  have hneg : ¬ ((k : Int) < 0) := by omega
  have hzl := zeroCells_list k
  simp [Builtin.append_, run_underlying ht, run_underlying htn, sizeOf, typeInfo, zeroValue, hi, hz, hs, hby, asInt, asIntOf, hwr, hfit, hneg, hk0, h48i, add_spot, hzl, hst]

theorem run_zeros_own {P : Program} (w : World) (base : Nat) (t tn ty e : TypeId) (kq kn : IntKind) (hB : BRow P t e) (htn : P.underlying tn = some (.int kn)) (A : Option Addr) (n c : Nat) (l : List UInt8) (h : w.ownsRow base e 1 (.slice A n c) n (Lib.byteCells l)) (k : Nat) (hk : 0 < k) (hbig : n + k ≤ 140737488355328) (hbase : base ≤ w.heap.size) :
    ∃ A' c' w', (Builtin.append_ #[t, tn] ty #[.slice A n c, .int kq (k : Int)]).run P w = .ok (.slice A' (n + k) c') w' ∧ w'.ownsRow base e 1 (.slice A' (n + k) c') (n + k) (Lib.byteCells (l ++ List.replicate k 0)) ∧ Below base w w' := by
  have hl : l.length = n := by have := h.1; simpa [Lib.byteCells] using this
  have hbl : (Lib.byteCells l).length = n := by simpa [Lib.byteCells] using hl
  by_cases hfit : n + k ≤ c
  · obtain ⟨g, rfl, hg⟩ : ∃ g, A = some ⟨g, 0, none⟩ ∧ base ≤ g := by
      rcases h.2 with ⟨h', _⟩ | ⟨g, cap, cur, h', hb, _⟩
      · injection h' with _ _ h3
        omega
      · injection h' with h1 _ _
        exact ⟨g, h1, hb⟩
    refine ⟨_, _, _, run_zeros_fit w t tn ty e kq kn hB htn g n c k _ h hfit hk (by omega), ?_, (Below.refl _ w).trans (Lib.below_setCells_w hg _ _ _)⟩
    obtain ⟨ys, hyl, hyt, hw⟩ := own_widen h
    have hv : (List.replicate k (Value.int .u8 0)).length = k := by simp
    have h2 := own_narrow (own_setCells (List.replicate k (Value.int .u8 0)) n ys w hw (by rw [hv]; exact hfit)) hfit
    rw [hyt, List.take_append_of_le_length (by rw [List.length_append, hbl, hv]; omega), List.take_of_length_le (by rw [List.length_append, hbl, hv]; omega)] at h2
    rw [Lib.byteCells_append, zeros_bytes]
    exact h2
  · have hB' := hB
    obtain ⟨ht, i, hi, hz, hs, hby⟩ := hB
    have hold : (Builtin.firstCells i.size n (.slice A n c)).run P w.drew = .ok (Lib.byteCells l).toArray w.drew := by
      rcases A with _ | a
      · have h0 : n = 0 := by
          rcases h.2 with ⟨_, h0⟩ | ⟨g, cap, cur, h', _⟩
          · exact h0
          · injection h' with h1 _ _
            cases h1
        subst h0
        rw [List.eq_nil_of_length_eq_zero hbl]
        exact run_firstCells_none w.drew i.size 0 _ _
      · refine run_firstCells_some w.drew i.size n a n c _ (by rw [hs, hbl, Nat.mul_one]) (fun j v hj => ?_)
        have hjn : j < n := by
          rcases Nat.lt_or_ge j n with h' | h'
          · exact h'
          · rw [List.getElem?_eq_none (by omega)] at hj; cases hj
        obtain ⟨g, c', he, _, _⟩ := own_block h (by omega)
        injection he with h1 _ _
        injection h1 with h1
        subst h1
        rw [add_spot, Nat.zero_add]
        exact (h.cellAt j (by omega)).trans hj
    have hcn : n ≤ c := by
      rcases h.2 with ⟨h', h0⟩ | ⟨g, cap, cur, h', _, _, hn, _⟩
      · omega
      · injection h' with _ _ h3
        omega
    have hrun := Lib.run_append_grow_zeros w t tn ty e i (Value.int .u8 0) kq kn ht htn hi hz A n c _ hold k hk (by omega) (by omega) (by omega) (by rw [hby]; omega) (by rw [hby]; exact growslice_ok (by omega) hbig)
    have hGn : n + k ≤ grownCap w (n + k) c e := grownCap_ge w _ _ _
    have hG := grownCap_le_maxLen w (n + k) c e (by unfold maxLen; omega)
    refine ⟨_, _, _, hrun, ?_, (Below.refl _ w).drew.alloc hbase _⟩
    generalize grownCap w (n + k) c e = G at *
    refine ⟨by simp [Lib.byteCells, hl], .inr ⟨w.heap.size, G, _, rfl, hbase, alloc_at w.drew _, hGn, hG, ?_, ?_⟩⟩
    · simp [Builtin.zeroCells, Value.cells, hbl]
      omega
    · simp only [Array.toList_append, zeroCells_list, Nat.mul_one]
      have hv : (List.replicate k (Value.int .u8 0)).length = k := by simp
      rw [List.take_append_of_le_length (by rw [List.length_append, hbl, hv]; omega), List.take_of_length_le (by rw [List.length_append, hbl, hv]; omega), Lib.byteCells_append, zeros_bytes]

theorem wpList_zeros_byt {P : Program} (w : World) {ops : Array Oper} {rest : List Oper} {o : Oper} {a : Act} {Q : Exit → Act → World → Prop} (hgd : o.guard = none) (s x : Operand) (t tn : TypeId)
    (ho : o.op = .call { callee := .builtin .append, args := #[s, x], argTypes := #[t, tn] })
    (base : Nat) (e : TypeId) (hB : BRow P t e) (kn : IntKind) (htn : P.underlying tn = some (.int kn)) (A : Option Addr) (n c : Nat) (l : List UInt8) (hs : a.eval s = .slice A n c) (hown : w.ownsRow base e 1 (.slice A n c) n (Lib.byteCells l))
    (kq : IntKind) (z : Int) (k : Nat) (hx : a.eval x = .int kq z) (hz : z = (k : Int)) (hk : 0 < k) (hbig : n + k ≤ 140737488355328) (hbase : base ≤ w.heap.size)
    (h : ∀ A' c' w', w'.ownsRow base e 1 (.slice A' (n + k) c') (n + k) (Lib.byteCells (l ++ List.replicate k 0)) → Below base w w' → wpList P ops Q rest (a.put o.dst (.slice A' (n + k) c')) w') : wpList P ops Q (o :: rest) a w := by
  subst hz
  obtain ⟨A', c', w', hrun, h2, h3⟩ := run_zeros_own w base t tn o.type e kq kn hB htn A n c l hown k hk hbig hbase
  exact Lib.wpList_append_run w hgd s x t tn ho _ _ hs hx _ _ hrun (h A' c' w' h2 h3)
end Go.Proofs.YtlokpenjafhhfaaDoor
