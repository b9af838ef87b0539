/-
  append onto a row of bytes of the call's own, whatever slice of bytes is appended; stores into such a row; rows of numbers that came in. No statement is proved here.
-/
import Derived.Test.YtklebomhnclcgaaBase
import Derived.Maps.AppendAt
import Derived.OwnWalk
import Derived.RegionTactic
import Derived.Laws.IdiomCopy
namespace Go.Proofs.Ytklebomhnclcgaa
open Go.RowKit

/-- type t is a slice of bytes, its element type e -/
def BRow (P : Program) (t e : TypeId) : Prop := P.underlying t = some (.slice e) ∧ ∃ i, P.info? e = some i ∧ i.zero = some (.int .u8 0) ∧ i.size = 1 ∧ i.bytes = 1

theorem one_cells (l : List UInt8) : ∀ u ∈ Lib.byteCells l, u.oneCell' = true := by
  intro u hu
  simp only [Lib.byteCells, List.mem_map] at hu
  obtain ⟨b, _, rfl⟩ := hu
  rfl

theorem run_append_byt {P : Program} (w : World) (base : Nat) (t ty e : TypeId) (hB : BRow P t e) (v : Value) (n : Nat) (l1 : List UInt8) (hown : w.ownsRow base e 1 v n (Lib.byteCells l1))
    (A : Option Addr) (m c : Nat) (l2 : List UInt8) (hr : Byt w A m c l2) (hlim : n + m ≤ 140737488355328) (hbase : base ≤ w.heap.size) :
    ∃ A' c' w', (Builtin.append_ #[t, t] ty #[v, .slice A m c]).run P w = .ok (.slice A' (n + m) c') w' ∧ w'.ownsRow base e 1 (.slice A' (n + m) c') (n + m) (Lib.byteCells (l1 ++ l2)) ∧ Below base w w' ∧ w.grownBy w' v.ownBlock := by
  obtain ⟨ht, i, hi, hz, hs, hby⟩ := hB
  have hbel : ∀ {w' : World}, w.grownBy w' v.ownBlock → Below base w w' := fun hg => (Below.refl base w).grown hg hbase (fun k hk => (hown.lt k hk).1)
  have hnil : m = 0 → l2 = [] := fun h0 => List.eq_nil_of_length_eq_zero (by rw [hr.len, h0])
  rcases A with _ | ad
  · have hm : m = 0 := by
      rcases Nat.eq_zero_or_pos m with h0 | h0
      · exact h0
      · obtain ⟨_, _, h, _⟩ := hr.cells h0
        cases h
    subst hm
    have hl := hnil rfl
    subst hl
    obtain ⟨A', c', rfl⟩ := own_slice hown
    refine ⟨A', c', w, ?_, by simpa using hown, Below.refl _ _, World.grownBy.refl w _⟩
    rcases hown.2 with ⟨h', rfl⟩ | ⟨g, cap, cur, h', _, _, hnc, _⟩
    · injection h' with h1 h2 h3
      subst h1 h3
      simp [Builtin.append_, run_underlying ht, sizeOf, typeInfo, hi, Builtin.lenOf, Builtin.firstCells]
    · injection h' with h1 h2 h3
      subst h1 h3
      simp [Builtin.append_, run_underlying ht, sizeOf, typeInfo, hi, Builtin.lenOf, Builtin.firstCells, hnc, storeCells]
  · have hcells : ∀ j u, (Lib.byteCells l2)[j]? = some u → w.cell? (ad.add j) = some u := by
      intro j u hu
      have hj : j < l2.length := by
        rcases Nat.lt_or_ge j l2.length with h | h
        · exact h
        · rw [List.getElem?_eq_none (by simpa [Lib.byteCells] using h)] at hu; cases hu
      obtain ⟨g, o, h, _, hc⟩ := hr.cells (by have := hr.len; omega)
      injection h with h
      subst h
      rw [add_spot, hc j hj]
      simpa [Lib.byteCells, List.getElem?_eq_getElem hj] using hu
    obtain ⟨v', w', hrun, h2, h3, _, _⟩ := run_append_own_at (P := P) w base t ty e i _ 1 1 ht hi hz hs hby rfl (by omega) v n _ hown ad m c (Lib.byteCells l2) (by simp [Lib.byteCells, hr.len]) hcells (one_cells l2) (by simp only [maxLen]; omega) (by omega) hbase
    obtain ⟨A', c', rfl⟩ := own_slice h2
    exact ⟨A', c', w', hrun, by rw [Lib.byteCells_append]; exact h2, hbel h3, h3⟩

/-- the law at the operation -/
theorem wp_append_byt {P : Program} (w : World) {o : Oper} {a : Act} {K : Act → World → Prop} {Q : Exit → Act → World → Prop} (s x : Operand) (t : TypeId)
    (ho : o.op = .call { callee := .builtin .append, args := #[s, x], argTypes := #[t, t] })
    (base : Nat) (e : TypeId) (hB : BRow P t e) (v : Value) (n : Nat) (l1 : List UInt8) (hs : a.eval s = v) (hown : w.ownsRow base e 1 v n (Lib.byteCells l1))
    (A : Option Addr) (m c : Nat) (l2 : List UInt8) (hx : a.eval x = .slice A m c) (hr : Byt w A m c l2) (hlim : n + m ≤ 140737488355328) (hbase : base ≤ w.heap.size)
    (h : ∀ A' c' w', w'.ownsRow base e 1 (.slice A' (n + m) c') (n + m) (Lib.byteCells (l1 ++ l2)) → Below base w w' → w.grownBy w' v.ownBlock → K (a.put o.dst (.slice A' (n + m) c')) w') : o.wp P a w K Q := by
  obtain ⟨A', c', w', hrun, h2, h3, h4⟩ := run_append_byt w base t o.type e hB v n l1 hown A m c l2 hr hlim hbase
  unfold Oper.wp execOp
  simp only [ho, resolve, invoke, builtin, Sem.run_bind, Sem.run_pure, Result.andThen_ok, List.map_toArray, List.map_cons, List.map_nil, hs, hx, hrun]
  exact h A' c' w' h2 h3 h4

theorem wpList_append_byt {P : Program} (w : World) {ops : Array Oper} {rest : List Oper} {o : Oper} {a : Act} {Q : Exit → Act → World → Prop} (hgd : o.guard = none) (s x : Operand) (t : TypeId)
    (ho : o.op = .call { callee := .builtin .append, args := #[s, x], argTypes := #[t, t] })
    (base : Nat) (e : TypeId) (hB : BRow P t e) (v : Value) (n : Nat) (l1 : List UInt8) (hs : a.eval s = v) (hown : w.ownsRow base e 1 v n (Lib.byteCells l1))
    (A : Option Addr) (m c : Nat) (l2 : List UInt8) (hx : a.eval x = .slice A m c) (hr : Byt w A m c l2) (hlim : n + m ≤ 140737488355328) (hbase : base ≤ w.heap.size)
    (h : ∀ A' c' w', w'.ownsRow base e 1 (.slice A' (n + m) c') (n + m) (Lib.byteCells (l1 ++ l2)) → Below base w w' → w.grownBy w' v.ownBlock → wpList P ops Q rest (a.put o.dst (.slice A' (n + m) c')) w') : wpList P ops Q (o :: rest) a w :=
  wpList_plain hgd fun _ hK => wp_append_byt w s x t ho base e hB v n l1 hs hown A m c l2 hx hr hlim hbase fun A' c' w' h2 h3 h4 => hK _ _ (h A' c' w' h2 h3 h4)

theorem step_append_byt {P : Program} (w : World) {ops : Array Oper} {o : Oper} {a : Act} {K : Act → World → Prop} {Q : Exit → Act → World → Prop} {E : Prop} (hgd : o.guard = none) (s x : Operand) (t : TypeId)
    (ho : o.op = .call { callee := .builtin .append, args := #[s, x], argTypes := #[t, t] })
    (base : Nat) (e : TypeId) (hB : BRow P t e) (v : Value) (n : Nat) (l1 : List UInt8) (hs : a.eval s = v) (hown : w.ownsRow base e 1 v n (Lib.byteCells l1))
    (A : Option Addr) (m c : Nat) (l2 : List UInt8) (hx : a.eval x = .slice A m c) (hr : Byt w A m c l2) (hlim : n + m ≤ 140737488355328) (hbase : base ≤ w.heap.size)
    (h : ∀ A' c' w', w'.ownsRow base e 1 (.slice A' (n + m) c') (n + m) (Lib.byteCells (l1 ++ l2)) → Below base w w' → w.grownBy w' v.ownBlock → K (a.put o.dst (.slice A' (n + m) c')) w') :
    if Region.wanted o (yielded ops a.tmps) = true then Oper.wp P o a w K Q else E := by
  have hw : Region.wanted o (yielded ops a.tmps) = true := by simp [Region.wanted, hgd]
  rw [if_pos hw]
  exact wp_append_byt w s x t ho base e hB v n l1 hs hown A m c l2 hx hr hlim hbase h

/-- an empty row of the call's own: '[]byte{}' -/
theorem own_empty (w : World) (e : TypeId) : (w.alloc (.cells #[] e)).ownsRow w.heap.size e 1 (.slice (some ⟨w.heap.size, 0, none⟩) 0 0) 0 (Lib.byteCells []) :=
  World.ownsRow_made w #[] 0 (Nat.le_refl _) (by simp [maxLen]) (by simp)
theorem Byt.empty_ (w : World) (A : Option Addr) : Byt w A 0 0 [] := ⟨rfl, Nat.le_refl _, by decide, fun h => absurd h (by omega)⟩

/-- append([]byte{}, b...) -/
theorem wpList_clone_byt {P : Program} (w : World) {ops : Array Oper} {rest : List Oper} {o : Oper} {a : Act} {Q : Exit → Act → World → Prop} (hgd : o.guard = none) (s x : Operand) (t : TypeId)
    (ho : o.op = .call { callee := .builtin .append, args := #[s, x], argTypes := #[t, t] })
    (e : TypeId) (hB : BRow P t e) (hs : a.eval s = .slice (some ⟨w.heap.size, 0, none⟩) 0 0)
    (A : Option Addr) (m c : Nat) (l2 : List UInt8) (hx : a.eval x = .slice A m c) (hr : Byt w A m c l2) (hlim : m ≤ 140737488355328)
    (h : ∀ A' c' w', w'.ownsRow w.heap.size e 1 (.slice A' m c') m (Lib.byteCells l2) → Below w.heap.size w w' → wpList P ops Q rest (a.put o.dst (.slice A' m c')) w') : wpList P ops Q (o :: rest) a (w.alloc (.cells #[] e)) := by
  refine wpList_append_byt _ hgd s x t ho w.heap.size e hB _ 0 [] hs (own_empty w e) A m c l2 hx (hr.alloc _) (by omega) (by simp) ?_
  intro A' c' w' h1 h2 _
  rw [Nat.zero_add, List.nil_append] at h1
  rw [Nat.zero_add]
  exact h A' c' w' h1 (((Below.refl _ w).alloc (Nat.le_refl _) _).trans h2)

/-- one byte in a block of its own: the source of 'append(out, x)' -/
theorem Byt.one (w : World) (e : TypeId) (b : Nat) (hb : b < 256) : Byt (w.alloc (.cells #[.int .u8 (b : Int)] e)) (some ⟨w.heap.size, 0, none⟩) 1 1 [b.toUInt8] := by
  refine ⟨rfl, Nat.le_refl _, by decide, fun _ => ⟨_, _, rfl, by simp, fun j hj => ?_⟩⟩
  have hj0 : j = 0 := by simp at hj; omega
  subst hj0
  have : ((b.toUInt8).toNat : Int) = (b : Int) := by simp only [Nat.toUInt8, UInt8.toNat_ofNat']; omega
  simp only [List.getElem_cons_zero, this]
  exact World.cell?_alloc_at _ _ _ _ rfl

theorem own_lit1 (w : World) (e : TypeId) (b : Nat) (hb : b < 256) : (w.alloc (.cells #[.int .u8 (b : Int)] e)).ownsRow w.heap.size e 1 (.slice (some ⟨w.heap.size, 0, none⟩) 1 1) 1 (Lib.byteCells [b.toUInt8]) := by
  have : ((b.toUInt8).toNat : Int) = (b : Int) := by simp only [Nat.toUInt8, UInt8.toNat_ofNat']; omega
  have h := World.ownsRow_lit (base := w.heap.size) (e := e) (size := 1) w #[.int .u8 (b : Int)] 1 (Nat.le_refl _) (by simp [maxLen]) rfl
  have e2 : Lib.byteCells [b.toUInt8] = [.int .u8 (b : Int)] := by simp only [Lib.byteCells, List.map_cons, List.map_nil, this]
  rw [e2]
  exact h

/-- what a function that makes a slice of bytes gives: a row of its own that holds l; nothing that was there has turned -/
def Gives (w : World) (T n : Nat) (l : List UInt8) (e : Ending) (w' : World) : Prop :=
  ∃ A c, e = .returned (.slice A n c) ∧ w'.ownsRow w.heap.size T 1 (.slice A n c) n (Lib.byteCells l) ∧ Below w.heap.size w w'

theorem own_base {w : World} {b b' : Nat} {e : TypeId} {v : Value} {n : Nat} {xs : List Value} (h : w.ownsRow b e 1 v n xs) (hb : b' ≤ b) : w.ownsRow b' e 1 v n xs := by
  refine ⟨h.1, ?_⟩
  rcases h.2 with h | ⟨g, cap, cur, h1, h2, h3⟩
  · exact .inl h
  · exact .inr ⟨g, cap, cur, h1, by omega, h3⟩
theorem own_below {w w' : World} {b : Nat} {e : TypeId} {v : Value} {n : Nat} {xs : List Value} (h : w.ownsRow b e 1 v n xs) (hb : Below w.heap.size w w') : w'.ownsRow b e 1 v n xs := by
  refine ⟨h.1, ?_⟩
  rcases h.2 with h | ⟨g, cap, cur, h1, h2, h3, h4⟩
  · exact .inl h
  · exact .inr ⟨g, cap, cur, h1, h2, (hb.block g (Array.getElem?_eq_some_iff.1 h3).1).trans h3, h4⟩

theorem Byt.grown {w w' : World} {A : Option Addr} {n c : Nat} {l : List UInt8} {row : Option Nat} (h : Byt w A n c l) (hg : w.grownBy w' row) (hne : ∀ g o, A = some ⟨g, o, none⟩ → some g ≠ row) : Byt w' A n c l :=
  ⟨h.len, h.cap, h.big, fun hn => by
    obtain ⟨g, o, e, hlt, hc⟩ := h.cells hn
    exact ⟨g, o, e, Nat.lt_of_lt_of_le hlt hg.size, fun j hj => (World.cell?_of_block (a := ⟨g, o + j, none⟩) (hg.block g hlt (hne g o e))).trans (hc j hj)⟩⟩
/-- two rows, the second one made later -/
theorem own_ne {w1 w2 : World} {b1 b2 : Nat} {e1 e2 : TypeId} {v1 : Value} {n1 n2 c2 : Nat} {x1 x2 : List Value} {A2 : Option Addr} (h1 : w1.ownsRow b1 e1 1 v1 n1 x1) (h2 : w2.ownsRow b2 e2 1 (.slice A2 n2 c2) n2 x2) (hb : w1.heap.size ≤ b2) :
    ∀ g o, A2 = some ⟨g, o, none⟩ → some g ≠ v1.ownBlock := by
  rintro g o rfl he
  have k1 := (h1.lt g he.symm).2
  have k2 := (h2.lt g rfl).1
  omega
theorem own_drew {w : World} {b : Nat} {e : TypeId} {v : Value} {n : Nat} {xs : List Value} (h : w.ownsRow b e 1 v n xs) : w.drew.ownsRow b e 1 v n xs := h

/-- cells laid into a row of the call's own -/
theorem own_setCells {base : Nat} {e : TypeId} {g n cap : Nat} : ∀ (vs : List Value) (o : Nat) (xs : List Value) (w : World), w.ownsRow base e 1 (.slice (some ⟨g, 0, none⟩) n cap) n xs → o + vs.length ≤ n →
    (w.setCells g o vs).ownsRow base e 1 (.slice (some ⟨g, 0, none⟩) n cap) n (xs.take o ++ vs ++ xs.drop (o + vs.length))
  | [], o, xs, w, h, _ => by
    show w.ownsRow base e 1 _ n _
    simpa using h
  | v :: r, o, xs, w, h, hn => by
    have hl : xs.length = n := by simpa using h.1
    have hn' : o + r.length + 1 ≤ n := by simp at hn; omega
    have := own_setCells r (o + 1) (xs.set o v) (w.setCell ⟨g, o, none⟩ v) (h.stored o v).1 (by omega)
    have e1 : (xs.set o v).take (o + 1) = xs.take o ++ [v] := by
      rw [List.take_succ_eq_append_getElem (by simp; omega), List.getElem_set_self, List.take_set_of_le (Nat.le_refl _)]
    have e2 : (xs.set o v).drop (o + 1 + r.length) = xs.drop (o + (v :: r).length) := by
      rw [List.drop_set, if_pos (by omega)]
      congr 1
      simp; omega
    rw [e1, e2] at this
    show ((w.setCell ⟨g, o, none⟩ v).setCells g (o + 1) r).ownsRow base e 1 _ n _
    simpa using this
end Go.Proofs.Ytklebomhnclcgaa
