/-
  slices.Grow at a row of bytes of the call's own. No statement is proved here.
-/
import Derived.Test.YtlokpenjafhhfaaDoorCHexRow
import Derived.Lib.AppendZerosOnto
import Derived.Lib.SliceRun
import Derived.Lib.Walk
namespace Go.Proofs.YtlokpenjafhhfaaDoor
open Go.RowKit Go.Lib
set_option linter.unusedVariables false

theorem growslice_ok {need c : Nat} (h : c < need) (hb : need ≤ 140737488355328) : Builtin.nextslicecap need c * 1 ≤ 281474976710656 := by
  have := growslice_fits (bytes := 1) h (by omega)
  simpa using this

/-- what Grow gives: a slice with room for k more, at the head of a row of the call's own -/
def GrowGives (w : World) (base l k : Nat) (e : Ending) (w' : World) : Prop :=
  ∃ A c, e = .returned (.slice A l c) ∧ l + k ≤ c ∧ c ≤ 9223372036854775807 ∧ (0 < c → ∃ g f, A = some ⟨g, 0, none⟩ ∧ base ≤ g ∧ w'.rowIs g 5 c f) ∧ Below base w w'

set_option maxRecDepth 100000 in
theorem grow_room (w : World) (A : Option Addr) (l c k : Nat) (hlc : l ≤ c) (hc : c ≤ 9223372036854775807) (hroom : l + k ≤ c) :
    Calls Tryd.prog 50 #[.slice A l c, .int .i64 k] w fun e w' => e = .returned (.slice A l c) ∧ w = w' := by
  have h1 : ¬ ((k : Int) < 0) := by omega
  have h4 : ¬ ((k : Int) - ((c : Int) - (l : Int)) > 0) := by omega
  go_enter Tryd.func50, Tryd.ntmps50
  go_wp2
  go_ret
  exact ⟨rfl, rfl⟩

set_option maxHeartbeats 4000000 in
set_option maxRecDepth 100000 in
theorem grow_new (w : World) (base : Option Addr) (l c k : Nat) (cs : List Value) (hlc : l ≤ c) (hroom : c < l + k) (hbig : l + k ≤ 140737488355328)
    (hcl : cs.length = c) (hnil : base = none → c = 0) (hcs : ∀ a, base = some a → ∀ j v, cs[j]? = some v → w.cell? (a.add j) = some v) :
    Calls Tryd.prog 50 #[.slice base l c, .int .i64 k] w fun e w' =>
      e = .returned (.slice (some ⟨w.heap.size, 0, none⟩) l (grownCap w (l + k) c 5)) ∧
      w' = w.drew.alloc (.cells (cs.toArray ++ Builtin.zeroCells (Value.int .u8 0).cells (l + k - c) ++ Builtin.zeroCells (Value.int .u8 0).cells (grownCap w (l + k) c 5 - (l + k))) 5) := by
  obtain ⟨i0, hi0, hz0, hs0, hb0⟩ := info_parts info_u8
  have h1 : ¬ ((k : Int) < 0) := by omega
  have h4 : (k : Int) - ((c : Int) - (l : Int)) > 0 := by omega
  have hck : c + (l + k - c) = l + k := by omega
  have hold : (Builtin.firstCells i0.size c (.slice base c c)).run Tryd.prog w.drew = .ok cs.toArray w.drew := by
    cases base with
    | none =>
      have h0 := hnil rfl
      subst h0
      have hc0 : cs = [] := List.length_eq_zero_iff.1 hcl
      rw [hc0]
      exact run_firstCells_none w.drew i0.size 0 0 0
    | some a => exact run_firstCells_some w.drew i0.size c a c c cs (by rw [hs0, hcl, Nat.mul_one]) (fun j v hj => hcs a rfl j v hj)
  have hrz : ∀ ty, (Builtin.append_ #[23, 3] ty #[.slice base c c, .int .i64 ((k : Int) - ((c : Int) - (l : Int)))]).run Tryd.prog w =
      .ok (.slice (some ⟨w.heap.size, 0, none⟩) (l + k) (grownCap w (l + k) c 5)) (w.drew.alloc (.cells (cs.toArray ++ Builtin.zeroCells (Value.int .u8 0).cells (l + k - c) ++ Builtin.zeroCells (Value.int .u8 0).cells (grownCap w (l + k) c 5 - (l + k))) 5)) := fun ty => by
    have h := Lib.run_append_grow_zeros w 23 3 ty 5 i0 (Value.int .u8 0) .i64 .i64 Tryd.underlying23 Tryd.underlying3 hi0 hz0 base c c cs hold (l + k - c) (by omega) (by omega) (by omega) (by omega)
      (by rw [hb0]; omega)
      (by rw [hck, hb0]; exact growslice_ok hroom hbig)
    rw [hck] at h
    rw [show (k : Int) - ((c : Int) - (l : Int)) = ((l + k - c : Nat) : Int) by omega]
    exact h
  have hGn : l + k ≤ grownCap w (l + k) c 5 := grownCap_ge w _ _ _
  obtain ⟨G, hG⟩ : ∃ G, G = grownCap w (l + k) c 5 := ⟨_, rfl⟩
  rw [← hG] at hrz hGn ⊢
  have hG63 : G ≤ 9223372036854775807 := by
    have := grownCap_le_maxLen w (l + k) c 5 (by unfold maxLen; omega)
    rw [← hG] at this
    unfold maxLen at this
    omega
  clear hold hck hG hcs hcl hi0 hz0 hs0 hb0
  go_enter Tryd.func50, Tryd.ntmps50
  cases base with
  | none =>
    have h0 := hnil rfl
    subst h0
    obtain rfl : l = 0 := by omega
    go_wp2_with (at_builtin; refine Lib.wpList_append_run _ rfl _ _ _ _ rfl _ _ rfl rfl _ _ (hrz _) ?_)
    all_goals (go_ret; exact ⟨rfl, rfl⟩)
  | some a =>
    obtain ⟨ab, ao, asp⟩ := a
    go_wp2_with (at_builtin; refine Lib.wpList_append_run _ rfl _ _ _ _ rfl _ _ rfl rfl _ _ (hrz _) ?_)
    all_goals (go_ret; exact ⟨rfl, rfl⟩)

theorem grow_own {w : World} {base : Nat} {A : Option Addr} {l c k : Nat} {xs : List Value} (h : w.ownsRow base 5 1 (.slice A l c) l xs) (hbase : base ≤ w.heap.size) (hbig : l + k ≤ 140737488355328) :
    Calls Tryd.prog 50 #[.slice A l c, .int .i64 k] w (GrowGives w base l k) := by
  have hrow : 0 < c → ∃ g f, A = some ⟨g, 0, none⟩ ∧ base ≤ g ∧ w.rowIs g 5 c f := fun hc => by
    rcases h.2 with ⟨h', _⟩ | ⟨g, cap, cur, h', hg, _⟩
    · injection h' with _ _ h3
      omega
    · injection h' with h1 _ h3
      subst h1 h3
      obtain ⟨f, hf⟩ := own_row h
      exact ⟨g, f, rfl, hg, hf⟩
  have hlc : l ≤ c ∧ c ≤ 9223372036854775807 := by
    rcases h.2 with ⟨h', h0⟩ | ⟨g, cap, cur, h', _, _, h1, h2, _⟩
    · injection h' with _ h2 h3
      omega
    · injection h' with _ _ h3
      subst h3
      exact ⟨h1, by simpa [maxLen] using h2⟩
  by_cases hroom : l + k ≤ c
  · refine (grow_room w A l c k hlc.1 hlc.2 hroom).mono ?_
    rintro e w' ⟨rfl, rfl⟩
    exact ⟨A, c, rfl, hroom, hlc.2, hrow, Below.refl _ _⟩
  · have hcells : ∃ cs : List Value, cs.length = c ∧ (A = none → c = 0) ∧ ∀ a, A = some a → ∀ j v, cs[j]? = some v → w.cell? (a.add j) = some v := by
      rcases h.2 with ⟨h', _⟩ | ⟨g, cap, cur, h', _, hg, _, _, hs, _⟩
      · injection h' with h1 _ h3
        exact ⟨[], by simp [h3], fun _ => h3, fun a ha => by rw [h1] at ha; cases ha⟩
      · injection h' with h1 _ h3
        subst h1 h3
        refine ⟨cur.toList, by simpa using hs, (fun h => by cases h), fun a ha j v hj => ?_⟩
        injection ha with ha
        subst ha
        rw [add_spot, Nat.zero_add]
        simpa [World.cell?, hg] using hj
    obtain ⟨cs, hcl, hnil, hcs⟩ := hcells
    refine (grow_new w A l c k cs hlc.1 (by omega) hbig hcl hnil hcs).mono ?_
    rintro e w' ⟨rfl, rfl⟩
    have hGn : l + k ≤ grownCap w (l + k) c 5 := grownCap_ge w _ _ _
    have hG := grownCap_le_maxLen w (l + k) c 5 (by unfold maxLen; omega)
    refine ⟨_, _, rfl, hGn, by simpa [maxLen] using hG, fun _ => ?_, (Below.refl _ w).drew.alloc hbase _⟩
    generalize harr : cs.toArray ++ Builtin.zeroCells (Value.int .u8 0).cells (l + k - c) ++ Builtin.zeroCells (Value.int .u8 0).cells (grownCap w (l + k) c 5 - (l + k)) = arr
    have hsz : arr.size = grownCap w (l + k) c 5 := by
      rw [← harr]
      simp [Builtin.zeroCells, Value.cells, hcl]
      omega
    have hr := World.rowIs_alloc w.drew arr 5 (fun i => arr[i]?.getD .nilIface) (fun i hi => by simp [Array.getElem?_eq_getElem hi])
    rw [hsz] at hr
    exact ⟨w.heap.size, _, rfl, hbase, hr⟩
end Go.Proofs.YtlokpenjafhhfaaDoor
