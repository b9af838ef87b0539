/-
  FnArguments: for every input the law's call returns true, and each argument reads afterwards as it read before. Conditions: the arguments hold together at most 1048576 values and letters; the listed variable hex.ErrLength holds what the text of the program lays (the card ties it).
-/
import Derived.Test.YtlokpenjafhhfaaDoorRows
import Derived.Test.YtlokpenjafhhfaaDoorWFnArguments
import Derived.WalkKit
import Derived.ProofKit
import Derived.OpenShut
import Derived.ShutString
import Derived.ChangeOld
import Derived.SizedLaws
import Derived.Below
import Derived.Test.YtlokpenjafhhfaaDoorBulk
import Derived.Test.YtlokpenjafhhfaaDoorCards
import Derived.Test.YtlokpenjafhhfaaDoorTie
import Derived.Test.YtlokpenjafhhfaaDoorDoor
import Derived.Deep.DeepHandedRow
import Derived.Deep.DeepWitnessRowRef
namespace Go.Proofs.YtlokpenjafhhfaaDoor.fnArguments
open Go.ChangeShapes Go.WideShapes Go.ChangeAt Go.RowKit
set_option linter.unusedVariables false

theorem own : ownKnob Tryd.prog.godebug = none := by kernel_rfl
theorem laidOut : laidOutB Tryd.prog = true := by kernel_rfl

set_option maxRecDepth 100000 in
theorem contract (H : Type) (enc : TypeId × Value → H) (W : World) (base : Nat) (args : Array Value) (ds gs : List (DataW H)) (before : List MemPlace)
    (hval0 : ∀ (j : Nat) t v, Tryd.f4.params[j]? = some t → args[j]? = some v → Value.okWide Tryd.prog W .any base t v)
    (hW : DataW.Whole enc Tryd.prog Tryd.f4.params.toList Rows.fnArgumentsSpec.vars false W args.toList ds gs before)
    (hsz0 : (DataW.weightsEach Tryd.prog (Tryd.f4.params.toList ++ Rows.fnArgumentsSpec.plain.varTypes Tryd.prog) (ds ++ gs)).all (· ≤ reachBytes) = true)
    (hk : Rows.uptoSmall H (ds ++ gs) = true) (hL : laidMetH Tryd.prog Rows.fnArgumentsUptoRow.laid W) :
    Calls Tryd.prog 4 args W fun e W' => ∃ v, e = .returned v ∧ Rows.fnArgumentsSpec.post enc Tryd.prog Tryd.f4 false true false false W args v W' := by
  have hval : ∀ (j : Nat) t v, Tryd.f4.params[j]? = some t → args[j]? = some v → Value.okWide Tryd.prog W .any base t v := hval0
  have hsz := hsz0
  have hW' := hW
  obtain ⟨p, q, hA0, hV, rfl, hfz, hnd⟩ := hW
  have hA : DataW.TrodAll enc Tryd.prog W 0 (fun _ => true) true Tryd.f4.params.toList args.toList ds p := hA0
  rw [Tryd.params4] at hA hval hsz
  obtain ⟨v0, vs0, d0, ds0, p0, q0, hargs, rfl, rfl, h0, r0⟩ := trodAll_cons hA
  obtain ⟨v1, vs1, d1, ds1, p1, q1, rfl, rfl, rfl, h1, r1⟩ := trodAll_cons r0
  obtain ⟨v2, vs2, d2, ds2, p2, q2, rfl, rfl, rfl, h2, r2⟩ := trodAll_cons r1
  obtain ⟨rfl, rfl, rfl⟩ := trodAll_nil r2
  obtain rfl : args = #[v0, v1, v2] := by cases args; simp_all
  obtain ⟨rfl, rfl⟩ := trodVars_none hV
  obtain ⟨a0, len0, cap0, rfl⟩ := okWide_slice Tryd.underlying23 (hval 0 23 v0 rfl rfl)
  have k0 := h0
  have lt0 : ∀ x ∈ p0, x.block < W.heap.size := by obtain ⟨m, hm⟩ := k0; exact DataW.trod_lt m _ _ _ hm
  have by0 : Tryd.prog.bytesOf 5 = 1 := by kernel_rfl
  obtain ⟨l0, b0, s0, u0⟩ : ∃ l, Byt W a0 len0 cap0 l ∧ cap0 * 1 ≤ 140737488351232 ∧ cap0 < Rows.uptoBulk d0 := by
    obtain ⟨fuel, hf⟩ := h0
    rcases open_ints Tryd.underlying23 Tryd.underlying5 (by kernel_rfl) hf with ⟨hcs, hx⟩ | ⟨x, l, c, zs, hcs, _, hl, hm, hz, hx, hcell, hwz⟩
    · simp [Value.cells] at hcs
      obtain ⟨rfl, rfl, rfl⟩ := hcs
      simp only [Prod.mk.injEq] at hx
      exact ⟨[], Byt.nil_ W, by omega, by rw [hx.1]; simp [Rows.uptoBulk]⟩
    · simp [Value.cells] at hcs
      obtain ⟨rfl, rfl, rfl⟩ := hcs
      simp only [Prod.mk.injEq] at hx
      simp only [if_true] at hz
      have hr := sized_slice hsz (j := 0) (t := 23) (e := 5) rfl (congrArg some hx.1) Tryd.underlying23
      rw [by0] at hr
      have h2 : (lits (H := H) .u8 (zs.take len0)).length + (lits (H := H) .u8 (zs.drop len0)).length = zs.length := by simp [lits]; omega
      rw [h2] at hr
      unfold reachBytes at hr
      exact ⟨_, Byt.of_row hl hm hz hcell hwz, by omega, by have := bulks.slice_le (H := H) (lits .u8 (zs.take len0)) (lits .u8 (zs.drop len0)); rw [hx.1]; omega⟩
  obtain ⟨a1, len1, cap1, rfl⟩ := okWide_slice Tryd.underlying23 (hval 1 23 v1 rfl rfl)
  have k1 := h1
  have lt1 : ∀ x ∈ p1, x.block < W.heap.size := by obtain ⟨m, hm⟩ := k1; exact DataW.trod_lt m _ _ _ hm
  have by1 : Tryd.prog.bytesOf 5 = 1 := by kernel_rfl
  obtain ⟨l1, b1, s1, u1⟩ : ∃ l, Byt W a1 len1 cap1 l ∧ cap1 * 1 ≤ 140737488351232 ∧ cap1 < Rows.uptoBulk d1 := by
    obtain ⟨fuel, hf⟩ := h1
    rcases open_ints Tryd.underlying23 Tryd.underlying5 (by kernel_rfl) hf with ⟨hcs, hx⟩ | ⟨x, l, c, zs, hcs, _, hl, hm, hz, hx, hcell, hwz⟩
    · simp [Value.cells] at hcs
      obtain ⟨rfl, rfl, rfl⟩ := hcs
      simp only [Prod.mk.injEq] at hx
      exact ⟨[], Byt.nil_ W, by omega, by rw [hx.1]; simp [Rows.uptoBulk]⟩
    · simp [Value.cells] at hcs
      obtain ⟨rfl, rfl, rfl⟩ := hcs
      simp only [Prod.mk.injEq] at hx
      simp only [if_true] at hz
      have hr := sized_slice hsz (j := 1) (t := 23) (e := 5) rfl (congrArg some hx.1) Tryd.underlying23
      rw [by1] at hr
      have h2 : (lits (H := H) .u8 (zs.take len1)).length + (lits (H := H) .u8 (zs.drop len1)).length = zs.length := by simp [lits]; omega
      rw [h2] at hr
      unfold reachBytes at hr
      exact ⟨_, Byt.of_row hl hm hz hcell hwz, by omega, by have := bulks.slice_le (H := H) (lits .u8 (zs.take len1)) (lits .u8 (zs.drop len1)); rw [hx.1]; omega⟩
  obtain ⟨a2, rfl, rfl, rfl, w2⟩ := open_int Tryd.underlying25 (hval 2 25 v2 rfl rfl) h2
  have g2 : 0 ≤ a2 ∧ a2 ≤ 18446744073709551615 := by simpa [Lit.wf, IntKind.min, IntKind.max, IntKind.signed, IntKind.bits] using w2
  obtain ⟨x2, rfl⟩ := Int.eq_ofNat_of_zero_le g2.1
  clear hA0 hval0
  obtain ⟨aE, hE⟩ := door.held (W := W) hL
  have hbulk := bulks.bound hk
  have hub : cap0 + cap1 ≤ 1048576 := by
    simp only [List.append_nil, Rows.uptoBulkAll] at hbulk
    omega
  refine (fnArguments_walk W _ hE a0 len0 cap0 l0 b0 s0 a1 len1 cap1 l1 b1 s1 x2 (by omega) hub).mono fun e W' ⟨he, bel⟩ => ?_
  subst he
  exact ⟨_, rfl, _, _, _, [], _, [], hW', trodAll_mk1 (shut_bool Tryd.underlying4 _), (trodAll_cons_mk (Below.trod laidOut (by kernel_rfl) (of_decide_eq_true (by kernel_rfl)) k0 bel lt0) (trodAll_cons_mk (Below.trod laidOut (by kernel_rfl) (of_decide_eq_true (by kernel_rfl)) k1 bel lt1) (trodAll_cons_mk (shut_int Tryd.underlying25 w2) trodAll_mk0))), rfl, bel.frame _, fun h => by cases h⟩

set_option maxRecDepth 100000 in
theorem reads (os : Os) {H : Type} (enc : TypeId × Value → H) : ∃ places, DataW.whole enc Tryd.prog ((door.laidWorld os).forCall (fun _ _ => 0) ⟨#[], #[.slice none 0 0, .slice none 0 0, .int .u64 0], []⟩).memory Tryd.f4.params.toList Rows.fnArgumentsSpec.vars false (#[.slice none 0 0, .slice none 0 0, .int .u64 0] : Array Value).toList 8 = some ([.nil, .nil, .lit (.int .u64 0)], [], places) :=
  ⟨[], by kernel_rfl⟩

set_option maxRecDepth 100000 in
theorem lifted (os : Os) (started : os.Started) (H : Type) (enc : TypeId × Value → H) (F : Stop.Interp) :
    ReturnsInHanded {} Tryd.checked os 4 .any ((Rows.OpenSpec.upto Rows.fnArgumentsSpec).preRow enc Tryd.prog Tryd.f4 Rows.fnArgumentsUptoRow.domain false Rows.fnArgumentsUptoRow.laid) (((Rows.OpenSpec.upto Rows.fnArgumentsSpec).at F).post enc Tryd.prog Tryd.f4 false true false false) := by
  obtain ⟨places, hx⟩ := reads os enc
  refine returnsInHanded_of_row (C := Tryd.checked) (s := Rows.OpenSpec.upto Rows.fnArgumentsSpec) own started (by kernel_rfl) Tryd.func4
    (witness_row_atRef (enc := enc) (C := Tryd.checked) false (door.laidWorld os) #[.slice none 0 0, .slice none 0 0, .int .u64 0] rfl (by kernel_rfl) (by kernel_rfl) (by kernel_rfl)
      (OpenSpec.preRow_of_cond 8 hx (by kernel_rfl) (fun k hk => by cases hk; kernel_rfl) (by kernel_rfl) (door.laid_met os _))) ?_
  intro W base args ds gs before hval hW _ hcond hsz hL _ _
  exact contract H enc W base args ds gs before hval hW hsz (hcond _ rfl) hL

theorem said : Rows.FnArgumentsUptoSaid :=
  OpenClaim.holds_of_cond 4 Tryd.f4 rfl rfl rfl rfl rfl rfl rfl ⟨rfl, rfl, rfl, rfl, rfl⟩ rfl rfl rfl rfl rfl (by kernel_rfl) Tryd.func4 (by kernel_rfl)
    (of_decide_eq_true (by kernel_rfl)) (by unfold Func.isWrapper; first | (rw [if_pos (by decide +kernel)]; kernel_rfl) | (rw [if_neg (by decide +kernel)]; exact ⟨rfl, rfl⟩))
    (fun os started H enc _ F => by rw [OpenClaim.pre_eq_preRow]; exact lifted os started H enc F)

theorem plain (f : FuncId) (fn : Func) (hf : Tryd.pinned.checked.prog.funcNamed "loop.example/lib-hexvarint/laws.FnArguments" = some f) (hfn : Tryd.pinned.checked.prog.funcs[f]? = some fn) :
    true = Tryd.pinned.checked.prog.looks [] ∧ ∀ (j : Nat) t, fn.params[j]? = some t → Tryd.pinned.checked.prog.wantsStandIn t = false := by
  obtain rfl : f = 4 := Option.some.inj ((show Tryd.prog.funcNamed "loop.example/lib-hexvarint/laws.FnArguments" = some 4 by kernel_rfl).symm.trans hf) |>.symm
  obtain rfl : fn = Tryd.f4 := (Option.some.inj (Tryd.func4.symm.trans hfn)).symm
  refine ⟨by kernel_rfl, fun j t ht => ?_⟩
  rw [Tryd.params4] at ht
  have s23 : Tryd.prog.wantsStandIn 23 = false := by kernel_rfl
  have s25 : Tryd.prog.wantsStandIn 25 = false := by kernel_rfl
  have hm := Array.mem_of_getElem? ht
  have hm2 : t = 23 ∨ t = 23 ∨ t = 25 := by simpa using hm
  rcases hm2 with rfl | rfl | rfl
  · exact s23
  · exact s23
  · exact s25

/-- FnArguments holds for every input within the bound, the listed variable tied to the program's text -/
theorem proved : Rows.FnArgumentsUptoCardSaid :=
  Claim7.holds_tied_plain_at .later [] _ _ _ _ said (fun _ h => by cases h) (by kernel_rfl) (fun _ h => by cases h) fnArgumentsUpto_row_tie rfl ⟨rfl, rfl⟩ (by kernel_rfl) rfl plain (by kernel_rfl)
#print axioms proved
end Go.Proofs.YtlokpenjafhhfaaDoor.fnArguments
