/-
  The law FnReplicaSetAddScriptMatchesSetModel: the frame is the guide's template, turned to a slice of bools and one of ints; the walk is ours.
-/
import Derived.Test.Qxb6630441aScriptZero
import Derived.WalkKit
import Derived.ProofKit
import Derived.OpenShut
import Derived.ShutString
import Derived.ChangeOld
import Derived.Below
import Derived.Deep.Grids
namespace Go.Proofs.Qxb6630441a.fnReplicaSetAddScriptMatchesSetModel
open Go.ChangeShapes Go.WideShapes Go.ChangeAt Go.RowKit
set_option linter.unusedVariables false

theorem own : ownKnob Try.prog.godebug = none := by kernel_rfl
theorem laidOut : laidOutB Try.prog = true := by kernel_rfl

/-- What the walk is told of a slice of bools that came in. -/
def IsRow (w : World) (a : Option Addr) (len cap : Nat) (bs : List Bool) : Prop :=
  bs.length = len ∧ len ≤ maxLen ∧ (a = none → cap = 0) ∧ Set.RdV w a (Set.vb bs)

theorem row_of {w : World} {x : Addr} {len cap : Nat} {B : Nat → Bool} (hl : len ≤ cap) (hm : cap ≤ maxLen) (h : ∀ i, i < cap → w.cell? (x.add i) = some (.bool (B i))) :
    IsRow w (some x) len cap ((List.range len).map B) := by
  refine ⟨by simp, by omega, fun e => (by cases e), fun e => (by cases e), fun y hy j u hj => ?_⟩
  cases hy
  have hj' : j < len := by
    have := (List.getElem?_eq_some_iff.1 hj).1
    simpa [Set.vb] using this
  rw [h j (by omega)]
  simpa [Set.vb, hj'] using hj

theorem row_nil (w : World) : IsRow w none 0 0 [] := ⟨rfl, by unfold maxLen; omega, fun _ => rfl, fun _ => rfl, fun x hx => by cases hx⟩

/-- What the walk is told of a slice of ints that came in. -/
def IsInts (w : World) (a : Option Addr) (len cap : Nat) (zs : List Int) : Prop :=
  zs.length = len ∧ len ≤ maxLen ∧ (a = none → cap = 0) ∧ Set.RdV w a (Set.vi zs)

theorem ints_of {w : World} {x : Addr} {len cap : Nat} {zs : List Int} (hl : len ≤ cap) (hm : cap ≤ maxLen) (hz : zs.length = cap) (h : ∀ i, i < zs.length → w.cell? (x.add i) = some (.int .i64 (zs.getD i 0))) :
    IsInts w (some x) len cap (zs.take len) := by
  refine ⟨by rw [List.length_take]; omega, by omega, fun e => (by cases e), fun e => (by cases e), fun y hy j u hj => ?_⟩
  cases hy
  have hj' : j < (zs.take len).length := by
    have := (List.getElem?_eq_some_iff.1 hj).1
    rwa [← Set.vi_len]
  rw [Set.vi_at hj'] at hj
  rw [List.length_take] at hj'
  rw [h j (by omega), ← hj]
  simp only [List.getD, List.getElem?_take]
  rw [if_pos (by omega)]

theorem ints_nil (w : World) : IsInts w none 0 0 [] := ⟨rfl, by unfold maxLen; omega, fun _ => rfl, fun _ => rfl, fun x hx => by cases hx⟩

theorem walk (a0 : Option Addr) (len0 cap0 : Nat) (bs : List Bool) (a1 : Int) (a2 : Option Addr) (len2 cap2 : Nat) (zs : List Int) (w : World) (w0 : IsRow w a0 len0 cap0 bs) (w2 : IsInts w a2 len2 cap2 zs) :
    Calls Try.prog 3 #[.slice a0 len0 cap0, .int .i64 a1, .slice a2 len2 cap2] w fun e w' => e = .returned (.bool true) ∧ Below w.heap.size w w' := by
  obtain ⟨hz, hm, hn0, hr⟩ := w0
  obtain ⟨hz2, hm2, hn2, hr2⟩ := w2
  cases hf : Set.fits (len0 + len2)
  · exact Set.script_out a0 len0 cap0 a1 a2 len2 cap2 w hm hm2 hf
  have hs : len0 + len2 ≤ 1048576 := by simpa [Set.fits] using hf
  by_cases hx : 1048576 < len0 + 8 * len2 ∨ 4096 < len2
  · exact Set.script_long a0 len0 cap0 a1 a2 len2 cap2 w hs hx
  by_cases hq : a1 = (Set.ct bs : Int)
  · subst hq
    by_cases hp : 0 < len2
    · obtain ⟨br, orr, rfl, _, _⟩ := hr2.at (by rw [Set.vi_len]; omega)
      exact Set.script_pos a0 len0 cap0 bs (Set.ct bs) br orr len2 cap2 zs w (by omega) hp (by omega) hz hr rfl hz2 hr2
    · obtain rfl : len2 = 0 := by omega
      obtain rfl : zs = [] := List.eq_nil_of_length_eq_zero hz2
      exact Set.script_zero a0 len0 cap0 bs (Set.ct bs) a2 cap2 w (by omega) hz hn0 hr rfl hn2 hr2
  · exact Set.script_count a0 len0 cap0 bs a1 a2 len2 cap2 w (by omega) (by omega) hz hr hq

/-! ### The row's step, by the guide's template -/
set_option maxRecDepth 100000 in
theorem lifted (os : Os) (started : os.Started) (H : Type) (enc : TypeId × Value → H) :
    ReturnsInHanded {} Try.checked os 3 .any (Rows.fnReplicaSetAddScriptMatchesSetModelSpec.pre6 enc Try.prog Try.f3 Rows.fnReplicaSetAddScriptMatchesSetModelRow.domain false) (Rows.fnReplicaSetAddScriptMatchesSetModelSpec.post enc Try.prog Try.f3 false true false false) := by
  refine returnsInHanded_of_change (C := Try.checked) own started (by kernel_rfl) Try.func3
    (ChangeSpec.witness6 (enc := enc) (C := Try.checked) false ⟨#[], #[.slice none 0 0, .int .i64 0, .slice none 0 0], []⟩ 8 (by kernel_rfl) (by kernel_rfl) (by kernel_rfl) (by kernel_rfl)) ?_
  intro W base args ds gs before hval0 hW hcnd _
  have hval : ∀ (j : Nat) t v, Try.f3.params[j]? = some t → args[j]? = some v → Value.okWide Try.prog W .any base t v := hval0
  have hW' := hW
  obtain ⟨p, q, hA0, hV, rfl, hfz, hnd⟩ := hW
  have hA : DataW.TrodAll enc Try.prog W 0 (fun _ => true) true Try.f3.params.toList args.toList ds p := hA0
  rw [Try.params3] at hA hval
  obtain ⟨v0, vs0, d0, ds0, p0, q0, hargs, rfl, rfl, h0, r0⟩ := trodAll_cons hA
  obtain ⟨v1, vs1, d1, ds1, p1, q1, rfl, rfl, rfl, h1, r1⟩ := trodAll_cons r0
  obtain ⟨v2, vs2, d2, ds2, p2, q2, rfl, rfl, rfl, h2, r2⟩ := trodAll_cons r1
  obtain ⟨rfl, rfl, rfl⟩ := trodAll_nil r2
  obtain rfl : args = #[v0, v1, v2] := by cases args; simp_all
  obtain ⟨rfl, rfl⟩ := trodVars_none hV
  obtain ⟨a0, len0, cap0, rfl⟩ := okWide_slice Try.underlying22 (hval 0 22 v0 rfl rfl)
  obtain ⟨a2, len2, cap2, rfl⟩ := okWide_slice Try.underlying23 (hval 2 23 v2 rfl rfl)
  have k0 := h0
  have lt0 : ∀ x ∈ p0, x.block < W.heap.size := by obtain ⟨m, hm⟩ := k0; exact DataW.trod_lt m _ _ _ hm
  have k2 := h2
  have lt2 : ∀ x ∈ p2, x.block < W.heap.size := by obtain ⟨m, hm⟩ := k2; exact DataW.trod_lt m _ _ _ hm
  obtain ⟨z0, w0⟩ : ∃ bs, IsRow W a0 len0 cap0 bs := by
    obtain ⟨fuel, hf⟩ := h0
    rcases Go.Deep.open_bools Try.underlying22 Try.underlying4 (by kernel_rfl) hf with ⟨hcs, _⟩ | ⟨x, l, c, B, hcs, _, hl, hm, _, hcell⟩
    · simp [Value.cells] at hcs
      obtain ⟨rfl, rfl, rfl⟩ := hcs
      exact ⟨[], row_nil W⟩
    · simp [Value.cells] at hcs
      obtain ⟨rfl, rfl, rfl⟩ := hcs
      exact ⟨_, row_of hl hm hcell⟩
  obtain ⟨z2, w2⟩ : ∃ zs, IsInts W a2 len2 cap2 zs := by
    obtain ⟨fuel, hf⟩ := h2
    rcases open_ints Try.underlying23 Try.underlying3 (by kernel_rfl) hf with ⟨hcs, _⟩ | ⟨x, l, c, zs, hcs, _, hl, hm, hzl, _, hcell, _⟩
    · simp [Value.cells] at hcs
      obtain ⟨rfl, rfl, rfl⟩ := hcs
      exact ⟨[], ints_nil W⟩
    · simp [Value.cells] at hcs
      obtain ⟨rfl, rfl, rfl⟩ := hcs
      exact ⟨_, ints_of hl hm hzl hcell⟩
  obtain ⟨a1, rfl, rfl, rfl, w1⟩ := open_int Try.underlying3 (hval 1 3 v1 rfl rfl) h1
  clear hA0 hval0
  refine (walk a0 len0 cap0 z0 a1 a2 len2 cap2 z2 W w0 w2).mono fun e W' ⟨he, bel⟩ => ?_
  subst he
  exact ⟨_, rfl, _, _, _, [], _, [], hW', trodAll_mk1 (shut_bool Try.underlying4 _), (trodAll_cons_mk (Below.trod laidOut (by kernel_rfl) (of_decide_eq_true (by kernel_rfl)) k0 bel lt0) (trodAll_cons_mk (shut_int Try.underlying3 w1) (trodAll_cons_mk (Below.trod laidOut (by kernel_rfl) (of_decide_eq_true (by kernel_rfl)) k2 bel lt2) trodAll_mk0))), rfl, bel.frame _, fun h => by cases h⟩

theorem over : Rows.fnReplicaSetAddScriptMatchesSetModelRow.holds Try.pinned (OpenSpec.ofChange Rows.fnReplicaSetAddScriptMatchesSetModelSpec) :=
  OpenClaim.holds_of_wide 3 Try.f3 rfl rfl rfl rfl rfl rfl rfl ⟨rfl, rfl, rfl, rfl, rfl⟩ rfl rfl rfl rfl rfl (by kernel_rfl) Try.func3 (by kernel_rfl)
    (of_decide_eq_true (by kernel_rfl)) (by unfold Func.isWrapper; first | (rw [if_pos (by decide +kernel)]; kernel_rfl) | (rw [if_neg (by decide +kernel)]; exact ⟨rfl, rfl⟩))
    (fun os started H enc _ => lifted os started H enc)

/-- THE STATEMENT -/
theorem proved : Rows.FnReplicaSetAddScriptMatchesSetModelSaid := over
end Go.Proofs.Qxb6630441a.fnReplicaSetAddScriptMatchesSetModel
