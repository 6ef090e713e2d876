/-
  The law FnReplicaSetAddTwoOrderFree: the frame is the guide's template, turned to a slice of bools; the walk is ours.
-/
import Derived.Test.Qxb6630441aTwo
import Derived.WalkKit
import Derived.ProofKit
import Derived.OpenShut
import Derived.ShutString
import Derived.ChangeOld
import Derived.Below
import Derived.Deep.Grids
namespace Go.Proofs.Qxb6630441a.fnReplicaSetAddTwoOrderFree
open Go.ChangeShapes Go.WideShapes Go.ChangeAt Go.RowKit
set_option linter.unusedVariables false

theorem own : ownKnob Try.prog.godebug = none := by kernel_rfl
theorem laidOut : laidOutB Try.prog = true := by kernel_rfl

/-- What the walk is told of a slice of bools that came in. -/
def IsRow (w : World) (a : Option Addr) (len cap : Nat) (bs : List Bool) : Prop :=
  bs.length = len ∧ len ≤ maxLen ∧ (a = none → cap = 0) ∧ Set.RdV w a (Set.vb bs)

theorem row_of {w : World} {x : Addr} {len cap : Nat} {B : Nat → Bool} (hl : len ≤ cap) (hm : cap ≤ maxLen) (h : ∀ i, i < cap → w.cell? (x.add i) = some (.bool (B i))) :
    IsRow w (some x) len cap ((List.range len).map B) := by
  refine ⟨by simp, by omega, fun e => (by cases e), fun e => (by cases e), fun y hy j u hj => ?_⟩
  cases hy
  have hj' : j < len := by
    have := (List.getElem?_eq_some_iff.1 hj).1
    simpa [Set.vb] using this
  rw [h j (by omega)]
  simpa [Set.vb, hj'] using hj

theorem row_nil (w : World) : IsRow w none 0 0 [] := ⟨rfl, by unfold maxLen; omega, fun _ => rfl, fun _ => rfl, fun x hx => by cases hx⟩

set_option maxRecDepth 100000 in
set_option maxHeartbeats 400000 in
theorem walk_out (a0 : Option Addr) (len0 cap0 : Nat) (q a1 a2 a3 : Int) (w : World) (hm : len0 ≤ maxLen) (hf : Set.fits len0 = false) :
    Calls Try.prog 4 #[.slice a0 len0 cap0, .int .i64 a1, .int .i64 a2, .int .i64 a3] w fun e w' => e = .returned (.bool true) ∧ Below w.heap.size w w' := by
  go_enter Try.func4, Try.ntmps4
  go_wp2_with (go_at_call 13; refine (Set.bytes13_any _ _ _ _ _ _ _ hm).mono ?_; rintro e w' ⟨rfl, rfl⟩)
  go_ret
  exact ⟨rfl, Below.refl _ _⟩

set_option maxRecDepth 100000 in
set_option maxHeartbeats 400000 in
theorem walk_count (a0 : Option Addr) (len0 cap0 : Nat) (bs : List Bool) (a1 a2 a3 : Int) (w : World) (hn : len0 ≤ 1048576) (hz : bs.length = len0) (hr : Set.RdV w a0 (Set.vb bs)) (hq : a1 ≠ (Set.ct bs : Int)) :
    Calls Try.prog 4 #[.slice a0 len0 cap0, .int .i64 a1, .int .i64 a2, .int .i64 a3] w fun e w' => e = .returned (.bool true) ∧ Below w.heap.size w w' := by
  have hf : Set.fits len0 = true := by simp [Set.fits]; omega
  have hq' : (a1 != (Set.ct bs : Int)) = true := by simpa using hq
  go_enter Try.func4, Try.ntmps4
  go_wp2_with (go_at_call 13; refine (Set.bytes13_any _ _ _ _ _ _ _ (by unfold maxLen; omega)).mono ?_; rintro e w' ⟨rfl, rfl⟩)
  refine (Set.count_any a0 len0 cap0 bs _ hn hz hr).mono ?_
  rintro e w' ⟨rfl, rfl⟩
  go_wp2_with fail
  go_ret
  exact ⟨rfl, Below.refl _ _⟩

set_option maxRecDepth 100000 in
set_option maxHeartbeats 1000000 in
theorem walk_range (a0 : Option Addr) (len0 cap0 : Nat) (bs : List Bool) (a2 a3 : Int) (w : World) (hn : len0 ≤ 1048576) (hz : bs.length = len0) (hr : Set.RdV w a0 (Set.vb bs)) (hq : a2 < 0 ∨ (len0 : Int) ≤ a2 ∨ a3 < 0 ∨ (len0 : Int) ≤ a3) :
    Calls Try.prog 4 #[.slice a0 len0 cap0, .int .i64 (Set.ct bs), .int .i64 a2, .int .i64 a3] w fun e w' => e = .returned (.bool true) ∧ Below w.heap.size w w' := by
  have hf : Set.fits len0 = true := by simp [Set.fits]; omega
  by_cases c1 : a2 < 0
  · go_enter Try.func4, Try.ntmps4
    go_wp2_with (go_at_call 13; refine (Set.bytes13_any _ _ _ _ _ _ _ (by unfold maxLen; omega)).mono ?_; rintro e w' ⟨rfl, rfl⟩)
    refine (Set.count_any a0 len0 cap0 bs _ hn hz hr).mono ?_
    rintro e w' ⟨rfl, rfl⟩
    go_wp2_with fail
    go_ret
    exact ⟨rfl, Below.refl _ _⟩
  by_cases c2 : (len0 : Int) ≤ a2
  · go_enter Try.func4, Try.ntmps4
    go_wp2_with (go_at_call 13; refine (Set.bytes13_any _ _ _ _ _ _ _ (by unfold maxLen; omega)).mono ?_; rintro e w' ⟨rfl, rfl⟩)
    refine (Set.count_any a0 len0 cap0 bs _ hn hz hr).mono ?_
    rintro e w' ⟨rfl, rfl⟩
    go_wp2_with fail
    go_ret
    exact ⟨rfl, Below.refl _ _⟩
  by_cases c3 : a3 < 0
  · go_enter Try.func4, Try.ntmps4
    go_wp2_with (go_at_call 13; refine (Set.bytes13_any _ _ _ _ _ _ _ (by unfold maxLen; omega)).mono ?_; rintro e w' ⟨rfl, rfl⟩)
    refine (Set.count_any a0 len0 cap0 bs _ hn hz hr).mono ?_
    rintro e w' ⟨rfl, rfl⟩
    go_wp2_with fail
    go_ret
    exact ⟨rfl, Below.refl _ _⟩
  · have c4 : (len0 : Int) ≤ a3 := by omega
    clear hq
    go_enter Try.func4, Try.ntmps4
    go_wp2_with (go_at_call 13; refine (Set.bytes13_any _ _ _ _ _ _ _ (by unfold maxLen; omega)).mono ?_; rintro e w' ⟨rfl, rfl⟩)
    refine (Set.count_any a0 len0 cap0 bs _ hn hz hr).mono ?_
    rintro e w' ⟨rfl, rfl⟩
    go_wp2_with fail
    go_ret
    exact ⟨rfl, Below.refl _ _⟩

theorem walk (a0 : Option Addr) (len0 cap0 : Nat) (bs : List Bool) (a1 : Int) (a2 : Int) (a3 : Int) (w : World) (w0 : IsRow w a0 len0 cap0 bs) :
    Calls Try.prog 4 #[.slice a0 len0 cap0, .int .i64 a1, .int .i64 a2, .int .i64 a3] w fun e w' => e = .returned (.bool true) ∧ Below w.heap.size w w' := by
  obtain ⟨hz, hm, _, hr⟩ := w0
  cases hf : Set.fits len0
  · exact walk_out a0 len0 cap0 0 a1 a2 a3 w hm hf
  have hn : len0 ≤ 1048576 := by simpa [Set.fits] using hf
  by_cases hq : a1 = (Set.ct bs : Int)
  · subst hq
    by_cases hc : a2 < 0 ∨ (len0 : Int) ≤ a2 ∨ a3 < 0 ∨ (len0 : Int) ≤ a3
    · exact walk_range a0 len0 cap0 bs a2 a3 w hn hz hr hc
    · obtain ⟨a, rfl⟩ : ∃ a : Nat, a2 = (a : Int) := ⟨a2.toNat, by omega⟩
      obtain ⟨b, rfl⟩ : ∃ b : Nat, a3 = (b : Int) := ⟨a3.toNat, by omega⟩
      have ha : a < len0 := by omega
      have hb : b < len0 := by omega
      by_cases e : a = b
      · subst e
        cases hA : bs.getD a false
        · exact Set.two_eq_f a0 len0 cap0 bs (Set.ct bs) a w hn hz hr rfl ha hA
        · exact Set.two_eq_t a0 len0 cap0 bs (Set.ct bs) a w hn hz hr rfl ha hA
      · cases hA : bs.getD a false <;> cases hB : bs.getD b false
        · exact Set.two_ne_ff a0 len0 cap0 bs (Set.ct bs) a b w hn hz hr rfl ha hb hA hB e
        · exact Set.two_ne_ft a0 len0 cap0 bs (Set.ct bs) a b w hn hz hr rfl ha hb hA hB e
        · exact Set.two_ne_tf a0 len0 cap0 bs (Set.ct bs) a b w hn hz hr rfl ha hb hA hB e
        · exact Set.two_ne_tt a0 len0 cap0 bs (Set.ct bs) a b w hn hz hr rfl ha hb hA hB e
  · exact walk_count a0 len0 cap0 bs a1 a2 a3 w hn hz hr hq

/-! ### The row's step, by the guide's template -/
set_option maxRecDepth 100000 in
theorem lifted (os : Os) (started : os.Started) (H : Type) (enc : TypeId × Value → H) :
    ReturnsInHanded {} Try.checked os 4 .any (Rows.fnReplicaSetAddTwoOrderFreeSpec.pre6 enc Try.prog Try.f4 Rows.fnReplicaSetAddTwoOrderFreeRow.domain false) (Rows.fnReplicaSetAddTwoOrderFreeSpec.post enc Try.prog Try.f4 false true false false) := by
  refine returnsInHanded_of_change (C := Try.checked) own started (by kernel_rfl) Try.func4
    (ChangeSpec.witness6 (enc := enc) (C := Try.checked) false ⟨#[], #[.slice none 0 0, .int .i64 0, .int .i64 0, .int .i64 0], []⟩ 8 (by kernel_rfl) (by kernel_rfl) (by kernel_rfl) (by kernel_rfl)) ?_
  intro W base args ds gs before hval0 hW hcnd _
  have hval : ∀ (j : Nat) t v, Try.f4.params[j]? = some t → args[j]? = some v → Value.okWide Try.prog W .any base t v := hval0
  have hW' := hW
  obtain ⟨p, q, hA0, hV, rfl, hfz, hnd⟩ := hW
  have hA : DataW.TrodAll enc Try.prog W 0 (fun _ => true) true Try.f4.params.toList args.toList ds p := hA0
  rw [Try.params4] at hA hval
  obtain ⟨v0, vs0, d0, ds0, p0, q0, hargs, rfl, rfl, h0, r0⟩ := trodAll_cons hA
  obtain ⟨v1, vs1, d1, ds1, p1, q1, rfl, rfl, rfl, h1, r1⟩ := trodAll_cons r0
  obtain ⟨v2, vs2, d2, ds2, p2, q2, rfl, rfl, rfl, h2, r2⟩ := trodAll_cons r1
  obtain ⟨v3, vs3, d3, ds3, p3, q3, rfl, rfl, rfl, h3, r3⟩ := trodAll_cons r2
  obtain ⟨rfl, rfl, rfl⟩ := trodAll_nil r3
  obtain rfl : args = #[v0, v1, v2, v3] := by cases args; simp_all
  obtain ⟨rfl, rfl⟩ := trodVars_none hV
  obtain ⟨a0, len0, cap0, rfl⟩ := okWide_slice Try.underlying22 (hval 0 22 v0 rfl rfl)
  have k0 := h0
  have lt0 : ∀ x ∈ p0, x.block < W.heap.size := by obtain ⟨m, hm⟩ := k0; exact DataW.trod_lt m _ _ _ hm
  obtain ⟨z0, w0⟩ : ∃ bs, IsRow W a0 len0 cap0 bs := by
    obtain ⟨fuel, hf⟩ := h0
    rcases Go.Deep.open_bools Try.underlying22 Try.underlying4 (by kernel_rfl) hf with ⟨hcs, _⟩ | ⟨x, l, c, B, hcs, _, hl, hm, _, hcell⟩
    · simp [Value.cells] at hcs
      obtain ⟨rfl, rfl, rfl⟩ := hcs
      exact ⟨[], row_nil W⟩
    · simp [Value.cells] at hcs
      obtain ⟨rfl, rfl, rfl⟩ := hcs
      exact ⟨_, row_of hl hm hcell⟩
  obtain ⟨a1, rfl, rfl, rfl, w1⟩ := open_int Try.underlying3 (hval 1 3 v1 rfl rfl) h1
  obtain ⟨a2, rfl, rfl, rfl, w2⟩ := open_int Try.underlying3 (hval 2 3 v2 rfl rfl) h2
  obtain ⟨a3, rfl, rfl, rfl, w3⟩ := open_int Try.underlying3 (hval 3 3 v3 rfl rfl) h3
  clear hA0 hval0
  refine (walk a0 len0 cap0 z0 a1 a2 a3 W w0).mono fun e W' ⟨he, bel⟩ => ?_
  subst he
  exact ⟨_, rfl, _, _, _, [], _, [], hW', trodAll_mk1 (shut_bool Try.underlying4 _), (trodAll_cons_mk (Below.trod laidOut (by kernel_rfl) (of_decide_eq_true (by kernel_rfl)) k0 bel lt0) (trodAll_cons_mk (shut_int Try.underlying3 w1) (trodAll_cons_mk (shut_int Try.underlying3 w2) (trodAll_cons_mk (shut_int Try.underlying3 w3) trodAll_mk0)))), rfl, bel.frame _, fun h => by cases h⟩

theorem over : Rows.fnReplicaSetAddTwoOrderFreeRow.holds Try.pinned (OpenSpec.ofChange Rows.fnReplicaSetAddTwoOrderFreeSpec) :=
  OpenClaim.holds_of_wide 4 Try.f4 rfl rfl rfl rfl rfl rfl rfl ⟨rfl, rfl, rfl, rfl, rfl⟩ rfl rfl rfl rfl rfl (by kernel_rfl) Try.func4 (by kernel_rfl)
    (of_decide_eq_true (by kernel_rfl)) (by unfold Func.isWrapper; first | (rw [if_pos (by decide +kernel)]; kernel_rfl) | (rw [if_neg (by decide +kernel)]; exact ⟨rfl, rfl⟩))
    (fun os started H enc _ => lifted os started H enc)

/-- THE STATEMENT -/
theorem proved : Rows.FnReplicaSetAddTwoOrderFreeSaid := over
end Go.Proofs.Qxb6630441a.fnReplicaSetAddTwoOrderFree
