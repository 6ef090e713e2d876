/-
  The law FnAppendUintEncodingOrder: the frame is the guide's template; the walk is ours.
-/
import Derived.Test.Qxb6630396aCmp
import Derived.WalkKit
import Derived.ProofKit
import Derived.OpenShut
import Derived.ShutString
import Derived.ChangeOld
import Derived.Below
namespace Go.Proofs.Qxb6630396a.fnAppendUintEncodingOrder
open Go.ChangeShapes Go.WideShapes Go.ChangeAt Go.RowKit
open Go.ChangeMaps (open_string shut_string)
set_option linter.unusedVariables false

theorem own : ownKnob Try.prog.godebug = none := by kernel_rfl
theorem laidOut : laidOutB Try.prog = true := by kernel_rfl

/-- WHAT THE WALK IS TOLD OF A SLICE OF INTEGERS THAT CAME IN: it is nil; or it leads to a row of 'cap' cells, the numbers 'zs' (the first 'len' are its elements, the rest its spare room), each fitting its kind. -/
def IsRow (k : IntKind) (w : World) (a : Option Addr) (len cap : Nat) (zs : List Int) : Prop :=
  (a = none ∧ len = 0 ∧ cap = 0 ∧ zs = []) ∨
  ∃ x, a = some x ∧ len ≤ cap ∧ cap ≤ maxLen ∧ zs.length = cap ∧ (∀ i, i < zs.length → w.cell? (x.add i) = some (.int k (zs.getD i 0))) ∧ ∀ n ∈ zs, (Lit.int k n).wf = true

theorem row_read {w : World} {a : Option Addr} {len cap : Nat} {z : List Int} (h : IsRow .u8 w a len cap z) :
    ∃ zs : List Int, zs.length = len ∧ Rlp.RdS w a zs ∧ (a = none → cap = 0) := by
  rcases h with ⟨rfl, rfl, rfl, rfl⟩ | ⟨x, rfl, h1, h2, h3, h4, h5⟩
  · exact ⟨[], rfl, ⟨fun _ => rfl, fun x hx => by cases hx⟩, fun _ => rfl⟩
  · refine ⟨z.take len, by simp; omega, ⟨fun e => (by cases e), fun y hy j hj => ?_⟩, fun e => (by cases e)⟩
    cases hy
    have hj' : j < len := by simp at hj; omega
    rw [h4 j (by omega)]
    simp [List.getD, hj']

set_option maxRecDepth 100000 in
set_option maxHeartbeats 1000000 in
theorem walk_in (a0 : Option Addr) (len0 cap0 : Nat) (zs : List Int) (v u : Int) (w : World) (hn : len0 ≤ 1048576) (hz : zs.length = len0) (hr : Rlp.RdS w a0 zs) (hnil : a0 = none → cap0 = 0) (hv0 : 0 ≤ v) (hv1 : v ≤ 18446744073709551615) (hu0 : 0 ≤ u) (hu1 : u ≤ 18446744073709551615) :
    Calls Try.prog 4 #[.slice a0 len0 cap0, .int .u64 v, .int .u64 u] w fun e w' => e = .returned (.bool true) ∧ Below w.heap.size w w' := by
  have hf : Rlp.fits len0 = true := by simp [Rlp.fits]; omega
  have hm1 := Rlp.enc_length_pos v
  have hm9 := Rlp.enc_len v hv1
  have hk1 := Rlp.enc_length_pos u
  have hk9 := Rlp.enc_len u hu1
  obtain ⟨m, hm⟩ : ∃ m, (Rlp.enc v).length = m := ⟨_, rfl⟩
  obtain ⟨k, hk⟩ : ∃ k, (Rlp.enc u).length = k := ⟨_, rfl⟩
  rw [hm] at hm1 hm9
  rw [hk] at hk1 hk9
  have HM : Hid ((Rlp.enc v).length = m) := hm
  have HK : Hid ((Rlp.enc u).length = k) := hk
  clear hm hk
  obtain ⟨r, hrr⟩ : ∃ r, Rlp.order v u = r := ⟨_, rfl⟩
  have HR : Hid (Rlp.order v u = r) := hrr
  have HC : Hid (Rlp.cmp (zs ++ Rlp.enc v) (zs ++ Rlp.enc u) = r) := by show _ = _; rw [Rlp.cmp_app, Rlp.cmp_enc v u hv0 hv1 hu0 hu1, hrr]
  clear hrr
  have d0 : decide ((1048576 : Int) < (len0 : Int)) = false := by simp; omega
  go_enter Try.func4, Try.ntmps4
  go_wp2_with (go_at_call 9; refine (Rlp.bytes9_any _ _ _ _ _ _ (by unfold maxLen; omega)).mono ?_; rintro e w' ⟨rfl, rfl⟩)
  refine (Rlp.clone_any a0 len0 cap0 zs _ hn hz hnil hr).mono ?_
  rintro e w1 ⟨ao1, rfl, hr1, hb1⟩
  go_wp2_with fail
  refine (Rlp.clone_any ao1 len0 len0 zs _ hn hz (fun e => by have := hr1.1 e; subst this; simpa using hz.symm) hr1).mono ?_
  rintro e w2 ⟨ao2, rfl, hr2, hb2⟩
  go_wp2_with fail
  refine (Rlp.app_at ao1 len0 zs v m _ hn hz (hr1.below hb2) hv0 hv1 HM.out).mono ?_
  rintro e w3 ⟨g, cap, rfl, hr3, hcap, hb3⟩
  go_wp2_with fail
  refine (Rlp.app_at ao2 len0 zs u k _ hn hz (hr2.below hb3) hu0 hu1 HK.out).mono ?_
  rintro e w4 ⟨g', cap', rfl, hr4, hcap', hb4⟩
  go_wp2_with fail
  refine (Rlp.cmp_at g (len0 + m) cap g' (len0 + k) cap' _ _ r _ (by rw [List.length_append, hz, HM.out]) (by rw [List.length_append, hz, HK.out]) (by omega) (by omega) (by omega) (by omega) (hr3.below hb4) hr4 HC.out).mono ?_
  rintro e w5 ⟨rfl, hb5⟩
  have HB : Hid (Below w.heap.size w w5) := (((hb1.trans (hb2.mono hb1.size)).trans (hb3.mono (Nat.le_trans hb1.size hb2.size))).trans (hb4.mono (Nat.le_trans hb1.size (Nat.le_trans hb2.size hb3.size)))).trans (hb5.mono (Nat.le_trans hb1.size (Nat.le_trans hb2.size (Nat.le_trans hb3.size hb4.size))))
  clear hr hr1 hr2 hr3 hr4 hb1 hb2 hb3 hb4 hb5
  go_wp2_with fail
  refine (Rlp.order_at v u r _ HR.out).mono ?_
  rintro e w6 ⟨rfl, rfl⟩
  go_wp2_with fail
  go_ret
  exact ⟨rfl, HB.out⟩

/-! ### STEP 1: THE WALK: the Go text returns true, AND WRITES NOTHING THAT WAS THERE: 'Below w.heap.size w w'' (Derived/Below.lean: '.refl', '.alloc', '.drew', '.setCell' at a new block, '.trans'). Open each 'IsRow' by 'rcases' AHEAD of 'go_enter'; part every test ahead of the walk. -/
theorem walk (a0 : Option Addr) (len0 cap0 : Nat) (z0 : List Int) (a1 : Int) (a2 : Int) (w : World) (w0 : IsRow .u8 w a0 len0 cap0 z0) (w1 : (Lit.int .u64 a1).wf = true) (w2 : (Lit.int .u64 a2).wf = true) :
    Calls Try.prog 4 #[.slice a0 len0 cap0, .int .u64 a1, .int .u64 a2] w fun e w' => e = .returned (.bool true) ∧ Below w.heap.size w w' := by
  have hlm : len0 ≤ maxLen := by rcases w0 with ⟨_, rfl, _⟩ | ⟨x, _, h1, h2, _⟩ <;> omega
  have hv := bounds_u64 w1
  have hu := bounds_u64 w2
  cases hf : Rlp.fits len0
  · unfold maxLen at hlm
    go_enter Try.func4, Try.ntmps4
    go_wp2_with (go_at_call 9; refine (Rlp.bytes9_any _ _ _ _ _ _ (by unfold maxLen; omega)).mono ?_; rintro e w' ⟨rfl, rfl⟩)
    go_ret
    exact ⟨rfl, Below.refl _ _⟩
  · have hn : len0 ≤ 1048576 := by simpa [Rlp.fits] using hf
    obtain ⟨zs, hz, hr, hnil⟩ := row_read w0
    exact walk_in a0 len0 cap0 zs a1 a2 w hn hz hr hnil hv.1 hv.2 hu.1 hu.2

/-! ### THE ROW's STEP: WRITTEN OUT: LEAVE IT -/
set_option maxRecDepth 100000 in
theorem lifted (os : Os) (started : os.Started) (H : Type) (enc : TypeId × Value → H) :
    ReturnsInHanded {} Try.checked os 4 .any (Rows.fnAppendUintEncodingOrderSpec.pre6 enc Try.prog Try.f4 Rows.fnAppendUintEncodingOrderRow.domain false) (Rows.fnAppendUintEncodingOrderSpec.post enc Try.prog Try.f4 false true false false) := by
  refine returnsInHanded_of_change (C := Try.checked) own started (by kernel_rfl) Try.func4
    (ChangeSpec.witness6 (enc := enc) (C := Try.checked) false ⟨#[], #[.slice none 0 0, .int .u64 0, .int .u64 0], []⟩ 8 (by kernel_rfl) (by kernel_rfl) (by kernel_rfl) (by kernel_rfl)) ?_
  intro W base args ds gs before hval0 hW hcnd _
  have hval : ∀ (j : Nat) t v, Try.f4.params[j]? = some t → args[j]? = some v → Value.okWide Try.prog W .any base t v := hval0
  have hW' := hW
  obtain ⟨p, q, hA0, hV, rfl, hfz, hnd⟩ := hW
  have hA : DataW.TrodAll enc Try.prog W 0 (fun _ => true) true Try.f4.params.toList args.toList ds p := hA0
  rw [Try.params4] at hA hval
  obtain ⟨v0, vs0, d0, ds0, p0, q0, hargs, rfl, rfl, h0, r0⟩ := trodAll_cons hA
  obtain ⟨v1, vs1, d1, ds1, p1, q1, rfl, rfl, rfl, h1, r1⟩ := trodAll_cons r0
  obtain ⟨v2, vs2, d2, ds2, p2, q2, rfl, rfl, rfl, h2, r2⟩ := trodAll_cons r1
  obtain ⟨rfl, rfl, rfl⟩ := trodAll_nil r2
  obtain rfl : args = #[v0, v1, v2] := by cases args; simp_all
  obtain ⟨rfl, rfl⟩ := trodVars_none hV
  obtain ⟨a0, len0, cap0, rfl⟩ := okWide_slice Try.underlying22 (hval 0 22 v0 rfl rfl)
  have k0 := h0
  have lt0 : ∀ x ∈ p0, x.block < W.heap.size := by obtain ⟨m, hm⟩ := k0; exact DataW.trod_lt m _ _ _ hm
  obtain ⟨z0, w0⟩ : ∃ zs, IsRow .u8 W a0 len0 cap0 zs := by
    obtain ⟨fuel, hf⟩ := h0
    rcases open_ints Try.underlying22 Try.underlying5 (by kernel_rfl) hf with ⟨hcs, _⟩ | ⟨x, l, c, zs, hcs, _, hl, hm, hz, _, hcell, hwz⟩
    · simp [Value.cells] at hcs
      obtain ⟨rfl, rfl, rfl⟩ := hcs
      exact ⟨[], .inl ⟨rfl, rfl, rfl, rfl⟩⟩
    · simp [Value.cells] at hcs
      obtain ⟨rfl, rfl, rfl⟩ := hcs
      exact ⟨zs, .inr ⟨_, rfl, hl, hm, by simpa using hz, hcell, hwz⟩⟩
  obtain ⟨a1, rfl, rfl, rfl, w1⟩ := open_int Try.underlying23 (hval 1 23 v1 rfl rfl) h1
  obtain ⟨a2, rfl, rfl, rfl, w2⟩ := open_int Try.underlying23 (hval 2 23 v2 rfl rfl) h2
  clear hA0 hval0
  refine (walk a0 len0 cap0 z0 a1 a2 W w0 w1 w2).mono fun e W' ⟨he, bel⟩ => ?_
  subst he
  exact ⟨_, rfl, _, _, _, [], _, [], hW', trodAll_mk1 (shut_bool Try.underlying4 _), (trodAll_cons_mk (Below.trod laidOut (by kernel_rfl) (of_decide_eq_true (by kernel_rfl)) k0 bel lt0) (trodAll_cons_mk (shut_int Try.underlying23 w1) (trodAll_cons_mk (shut_int Try.underlying23 w2) trodAll_mk0))), rfl, bel.frame _, fun h => by cases h⟩

theorem over : Rows.fnAppendUintEncodingOrderRow.holds Try.pinned (OpenSpec.ofChange Rows.fnAppendUintEncodingOrderSpec) :=
  OpenClaim.holds_of_wide 4 Try.f4 rfl rfl rfl rfl rfl rfl rfl ⟨rfl, rfl, rfl, rfl, rfl⟩ rfl rfl rfl rfl rfl (by kernel_rfl) Try.func4 (by kernel_rfl)
    (of_decide_eq_true (by kernel_rfl)) (by unfold Func.isWrapper; first | (rw [if_pos (by decide +kernel)]; kernel_rfl) | (rw [if_neg (by decide +kernel)]; exact ⟨rfl, rfl⟩))
    (fun os started H enc _ => lifted os started H enc)

/-- ████ THE STATEMENT ████ -/
theorem proved : Rows.FnAppendUintEncodingOrderSaid := over
end Go.Proofs.Qxb6630396a.fnAppendUintEncodingOrder
