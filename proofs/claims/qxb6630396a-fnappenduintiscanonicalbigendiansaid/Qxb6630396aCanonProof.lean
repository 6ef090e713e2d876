/-
  The law FnAppendUintIsCanonicalBigEndian: the frame is the guide's template; the walk is ours.
-/
import Derived.Test.Qxb6630396aDec
import Derived.BigQuiet
import Derived.WalkKit
import Derived.ProofKit
import Derived.OpenShut
import Derived.ShutString
import Derived.ChangeOld
import Derived.Below
namespace Go.Proofs.Qxb6630396a.fnAppendUintIsCanonicalBigEndian
open Go.ChangeShapes Go.WideShapes Go.ChangeAt Go.RowKit
open Go.ChangeMaps (open_string shut_string)
set_option linter.unusedVariables false

theorem own : ownKnob Try.prog.godebug = none := by kernel_rfl
theorem laidOut : laidOutB Try.prog = true := by kernel_rfl

/-- WHAT THE WALK IS TOLD OF A SLICE OF INTEGERS THAT CAME IN: it is nil; or it leads to a row of 'cap' cells, the numbers 'zs' (the first 'len' are its elements, the rest its spare room), each fitting its kind. -/
def IsRow (k : IntKind) (w : World) (a : Option Addr) (len cap : Nat) (zs : List Int) : Prop :=
  (a = none ∧ len = 0 ∧ cap = 0 ∧ zs = []) ∨
  ∃ x, a = some x ∧ len ≤ cap ∧ cap ≤ maxLen ∧ zs.length = cap ∧ (∀ i, i < zs.length → w.cell? (x.add i) = some (.int k (zs.getD i 0))) ∧ ∀ n ∈ zs, (Lit.int k n).wf = true

theorem row_read {w : World} {a : Option Addr} {len cap : Nat} {z : List Int} (h : IsRow .u8 w a len cap z) :
    ∃ zs : List Int, zs.length = len ∧ Rlp.RdS w a zs ∧ (a = none → cap = 0) := by
  rcases h with ⟨rfl, rfl, rfl, rfl⟩ | ⟨x, rfl, h1, h2, h3, h4, h5⟩
  · exact ⟨[], rfl, ⟨fun _ => rfl, fun x hx => by cases hx⟩, fun _ => rfl⟩
  · refine ⟨z.take len, by simp; omega, ⟨fun e => (by cases e), fun y hy j hj => ?_⟩, fun e => (by cases e)⟩
    cases hy
    have hj' : j < len := by simp at hj; omega
    rw [h4 j (by omega)]
    simp [List.getD, hj']

set_option maxRecDepth 100000 in
set_option maxHeartbeats 1000000 in
theorem walk_pos (a0 : Option Addr) (len0 cap0 : Nat) (zs : List Int) (v : Int) (w : World) (hn : len0 ≤ 1048576) (hp : 0 < len0) (hz : zs.length = len0) (hr : Rlp.RdS w a0 zs) (hnil : a0 = none → cap0 = 0) (hv0 : 0 ≤ v) (hv1 : v ≤ 18446744073709551615) :
    Calls Try.prog 3 #[.slice a0 len0 cap0, .int .u64 v] w fun e w' => e = .returned (.bool true) ∧ Below w.heap.size w w' := by
  have hf : Rlp.fits len0 = true := by simp [Rlp.fits]; omega
  have hm1 := Rlp.enc_length_pos v
  have hm9 := Rlp.enc_len v hv1
  obtain ⟨m, hm⟩ : ∃ m, (Rlp.enc v).length = m := ⟨_, rfl⟩
  rw [hm] at hm1 hm9
  have HM : Hid ((Rlp.enc v).length = m) := hm
  clear hm
  have d0 : decide ((1048576 : Int) < (len0 : Int)) = false := by simp; omega
  have d1 : decide ((m : Int) < 1) = false := by simp; omega
  go_enter Try.func3, Try.ntmps3
  go_wp2_with (go_at_call 5; refine (Rlp.bytes5_any _ _ _ _ _ (by unfold maxLen; omega)).mono ?_; rintro e w' ⟨rfl, rfl⟩)
  refine (Rlp.clone_pos a0 len0 cap0 zs _ hn hp hz hr).mono ?_
  rintro e w1 ⟨b1, o1, rfl, hr1, hb1⟩
  go_wp2_with fail
  refine (Rlp.clone_pos a0 len0 cap0 zs _ hn hp hz (hr.below hb1)).mono ?_
  rintro e w2 ⟨b2, o2, rfl, hr2, hb2⟩
  go_wp2_with fail
  refine (Rlp.app_at (some ⟨b2, o2, none⟩) len0 zs v m _ hn hz hr2 hv0 hv1 HM.out).mono ?_
  rintro e w3 ⟨g, cap, rfl, hr3, hcap, hb3⟩
  go_wp2_with fail
  have hr1' : Rlp.RdS w3 (some ⟨b1, o1, none⟩) zs := (hr1.below hb2).below hb3
  obtain ⟨b1', o1', hx1, _, hc1⟩ := hr1'.at (by omega)
  cases hx1
  obtain ⟨g', z', hx3, _, hc3⟩ := hr3.at (by simp; omega)
  cases hx3
  have HB : Hid (Below w.heap.size w w3) := (hb1.trans (hb2.mono hb1.size)).trans (hb3.mono (Nat.le_trans hb1.size hb2.size))
  have hcg : ∀ k, k < len0 → w3.cell? ⟨g, k, none⟩ = some (.int .u8 (zs.getD k 0)) := fun k hk => by
    have := hc3 k (by simp; omega)
    rw [Nat.zero_add] at this
    rw [this]; simp [List.getD, List.getElem?_append_left (show k < zs.length by omega)]
  have hsub : Rlp.RdS w3 (some ⟨g, len0, none⟩) (Rlp.enc v) := Rlp.RdS.mk fun j hj => by
    have := hc3 (len0 + j) (by simp; omega)
    rw [Nat.zero_add] at this
    rw [this]; simp [List.getD, List.getElem?_append_right (show zs.length ≤ len0 + j by omega), hz]
  have hg3 : g < w3.heap.size := block_lt_of_cell (hcg 0 hp)
  have hb13 : b1 < w3.heap.size := block_lt_of_cell (hc1 0 (by omega))
  clear hr hr1 hr2 hr3 hb1 hb2 hb3 hr1' hc3
  go_loopw [7] (fun i wr => ∃ k : Nat, k ≤ len0 ∧ i = .int .i64 k ∧ Below w3.heap.size w3 wr) (fun i _ => len0 - (intOf i).toNat)
  case atStart => exact ⟨0, Nat.zero_le _, rfl, Below.refl _ _⟩
  case round =>
    obtain ⟨k, hk, rfl, hbel⟩ := hrel
    by_cases hlt : k < len0
    · have c1 : wr.cell? ⟨b1, o1 + k, none⟩ = some (.int .u8 (zs.getD k 0)) := (hbel.cell (p := ⟨b1, o1 + k, none⟩) hb13).trans (hc1 k (by omega))
      have c2 : wr.cell? ⟨g, k, none⟩ = some (.int .u8 (zs.getD k 0)) := (hbel.cell (p := ⟨g, k, none⟩) hg3).trans (hcg k hlt)
      have i1 : (k : Int) < (len0 : Int) := by omega
      have i2 : (k : Int) < (len0 : Int) + (m : Int) := by omega
      obtain ⟨x, hx⟩ : ∃ x, zs.getD k 0 = x := ⟨_, rfl⟩
      rw [hx] at c1 c2
      clear hx hc1 hcg
      go_wp2
      go_quiet (fail)
      go_wp2
      go_roundw
      case rel => exact ⟨k + 1, by omega, by go_num, below_drewN hbel _⟩
      case measure => simp [intOf]; omega
    · obtain rfl : k = len0 := by omega
      have hsubr : Rlp.RdS wr (some ⟨g, k, none⟩) (Rlp.enc v) := hsub.below hbel
      have HBr : Hid (Below w.heap.size w wr) := HB.out.trans (hbel.mono HB.out.size)
      have hkc : (k : Int) < (cap : Int) := by omega
      clear hsub hbel hc1 hcg HB
      go_wp2_with fail
      refine (Rlp.dec_any g k _ m v _ HM.out hsubr hv0 hv1).mono ?_
      rintro e wz ⟨rfl, rfl⟩
      go_wp2_with fail
      go_ret
      exact ⟨rfl, HBr.out⟩

set_option maxRecDepth 100000 in
set_option maxHeartbeats 1000000 in
theorem walk_zero (a0 : Option Addr) (cap0 : Nat) (v : Int) (w : World) (hr : Rlp.RdS w a0 []) (hnil : a0 = none → cap0 = 0) (hv0 : 0 ≤ v) (hv1 : v ≤ 18446744073709551615) :
    Calls Try.prog 3 #[.slice a0 0 cap0, .int .u64 v] w fun e w' => e = .returned (.bool true) ∧ Below w.heap.size w w' := by
  have hf : Rlp.fits 0 = true := rfl
  have hm1 := Rlp.enc_length_pos v
  have hm9 := Rlp.enc_len v hv1
  obtain ⟨m, hm⟩ : ∃ m, (Rlp.enc v).length = m := ⟨_, rfl⟩
  rw [hm] at hm1 hm9
  have HM : Hid ((Rlp.enc v).length = m) := hm
  clear hm
  have d1 : decide ((m : Int) < 1) = false := by simp; omega
  go_enter Try.func3, Try.ntmps3
  go_wp2_with (go_at_call 5; refine (Rlp.bytes5_any _ _ _ _ _ (by unfold maxLen; omega)).mono ?_; rintro e w' ⟨rfl, rfl⟩)
  refine (Rlp.clone_any a0 0 cap0 [] _ (by omega) rfl hnil hr).mono ?_
  rintro e w1 ⟨ao1, rfl, hr1, hb1⟩
  go_wp2_with fail
  refine (Rlp.clone_any a0 0 cap0 [] _ (by omega) rfl hnil (hr.below hb1)).mono ?_
  rintro e w2 ⟨ao2, rfl, hr2, hb2⟩
  go_wp2_with fail
  refine (Rlp.app_at ao2 0 [] v m _ (by omega) rfl hr2 hv0 hv1 HM.out).mono ?_
  rintro e w3 ⟨g, cap, rfl, hr3, hcap, hb3⟩
  rw [Nat.zero_add] at hcap ⊢
  rw [List.nil_append] at hr3
  have HB : Hid (Below w.heap.size w w3) := (hb1.trans (hb2.mono hb1.size)).trans (hb3.mono (Nat.le_trans hb1.size hb2.size))
  clear hr hr1 hr2 hb1 hb2 hb3
  have hkc : (0 : Int) < (cap : Int) := by omega
  go_wp2_with fail
  refine wp_loop_rounds 1 ?_
  rw [rounds_succ]
  go_wp2_with fail
  refine (Rlp.dec_any g 0 _ m v _ HM.out hr3 hv0 hv1).mono ?_
  rintro e wz ⟨rfl, rfl⟩
  go_wp2_with fail
  go_ret
  exact ⟨rfl, HB.out⟩

/-! ### STEP 1: THE WALK: the Go text returns true, AND WRITES NOTHING THAT WAS THERE: 'Below w.heap.size w w'' (Derived/Below.lean: '.refl', '.alloc', '.drew', '.setCell' at a new block, '.trans'). Open each 'IsRow' by 'rcases' AHEAD of 'go_enter'; part every test ahead of the walk. -/
theorem walk (a0 : Option Addr) (len0 cap0 : Nat) (z0 : List Int) (a1 : Int) (w : World) (w0 : IsRow .u8 w a0 len0 cap0 z0) (w1 : (Lit.int .u64 a1).wf = true) :
    Calls Try.prog 3 #[.slice a0 len0 cap0, .int .u64 a1] w fun e w' => e = .returned (.bool true) ∧ Below w.heap.size w w' := by
  have hlm : len0 ≤ maxLen := by rcases w0 with ⟨_, rfl, _⟩ | ⟨x, _, h1, h2, _⟩ <;> omega
  have hv := bounds_u64 w1
  cases hf : Rlp.fits len0
  · unfold maxLen at hlm
    go_enter Try.func3, Try.ntmps3
    go_wp2_with (go_at_call 5; refine (Rlp.bytes5_any _ _ _ _ _ (by unfold maxLen; omega)).mono ?_; rintro e w' ⟨rfl, rfl⟩)
    go_ret
    exact ⟨rfl, Below.refl _ _⟩
  · have hn : len0 ≤ 1048576 := by simpa [Rlp.fits] using hf
    obtain ⟨zs, hz, hr, hnil⟩ := row_read w0
    by_cases hp : 0 < len0
    · exact walk_pos a0 len0 cap0 zs a1 w hn hp hz hr hnil hv.1 hv.2
    · obtain rfl : len0 = 0 := by omega
      obtain rfl : zs = [] := List.eq_nil_of_length_eq_zero hz
      exact walk_zero a0 cap0 a1 w hr hnil hv.1 hv.2

/-! ### THE ROW's STEP: WRITTEN OUT: LEAVE IT -/
set_option maxRecDepth 100000 in
theorem lifted (os : Os) (started : os.Started) (H : Type) (enc : TypeId × Value → H) :
    ReturnsInHanded {} Try.checked os 3 .any (Rows.fnAppendUintIsCanonicalBigEndianSpec.pre6 enc Try.prog Try.f3 Rows.fnAppendUintIsCanonicalBigEndianRow.domain false) (Rows.fnAppendUintIsCanonicalBigEndianSpec.post enc Try.prog Try.f3 false true false false) := by
  refine returnsInHanded_of_change (C := Try.checked) own started (by kernel_rfl) Try.func3
    (ChangeSpec.witness6 (enc := enc) (C := Try.checked) false ⟨#[], #[.slice none 0 0, .int .u64 0], []⟩ 8 (by kernel_rfl) (by kernel_rfl) (by kernel_rfl) (by kernel_rfl)) ?_
  intro W base args ds gs before hval0 hW hcnd _
  have hval : ∀ (j : Nat) t v, Try.f3.params[j]? = some t → args[j]? = some v → Value.okWide Try.prog W .any base t v := hval0
  have hW' := hW
  obtain ⟨p, q, hA0, hV, rfl, hfz, hnd⟩ := hW
  have hA : DataW.TrodAll enc Try.prog W 0 (fun _ => true) true Try.f3.params.toList args.toList ds p := hA0
  rw [Try.params3] at hA hval
  obtain ⟨v0, vs0, d0, ds0, p0, q0, hargs, rfl, rfl, h0, r0⟩ := trodAll_cons hA
  obtain ⟨v1, vs1, d1, ds1, p1, q1, rfl, rfl, rfl, h1, r1⟩ := trodAll_cons r0
  obtain ⟨rfl, rfl, rfl⟩ := trodAll_nil r1
  obtain rfl : args = #[v0, v1] := by cases args; simp_all
  obtain ⟨rfl, rfl⟩ := trodVars_none hV
  obtain ⟨a0, len0, cap0, rfl⟩ := okWide_slice Try.underlying22 (hval 0 22 v0 rfl rfl)
  have k0 := h0
  have lt0 : ∀ x ∈ p0, x.block < W.heap.size := by obtain ⟨m, hm⟩ := k0; exact DataW.trod_lt m _ _ _ hm
  obtain ⟨z0, w0⟩ : ∃ zs, IsRow .u8 W a0 len0 cap0 zs := by
    obtain ⟨fuel, hf⟩ := h0
    rcases open_ints Try.underlying22 Try.underlying5 (by kernel_rfl) hf with ⟨hcs, _⟩ | ⟨x, l, c, zs, hcs, _, hl, hm, hz, _, hcell, hwz⟩
    · simp [Value.cells] at hcs
      obtain ⟨rfl, rfl, rfl⟩ := hcs
      exact ⟨[], .inl ⟨rfl, rfl, rfl, rfl⟩⟩
    · simp [Value.cells] at hcs
      obtain ⟨rfl, rfl, rfl⟩ := hcs
      exact ⟨zs, .inr ⟨_, rfl, hl, hm, by simpa using hz, hcell, hwz⟩⟩
  obtain ⟨a1, rfl, rfl, rfl, w1⟩ := open_int Try.underlying23 (hval 1 23 v1 rfl rfl) h1
  clear hA0 hval0
  refine (walk a0 len0 cap0 z0 a1 W w0 w1).mono fun e W' ⟨he, bel⟩ => ?_
  subst he
  exact ⟨_, rfl, _, _, _, [], _, [], hW', trodAll_mk1 (shut_bool Try.underlying4 _), (trodAll_cons_mk (Below.trod laidOut (by kernel_rfl) (of_decide_eq_true (by kernel_rfl)) k0 bel lt0) (trodAll_cons_mk (shut_int Try.underlying23 w1) trodAll_mk0)), rfl, bel.frame _, fun h => by cases h⟩

theorem over : Rows.fnAppendUintIsCanonicalBigEndianRow.holds Try.pinned (OpenSpec.ofChange Rows.fnAppendUintIsCanonicalBigEndianSpec) :=
  OpenClaim.holds_of_wide 3 Try.f3 rfl rfl rfl rfl rfl rfl rfl ⟨rfl, rfl, rfl, rfl, rfl⟩ rfl rfl rfl rfl rfl (by kernel_rfl) Try.func3 (by kernel_rfl)
    (of_decide_eq_true (by kernel_rfl)) (by unfold Func.isWrapper; first | (rw [if_pos (by decide +kernel)]; kernel_rfl) | (rw [if_neg (by decide +kernel)]; exact ⟨rfl, rfl⟩))
    (fun os started H enc _ => lifted os started H enc)

/-- ████ THE STATEMENT ████ -/
theorem proved : Rows.FnAppendUintIsCanonicalBigEndianSaid := over
end Go.Proofs.Qxb6630396a.fnAppendUintIsCanonicalBigEndian
