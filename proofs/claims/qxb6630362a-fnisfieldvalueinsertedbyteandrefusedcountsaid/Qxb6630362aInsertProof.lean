/-
  The law FnIsFieldValueInsertedByteAndRefusedCount: the frame is the guide's template; the walk is ours.
-/
import Derived.Test.Qxb6630362aOne
import Derived.WalkKit
import Derived.ProofKit
import Derived.OpenShut
import Derived.ShutString
namespace Go.Proofs.Qxb6630362a.fnIsFieldValueInsertedByteAndRefusedCount
open Go.ChangeShapes Go.WideShapes Go.ChangeAt Go.RowKit
open Go.ChangeMaps (open_string shut_string)
set_option linter.unusedVariables false      -- a walk need not use every 'w<i>' (that an integer argument fits its kind)

theorem own : ownKnob Try.prog.godebug = none := by kernel_rfl

/-! ### STEP 1: THE WALK: the Go text returns true. 'Grown w w'': the world has at most new blocks (Derived/RowKit3.lean). Part the cases AHEAD of 'go_enter' where a test parts the walk; take each callee by a contract of your own. -/
set_option maxRecDepth 100000 in
set_option maxHeartbeats 1000000 in
theorem walk (a0 : ByteArray) (a1 : ByteArray) (a2 : Int) (w0 : a0.size ≤ maxLen) (w1 : a1.size ≤ maxLen) (w2 : (Lit.int .u8 a2).wf = true) (w : World) :
    Calls Try.prog 4 #[.string a0, .string a1, .int .u8 a2] w fun e w' => e = .returned (.bool true) ∧ Grown w w' := by
  have ha : a0.size ≤ 9223372036854775807 := by unfold maxLen at w0; omega
  have hb : a1.size ≤ 9223372036854775807 := by unfold maxLen at w1; omega
  cases hf : Syn.fits a0 a1
  · go_enter Try.func4, Try.ntmps4
    go_wp2_with (go_at_call 8; refine (Syn.bytes8_any _ _ _ _ w0 w1).mono ?_; rintro e w' ⟨rfl, rfl⟩)
    go_ret
    exact ⟨rfl, by repeat (first | exact Grown.refl _ | apply Grown.drew | apply Grown.alloc)⟩
  · have hsum : a0.size + a1.size ≤ 1048576 := by simpa [Syn.fits] using hf
    by_cases h1 : 1048575 < a0.size
    · go_enter Try.func4, Try.ntmps4
      go_wp2_with (go_at_call 8; refine (Syn.bytes8_any _ _ _ _ w0 w1).mono ?_; rintro e w' ⟨rfl, rfl⟩)
      go_ret
      exact ⟨rfl, by repeat (first | exact Grown.refl _ | apply Grown.drew | apply Grown.alloc)⟩
    by_cases h2 : 1048575 - (a0.size : Int) < a1.size
    · go_enter Try.func4, Try.ntmps4
      go_wp2_with (go_at_call 8; refine (Syn.bytes8_any _ _ _ _ w0 w1).mono ?_; rintro e w' ⟨rfl, rfl⟩)
      go_ret
      exact ⟨rfl, by repeat (first | exact Grown.refl _ | apply Grown.drew | apply Grown.alloc)⟩
    have bc := bounds_u8 w2
    have wo : (Syn.oneB a2).size ≤ maxLen := by rw [Syn.oneB_size]; decide
    have wi : (a0 ++ Syn.oneB a2 ++ a1).size ≤ maxLen := by rw [ByteArray.size_append, ByteArray.size_append, Syn.oneB_size]; unfold maxLen; omega
    have wc : (a0 ++ a1).size ≤ maxLen := by rw [ByteArray.size_append]; unfold maxLen; omega
    have HE : Hid (Syn.fv (a0 ++ a1).data.toList = (Syn.fv a0.data.toList && Syn.fv a1.data.toList)) := by
      show _ = _
      rw [← Syn.fv_append]; simp
    have HI : Hid (Syn.fv (a0 ++ Syn.oneB a2 ++ a1).data.toList = (Syn.fv (a0 ++ a1).data.toList && !Syn.ctl a2)) := by
      show _ = _
      rw [HE.out, ← Syn.oneB_fv a2 bc.1 bc.2]
      have : (a0 ++ Syn.oneB a2 ++ a1).data.toList = a0.data.toList ++ (Syn.oneB a2).data.toList ++ a1.data.toList := by simp
      rw [this, Syn.fv_append, Syn.fv_append]
      cases Syn.fv a0.data.toList <;> cases Syn.fv a1.data.toList <;> cases Syn.fv (Syn.oneB a2).data.toList <;> rfl
    have d1 : decide ((1048575 : Int) < (a0.size : Int)) = false := by simp; omega
    have d2 : decide ((1048575 : Int) - (a0.size : Int) < (a1.size : Int)) = false := by simp; omega
    have hk := Syn.one_run
    have hos := Syn.oneB_size
    cases hx : Syn.fv (a0 ++ a1).data.toList
    · have HX : Hid (Syn.fv (a0 ++ a1).data.toList = false) := hx
      have HW : Hid (Syn.fv (a0 ++ Syn.oneB a2 ++ a1).data.toList = false) := by show _ = _; rw [HI.out, hx]; rfl
      clear hx HI HE
      go_enter Try.func4, Try.ntmps4
      go_wp2_with (go_at_call 8; refine (Syn.bytes8_any _ _ _ _ w0 w1).mono ?_; rintro e w' ⟨rfl, rfl⟩)
      refine (Syn.field_at _ false _ wi HW.out).mono ?_
      rintro e wz ⟨rfl, rfl⟩
      go_wp2_with fail
      refine (Syn.field_at _ false _ wc HX.out).mono ?_
      rintro e wz ⟨rfl, rfl⟩
      go_wp2_with fail
      go_loopw [9, 10] (fun r d wx => ∃ k : Nat, k ≤ 256 ∧ d = .int .i64 k ∧ r = .int .i64 (Syn.cnt k) ∧ Grown w' wx) (fun _ d _ => 256 - (intOf d).toNat)
      case atStart => exact ⟨0, by omega, rfl, rfl, by repeat (first | exact Grown.refl _ | apply Grown.drew | apply Grown.alloc)⟩
      case round =>
        obtain ⟨k, hle, rfl, rfl, hg⟩ := hrel
        have hcl := Syn.cnt_le k
        by_cases hlt : k < 256
        · have w1k : (Syn.oneB (k : Int)).size ≤ maxLen := by rw [Syn.oneB_size]; decide
          have HO : Hid (Syn.fv (Syn.oneB (k : Int)).data.toList = !Syn.ctl (k : Int)) := Syn.oneB_fv _ (by omega) (by omega)
          have HS : Hid (Syn.cnt (k + 1) = Syn.cnt k + if Syn.ctl (k : Int) = true then 1 else 0) := Syn.cnt_succ k
          cases hc : Syn.ctl (k : Int)
          · have HC : Hid (Syn.ctl (k : Int) = false) := hc
            have HF : Hid (Syn.fv (Syn.oneB (k : Int)).data.toList = true) := by show _ = _; rw [HO.out, hc]; rfl
            have HN : Hid (Syn.cnt (k + 1) = Syn.cnt k) := by show _ = _; rw [HS.out, hc]; rfl
            clear hc HO HS
            go_wp2_with fail
            refine (Syn.field_at _ true _ w1k HF.out).mono ?_
            rintro e wy ⟨rfl, rfl⟩
            go_wp2_with fail
            refine (Syn.control_at _ false _ HC.out).mono ?_
            rintro e wy ⟨rfl, rfl⟩
            go_wp2_with fail
            go_roundw
            case rel => exact ⟨k + 1, by omega, by go_num, by rw [HN.out], by repeat (first | exact hg | apply Grown.drew | apply Grown.alloc)⟩
            case measure => simp [intOf]; omega
          · have HC : Hid (Syn.ctl (k : Int) = true) := hc
            have HF : Hid (Syn.fv (Syn.oneB (k : Int)).data.toList = false) := by show _ = _; rw [HO.out, hc]; rfl
            have HN : Hid (Syn.cnt (k + 1) = Syn.cnt k + 1) := by show _ = _; rw [HS.out, hc]; rfl
            clear hc HO HS
            go_wp2_with fail
            refine (Syn.field_at _ false _ w1k HF.out).mono ?_
            rintro e wy ⟨rfl, rfl⟩
            go_wp2_with fail
            refine (Syn.control_at _ true _ HC.out).mono ?_
            rintro e wy ⟨rfl, rfl⟩
            go_wp2_with fail
            go_roundw
            case rel => exact ⟨k + 1, by omega, by go_num, by rw [HN.out]; go_num, by repeat (first | exact hg | apply Grown.drew | apply Grown.alloc)⟩
            case measure => simp [intOf]; omega
        · obtain rfl : k = 256 := by omega
          have hn := Syn.cnt_all
          go_wp2_with fail
          refine (Syn.field_at _ true _ (by decide) rfl).mono ?_
          rintro e wy ⟨rfl, rfl⟩
          go_wp2_with fail
          go_ret
          exact ⟨rfl, hg⟩
    · cases hy : Syn.ctl a2
      · have HX : Hid (Syn.fv (a0 ++ a1).data.toList = true) := hx
        have HY : Hid (Syn.ctl a2 = false) := hy
        have HW : Hid (Syn.fv (a0 ++ Syn.oneB a2 ++ a1).data.toList = true) := by show _ = _; rw [HI.out, hx, hy]; rfl
        clear hx hy HI HE
        go_enter Try.func4, Try.ntmps4
        go_wp2_with (go_at_call 8; refine (Syn.bytes8_any _ _ _ _ w0 w1).mono ?_; rintro e w' ⟨rfl, rfl⟩)
        refine (Syn.field_at _ true _ wi HW.out).mono ?_
        rintro e wz ⟨rfl, rfl⟩
        go_wp2_with fail
        refine (Syn.field_at _ true _ wc HX.out).mono ?_
        rintro e wz ⟨rfl, rfl⟩
        go_wp2_with fail
        refine (Syn.control_at _ false _ HY.out).mono ?_
        rintro e wz ⟨rfl, rfl⟩
        go_wp2_with fail
        go_loopw [9, 10] (fun r d wx => ∃ k : Nat, k ≤ 256 ∧ d = .int .i64 k ∧ r = .int .i64 (Syn.cnt k) ∧ Grown w' wx) (fun _ d _ => 256 - (intOf d).toNat)
        case atStart => exact ⟨0, by omega, rfl, rfl, by repeat (first | exact Grown.refl _ | apply Grown.drew | apply Grown.alloc)⟩
        case round =>
          obtain ⟨k, hle, rfl, rfl, hg⟩ := hrel
          have hcl := Syn.cnt_le k
          by_cases hlt : k < 256
          · have w1k : (Syn.oneB (k : Int)).size ≤ maxLen := by rw [Syn.oneB_size]; decide
            have HO : Hid (Syn.fv (Syn.oneB (k : Int)).data.toList = !Syn.ctl (k : Int)) := Syn.oneB_fv _ (by omega) (by omega)
            have HS : Hid (Syn.cnt (k + 1) = Syn.cnt k + if Syn.ctl (k : Int) = true then 1 else 0) := Syn.cnt_succ k
            cases hc : Syn.ctl (k : Int)
            · have HC : Hid (Syn.ctl (k : Int) = false) := hc
              have HF : Hid (Syn.fv (Syn.oneB (k : Int)).data.toList = true) := by show _ = _; rw [HO.out, hc]; rfl
              have HN : Hid (Syn.cnt (k + 1) = Syn.cnt k) := by show _ = _; rw [HS.out, hc]; rfl
              clear hc HO HS
              go_wp2_with fail
              refine (Syn.field_at _ true _ w1k HF.out).mono ?_
              rintro e wy ⟨rfl, rfl⟩
              go_wp2_with fail
              refine (Syn.control_at _ false _ HC.out).mono ?_
              rintro e wy ⟨rfl, rfl⟩
              go_wp2_with fail
              go_roundw
              case rel => exact ⟨k + 1, by omega, by go_num, by rw [HN.out], by repeat (first | exact hg | apply Grown.drew | apply Grown.alloc)⟩
              case measure => simp [intOf]; omega
            · have HC : Hid (Syn.ctl (k : Int) = true) := hc
              have HF : Hid (Syn.fv (Syn.oneB (k : Int)).data.toList = false) := by show _ = _; rw [HO.out, hc]; rfl
              have HN : Hid (Syn.cnt (k + 1) = Syn.cnt k + 1) := by show _ = _; rw [HS.out, hc]; rfl
              clear hc HO HS
              go_wp2_with fail
              refine (Syn.field_at _ false _ w1k HF.out).mono ?_
              rintro e wy ⟨rfl, rfl⟩
              go_wp2_with fail
              refine (Syn.control_at _ true _ HC.out).mono ?_
              rintro e wy ⟨rfl, rfl⟩
              go_wp2_with fail
              go_roundw
              case rel => exact ⟨k + 1, by omega, by go_num, by rw [HN.out]; go_num, by repeat (first | exact hg | apply Grown.drew | apply Grown.alloc)⟩
              case measure => simp [intOf]; omega
          · obtain rfl : k = 256 := by omega
            have hn := Syn.cnt_all
            go_wp2_with fail
            refine (Syn.field_at _ true _ (by decide) rfl).mono ?_
            rintro e wy ⟨rfl, rfl⟩
            go_wp2_with fail
            go_ret
            exact ⟨rfl, hg⟩
      · have HX : Hid (Syn.fv (a0 ++ a1).data.toList = true) := hx
        have HY : Hid (Syn.ctl a2 = true) := hy
        have HW : Hid (Syn.fv (a0 ++ Syn.oneB a2 ++ a1).data.toList = false) := by show _ = _; rw [HI.out, hx, hy]; rfl
        clear hx hy HI HE
        go_enter Try.func4, Try.ntmps4
        go_wp2_with (go_at_call 8; refine (Syn.bytes8_any _ _ _ _ w0 w1).mono ?_; rintro e w' ⟨rfl, rfl⟩)
        refine (Syn.field_at _ false _ wi HW.out).mono ?_
        rintro e wz ⟨rfl, rfl⟩
        go_wp2_with fail
        refine (Syn.field_at _ true _ wc HX.out).mono ?_
        rintro e wz ⟨rfl, rfl⟩
        go_wp2_with fail
        refine (Syn.control_at _ true _ HY.out).mono ?_
        rintro e wz ⟨rfl, rfl⟩
        go_wp2_with fail
        go_loopw [9, 10] (fun r d wx => ∃ k : Nat, k ≤ 256 ∧ d = .int .i64 k ∧ r = .int .i64 (Syn.cnt k) ∧ Grown w' wx) (fun _ d _ => 256 - (intOf d).toNat)
        case atStart => exact ⟨0, by omega, rfl, rfl, by repeat (first | exact Grown.refl _ | apply Grown.drew | apply Grown.alloc)⟩
        case round =>
          obtain ⟨k, hle, rfl, rfl, hg⟩ := hrel
          have hcl := Syn.cnt_le k
          by_cases hlt : k < 256
          · have w1k : (Syn.oneB (k : Int)).size ≤ maxLen := by rw [Syn.oneB_size]; decide
            have HO : Hid (Syn.fv (Syn.oneB (k : Int)).data.toList = !Syn.ctl (k : Int)) := Syn.oneB_fv _ (by omega) (by omega)
            have HS : Hid (Syn.cnt (k + 1) = Syn.cnt k + if Syn.ctl (k : Int) = true then 1 else 0) := Syn.cnt_succ k
            cases hc : Syn.ctl (k : Int)
            · have HC : Hid (Syn.ctl (k : Int) = false) := hc
              have HF : Hid (Syn.fv (Syn.oneB (k : Int)).data.toList = true) := by show _ = _; rw [HO.out, hc]; rfl
              have HN : Hid (Syn.cnt (k + 1) = Syn.cnt k) := by show _ = _; rw [HS.out, hc]; rfl
              clear hc HO HS
              go_wp2_with fail
              refine (Syn.field_at _ true _ w1k HF.out).mono ?_
              rintro e wy ⟨rfl, rfl⟩
              go_wp2_with fail
              refine (Syn.control_at _ false _ HC.out).mono ?_
              rintro e wy ⟨rfl, rfl⟩
              go_wp2_with fail
              go_roundw
              case rel => exact ⟨k + 1, by omega, by go_num, by rw [HN.out], by repeat (first | exact hg | apply Grown.drew | apply Grown.alloc)⟩
              case measure => simp [intOf]; omega
            · have HC : Hid (Syn.ctl (k : Int) = true) := hc
              have HF : Hid (Syn.fv (Syn.oneB (k : Int)).data.toList = false) := by show _ = _; rw [HO.out, hc]; rfl
              have HN : Hid (Syn.cnt (k + 1) = Syn.cnt k + 1) := by show _ = _; rw [HS.out, hc]; rfl
              clear hc HO HS
              go_wp2_with fail
              refine (Syn.field_at _ false _ w1k HF.out).mono ?_
              rintro e wy ⟨rfl, rfl⟩
              go_wp2_with fail
              refine (Syn.control_at _ true _ HC.out).mono ?_
              rintro e wy ⟨rfl, rfl⟩
              go_wp2_with fail
              go_roundw
              case rel => exact ⟨k + 1, by omega, by go_num, by rw [HN.out]; go_num, by repeat (first | exact hg | apply Grown.drew | apply Grown.alloc)⟩
              case measure => simp [intOf]; omega
          · obtain rfl : k = 256 := by omega
            have hn := Syn.cnt_all
            go_wp2_with fail
            refine (Syn.field_at _ true _ (by decide) rfl).mono ?_
            rintro e wy ⟨rfl, rfl⟩
            go_wp2_with fail
            go_ret
            exact ⟨rfl, hg⟩

/-! ### THE ROW's STEP: WRITTEN OUT: LEAVE IT -/
set_option maxRecDepth 100000 in
theorem lifted (os : Os) (started : os.Started) (H : Type) (enc : TypeId × Value → H) :
    ReturnsInHanded {} Try.checked os 4 .any (Rows.fnIsFieldValueInsertedByteAndRefusedCountSpec.pre6 enc Try.prog Try.f4 Rows.fnIsFieldValueInsertedByteAndRefusedCountRow.domain false) (Rows.fnIsFieldValueInsertedByteAndRefusedCountSpec.post enc Try.prog Try.f4 false true false false) := by
  refine returnsInHanded_of_change (C := Try.checked) own started (by kernel_rfl) Try.func4
    (ChangeSpec.witness6 (enc := enc) (C := Try.checked) false ⟨#[], #[.string ByteArray.empty, .string ByteArray.empty, .int .u8 0], []⟩ 8 (by kernel_rfl) (by kernel_rfl) (by kernel_rfl) (by kernel_rfl)) ?_
  intro W base args ds gs before hval0 hW hcnd _
  have hval : ∀ (j : Nat) t v, Try.f4.params[j]? = some t → args[j]? = some v → Value.okWide Try.prog W .any base t v := hval0
  have hW' := hW
  obtain ⟨p, q, hA0, hV, rfl, hfz, hnd⟩ := hW
  have hA : DataW.TrodAll enc Try.prog W 0 (fun _ => true) true Try.f4.params.toList args.toList ds p := hA0
  rw [Try.params4] at hA hval
  obtain ⟨v0, vs0, d0, ds0, p0, q0, hargs, rfl, rfl, h0, r0⟩ := trodAll_cons hA
  obtain ⟨v1, vs1, d1, ds1, p1, q1, rfl, rfl, rfl, h1, r1⟩ := trodAll_cons r0
  obtain ⟨v2, vs2, d2, ds2, p2, q2, rfl, rfl, rfl, h2, r2⟩ := trodAll_cons r1
  obtain ⟨rfl, rfl, rfl⟩ := trodAll_nil r2
  obtain rfl : args = #[v0, v1, v2] := by cases args; simp_all
  obtain ⟨rfl, rfl⟩ := trodVars_none hV
  obtain ⟨a0, rfl, rfl, rfl, w0⟩ := open_string Try.underlying9 (hval 0 9 v0 rfl rfl) h0
  obtain ⟨a1, rfl, rfl, rfl, w1⟩ := open_string Try.underlying9 (hval 1 9 v1 rfl rfl) h1
  obtain ⟨a2, rfl, rfl, rfl, w2⟩ := open_int Try.underlying5 (hval 2 5 v2 rfl rfl) h2
  clear hA0 hval0
  simp only [List.append_nil] at hW'
  refine (walk a0 a1 a2 w0 w1 w2 W).mono fun e W' ⟨he, hg⟩ => ?_
  subst he
  exact ⟨_, rfl, post_of_same (pa := []) (pv := []) hW' (fun _ _ _ => (trodAll_cons_mk (shut_bool Try.underlying4 _) trodAll_mk0)) (fun sp _ => (trodAll_cons_mk (shut_string Try.underlying9 w0) (trodAll_cons_mk (shut_string Try.underlying9 w1) (trodAll_cons_mk (shut_int Try.underlying5 w2) trodAll_mk0)))) (fun _ _ => rfl) rfl
    (hg.frame _) hg.2.1 (ok_one (by kernel_rfl) rfl (okWide_bool_mk Try.underlying4 _))⟩

theorem over : Rows.fnIsFieldValueInsertedByteAndRefusedCountRow.holds Try.pinned (OpenSpec.ofChange Rows.fnIsFieldValueInsertedByteAndRefusedCountSpec) :=
  OpenClaim.holds_of_wide 4 Try.f4 rfl rfl rfl rfl rfl rfl rfl ⟨rfl, rfl, rfl, rfl, rfl⟩ rfl rfl rfl rfl rfl (by kernel_rfl) Try.func4 (by kernel_rfl)
    (of_decide_eq_true (by kernel_rfl)) (by unfold Func.isWrapper; first | (rw [if_pos (by decide +kernel)]; kernel_rfl) | (rw [if_neg (by decide +kernel)]; exact ⟨rfl, rfl⟩))
    (fun os started H enc _ => lifted os started H enc)

/-- ████ THE STATEMENT ████ -/
theorem proved : Rows.FnIsFieldValueInsertedByteAndRefusedCountSaid :=
  over
end Go.Proofs.Qxb6630362a.fnIsFieldValueInsertedByteAndRefusedCount
