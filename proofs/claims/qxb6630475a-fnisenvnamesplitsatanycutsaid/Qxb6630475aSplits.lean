/-
  The law on the cut: the plain law and the walks.
-/
import Derived.Test.Qxb6630475aEnv
namespace Go.Proofs.Qxb6630475a.Env
open Go.RowKit
set_option linter.unusedVariables false

/-- The string "_". -/
abbrev under : ByteArray := { data := #[95] }

theorem env_append (l m : List UInt8) (h : l ≠ []) : env (l ++ m) = (env l && ids m) := by
  cases l with
  | nil => exact absurd rfl h
  | cons c t =>
    rw [List.cons_append, env, env, ← List.cons_append, ids_append, Bool.and_assoc]
theorem env_under (m : List UInt8) : env (95 :: m) = ids m := by
  rw [env, ids_cons, show dig ((95 : UInt8).toNat : Int) = false from by decide, show id8 ((95 : UInt8).toNat : Int) = true from by decide]; rfl
theorem data_ne {s : ByteArray} (h : 0 < s.size) : s.data.toList ≠ [] := by
  intro e
  have : s.data.toList.length = 0 := by rw [e]; rfl
  rw [Array.length_toList] at this
  exact absurd h (by show ¬ 0 < s.data.size; omega)
theorem under_env (s : ByteArray) : env (under ++ s).data.toList = ids s.data.toList := by
  rw [ByteArray.data_append, Array.toList_append]; exact env_under _
theorem cat_env (a b : ByteArray) (h : 0 < a.size) : env (a ++ b).data.toList = (env a.data.toList && ids b.data.toList) := by
  rw [ByteArray.data_append, Array.toList_append, env_append _ _ (data_ne h)]
theorem cut_env (b : ByteArray) (h : 0 < b.size) : env b.data.toList = (env (b.extract 0 1).data.toList && ids (b.extract 1 b.size).data.toList) := by
  have h1 : (b.extract 0 1).size = 1 := by rw [ByteArray.size_extract]; omega
  have e : b = b.extract 0 1 ++ b.extract 1 b.size := by
    rw [ByteArray.extract_append_extract]; simp
  conv => lhs; rw [e]
  exact cat_env _ _ (by omega)

set_option maxRecDepth 100000 in
set_option maxHeartbeats 1000000 in
theorem splits_out (a b : ByteArray) (w : World) (ha : a.size ≤ maxLen) (hb : b.size ≤ maxLen) (h : fits (a.size + b.size) = false ∨ 65536 < a.size ∨ 65536 < b.size) :
    Calls Try.prog 3 #[.string a, .string b] w fun e w' => e = .returned (.bool true) ∧ Below w.heap.size w w' := by
  have ha' : a.size ≤ 9223372036854775807 := by unfold maxLen at ha; omega
  have hb' : b.size ≤ 9223372036854775807 := by unfold maxLen at hb; omega
  cases hf : fits (a.size + b.size)
  · clear h
    go_enter Try.func3, Try.ntmps3
    go_wp2_with (go_at_call 5; refine (bytes5_any _ _ _ ha hb).mono ?_; rintro e w' ⟨rfl, rfl⟩)
    go_ret
    exact ⟨rfl, Below.refl _ _⟩
  · by_cases h1 : 65536 < a.size
    · clear h
      go_enter Try.func3, Try.ntmps3
      go_wp2_with (go_at_call 5; refine (bytes5_any _ _ _ ha hb).mono ?_; rintro e w' ⟨rfl, rfl⟩)
      go_ret
      exact ⟨rfl, Below.refl _ _⟩
    · have h2 : 65536 < b.size := by
        rcases h with h | h | h
        · rw [hf] at h; cases h
        · omega
        · exact h
      clear h
      go_enter Try.func3, Try.ntmps3
      go_wp2_with (go_at_call 5; refine (bytes5_any _ _ _ ha hb).mono ?_; rintro e w' ⟨rfl, rfl⟩)
      go_ret
      exact ⟨rfl, Below.refl _ _⟩

set_option maxRecDepth 100000 in
set_option maxHeartbeats 1000000 in
theorem splits_ne (a b : ByteArray) (x y : Bool) (w : World) (ha : a.size ≤ 65536) (hb : b.size ≤ 65536) (hp : 0 < a.size) (hx : env a.data.toList = x) (hy : ids b.data.toList = y) :
    Calls Try.prog 3 #[.string a, .string b] w fun e w' => e = .returned (.bool true) ∧ Below w.heap.size w w' := by
  have hf : fits (a.size + b.size) = true := by simp [fits]; omega
  have hne := nonempty_of hp
  have HX : Hid (env a.data.toList = x) := hx
  have HY : Hid (ids b.data.toList = y) := hy
  have HW : Hid (env (a ++ b).data.toList = (x && y)) := by show _ = _; rw [cat_env a b hp, hx, hy]
  have HT : Hid (env (under ++ b).data.toList = y) := by show _ = _; rw [under_env, hy]
  have wa : a.size ≤ maxLen := by unfold maxLen; omega
  have wb : b.size ≤ maxLen := by unfold maxLen; omega
  have wc : (a ++ b).size ≤ maxLen := by rw [ByteArray.size_append]; unfold maxLen; omega
  have wu : (under ++ b).size ≤ maxLen := by rw [ByteArray.size_append, show under.size = 1 from rfl]; unfold maxLen; omega
  have su : under.size = 1 := rfl
  clear hx hy
  go_enter Try.func3, Try.ntmps3
  go_wp2_with (go_at_call 5; refine (bytes5_any _ _ _ wa wb).mono ?_; rintro e w' ⟨rfl, rfl⟩)
  refine (env6_at _ _ _ wc HW.out).mono ?_
  rintro e w1 ⟨rfl, hb1⟩
  go_wp2_with fail
  refine (env6_at _ _ _ wu HT.out).mono ?_
  rintro e w2 ⟨rfl, hb2⟩
  go_wp2_with fail
  refine (ident_at _ _ _ wb HY.out).mono ?_
  rintro e w' ⟨rfl, rfl⟩
  go_wp2_with fail
  refine (env6_at _ _ _ wa HX.out).mono ?_
  rintro e w3 ⟨rfl, hb3⟩
  have HB : Hid (Below w.heap.size w w3) := (hb1.trans (hb2.mono hb1.size)).trans (hb3.mono (Nat.le_trans hb1.size hb2.size))
  clear hb1 hb2 hb3 HX HY HW HT
  cases x <;> cases y
  all_goals
    go_wp2_with fail
    go_ret
    exact ⟨rfl, HB.out⟩

set_option maxRecDepth 100000 in
set_option maxHeartbeats 1000000 in
theorem splits_nil (w : World) :
    Calls Try.prog 3 #[.string ByteArray.empty, .string ByteArray.empty] w fun e w' => e = .returned (.bool true) ∧ Below w.heap.size w w' := by
  have hf : fits 0 = true := rfl
  have he : ByteArray.empty.toList.isEmpty = true := by decide +kernel
  have es : ByteArray.empty.size = 0 := rfl
  have HW : Hid (env ByteArray.empty.data.toList = false) := rfl
  have HT : Hid (env under.data.toList = true) := by show _ = _; decide
  have HY : Hid (ids ByteArray.empty.data.toList = true) := rfl
  have wa : ByteArray.empty.size ≤ maxLen := by decide
  have wu : under.size ≤ maxLen := by decide
  go_enter Try.func3, Try.ntmps3
  go_wp2_with (go_at_call 5; refine (bytes5_any _ _ _ wa wa).mono ?_; rintro e w' ⟨rfl, rfl⟩)
  refine (env6_at _ _ _ wa HW.out).mono ?_
  rintro e w1 ⟨rfl, hb1⟩
  go_wp2_with fail
  refine (env6_at _ _ _ wu HT.out).mono ?_
  rintro e w2 ⟨rfl, hb2⟩
  go_wp2_with fail
  refine (ident_at _ _ _ wa HY.out).mono ?_
  rintro e w' ⟨rfl, rfl⟩
  have HB : Hid (Below w.heap.size w w2) := hb1.trans (hb2.mono hb1.size)
  clear hb1 hb2
  go_wp2_with fail
  go_ret
  exact ⟨rfl, HB.out⟩

set_option maxRecDepth 100000 in
set_option maxHeartbeats 1000000 in
theorem splits_one (b : ByteArray) (x y z : Bool) (w : World) (hb : b.size ≤ 65536) (hp : 0 < b.size) (hx : env (b.extract 0 1).data.toList = x) (hy : ids (b.extract 1 b.size).data.toList = y) (hz : ids b.data.toList = z) :
    Calls Try.prog 3 #[.string ByteArray.empty, .string b] w fun e w' => e = .returned (.bool true) ∧ Below w.heap.size w w' := by
  have hf : fits b.size = true := by simp [fits]; omega
  have he : ByteArray.empty.toList.isEmpty = true := by decide +kernel
  have es : ByteArray.empty.size = 0 := rfl
  have hne := nonempty_of hp
  have s1 : (b.extract 0 1).size = 1 := by rw [ByteArray.size_extract]; omega
  have s2 : (b.extract 1 b.size).size = b.size - 1 := by rw [ByteArray.size_extract]; omega
  have HX : Hid (env (b.extract 0 1).data.toList = x) := hx
  have HY : Hid (env (under ++ b.extract 1 b.size).data.toList = y) := by show _ = _; rw [under_env, hy]
  have HW : Hid (env b.data.toList = (x && y)) := by show _ = _; rw [cut_env b hp, hx, hy]
  have HZ : Hid (ids b.data.toList = z) := hz
  have HT : Hid (env (under ++ b).data.toList = z) := by show _ = _; rw [under_env, hz]
  have wa : ByteArray.empty.size ≤ maxLen := by decide
  have wb : b.size ≤ maxLen := by unfold maxLen; omega
  have w1 : (b.extract 0 1).size ≤ maxLen := by unfold maxLen; omega
  have wu : (under ++ b).size ≤ maxLen := by rw [ByteArray.size_append, show under.size = 1 from rfl]; unfold maxLen; omega
  have w2 : (under ++ b.extract 1 b.size).size ≤ maxLen := by rw [ByteArray.size_append, show under.size = 1 from rfl]; unfold maxLen; omega
  have su : under.size = 1 := rfl
  clear hx hy hz
  go_enter Try.func3, Try.ntmps3
  go_wp2_with (go_at_call 5; refine (bytes5_any _ _ _ wa wb).mono ?_; rintro e w' ⟨rfl, rfl⟩)
  refine (env6_at _ _ _ wb HW.out).mono ?_
  rintro e w1 ⟨rfl, hb1⟩
  go_wp2_with fail
  refine (env6_at _ _ _ wu HT.out).mono ?_
  rintro e w2 ⟨rfl, hb2⟩
  go_wp2_with fail
  refine (ident_at _ _ _ wb HZ.out).mono ?_
  rintro e w' ⟨rfl, rfl⟩
  go_wp2_with fail
  refine (env6_at _ _ _ (by assumption) HX.out).mono ?_
  rintro e w3 ⟨rfl, hb3⟩
  have HB : Hid (Below w.heap.size w w3) := (hb1.trans (hb2.mono hb1.size)).trans (hb3.mono (Nat.le_trans hb1.size hb2.size))
  clear hb1 hb2 hb3
  cases x
  · go_wp2_with fail
    go_ret
    exact ⟨rfl, HB.out⟩
  · go_wp2_with fail
    refine (env6_at _ _ _ (by assumption) HY.out).mono ?_
    rintro e w4 ⟨rfl, hb4⟩
    have HB4 : Hid (Below w.heap.size w w4) := HB.out.trans (hb4.mono HB.out.size)
    clear hb4 HB
    cases y
    all_goals
      go_wp2_with fail
      go_ret
      exact ⟨rfl, HB4.out⟩

end Go.Proofs.Qxb6630475a.Env
