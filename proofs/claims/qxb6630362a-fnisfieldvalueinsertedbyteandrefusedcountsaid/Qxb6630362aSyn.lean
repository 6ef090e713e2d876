/-
  Contracts of the callees on the road of both laws of seat b6630362a: IsControl, IsFieldValue, zzHsAllAllowed and the two bounds on lengths.
-/
import Derived.Test.Qxb6630362aRows
import Derived.WalkKit
import Derived.WalkSpells
import Derived.WalkLawsBesides
namespace Go.Proofs.Qxb6630362a.Syn
open Go.RowKit
set_option linter.unusedVariables false

/-- Is this byte one that a field value may not hold? -/
def ctl (c : Int) : Bool := (decide (c < 32) && !(c == 9)) || c == 127

/-- Every byte of the list may stand in a field value. -/
def fv (l : List UInt8) : Bool := l.all fun c => !ctl c.toNat

theorem fv_nil : fv [] = true := rfl
theorem fv_append (l m : List UInt8) : fv (l ++ m) = (fv l && fv m) := by
  unfold fv; exact List.all_append
theorem fv_cons (c : UInt8) (l : List UInt8) : fv (c :: l) = (!ctl c.toNat && fv l) := by
  unfold fv; exact List.all_cons
theorem fv_one (c : UInt8) : fv [c] = !ctl c.toNat := by
  rw [fv_cons, fv_nil, Bool.and_true]

theorem take_snoc (s : ByteArray) (k : Nat) (h : k < s.size) : s.data.toList.take (k + 1) = s.data.toList.take k ++ [s[k]] := by
  rw [List.take_succ_eq_append_getElem (by simpa using h)]; rfl

theorem fv_take_bad (s : ByteArray) (k : Nat) (h : k < s.size) (hc : ctl (s[k].toNat : Int) = true) : fv s.data.toList = false := by
  have e : s.data.toList = s.data.toList.take (k + 1) ++ s.data.toList.drop (k + 1) := (List.take_append_drop _ _).symm
  rw [e, take_snoc s k h, fv_append, fv_append, fv_one, hc]; simp

theorem ret_bool {a b : Bool} (h : a = b) : Ending.returned (.bool a) = .returned (.bool b) := by rw [h]

set_option maxHeartbeats 400000 in
theorem control_any (c : Int) (w : World) :
    Calls Try.prog 9 #[.int .u8 c] w fun e w' => e = .returned (.bool (ctl c)) ∧ w' = w := by
  by_cases h1 : c < 32
  · by_cases h2 : c = 9
    · subst h2
      go_enter Try.func9, Try.ntmps9
      go_wp2
      go_ret
      exact ⟨rfl, rfl⟩
    · have h3 : (c == 9) = false := by simpa using h2
      have h4 : (c != 9) = true := by simpa using h2
      go_enter Try.func9, Try.ntmps9
      go_wp2
      go_ret
      exact ⟨ret_bool (by simp [ctl, h1, h3]), rfl⟩
  · by_cases h2 : c = 127
    · subst h2
      go_enter Try.func9, Try.ntmps9
      go_wp2
      go_ret
      exact ⟨rfl, rfl⟩
    · have h3 : (c == 127) = false := by simpa using h2
      go_enter Try.func9, Try.ntmps9
      go_wp2
      go_ret
      exact ⟨ret_bool (by simp [ctl, h3]; omega), rfl⟩

set_option maxHeartbeats 400000 in
theorem field_any (s : ByteArray) (w : World) (hs : s.size ≤ maxLen) :
    Calls Try.prog 6 #[.string s] w fun e w' => e = .returned (.bool (fv s.data.toList)) ∧ w' = w := by
  unfold maxLen at hs
  go_enter Try.func6, Try.ntmps6
  go_wp2
  go_loop [3] (fun i => ∃ k : Nat, k ≤ s.size ∧ i = .int .i64 k ∧ fv (s.data.toList.take k) = true) (fun i => s.size - (intOf i).toNat)
  case atStart => exact ⟨0, Nat.zero_le _, rfl, rfl⟩
  case round =>
    obtain ⟨k, hk, rfl, hf⟩ := hrel
    have HF : Hid (fv (s.data.toList.take k) = true) := hf
    clear hf
    by_cases hlt : k < s.size
    · cases hc : ctl (s[k].toNat : Int)
      · have HC : Hid (fv (s.data.toList.take (k + 1)) = true) := by
          show _ = _
          rw [take_snoc s k hlt, fv_append, fv_one, hc, HF.out]; rfl
        go_wp2_with (go_at_call 9; refine (control_any _ _).mono ?_; rintro e w' ⟨rfl, rfl⟩)
        go_round
        case rel => exact ⟨k + 1, by omega, by go_num, HC.out⟩
        case measure => simp [intOf]; omega
      · have HC : Hid (fv s.data.toList = false) := fv_take_bad s k hlt hc
        go_wp2_with (go_at_call 9; refine (control_any _ _).mono ?_; rintro e w' ⟨rfl, rfl⟩)
        go_ret
        exact ⟨ret_bool HC.out.symm, rfl⟩
    · go_wp2
      go_ret
      have e : s.data.toList.take k = s.data.toList := List.take_of_length_le (by simp; omega)
      exact ⟨ret_bool (by rw [← e, HF.out]), rfl⟩

theorem ctl_bad (c : Int) (h : (c == 9) = false) (h1 : ¬ (32 ≤ c ∧ c ≤ 126)) (h2 : ¬ 128 ≤ c) : ctl c = true := by
  have h9 : c ≠ 9 := by simpa using h
  simp [ctl]; omega
theorem ctl_good (c : Int) (h : c = 9 ∨ (32 ≤ c ∧ c ≤ 126) ∨ 128 ≤ c) : ctl c = false := by
  simp [ctl]; omega

set_option maxRecDepth 100000 in
set_option maxHeartbeats 400000 in
theorem allowed_any (s : ByteArray) (w : World) (hs : s.size ≤ maxLen) :
    Calls Try.prog 7 #[.string s] w fun e w' => e = .returned (.bool (fv s.data.toList)) ∧ w' = w := by
  unfold maxLen at hs
  go_enter Try.func7, Try.ntmps7
  go_wp2
  go_loop [3] (fun i => ∃ k : Nat, k ≤ s.size ∧ i = .int .i64 k ∧ fv (s.data.toList.take k) = true) (fun i => s.size - (intOf i).toNat)
  case atStart => exact ⟨0, Nat.zero_le _, rfl, rfl⟩
  case round =>
    obtain ⟨k, hk, rfl, hf⟩ := hrel
    have HF : Hid (fv (s.data.toList.take k) = true) := hf
    clear hf
    by_cases hlt : k < s.size
    · have HG : Hid (ctl (s[k].toNat : Int) = false → fv (s.data.toList.take (k + 1)) = true) := by
        show _ → _ = _
        intro hc
        rw [take_snoc s k hlt, fv_append, fv_one, hc, HF.out]; rfl
      have HB : Hid (ctl (s[k].toNat : Int) = true → fv s.data.toList = false) := fv_take_bad s k hlt
      go_wp2
      · have t1 : ((s[k].toNat : Int) == 9) = true := by assumption
        have t2 : (s[k].toNat : Int) = 9 := by simpa using t1
        go_round
        case rel => exact ⟨k + 1, by omega, by go_num, HG.out (ctl_good _ (Or.inl t2))⟩
        case measure => simp [intOf]; omega
      · have t1 : (32 : Int) ≤ (s[k].toNat : Int) := by assumption
        have t2 : (s[k].toNat : Int) ≤ 126 := by assumption
        go_round
        case rel => exact ⟨k + 1, by omega, by go_num, HG.out (ctl_good _ (Or.inr (Or.inl ⟨t1, t2⟩)))⟩
        case measure => simp [intOf]; omega
      · have t1 : (128 : Int) ≤ (s[k].toNat : Int) := by assumption
        go_round
        case rel => exact ⟨k + 1, by omega, by go_num, HG.out (ctl_good _ (Or.inr (Or.inr t1)))⟩
        case measure => simp [intOf]; omega
      · have t1 : ((s[k].toNat : Int) == 9) = false := by assumption
        have t2 : (126 : Int) < (s[k].toNat : Int) := by assumption
        have t3 : (s[k].toNat : Int) < 128 := by assumption
        go_ret
        exact ⟨ret_bool (HB.out (ctl_bad _ t1 (by omega) (by omega))).symm, rfl⟩
      · have t1 : ((s[k].toNat : Int) == 9) = false := by assumption
        have t2 : (s[k].toNat : Int) < 32 := by assumption
        go_ret
        exact ⟨ret_bool (HB.out (ctl_bad _ t1 (by omega) (by omega))).symm, rfl⟩
    · go_wp2
      go_ret
      have e : s.data.toList.take k = s.data.toList := List.take_of_length_le (by simp; omega)
      exact ⟨ret_bool (by rw [← e, HF.out]), rfl⟩

/-- The bound on the two lengths. -/
def fits (a b : ByteArray) : Bool := decide (a.size + b.size ≤ 1048576)

set_option maxHeartbeats 400000 in
theorem bytes5_any (a b : ByteArray) (w : World) (ha : a.size ≤ maxLen) (hb : b.size ≤ maxLen) :
    Calls Try.prog 5 #[.string a, .string b] w fun e w' => e = .returned (.bool (fits a b)) ∧ w' = w := by
  unfold maxLen at ha hb
  by_cases h1 : 1048576 < a.size
  · go_enter Try.func5, Try.ntmps5
    go_wp2
    go_ret
    exact ⟨ret_bool (by simp [fits]; omega), rfl⟩
  by_cases h2 : 1048576 < b.size
  · go_enter Try.func5, Try.ntmps5
    go_wp2
    go_ret
    exact ⟨ret_bool (by simp [fits]; omega), rfl⟩
  by_cases h3 : 1048576 < a.size + b.size
  · go_enter Try.func5, Try.ntmps5
    go_wp2
    go_ret
    exact ⟨ret_bool (by simp [fits]; omega), rfl⟩
  · go_enter Try.func5, Try.ntmps5
    go_wp2
    go_ret
    exact ⟨ret_bool (by simp [fits]; omega), rfl⟩

set_option maxHeartbeats 400000 in
theorem bytes8_any (a b : ByteArray) (c : Int) (w : World) (ha : a.size ≤ maxLen) (hb : b.size ≤ maxLen) :
    Calls Try.prog 8 #[.string a, .string b, .int .u8 c] w fun e w' => e = .returned (.bool (fits a b)) ∧ w' = w := by
  unfold maxLen at ha hb
  by_cases h1 : 1048576 < a.size
  · go_enter Try.func8, Try.ntmps8
    go_wp2
    go_ret
    exact ⟨ret_bool (by simp [fits]; omega), rfl⟩
  by_cases h2 : 1048576 < b.size
  · go_enter Try.func8, Try.ntmps8
    go_wp2
    go_ret
    exact ⟨ret_bool (by simp [fits]; omega), rfl⟩
  by_cases h3 : 1048576 < a.size + b.size
  · go_enter Try.func8, Try.ntmps8
    go_wp2
    go_ret
    exact ⟨ret_bool (by simp [fits]; omega), rfl⟩
  · go_enter Try.func8, Try.ntmps8
    go_wp2
    go_ret
    exact ⟨ret_bool (by simp [fits]; omega), rfl⟩

/-- The same contracts, the answer under a name. -/
theorem field_at (s : ByteArray) (v : Bool) (w : World) (hs : s.size ≤ maxLen) (hv : fv s.data.toList = v) :
    Calls Try.prog 6 #[.string s] w fun e w' => e = .returned (.bool v) ∧ w' = w := by
  subst hv; exact field_any s w hs
theorem allowed_at (s : ByteArray) (v : Bool) (w : World) (hs : s.size ≤ maxLen) (hv : fv s.data.toList = v) :
    Calls Try.prog 7 #[.string s] w fun e w' => e = .returned (.bool v) ∧ w' = w := by
  subst hv; exact allowed_any s w hs
theorem control_at (c : Int) (v : Bool) (w : World) (hv : ctl c = v) :
    Calls Try.prog 9 #[.int .u8 c] w fun e w' => e = .returned (.bool v) ∧ w' = w := by
  subst hv; exact control_any c w

end Go.Proofs.Qxb6630362a.Syn
