/-
  The law on the one-byte extensions: the plain law and the walks.
-/
import Derived.Test.Qxb6630475aEnv
import Derived.Laws.BytesArg
namespace Go.Proofs.Qxb6630475a.Env
open Go.RowKit
set_option linter.unusedVariables false

/-- The string of one byte. -/
def oneB (c : Int) : ByteArray := strOfNums [c]
theorem oneB_size (c : Int) : (oneB c).size = 1 := by unfold oneB; rw [strOfNums_size]; rfl
theorem oneB_list (c : Int) : (oneB c).data.toList = [UInt8.ofNat c.toNat] := by unfold oneB; rw [strOfNums_data]; rfl
theorem byte_back (c : Nat) (h : c < 256) : ((UInt8.ofNat (c : Int).toNat).toNat : Int) = c := by rw [UInt8.toNat_ofNat']; omega
theorem one_run (c : Int) (w : World) (b : Nat) (h : w.cell? ⟨b, 0, none⟩ = some (.int .u8 c)) :
    (convert 24 9 (.slice (some ⟨b, 0, none⟩) 1 1)).run Try.prog w = .ok (.string (oneB c)) w := by
  refine run_convert_bytes_arg (P := Try.prog) w 24 5 Try.underlying24 Try.underlying5 b 0 1 1 [c] rfl ?_ 9 Try.underlying9
  intro i hi
  obtain rfl : i = 0 := by omega
  exact h

/-- How many of the first k bytes fit. -/
def cnt (P : Nat → Bool) (k : Nat) : Nat := ((List.range k).filter P).length
theorem cnt_succ (P : Nat → Bool) (k : Nat) : cnt P (k + 1) = cnt P k + if P k = true then 1 else 0 := by
  unfold cnt
  rw [List.range_succ, List.filter_append]
  cases h : P k <;> simp [h]
theorem cnt_le (P : Nat → Bool) (k : Nat) : cnt P k ≤ k := by
  unfold cnt
  have := List.length_filter_le P (List.range k)
  simpa using this
theorem cnt_congr (P Q : Nat → Bool) : ∀ k, (∀ d, d < k → P d = Q d) → cnt P k = cnt Q k
  | 0, _ => rfl
  | k + 1, h => by rw [cnt_succ, cnt_succ, cnt_congr P Q k (fun d hd => h d (by omega)), h k (by omega)]

/-- A byte that may open a name. -/
def first (d : Nat) : Bool := !dig (d : Int) && id8 (d : Int)
theorem cnt_first : cnt first 256 = 53 := by decide +kernel
theorem cnt_id8 : cnt (fun d => id8 (d : Int)) 256 = 63 := by decide +kernel
theorem cnt_none : cnt (fun _ => false) 256 = 0 := by decide +kernel

/-- A byte ahead of s. -/
theorem front_env (s : ByteArray) (d : Nat) (h : d < 256) : env (oneB (d : Int) ++ s).data.toList = (first d && ids s.data.toList) := by
  rw [ByteArray.data_append, Array.toList_append, oneB_list, List.singleton_append, env, ids_cons, byte_back d h, first, Bool.and_assoc]
/-- A byte behind s. -/
theorem back_env (s : ByteArray) (d : Nat) (h : d < 256) (hp : 0 < s.size) : env (s ++ oneB (d : Int)).data.toList = (env s.data.toList && id8 (d : Int)) := by
  rw [ByteArray.data_append, Array.toList_append, oneB_list]
  have hne : s.data.toList ≠ [] := by
    intro e
    have : s.data.toList.length = 0 := by rw [e]; rfl
    rw [Array.length_toList] at this
    exact absurd hp (by show ¬ 0 < s.data.size; omega)
  cases hl : s.data.toList with
  | nil => exact absurd hl hne
  | cons c t => rw [List.cons_append, env, env, ← List.cons_append, ids_append, ids_one, byte_back d h, Bool.and_assoc]

theorem count_front (s : ByteArray) : cnt (fun d => env (oneB (d : Int) ++ s).data.toList) 256 = if ids s.data.toList = true then 53 else 0 := by
  rw [cnt_congr _ (fun d => first d && ids s.data.toList) 256 (fun d hd => front_env s d hd)]
  cases ids s.data.toList
  · simpa using cnt_none
  · simpa using cnt_first
theorem count_back (s : ByteArray) (hp : 0 < s.size) : cnt (fun d => env (s ++ oneB (d : Int)).data.toList) 256 = if env s.data.toList = true then 63 else 0 := by
  rw [cnt_congr _ (fun d => env s.data.toList && id8 (d : Int)) 256 (fun d hd => back_env s d hd hp)]
  cases env s.data.toList
  · simpa using cnt_none
  · simpa using cnt_id8
theorem count_empty : cnt (fun d => env (ByteArray.empty ++ oneB (d : Int)).data.toList) 256 = 53 := by
  rw [cnt_congr _ first 256 (fun d hd => ?_), cnt_first]
  have := front_env ByteArray.empty d hd
  rw [ByteArray.append_empty] at this
  rw [ByteArray.empty_append, this]
  exact Bool.and_true _

set_option maxRecDepth 100000 in
set_option maxHeartbeats 1000000 in
theorem count_out (s : ByteArray) (w : World) (hs : s.size ≤ maxLen) (h : fits s.size = false ∨ 65536 < s.size) :
    Calls Try.prog 4 #[.string s] w fun e w' => e = .returned (.bool true) ∧ Below w.heap.size w w' := by
  have hs' : s.size ≤ 9223372036854775807 := by unfold maxLen at hs; omega
  cases hf : fits s.size
  · clear h
    go_enter Try.func4, Try.ntmps4
    go_wp2_with (go_at_call 8; refine (bytes8_any _ _ hs).mono ?_; rintro e w' ⟨rfl, rfl⟩)
    go_ret
    exact ⟨rfl, Below.refl _ _⟩
  · have h2 : 65536 < s.size := by
      rcases h with h | h
      · rw [hf] at h; cases h
      · exact h
    clear h
    go_enter Try.func4, Try.ntmps4
    go_wp2_with (go_at_call 8; refine (bytes8_any _ _ hs).mono ?_; rintro e w' ⟨rfl, rfl⟩)
    go_ret
    exact ⟨rfl, Below.refl _ _⟩

set_option maxRecDepth 100000 in
set_option maxHeartbeats 2000000 in
theorem count_walk (s : ByteArray) (P Q : Nat → Bool) (i v e : Bool) (w : World) (hs : s.size ≤ 65536) (hP : ∀ d : Nat, d < 256 → env (oneB (d : Int) ++ s).data.toList = P d) (hQ : ∀ d : Nat, d < 256 → env (s ++ oneB (d : Int)).data.toList = Q d)
    (hi : ids s.data.toList = i) (hv : env s.data.toList = v) (he : s.toList.isEmpty = e) (cP : cnt P 256 = if i = true then 53 else 0) (cQ : cnt Q 256 = if e = true then 53 else if v = true then 63 else 0) :
    Calls Try.prog 4 #[.string s] w fun e w' => e = .returned (.bool true) ∧ Below w.heap.size w w' := by
  have hf : fits s.size = true := by simp [fits]; omega
  have ws : s.size ≤ maxLen := by unfold maxLen; omega
  have d1 : decide ((65536 : Int) < (s.size : Int)) = false := decide_eq_false (by omega)
  have HP : Hid (∀ d : Nat, d < 256 → env (oneB (d : Int) ++ s).data.toList = P d) := hP
  have HQ : Hid (∀ d : Nat, d < 256 → env (s ++ oneB (d : Int)).data.toList = Q d) := hQ
  have HI : Hid (ids s.data.toList = i) := hi
  have HV : Hid (env s.data.toList = v) := hv
  have HE : Hid (s.toList.isEmpty = e) := he
  have CP : Hid (cnt P 256 = if i = true then 53 else 0) := cP
  have CQ : Hid (cnt Q 256 = if e = true then 53 else if v = true then 63 else 0) := cQ
  have hos := oneB_size
  clear hP hQ hi hv he cP cQ
  go_enter Try.func4, Try.ntmps4
  go_wp2_with (go_at_call 8; refine (bytes8_any _ _ ws).mono ?_; rintro e w' ⟨rfl, rfl⟩)
  go_loopw [3, 4, 5] (fun f b c wx => ∃ k : Nat, k ≤ 256 ∧ c = .int .i64 k ∧ f = .int .i64 (cnt P k) ∧ b = .int .i64 (cnt Q k) ∧ Below w.heap.size w wx) (fun _ _ c _ => 256 - (intOf c).toNat)
  case atStart => exact ⟨0, by omega, rfl, rfl, rfl, Below.refl _ _⟩
  case round =>
    obtain ⟨k, hle, rfl, rfl, rfl, hg⟩ := hrel
    rename World => wA
    have hcp := cnt_le P k
    have hcq := cnt_le Q k
    by_cases hlt : k < 256
    · have wf : (oneB (k : Int) ++ s).size ≤ maxLen := by rw [ByteArray.size_append, oneB_size]; unfold maxLen; omega
      have wb : (s ++ oneB (k : Int)).size ≤ maxLen := by rw [ByteArray.size_append, oneB_size]; unfold maxLen; omega
      have c0 : (wA.alloc (.cells #[.int .u8 (k : Int)] 5)).cell? ⟨wA.heap.size, 0, none⟩ = some (.int .u8 (k : Int)) := by rw [World.cell?_alloc_mark]; rfl
      have k1 := one_run (k : Int) _ _ c0
      have hb0 : Below w.heap.size w (wA.alloc (.cells #[.int .u8 (k : Int)] 5)) := hg.alloc hg.size _
      go_wp2_with fail
      refine (env6_at _ _ _ wf (HP.out k hlt)).mono ?_
      rintro e1 w1 ⟨rfl, hb1⟩
      have c1 : w1.cell? ⟨wA.heap.size, 0, none⟩ = some (.int .u8 (k : Int)) := (hb1.cell (p := ⟨wA.heap.size, 0, none⟩) (block_lt_of_cell c0)).trans c0
      have k2 := one_run (k : Int) _ _ c1
      have HB1 : Hid (Below w.heap.size w w1) := hb0.trans (hb1.mono hb0.size)
      have HN1 : Hid (cnt P (k + 1) = cnt P k + if P k = true then 1 else 0) := cnt_succ P k
      have HN2 : Hid (cnt Q (k + 1) = cnt Q k + if Q k = true then 1 else 0) := cnt_succ Q k
      have HQk : Hid (env (s ++ oneB (k : Int)).data.toList = Q k) := HQ.out k hlt
      clear c0 k1 c1 hb0 hb1 hg
      generalize P k = p at *
      generalize Q k = q at *
      cases p
      all_goals
        go_wp2_with fail
        refine (env6_at _ _ _ wb HQk.out).mono ?_
        rintro e2 w2 ⟨rfl, hb2⟩
        have HB2 : Hid (Below w.heap.size w w2) := HB1.out.trans (hb2.mono HB1.out.size)
        clear hb2 k2
        cases q
        all_goals
          go_wp2_with fail
          go_roundw
          case rel => exact ⟨k + 1, by omega, by go_num, by rw [HN1.out]; go_num, by rw [HN2.out]; go_num, HB2.out⟩
          case measure => simp [intOf]; omega
    · obtain rfl : k = 256 := by omega
      go_wp2_with fail
      refine (ident_at _ _ _ ws HI.out).mono ?_
      rintro e1 w1 ⟨rfl, rfl⟩
      cases i
      all_goals
        have cP := CP.out
        simp only [if_true, if_false, reduceCtorEq] at cP
        cases e
        · have he := HE.out
          go_wp2_with fail
          refine (env6_at _ _ _ ws HV.out).mono ?_
          rintro e1 w1 ⟨rfl, hb1⟩
          have HB1 : Hid (Below w.heap.size w w1) := hg.trans (hb1.mono hg.size)
          clear hb1
          cases v
          all_goals
            have cQ := CQ.out
            simp only [if_true, if_false, reduceCtorEq] at cQ
            go_wp2_with fail
            go_ret
            exact ⟨rfl, HB1.out⟩
        · have he := HE.out
          have cQ := CQ.out
          simp only [if_true] at cQ
          go_wp2_with fail
          go_ret
          exact ⟨rfl, hg⟩

end Go.Proofs.Qxb6630475a.Env
