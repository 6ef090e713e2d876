/-
  Contracts of the callees on the road of both laws of seat b6630475a: identBytesOnly, isEnvName and the bounds on lengths.
-/
import Derived.Test.Qxb6630475aRows
import Derived.WalkKit
import Derived.WalkSpells
import Derived.WalkLawsBesides
import Derived.Laws.IdiomStrings
import Derived.Below
namespace Go.Proofs.Qxb6630475a.Env
open Go.RowKit
set_option linter.unusedVariables false

/-- A digit. -/
def dig (c : Int) : Bool := decide (48 ≤ c) && decide (c ≤ 57)
/-- A byte that may stand in a name. -/
def id8 (c : Int) : Bool := decide (c = 95) || dig c || (decide (65 ≤ c) && decide (c ≤ 90)) || (decide (97 ≤ c) && decide (c ≤ 122))
/-- Every byte may stand in a name. -/
def ids (l : List UInt8) : Bool := l.all fun c => id8 c.toNat
/-- A name: not empty, opens with no digit, every byte may stand in one. -/
def env : List UInt8 → Bool
  | [] => false
  | c :: t => !dig c.toNat && ids (c :: t)

theorem ids_nil : ids [] = true := rfl
theorem ids_append (l m : List UInt8) : ids (l ++ m) = (ids l && ids m) := by unfold ids; exact List.all_append
theorem ids_cons (c : UInt8) (l : List UInt8) : ids (c :: l) = (id8 c.toNat && ids l) := by unfold ids; exact List.all_cons
theorem ids_one (c : UInt8) : ids [c] = id8 c.toNat := by rw [ids_cons, ids_nil, Bool.and_true]

theorem take_snoc (s : ByteArray) (k : Nat) (h : k < s.size) : s.data.toList.take (k + 1) = s.data.toList.take k ++ [s[k]] := by
  rw [List.take_succ_eq_append_getElem (by simpa using h)]; rfl
theorem ids_take_bad (s : ByteArray) (k : Nat) (h : k < s.size) (hc : id8 (s[k].toNat : Int) = false) : ids s.data.toList = false := by
  have e : s.data.toList = s.data.toList.take (k + 1) ++ s.data.toList.drop (k + 1) := (List.take_append_drop _ _).symm
  rw [e, take_snoc s k h, ids_append, ids_append, ids_one, hc]; simp
theorem ids_take_next (s : ByteArray) (k : Nat) (h : k < s.size) (hf : ids (s.data.toList.take k) = true) (hc : id8 (s[k].toNat : Int) = true) : ids (s.data.toList.take (k + 1)) = true := by
  rw [take_snoc s k h, ids_append, ids_one, hc, hf]; rfl
theorem ids_take_all (s : ByteArray) (k : Nat) (h : s.size ≤ k) (hf : ids (s.data.toList.take k) = true) : ids s.data.toList = true := by
  rwa [List.take_of_length_le (by simp; omega)] at hf

theorem env_pos (s : ByteArray) (h : 0 < s.size) : env s.data.toList = (!dig (s[0].toNat : Int) && ids s.data.toList) := by
  obtain ⟨⟨l⟩⟩ := s
  cases l with
  | nil => exact absurd h (by decide)
  | cons c t => rfl

theorem ret_bool {a b : Bool} (h : a = b) : Ending.returned (.bool a) = .returned (.bool b) := by rw [h]

theorem id8_cases (c : Int) : (id8 c = true ∧ (c = 95 ∨ (48 ≤ c ∧ c ≤ 57) ∨ (65 ≤ c ∧ c ≤ 90) ∨ (97 ≤ c ∧ c ≤ 122))) ∨ (id8 c = false ∧ (c < 48 ∨ (57 < c ∧ c < 65) ∨ (90 < c ∧ c < 95) ∨ c = 96 ∨ 122 < c)) := by
  unfold id8 dig
  simp; omega

set_option maxRecDepth 100000 in
set_option maxHeartbeats 1000000 in
theorem ident_any (s : ByteArray) (w : World) (hs : s.size ≤ maxLen) :
    Calls Try.prog 7 #[.string s] w fun e w' => e = .returned (.bool (ids s.data.toList)) ∧ w = w' := by
  unfold maxLen at hs
  go_enter Try.func7, Try.ntmps7
  go_wp2
  go_loop [3] (fun i => ∃ k : Nat, k ≤ s.size ∧ i = .int .i64 k ∧ ids (s.data.toList.take k) = true) (fun i => s.size - (intOf i).toNat)
  case atStart => exact ⟨0, Nat.zero_le _, rfl, rfl⟩
  case round =>
    obtain ⟨k, hk, rfl, hf⟩ := hrel
    have HF : Hid (ids (s.data.toList.take k) = true) := hf
    clear hf
    by_cases hlt : k < s.size
    · rcases id8_cases (s[k].toNat : Int) with ⟨hc, h⟩ | ⟨hc, h⟩
      · have HN : Hid (ids (s.data.toList.take (k + 1)) = true) := ids_take_next s k hlt HF.out hc
        clear hc HF
        rcases h with h | ⟨h1, h2⟩ | ⟨h1, h2⟩ | ⟨h1, h2⟩
        all_goals
          go_wp2
          go_round
          case rel => exact ⟨k + 1, by omega, by go_num, HN.out⟩
          case measure => simp [intOf]; omega
      · have HB : Hid (ids s.data.toList = false) := ids_take_bad s k hlt hc
        clear hc HF
        rcases h with h | ⟨h1, h2⟩ | ⟨h1, h2⟩ | h | h
        all_goals
          go_wp2
          go_ret
          exact ⟨ret_bool HB.out.symm, rfl⟩
    · go_wp2
      go_ret
      exact ⟨ret_bool (ids_take_all s k (by omega) HF.out).symm, rfl⟩

/-- What '[]byte(s)' lays. -/
theorem conv_any (s : ByteArray) (w : World) : ∃ cap w1, (convert 9 24 (.string s)).run Try.prog w = .ok (.slice (some ⟨w.heap.size, 0, none⟩) s.size cap) w1 ∧ Below w.heap.size w w1 ∧
    ∀ j (h : j < s.size), w1.cell? ⟨w.heap.size, j, none⟩ = some (.int .u8 (s[j].toNat : Int)) := by
  refine ⟨_, _, run_bytes_of_string (P := Try.prog) w 9 24 5 s Try.underlying9 Try.underlying24 Try.underlying5, ?_, ?_⟩
  · exact ((Below.refl _ _).drew).alloc (Nat.le_refl _) _
  · intro j h
    have := World.cell?_alloc_mark w.drew (bytesRow s (grownCap w s.size 0 5)) 5 ((bytesRow s (grownCap w s.size 0 5)).size, (bytesRow s (grownCap w s.size 0 5)).size + 1) j
    rw [show w.drew.heap.size = w.heap.size from rfl] at this
    rw [this, bytesRow_at s _ j h]; rfl

set_option maxRecDepth 100000 in
set_option maxHeartbeats 1000000 in
theorem env9_zero (w : World) :
    Calls Try.prog 9 #[.string ByteArray.empty] w fun e w' => e = .returned (.bool false) ∧ w = w' := by
  have h : ByteArray.empty.toList.isEmpty = true := by decide +kernel
  go_enter Try.func9, Try.ntmps9
  go_wp2
  go_ret
  exact ⟨rfl, rfl⟩

theorem nonempty_of {s : ByteArray} (h : 0 < s.size) : s.toList.isEmpty = false := by
  rw [← decide_eq_emptyBytes]
  exact decide_eq_false (fun e => by subst e; exact absurd h (by decide))

set_option maxRecDepth 100000 in
set_option maxHeartbeats 1000000 in
theorem env9_digit (s : ByteArray) (w : World) (hp : 0 < s.size) (hs : s.size ≤ maxLen) (hd : dig (s[0].toNat : Int) = true) :
    Calls Try.prog 9 #[.string s] w fun e w' => e = .returned (.bool false) ∧ w = w' := by
  unfold maxLen at hs
  have hne := nonempty_of hp
  simp [dig] at hd
  obtain ⟨h1, h2⟩ := hd
  go_enter Try.func9, Try.ntmps9
  go_wp2
  go_ret
  exact ⟨rfl, rfl⟩

set_option maxRecDepth 100000 in
set_option maxHeartbeats 1000000 in
theorem env9_loop (s : ByteArray) (w : World) (hp : 0 < s.size) (hs : s.size ≤ maxLen) (hd : (s[0].toNat : Int) < 48 ∨ 57 < (s[0].toNat : Int)) :
    Calls Try.prog 9 #[.string s] w fun e w' => e = .returned (.bool (ids s.data.toList)) ∧ Below w.heap.size w w' := by
  unfold maxLen at hs
  have hne := nonempty_of hp
  obtain ⟨cap, w1, hconv, hb, hC⟩ := conv_any s w
  have HC : Hid (∀ j (h : j < s.size), w1.cell? ⟨w.heap.size, j, none⟩ = some (.int .u8 (s[j].toNat : Int))) := hC
  clear hC
  rcases hd with hd | hd
  all_goals
    go_enter Try.func9, Try.ntmps9
    go_wp2
    clear hd hne hconv
    go_loop [20] (fun i => ∃ k : Nat, k ≤ s.size ∧ i = .int .i64 k ∧ ids (s.data.toList.take k) = true) (fun i => s.size - (intOf i).toNat)
    case atStart => exact ⟨0, Nat.zero_le _, rfl, rfl⟩
    case round =>
      obtain ⟨k, hk, rfl, hf⟩ := hrel
      have HF : Hid (ids (s.data.toList.take k) = true) := hf
      clear hf
      by_cases hlt : k < s.size
      · have i1 : (k : Int) < (s.size : Int) := by omega
        have c := HC.out k hlt
        rcases id8_cases (s[k].toNat : Int) with ⟨hc, h⟩ | ⟨hc, h⟩
        · have HN : Hid (ids (s.data.toList.take (k + 1)) = true) := ids_take_next s k hlt HF.out hc
          clear hc HF
          generalize (s[k].toNat : Int) = x at *
          rcases h with h | ⟨h1, h2⟩ | ⟨h1, h2⟩ | ⟨h1, h2⟩
          all_goals
            go_wp2
            go_round
            case rel => exact ⟨k + 1, by omega, by go_num, HN.out⟩
            case measure => simp [intOf]; omega
        · have HB : Hid (ids s.data.toList = false) := ids_take_bad s k hlt hc
          clear hc HF
          generalize (s[k].toNat : Int) = x at *
          have hx : (x != 95) = true := by simp; omega
          rcases h with h | ⟨h1, h2⟩ | ⟨h1, h2⟩ | h | h
          all_goals
            go_wp2
            go_ret
            exact ⟨ret_bool HB.out.symm, hb⟩
      · go_wp2
        go_ret
        exact ⟨ret_bool (ids_take_all s k (by omega) HF.out).symm, hb⟩

theorem env9_any (s : ByteArray) (w : World) (hs : s.size ≤ maxLen) :
    Calls Try.prog 9 #[.string s] w fun e w' => e = .returned (.bool (env s.data.toList)) ∧ Below w.heap.size w w' := by
  by_cases hp : 0 < s.size
  · rw [env_pos s hp]
    cases hd : dig (s[0].toNat : Int)
    · refine (env9_loop s w hp hs ?_).mono ?_
      · simp [dig] at hd; omega
      · rintro e w' ⟨rfl, hb⟩; exact ⟨rfl, hb⟩
    · refine (env9_digit s w hp hs hd).mono ?_
      rintro e w' ⟨rfl, rfl⟩; exact ⟨rfl, Below.refl _ _⟩
  · obtain rfl : s = ByteArray.empty := by
      apply ByteArray.ext
      apply Array.eq_empty_of_size_eq_zero
      show s.size = 0
      omega
    refine (env9_zero w).mono ?_
    rintro e w' ⟨rfl, rfl⟩; exact ⟨rfl, Below.refl _ _⟩

theorem env6_any (s : ByteArray) (w : World) (hs : s.size ≤ maxLen) :
    Calls Try.prog 6 #[.string s] w fun e w' => e = .returned (.bool (env s.data.toList)) ∧ Below w.heap.size w w' := by
  go_enter Try.func6, Try.ntmps6
  go_wp2_with fail
  refine (env9_any s w hs).mono ?_
  rintro e w' ⟨rfl, hb⟩
  go_wp2
  go_ret
  exact ⟨rfl, hb⟩

/-- The bound on the lengths. -/
def fits (n : Nat) : Bool := decide (n ≤ 1048576)

set_option maxHeartbeats 400000 in
theorem bytes5_any (a b : ByteArray) (w : World) (ha : a.size ≤ maxLen) (hb : b.size ≤ maxLen) :
    Calls Try.prog 5 #[.string a, .string b] w fun e w' => e = .returned (.bool (fits (a.size + b.size))) ∧ w = w' := by
  unfold maxLen at ha hb
  by_cases h1 : 1048576 < a.size
  · go_enter Try.func5, Try.ntmps5
    go_wp2
    go_ret
    exact ⟨ret_bool (by simp [fits]; omega), rfl⟩
  by_cases h2 : 1048576 < b.size
  · go_enter Try.func5, Try.ntmps5
    go_wp2
    go_ret
    exact ⟨ret_bool (by simp [fits]; omega), rfl⟩
  by_cases h3 : 1048576 < a.size + b.size
  · go_enter Try.func5, Try.ntmps5
    go_wp2
    go_ret
    exact ⟨ret_bool (by simp [fits]; omega), rfl⟩
  · go_enter Try.func5, Try.ntmps5
    go_wp2
    go_ret
    exact ⟨ret_bool (by simp [fits]; omega), rfl⟩

set_option maxHeartbeats 400000 in
theorem bytes8_any (a : ByteArray) (w : World) (ha : a.size ≤ maxLen) :
    Calls Try.prog 8 #[.string a] w fun e w' => e = .returned (.bool (fits a.size)) ∧ w = w' := by
  unfold maxLen at ha
  by_cases h1 : 1048576 < a.size
  · go_enter Try.func8, Try.ntmps8
    go_wp2
    go_ret
    exact ⟨ret_bool (by simp [fits]; omega), rfl⟩
  · go_enter Try.func8, Try.ntmps8
    go_wp2
    go_ret
    exact ⟨ret_bool (by simp [fits]; omega), rfl⟩

/-- The contracts, the answer under a name. -/
theorem env6_at (s : ByteArray) (v : Bool) (w : World) (hs : s.size ≤ maxLen) (hv : env s.data.toList = v) :
    Calls Try.prog 6 #[.string s] w fun e w' => e = .returned (.bool v) ∧ Below w.heap.size w w' := by
  subst hv; exact env6_any s w hs
theorem ident_at (s : ByteArray) (v : Bool) (w : World) (hs : s.size ≤ maxLen) (hv : ids s.data.toList = v) :
    Calls Try.prog 7 #[.string s] w fun e w' => e = .returned (.bool v) ∧ w = w' := by
  subst hv; exact ident_any s w hs

end Go.Proofs.Qxb6630475a.Env
