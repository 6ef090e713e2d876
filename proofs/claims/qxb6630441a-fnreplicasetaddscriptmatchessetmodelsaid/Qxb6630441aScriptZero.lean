/-
  The law on a script of Adds: the walk, where the script is empty, and the early ways out.
-/
import Derived.Test.Qxb6630441aScript
namespace Go.Proofs.Qxb6630441a.Set
open Go.RowKit
set_option linter.unusedVariables false

set_option maxRecDepth 100000 in
set_option maxHeartbeats 4000000 in
theorem script_zero (a0 : Option Addr) (n cap0 : Nat) (bs : List Bool) (q : Nat) (ar : Option Addr) (capr : Nat) (w : World) (hn : n ≤ 1048576) (hz : bs.length = n) (hnil : a0 = none → cap0 = 0) (hr : RdV w a0 (vb bs)) (hq : ct bs = q)
    (hnilr : ar = none → capr = 0) (hrs : RdV w ar (vi [])) :
    Calls Try.prog 3 #[.slice a0 n cap0, .int .i64 q, .slice ar (0 : Nat) capr] w fun e w' => e = .returned (.bool true) ∧ Below w.heap.size w w' := by
  have hf : fits n = true := by simp [fits]; omega
  have hq1 : q ≤ 1048576 := by have := ct_le bs; omega
  have d1 : decide ((1048576 : Int) < (n : Int)) = false := decide_eq_false (by omega)
  have HQ : Hid (ct bs = q) := hq
  have HN : Hid (a0 = none → cap0 = 0) := hnil
  have HNR : Hid (ar = none → capr = 0) := hnilr
  clear hq hnil hnilr
  go_enter Try.func3, Try.ntmps3
  go_wp2_with (go_at_call 5; refine (bytes5_any _ _ _ _ _ 0 _ _ (by unfold maxLen; omega) (by unfold maxLen; omega)).mono ?_; rintro e w' ⟨rfl, rfl⟩)
  refine (count_at a0 n cap0 bs q _ (by omega) hz hr HQ.out).mono ?_
  rintro e w' ⟨rfl, rfl⟩
  go_wp2_with fail
  refine wp_loop_rounds 1 ?_
  rw [rounds_succ]
  go_wp2_with fail
  refine (cloneB_any a0 n cap0 bs _ (by omega) hz HN.out hr).mono ?_
  rintro e w1 ⟨a1, rfl, r1, hb1⟩
  go_wp2_with fail
  refine (cloneI_any ar 0 capr [] _ (by omega) rfl HNR.out (hrs.below hb1)).mono ?_
  rintro e w2 ⟨a2, rfl, r2, hb2⟩
  have HN1 : Hid (a1 = none → n = 0) := fun e => by have := r1.1 e; rw [← hz, ← vb_len, this]; rfl
  go_wp2_with fail
  refine (cloneB_any a1 n n bs _ (by omega) hz HN1.out (r1.below hb2)).mono ?_
  rintro e w3 ⟨a3, rfl, r3, hb3⟩
  go_wp2_with fail
  refine (cloneB_any a1 n n bs _ (by omega) hz HN1.out ((r1.below hb2).below hb3)).mono ?_
  rintro e w4 ⟨a4, rfl, r4, hb4⟩
  go_wp2_with fail
  refine (new_any a4 n n q w4).mono ?_
  rintro e w5 ⟨rfl, hw5⟩
  have p1 : w5.cell? ⟨w4.heap.size, 0, none⟩ = some (.slice a4 n n) := by rw [hw5, cell_of_row _ _ 0 _ _ _ (heap_alloc_new w4 _)]; rfl
  have p2 : w5.cell? ⟨w4.heap.size, 1, none⟩ = some (.int .i64 q) := by rw [hw5, cell_of_row _ _ 1 _ _ _ (heap_alloc_new w4 _)]; rfl
  have hb5 : Below w4.heap.size w4 w5 := by rw [hw5]; exact (Below.refl _ _).alloc (Nat.le_refl _) _
  clear hw5
  obtain ⟨i0, hi, hz0, hz1, hz2⟩ := info_parts info4
  go_wp2_with (refine wpList_make_full _ rfl (.tmp 79) (.tmp 79) 22 rfl w5.heap.size 4 i0 (.bool false) 1 Try.underlying22 hi hz0 hz1 .i64 .i64 0 0 0 rfl rfl rfl rfl ?b2 ?b3 (Nat.le_refl _) ?_)
  case b2 => rw [hz2]; omega
  case b3 => unfold maxLen; omega
  intro w6 ho6 hg6
  have hb6 : Below w5.heap.size w5 w6 := (Below.refl _ _).grown hg6 (Nat.le_refl _) (fun k h => by cases h)
  have P1 : w6.cell? ⟨w4.heap.size, 0, none⟩ = some (.slice a4 n n) := (hb6.cell (p := ⟨w4.heap.size, 0, none⟩) (block_lt_of_cell p1)).trans p1
  have P2 : w6.cell? ⟨w4.heap.size, 1, none⟩ = some (.int .i64 q) := (hb6.cell (p := ⟨w4.heap.size, 1, none⟩) (block_lt_of_cell p2)).trans p2
  have R3 : RdV w6 a3 (vb bs) := ((r3.below hb4).below hb5).below hb6
  have R4 : RdV w6 a4 (vb bs) := (r4.below hb5).below hb6
  have HB : Hid (Below w.heap.size w w6) := ((((hb1.trans (hb2.mono hb1.size)).trans (hb3.mono (Nat.le_trans hb1.size hb2.size))).trans (hb4.mono (Nat.le_trans hb1.size (Nat.le_trans hb2.size hb3.size)))).trans (hb5.mono (Nat.le_trans hb1.size (Nat.le_trans hb2.size (Nat.le_trans hb3.size hb4.size))))).trans (hb6.mono (Nat.le_trans hb1.size (Nat.le_trans hb2.size (Nat.le_trans hb3.size (Nat.le_trans hb4.size hb5.size)))))
  clear ho6 hg6 p1 p2 hb1 hb2 hb3 hb4 hb5 hb6 r1 r2 r3 r4 hr hrs
  go_wp2_with fail
  refine wp_loop_rounds 1 ?_
  rw [rounds_succ]
  go_wp2_with fail
  refine wp_loop_rounds 1 ?_
  rw [rounds_succ]
  go_wp2_with fail
  refine (in_any _ _ _ P1).mono ?_
  rintro e w' ⟨rfl, rfl⟩
  go_wp2_with fail
  go_loop [18] (fun i => ∃ j : Nat, j ≤ n ∧ i = .int .i64 j) (fun i => n - (intOf i).toNat)
  case atStart => exact ⟨0, Nat.zero_le _, rfl⟩
  case round =>
    obtain ⟨j, hj, rfl⟩ := hrel
    by_cases hjn : j < n
    · obtain ⟨b3, o3, rfl, _, C3⟩ := R3.at (by rw [vb_len]; omega)
      obtain ⟨b4, o4, rfl, _, C4⟩ := R4.at (by rw [vb_len]; omega)
      have c0 := C3 j _ (vb_at (by omega))
      have c1 := C4 j _ (vb_at (by omega))
      have i1 : (j : Int) < (n : Int) := by omega
      clear C3 C4 R3 R4 P1 P2
      cases hx : bs.getD j false
      · rw [hx] at c0 c1
        clear hx
        go_wp2_with fail
        go_round
        case rel => exact ⟨j + 1, by omega, by go_num⟩
        case measure => simp [intOf]; omega
      · rw [hx] at c0 c1
        clear hx
        go_wp2_with fail
        go_round
        case rel => exact ⟨j + 1, by omega, by go_num⟩
        case measure => simp [intOf]; omega
    · go_wp2_with fail
      refine wp_loop_rounds 1 ?_
      rw [rounds_succ]
      go_wp2_with fail
      refine (count_at _ n n bs q _ (by omega) hz R4 HQ.out).mono ?_
      rintro e w' ⟨rfl, rfl⟩
      go_wp2_with fail
      refine (count12_any _ _ _ P2).mono ?_
      rintro e w' ⟨rfl, rfl⟩
      go_wp2_with fail
      go_ret
      exact ⟨rfl, HB.out⟩

set_option maxRecDepth 100000 in
set_option maxHeartbeats 400000 in
theorem script_out (a0 : Option Addr) (n cap0 : Nat) (x : Int) (ar : Option Addr) (m capr : Nat) (w : World) (h0 : n ≤ maxLen) (h1 : m ≤ maxLen) (hf : fits (n + m) = false) :
    Calls Try.prog 3 #[.slice a0 n cap0, .int .i64 x, .slice ar m capr] w fun e w' => e = .returned (.bool true) ∧ Below w.heap.size w w' := by
  go_enter Try.func3, Try.ntmps3
  go_wp2_with (go_at_call 5; refine (bytes5_any _ _ _ _ _ _ _ _ h0 h1).mono ?_; rintro e w' ⟨rfl, rfl⟩)
  go_ret
  exact ⟨rfl, Below.refl _ _⟩

set_option maxRecDepth 100000 in
set_option maxHeartbeats 1000000 in
theorem script_long (a0 : Option Addr) (n cap0 : Nat) (x : Int) (ar : Option Addr) (m capr : Nat) (w : World) (hs : n + m ≤ 1048576) (hx : 1048576 < n + 8 * m ∨ 4096 < m) :
    Calls Try.prog 3 #[.slice a0 n cap0, .int .i64 x, .slice ar m capr] w fun e w' => e = .returned (.bool true) ∧ Below w.heap.size w w' := by
  have hf : fits (n + m) = true := by simp [fits]; omega
  have d1 : decide ((1048576 : Int) < (n : Int)) = false := decide_eq_false (by omega)
  by_cases h2 : 131072 < m
  · have d2 : decide ((131072 : Int) < (m : Int)) = true := decide_eq_true (by omega)
    clear hx
    go_enter Try.func3, Try.ntmps3
    go_wp2_with (go_at_call 5; refine (bytes5_any _ _ _ _ _ _ _ _ (by unfold maxLen; omega) (by unfold maxLen; omega)).mono ?_; rintro e w' ⟨rfl, rfl⟩)
    go_ret
    exact ⟨rfl, Below.refl _ _⟩
  have d2 : decide ((131072 : Int) < (m : Int)) = false := decide_eq_false (by omega)
  by_cases h3 : 1048576 < n + 8 * m
  · have d3 : decide ((1048576 : Int) < (n : Int) + 8 * (m : Int)) = true := decide_eq_true (by omega)
    clear hx
    go_enter Try.func3, Try.ntmps3
    go_wp2_with (go_at_call 5; refine (bytes5_any _ _ _ _ _ _ _ _ (by unfold maxLen; omega) (by unfold maxLen; omega)).mono ?_; rintro e w' ⟨rfl, rfl⟩)
    go_ret
    exact ⟨rfl, Below.refl _ _⟩
  · have d3 : decide ((1048576 : Int) < (n : Int) + 8 * (m : Int)) = false := decide_eq_false (by omega)
    have d4 : decide ((4096 : Int) < (m : Int)) = true := decide_eq_true (by omega)
    clear hx
    go_enter Try.func3, Try.ntmps3
    go_wp2_with (go_at_call 5; refine (bytes5_any _ _ _ _ _ _ _ _ (by unfold maxLen; omega) (by unfold maxLen; omega)).mono ?_; rintro e w' ⟨rfl, rfl⟩)
    go_ret
    exact ⟨rfl, Below.refl _ _⟩

set_option maxRecDepth 100000 in
set_option maxHeartbeats 1000000 in
theorem script_count (a0 : Option Addr) (n cap0 : Nat) (bs : List Bool) (x : Int) (ar : Option Addr) (m capr : Nat) (w : World) (hn : n + 8 * m ≤ 1048576) (hm : m ≤ 4096) (hz : bs.length = n) (hr : RdV w a0 (vb bs)) (hx : x ≠ (ct bs : Int)) :
    Calls Try.prog 3 #[.slice a0 n cap0, .int .i64 x, .slice ar m capr] w fun e w' => e = .returned (.bool true) ∧ Below w.heap.size w w' := by
  have hf : fits (n + m) = true := by simp [fits]; omega
  have hq' : (x != (ct bs : Int)) = true := by simpa using hx
  have d1 : decide ((1048576 : Int) < (n : Int)) = false := decide_eq_false (by omega)
  have d2 : decide ((131072 : Int) < (m : Int)) = false := decide_eq_false (by omega)
  have d3 : decide ((1048576 : Int) < (n : Int) + 8 * (m : Int)) = false := decide_eq_false (by omega)
  have d4 : decide ((4096 : Int) < (m : Int)) = false := decide_eq_false (by omega)
  go_enter Try.func3, Try.ntmps3
  go_wp2_with (go_at_call 5; refine (bytes5_any _ _ _ _ _ _ _ _ (by unfold maxLen; omega) (by unfold maxLen; omega)).mono ?_; rintro e w' ⟨rfl, rfl⟩)
  refine (count_any a0 n cap0 bs _ (by omega) hz hr).mono ?_
  rintro e w' ⟨rfl, rfl⟩
  go_wp2_with fail
  go_ret
  exact ⟨rfl, Below.refl _ _⟩

end Go.Proofs.Qxb6630441a.Set
