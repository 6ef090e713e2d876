/-
  The law on two Adds: the walk, one theorem a case.
-/
import Derived.Test.Qxb6630441aSet
import Derived.BigQuiet
namespace Go.Proofs.Qxb6630441a.Set
open Go.RowKit
set_option linter.unusedVariables false
set_option linter.unusedSimpArgs false

theorem two_want1 (bs : List Bool) (n a b j : Nat) (hz : bs.length = n) (ha : a < n) (hb : b < n) : ((bs.set a true).set b true).getD j false = (bs.getD j false || decide (j = a) || decide (j = b)) := by
  rw [getD_set _ _ _ (by simp; omega), getD_set _ _ _ (by omega)]
theorem two_want2 (bs : List Bool) (n a b j : Nat) (hz : bs.length = n) (ha : a < n) (hb : b < n) : ((bs.set b true).set a true).getD j false = (bs.getD j false || decide (j = a) || decide (j = b)) := by
  rw [getD_set _ _ _ (by simp; omega), getD_set _ _ _ (by omega), Bool.or_assoc, Bool.or_comm (decide (j = b)), ← Bool.or_assoc]

set_option maxRecDepth 100000 in
set_option maxHeartbeats 2000000 in
theorem two_eq_t (a0 : Option Addr) (len0 cap0 : Nat) (bs : List Bool) (q : Nat) (a : Nat) (w : World) (hn : len0 ≤ 1048576) (hz : bs.length = len0) (hr : RdV w a0 (vb bs)) (hq : ct bs = q) (ha : a < len0) (hA : bs.getD a false = true) :
    Calls Try.prog 4 #[.slice a0 len0 cap0, .int .i64 q, .int .i64 a, .int .i64 a] w fun e w' => e = .returned (.bool true) ∧ Below w.heap.size w w' := by
  have hp : 0 < len0 := by omega
  have hf : fits len0 = true := by simp [fits]; omega
  have hq1 : q ≤ 1048576 := by have := ct_le bs; omega
  have d0 : decide ((1048576 : Int) < (len0 : Int)) = false := by simp; omega
  have d1 : decide ((a : Int) < 0) = false := decide_eq_false (by omega)
  have d2 : decide ((len0 : Int) ≤ (a : Int)) = false := by simp; omega
  have i1 : (a : Int) < (len0 : Int) := by omega
  have HA2 : Hid ((bs.set a true).getD a false = true) := by show _ = _; rw [getD_set _ _ _ (by omega)]; simp
  have HA : Hid (bs.getD a false = true) := hA
  clear hA
  have HQ : Hid (ct bs = q) := hq
  clear hq
  go_enter Try.func4, Try.ntmps4
  go_wp2_with (go_at_call 13; refine (bytes13_any _ _ _ _ _ _ _ (by unfold maxLen; omega)).mono ?_; rintro e w' ⟨rfl, rfl⟩)
  refine (count_at a0 len0 cap0 bs q _ hn hz hr HQ.out).mono ?_
  rintro e w' ⟨rfl, rfl⟩
  go_wp2_with fail
  refine (cloneB_pos a0 len0 cap0 bs _ hn hp hz hr).mono ?_
  rintro e w1 ⟨rfl, ho1, hb1⟩
  go_wp2_with fail
  refine (cloneB_pos (some ⟨w.heap.size, 0, none⟩) len0 len0 bs _ hn hp hz (RdV.own ho1)).mono ?_
  rintro e w2 ⟨rfl, ho2, hb2⟩
  go_wp2_with fail
  refine (new_any (some ⟨w1.heap.size, 0, none⟩) len0 len0 q w2).mono ?_
  rintro e w3 ⟨rfl, hw3⟩
  have S3 : SetAt w3 w1.heap.size w2.heap.size w1.heap.size len0 bs q := by rw [hw3]; exact SetAt.made ho2
  have hb3 : Below w2.heap.size w2 w3 := by rw [hw3]; exact (Below.refl _ _).alloc (Nat.le_refl _) _
  clear hw3
  go_wp2_with fail
  refine (add_at w1.heap.size w2.heap.size w1.heap.size len0 a bs q true w3 S3 ha HA.out (by omega) (by omega)).mono ?_
  rintro e w4 ⟨rfl, S4, hk4⟩
  go_wp2_with fail
  refine (add_at w1.heap.size w2.heap.size w1.heap.size len0 a (bs.set a true) _ true w4 S4 ha HA2.out (by first | (simp; done) | (simp; omega)) (by first | (simp; done) | (simp; omega))).mono ?_
  rintro e w5 ⟨rfl, S5, hk5⟩
  have hb5 : Below w1.heap.size w1 w5 := ((hb2.trans (hb3.mono hb2.size)).trans (hk4.below hb2.size (Nat.le_refl _))).trans (hk5.below hb2.size (Nat.le_refl _))
  have r5 : RdV w5 (some ⟨w.heap.size, 0, none⟩) (vb bs) := (RdV.own ho1).below hb5
  clear hb2 hb3 hk4 hk5 S3 S4 ho2
  go_wp2_with fail
  refine (cloneB_pos (some ⟨w.heap.size, 0, none⟩) len0 len0 bs _ hn hp hz r5).mono ?_
  rintro e w6 ⟨rfl, ho6, hb6⟩
  go_wp2_with fail
  refine (new_any (some ⟨w5.heap.size, 0, none⟩) len0 len0 q w6).mono ?_
  rintro e w7 ⟨rfl, hw7⟩
  have S7 : SetAt w7 w5.heap.size w6.heap.size w5.heap.size len0 bs q := by rw [hw7]; exact SetAt.made ho6
  have hb7 : Below w6.heap.size w6 w7 := by rw [hw7]; exact (Below.refl _ _).alloc (Nat.le_refl _) _
  clear hw7
  go_wp2_with fail
  refine (add_at w5.heap.size w6.heap.size w5.heap.size len0 a bs q true w7 S7 ha HA.out (by omega) (by omega)).mono ?_
  rintro e w8 ⟨rfl, S8, hk8⟩
  go_wp2_with fail
  refine (add_at w5.heap.size w6.heap.size w5.heap.size len0 a (bs.set a true) _ true w8 S8 ha HA2.out (by first | (simp; done) | (simp; omega)) (by first | (simp; done) | (simp; omega))).mono ?_
  rintro e w9 ⟨rfl, S9, hk9⟩
  have hb9 : Below w5.heap.size w5 w9 := ((hb6.trans (hb7.mono hb6.size)).trans (hk8.below hb6.size (Nat.le_refl _))).trans (hk9.below hb6.size (Nat.le_refl _))
  have r9 : RdV w9 (some ⟨w.heap.size, 0, none⟩) (vb bs) := r5.below hb9
  have T5 := S5.below hb9 S5.p_lt S5.g_lt
  have HBL : Hid (Below w.heap.size w w9) := (hb1.trans (hb5.mono hb1.size)).trans (hb9.mono (Nat.le_trans hb1.size hb5.size))
  clear hb6 hb7 hk8 hk9 S7 S8 ho6 S5 r5 hb9 hb5 hb1 hr
  obtain ⟨b9, o9, hx9, _, hc9⟩ := r9.at (by rw [vb_len]; omega)
  cases hx9
  have hin : ∀ j, j < len0 → w9.cell? ⟨w.heap.size, j, none⟩ = some (.bool (bs.getD j false)) := fun j hj => by have := hc9 j _ (vb_at (by omega)); rwa [Nat.zero_add] at this
  have ga := hin a ha
  rw [HA.out] at ga
  have p1 := T5.cell0
  have p2 := T5.cell1
  have p3 := S9.cell0
  have p4 := S9.cell1
  simp only [if_true, if_false, Bool.false_eq_true, Int.add_zero] at p2 p4
  have HI : Hid (∀ j, j < len0 → w9.cell? ⟨w.heap.size, j, none⟩ = some (.bool (bs.getD j false))) := hin
  have H1 : Hid (∀ j, j < len0 → w9.cell? ⟨w1.heap.size, j, none⟩ = some (.bool (bs.getD j false || decide (j = a) || decide (j = a)))) := fun j hj => by rw [T5.at hj, two_want1 bs len0 a a j hz ha ha]
  have H2 : Hid (∀ j, j < len0 → w9.cell? ⟨w5.heap.size, j, none⟩ = some (.bool (bs.getD j false || decide (j = a) || decide (j = a)))) := fun j hj => by rw [S9.at hj, two_want2 bs len0 a a j hz ha ha]
  clear T5 S9 r9 hc9 hin
  go_wp2_with fail
  refine (count12_any _ _ _ p2).mono ?_
  rintro e w' ⟨rfl, rfl⟩
  go_wp2_with fail
  refine (count12_any _ _ _ p4).mono ?_
  rintro e w' ⟨rfl, rfl⟩
  go_wp2_with fail
  refine (in_any _ _ _ p1).mono ?_
  rintro e w' ⟨rfl, rfl⟩
  go_wp2_with fail
  refine (in_any _ _ _ p3).mono ?_
  rintro e w' ⟨rfl, rfl⟩
  go_wp2_with fail
  go_loop [21] (fun i => ∃ k : Nat, k ≤ len0 ∧ i = .int .i64 k) (fun i => len0 - (intOf i).toNat)
  case atStart => exact ⟨0, Nat.zero_le _, rfl⟩
  case round =>
    obtain ⟨j, hj, rfl⟩ := hrel
    by_cases hlt : j < len0
    · have i9 : (j : Int) < (len0 : Int) := by omega
      have e0 := HI.out j hlt
      have e1 := H1.out j hlt
      have e2 := H2.out j hlt
      cases hx : bs.getD j false
      · rw [hx] at e0 e1 e2
        by_cases t1 : j = a
        · have t1' : ((j : Int) == (a : Int)) = true := by simp; omega
          rw [decide_eq_true t1] at e1 e2
          simp only [Bool.false_or, Bool.true_or] at e1 e2
          clear hx t1
          clear p1 p2 p3 p4
          go_wp2
          go_round
          case rel => exact ⟨j + 1, by omega, by go_num⟩
          case measure => simp [intOf]; omega
        · have t1' : ((j : Int) == (a : Int)) = false := by simp; omega
          rw [decide_eq_false t1] at e1 e2
          simp only [Bool.or_false] at e1 e2
          clear hx t1
          clear p1 p2 p3 p4
          go_wp2
          go_round
          case rel => exact ⟨j + 1, by omega, by go_num⟩
          case measure => simp [intOf]; omega
      · rw [hx] at e0 e1 e2
        simp only [Bool.true_or] at e1 e2
        clear hx
        clear p1 p2 p3 p4
        go_wp2
        go_round
        case rel => exact ⟨j + 1, by omega, by go_num⟩
        case measure => simp [intOf]; omega
    · clear p1 p2 p3 p4
      go_wp2
      go_ret
      exact ⟨rfl, HBL.out⟩

set_option maxRecDepth 100000 in
set_option maxHeartbeats 2000000 in
theorem two_eq_f (a0 : Option Addr) (len0 cap0 : Nat) (bs : List Bool) (q : Nat) (a : Nat) (w : World) (hn : len0 ≤ 1048576) (hz : bs.length = len0) (hr : RdV w a0 (vb bs)) (hq : ct bs = q) (ha : a < len0) (hA : bs.getD a false = false) :
    Calls Try.prog 4 #[.slice a0 len0 cap0, .int .i64 q, .int .i64 a, .int .i64 a] w fun e w' => e = .returned (.bool true) ∧ Below w.heap.size w w' := by
  have hp : 0 < len0 := by omega
  have hf : fits len0 = true := by simp [fits]; omega
  have hq1 : q ≤ 1048576 := by have := ct_le bs; omega
  have d0 : decide ((1048576 : Int) < (len0 : Int)) = false := by simp; omega
  have d1 : decide ((a : Int) < 0) = false := decide_eq_false (by omega)
  have d2 : decide ((len0 : Int) ≤ (a : Int)) = false := by simp; omega
  have i1 : (a : Int) < (len0 : Int) := by omega
  have HA2 : Hid ((bs.set a true).getD a false = true) := by show _ = _; rw [getD_set _ _ _ (by omega)]; simp
  have HA : Hid (bs.getD a false = false) := hA
  clear hA
  have HQ : Hid (ct bs = q) := hq
  clear hq
  go_enter Try.func4, Try.ntmps4
  go_wp2_with (go_at_call 13; refine (bytes13_any _ _ _ _ _ _ _ (by unfold maxLen; omega)).mono ?_; rintro e w' ⟨rfl, rfl⟩)
  refine (count_at a0 len0 cap0 bs q _ hn hz hr HQ.out).mono ?_
  rintro e w' ⟨rfl, rfl⟩
  go_wp2_with fail
  refine (cloneB_pos a0 len0 cap0 bs _ hn hp hz hr).mono ?_
  rintro e w1 ⟨rfl, ho1, hb1⟩
  go_wp2_with fail
  refine (cloneB_pos (some ⟨w.heap.size, 0, none⟩) len0 len0 bs _ hn hp hz (RdV.own ho1)).mono ?_
  rintro e w2 ⟨rfl, ho2, hb2⟩
  go_wp2_with fail
  refine (new_any (some ⟨w1.heap.size, 0, none⟩) len0 len0 q w2).mono ?_
  rintro e w3 ⟨rfl, hw3⟩
  have S3 : SetAt w3 w1.heap.size w2.heap.size w1.heap.size len0 bs q := by rw [hw3]; exact SetAt.made ho2
  have hb3 : Below w2.heap.size w2 w3 := by rw [hw3]; exact (Below.refl _ _).alloc (Nat.le_refl _) _
  clear hw3
  go_wp2_with fail
  refine (add_at w1.heap.size w2.heap.size w1.heap.size len0 a bs q false w3 S3 ha HA.out (by omega) (by omega)).mono ?_
  rintro e w4 ⟨rfl, S4, hk4⟩
  go_wp2_with fail
  refine (add_at w1.heap.size w2.heap.size w1.heap.size len0 a (bs.set a true) _ true w4 S4 ha HA2.out (by first | (simp; done) | (simp; omega)) (by first | (simp; done) | (simp; omega))).mono ?_
  rintro e w5 ⟨rfl, S5, hk5⟩
  have hb5 : Below w1.heap.size w1 w5 := ((hb2.trans (hb3.mono hb2.size)).trans (hk4.below hb2.size (Nat.le_refl _))).trans (hk5.below hb2.size (Nat.le_refl _))
  have r5 : RdV w5 (some ⟨w.heap.size, 0, none⟩) (vb bs) := (RdV.own ho1).below hb5
  clear hb2 hb3 hk4 hk5 S3 S4 ho2
  go_wp2_with fail
  refine (cloneB_pos (some ⟨w.heap.size, 0, none⟩) len0 len0 bs _ hn hp hz r5).mono ?_
  rintro e w6 ⟨rfl, ho6, hb6⟩
  go_wp2_with fail
  refine (new_any (some ⟨w5.heap.size, 0, none⟩) len0 len0 q w6).mono ?_
  rintro e w7 ⟨rfl, hw7⟩
  have S7 : SetAt w7 w5.heap.size w6.heap.size w5.heap.size len0 bs q := by rw [hw7]; exact SetAt.made ho6
  have hb7 : Below w6.heap.size w6 w7 := by rw [hw7]; exact (Below.refl _ _).alloc (Nat.le_refl _) _
  clear hw7
  go_wp2_with fail
  refine (add_at w5.heap.size w6.heap.size w5.heap.size len0 a bs q false w7 S7 ha HA.out (by omega) (by omega)).mono ?_
  rintro e w8 ⟨rfl, S8, hk8⟩
  go_wp2_with fail
  refine (add_at w5.heap.size w6.heap.size w5.heap.size len0 a (bs.set a true) _ true w8 S8 ha HA2.out (by first | (simp; done) | (simp; omega)) (by first | (simp; done) | (simp; omega))).mono ?_
  rintro e w9 ⟨rfl, S9, hk9⟩
  have hb9 : Below w5.heap.size w5 w9 := ((hb6.trans (hb7.mono hb6.size)).trans (hk8.below hb6.size (Nat.le_refl _))).trans (hk9.below hb6.size (Nat.le_refl _))
  have r9 : RdV w9 (some ⟨w.heap.size, 0, none⟩) (vb bs) := r5.below hb9
  have T5 := S5.below hb9 S5.p_lt S5.g_lt
  have HBL : Hid (Below w.heap.size w w9) := (hb1.trans (hb5.mono hb1.size)).trans (hb9.mono (Nat.le_trans hb1.size hb5.size))
  clear hb6 hb7 hk8 hk9 S7 S8 ho6 S5 r5 hb9 hb5 hb1 hr
  obtain ⟨b9, o9, hx9, _, hc9⟩ := r9.at (by rw [vb_len]; omega)
  cases hx9
  have hin : ∀ j, j < len0 → w9.cell? ⟨w.heap.size, j, none⟩ = some (.bool (bs.getD j false)) := fun j hj => by have := hc9 j _ (vb_at (by omega)); rwa [Nat.zero_add] at this
  have ga := hin a ha
  rw [HA.out] at ga
  have p1 := T5.cell0
  have p2 := T5.cell1
  have p3 := S9.cell0
  have p4 := S9.cell1
  simp only [if_true, if_false, Bool.false_eq_true, Int.add_zero] at p2 p4
  have HI : Hid (∀ j, j < len0 → w9.cell? ⟨w.heap.size, j, none⟩ = some (.bool (bs.getD j false))) := hin
  have H1 : Hid (∀ j, j < len0 → w9.cell? ⟨w1.heap.size, j, none⟩ = some (.bool (bs.getD j false || decide (j = a) || decide (j = a)))) := fun j hj => by rw [T5.at hj, two_want1 bs len0 a a j hz ha ha]
  have H2 : Hid (∀ j, j < len0 → w9.cell? ⟨w5.heap.size, j, none⟩ = some (.bool (bs.getD j false || decide (j = a) || decide (j = a)))) := fun j hj => by rw [S9.at hj, two_want2 bs len0 a a j hz ha ha]
  clear T5 S9 r9 hc9 hin
  go_wp2_with fail
  refine (count12_any _ _ _ p2).mono ?_
  rintro e w' ⟨rfl, rfl⟩
  go_wp2_with fail
  refine (count12_any _ _ _ p4).mono ?_
  rintro e w' ⟨rfl, rfl⟩
  go_wp2_with fail
  refine (in_any _ _ _ p1).mono ?_
  rintro e w' ⟨rfl, rfl⟩
  go_wp2_with fail
  refine (in_any _ _ _ p3).mono ?_
  rintro e w' ⟨rfl, rfl⟩
  go_wp2_with fail
  go_loop [21] (fun i => ∃ k : Nat, k ≤ len0 ∧ i = .int .i64 k) (fun i => len0 - (intOf i).toNat)
  case atStart => exact ⟨0, Nat.zero_le _, rfl⟩
  case round =>
    obtain ⟨j, hj, rfl⟩ := hrel
    by_cases hlt : j < len0
    · have i9 : (j : Int) < (len0 : Int) := by omega
      have e0 := HI.out j hlt
      have e1 := H1.out j hlt
      have e2 := H2.out j hlt
      cases hx : bs.getD j false
      · rw [hx] at e0 e1 e2
        by_cases t1 : j = a
        · have t1' : ((j : Int) == (a : Int)) = true := by simp; omega
          rw [decide_eq_true t1] at e1 e2
          simp only [Bool.false_or, Bool.true_or] at e1 e2
          clear hx t1
          clear p1 p2 p3 p4
          go_wp2
          go_round
          case rel => exact ⟨j + 1, by omega, by go_num⟩
          case measure => simp [intOf]; omega
        · have t1' : ((j : Int) == (a : Int)) = false := by simp; omega
          rw [decide_eq_false t1] at e1 e2
          simp only [Bool.or_false] at e1 e2
          clear hx t1
          clear p1 p2 p3 p4
          go_wp2
          go_round
          case rel => exact ⟨j + 1, by omega, by go_num⟩
          case measure => simp [intOf]; omega
      · rw [hx] at e0 e1 e2
        simp only [Bool.true_or] at e1 e2
        clear hx
        clear p1 p2 p3 p4
        go_wp2
        go_round
        case rel => exact ⟨j + 1, by omega, by go_num⟩
        case measure => simp [intOf]; omega
    · clear p1 p2 p3 p4
      go_wp2
      go_ret
      exact ⟨rfl, HBL.out⟩

set_option maxRecDepth 100000 in
set_option maxHeartbeats 2000000 in
theorem two_ne_tt (a0 : Option Addr) (len0 cap0 : Nat) (bs : List Bool) (q : Nat) (a b : Nat) (w : World) (hn : len0 ≤ 1048576) (hz : bs.length = len0) (hr : RdV w a0 (vb bs)) (hq : ct bs = q) (ha : a < len0) (hb : b < len0) (hA : bs.getD a false = true) (hB : bs.getD b false = true) (hab : a ≠ b) :
    Calls Try.prog 4 #[.slice a0 len0 cap0, .int .i64 q, .int .i64 a, .int .i64 b] w fun e w' => e = .returned (.bool true) ∧ Below w.heap.size w w' := by
  have hp : 0 < len0 := by omega
  have hf : fits len0 = true := by simp [fits]; omega
  have hq1 : q ≤ 1048576 := by have := ct_le bs; omega
  have d0 : decide ((1048576 : Int) < (len0 : Int)) = false := by simp; omega
  have d1 : decide ((a : Int) < 0) = false := decide_eq_false (by omega)
  have d2 : decide ((len0 : Int) ≤ (a : Int)) = false := by simp; omega
  have i1 : (a : Int) < (len0 : Int) := by omega
  have d3 : decide ((b : Int) < 0) = false := decide_eq_false (by omega)
  have d4 : decide ((len0 : Int) ≤ (b : Int)) = false := by simp; omega
  have i2 : (b : Int) < (len0 : Int) := by omega
  have n1 : ((a : Int) != (b : Int)) = true := by simp; omega
  have n2 : ((b : Int) != (a : Int)) = true := by simp; omega
  have HA2 : Hid ((bs.set a true).getD b false = true) := by show _ = _; rw [getD_set _ _ _ (by omega), hB]; rfl
  have HB2 : Hid ((bs.set b true).getD a false = true) := by show _ = _; rw [getD_set _ _ _ (by omega), hA]; rfl
  have HA : Hid (bs.getD a false = true) := hA
  have HB : Hid (bs.getD b false = true) := hB
  clear hA hB
  have HQ : Hid (ct bs = q) := hq
  clear hq
  go_enter Try.func4, Try.ntmps4
  go_wp2_with (go_at_call 13; refine (bytes13_any _ _ _ _ _ _ _ (by unfold maxLen; omega)).mono ?_; rintro e w' ⟨rfl, rfl⟩)
  refine (count_at a0 len0 cap0 bs q _ hn hz hr HQ.out).mono ?_
  rintro e w' ⟨rfl, rfl⟩
  go_wp2_with fail
  refine (cloneB_pos a0 len0 cap0 bs _ hn hp hz hr).mono ?_
  rintro e w1 ⟨rfl, ho1, hb1⟩
  go_wp2_with fail
  refine (cloneB_pos (some ⟨w.heap.size, 0, none⟩) len0 len0 bs _ hn hp hz (RdV.own ho1)).mono ?_
  rintro e w2 ⟨rfl, ho2, hb2⟩
  go_wp2_with fail
  refine (new_any (some ⟨w1.heap.size, 0, none⟩) len0 len0 q w2).mono ?_
  rintro e w3 ⟨rfl, hw3⟩
  have S3 : SetAt w3 w1.heap.size w2.heap.size w1.heap.size len0 bs q := by rw [hw3]; exact SetAt.made ho2
  have hb3 : Below w2.heap.size w2 w3 := by rw [hw3]; exact (Below.refl _ _).alloc (Nat.le_refl _) _
  clear hw3
  go_wp2_with fail
  refine (add_at w1.heap.size w2.heap.size w1.heap.size len0 a bs q true w3 S3 ha HA.out (by omega) (by omega)).mono ?_
  rintro e w4 ⟨rfl, S4, hk4⟩
  go_wp2_with fail
  refine (add_at w1.heap.size w2.heap.size w1.heap.size len0 b (bs.set a true) _ true w4 S4 hb HA2.out (by first | (simp; done) | (simp; omega)) (by first | (simp; done) | (simp; omega))).mono ?_
  rintro e w5 ⟨rfl, S5, hk5⟩
  have hb5 : Below w1.heap.size w1 w5 := ((hb2.trans (hb3.mono hb2.size)).trans (hk4.below hb2.size (Nat.le_refl _))).trans (hk5.below hb2.size (Nat.le_refl _))
  have r5 : RdV w5 (some ⟨w.heap.size, 0, none⟩) (vb bs) := (RdV.own ho1).below hb5
  clear hb2 hb3 hk4 hk5 S3 S4 ho2
  go_wp2_with fail
  refine (cloneB_pos (some ⟨w.heap.size, 0, none⟩) len0 len0 bs _ hn hp hz r5).mono ?_
  rintro e w6 ⟨rfl, ho6, hb6⟩
  go_wp2_with fail
  refine (new_any (some ⟨w5.heap.size, 0, none⟩) len0 len0 q w6).mono ?_
  rintro e w7 ⟨rfl, hw7⟩
  have S7 : SetAt w7 w5.heap.size w6.heap.size w5.heap.size len0 bs q := by rw [hw7]; exact SetAt.made ho6
  have hb7 : Below w6.heap.size w6 w7 := by rw [hw7]; exact (Below.refl _ _).alloc (Nat.le_refl _) _
  clear hw7
  go_wp2_with fail
  refine (add_at w5.heap.size w6.heap.size w5.heap.size len0 b bs q true w7 S7 hb HB.out (by omega) (by omega)).mono ?_
  rintro e w8 ⟨rfl, S8, hk8⟩
  go_wp2_with fail
  refine (add_at w5.heap.size w6.heap.size w5.heap.size len0 a (bs.set b true) _ true w8 S8 ha HB2.out (by first | (simp; done) | (simp; omega)) (by first | (simp; done) | (simp; omega))).mono ?_
  rintro e w9 ⟨rfl, S9, hk9⟩
  have hb9 : Below w5.heap.size w5 w9 := ((hb6.trans (hb7.mono hb6.size)).trans (hk8.below hb6.size (Nat.le_refl _))).trans (hk9.below hb6.size (Nat.le_refl _))
  have r9 : RdV w9 (some ⟨w.heap.size, 0, none⟩) (vb bs) := r5.below hb9
  have T5 := S5.below hb9 S5.p_lt S5.g_lt
  have HBL : Hid (Below w.heap.size w w9) := (hb1.trans (hb5.mono hb1.size)).trans (hb9.mono (Nat.le_trans hb1.size hb5.size))
  clear hb6 hb7 hk8 hk9 S7 S8 ho6 S5 r5 hb9 hb5 hb1 hr
  obtain ⟨b9, o9, hx9, _, hc9⟩ := r9.at (by rw [vb_len]; omega)
  cases hx9
  have hin : ∀ j, j < len0 → w9.cell? ⟨w.heap.size, j, none⟩ = some (.bool (bs.getD j false)) := fun j hj => by have := hc9 j _ (vb_at (by omega)); rwa [Nat.zero_add] at this
  have ga := hin a ha
  rw [HA.out] at ga
  have gb := hin b hb
  rw [HB.out] at gb
  have p1 := T5.cell0
  have p2 := T5.cell1
  have p3 := S9.cell0
  have p4 := S9.cell1
  simp only [if_true, if_false, Bool.false_eq_true, Int.add_zero] at p2 p4
  have HI : Hid (∀ j, j < len0 → w9.cell? ⟨w.heap.size, j, none⟩ = some (.bool (bs.getD j false))) := hin
  have H1 : Hid (∀ j, j < len0 → w9.cell? ⟨w1.heap.size, j, none⟩ = some (.bool (bs.getD j false || decide (j = a) || decide (j = b)))) := fun j hj => by rw [T5.at hj, two_want1 bs len0 a b j hz ha hb]
  have H2 : Hid (∀ j, j < len0 → w9.cell? ⟨w5.heap.size, j, none⟩ = some (.bool (bs.getD j false || decide (j = a) || decide (j = b)))) := fun j hj => by rw [S9.at hj, two_want2 bs len0 a b j hz ha hb]
  clear T5 S9 r9 hc9 hin
  go_wp2_with fail
  refine (count12_any _ _ _ p2).mono ?_
  rintro e w' ⟨rfl, rfl⟩
  go_wp2_with fail
  refine (count12_any _ _ _ p4).mono ?_
  rintro e w' ⟨rfl, rfl⟩
  go_wp2_with fail
  refine (in_any _ _ _ p1).mono ?_
  rintro e w' ⟨rfl, rfl⟩
  go_wp2_with fail
  refine (in_any _ _ _ p3).mono ?_
  rintro e w' ⟨rfl, rfl⟩
  go_wp2_with fail
  go_loop [21] (fun i => ∃ k : Nat, k ≤ len0 ∧ i = .int .i64 k) (fun i => len0 - (intOf i).toNat)
  case atStart => exact ⟨0, Nat.zero_le _, rfl⟩
  case round =>
    obtain ⟨j, hj, rfl⟩ := hrel
    by_cases hlt : j < len0
    · have i9 : (j : Int) < (len0 : Int) := by omega
      have e0 := HI.out j hlt
      have e1 := H1.out j hlt
      have e2 := H2.out j hlt
      cases hx : bs.getD j false
      · rw [hx] at e0 e1 e2
        by_cases t1 : j = a
        · have t1' : ((j : Int) == (a : Int)) = true := by simp; omega
          rw [decide_eq_true t1] at e1 e2
          simp only [Bool.false_or, Bool.true_or] at e1 e2
          clear hx t1
          clear p1 p2 p3 p4
          go_wp2
          go_round
          case rel => exact ⟨j + 1, by omega, by go_num⟩
          case measure => simp [intOf]; omega
        · have t1' : ((j : Int) == (a : Int)) = false := by simp; omega
          rw [decide_eq_false t1] at e1 e2
          by_cases t2 : j = b
          · have t2' : ((j : Int) == (b : Int)) = true := by simp; omega
            rw [decide_eq_true t2] at e1 e2
            simp only [Bool.or_true] at e1 e2
            clear hx t1 t2
            clear p1 p2 p3 p4
            go_wp2
            go_round
            case rel => exact ⟨j + 1, by omega, by go_num⟩
            case measure => simp [intOf]; omega
          · have t2' : ((j : Int) == (b : Int)) = false := by simp; omega
            rw [decide_eq_false t2] at e1 e2
            simp only [Bool.or_false] at e1 e2
            clear hx t1 t2
            clear p1 p2 p3 p4
            go_wp2
            go_round
            case rel => exact ⟨j + 1, by omega, by go_num⟩
            case measure => simp [intOf]; omega
      · rw [hx] at e0 e1 e2
        simp only [Bool.true_or] at e1 e2
        clear hx
        clear p1 p2 p3 p4
        go_wp2
        go_round
        case rel => exact ⟨j + 1, by omega, by go_num⟩
        case measure => simp [intOf]; omega
    · clear p1 p2 p3 p4
      go_wp2
      go_ret
      exact ⟨rfl, HBL.out⟩

set_option maxRecDepth 100000 in
set_option maxHeartbeats 2000000 in
theorem two_ne_tf (a0 : Option Addr) (len0 cap0 : Nat) (bs : List Bool) (q : Nat) (a b : Nat) (w : World) (hn : len0 ≤ 1048576) (hz : bs.length = len0) (hr : RdV w a0 (vb bs)) (hq : ct bs = q) (ha : a < len0) (hb : b < len0) (hA : bs.getD a false = true) (hB : bs.getD b false = false) (hab : a ≠ b) :
    Calls Try.prog 4 #[.slice a0 len0 cap0, .int .i64 q, .int .i64 a, .int .i64 b] w fun e w' => e = .returned (.bool true) ∧ Below w.heap.size w w' := by
  have hp : 0 < len0 := by omega
  have hf : fits len0 = true := by simp [fits]; omega
  have hq1 : q ≤ 1048576 := by have := ct_le bs; omega
  have d0 : decide ((1048576 : Int) < (len0 : Int)) = false := by simp; omega
  have d1 : decide ((a : Int) < 0) = false := decide_eq_false (by omega)
  have d2 : decide ((len0 : Int) ≤ (a : Int)) = false := by simp; omega
  have i1 : (a : Int) < (len0 : Int) := by omega
  have d3 : decide ((b : Int) < 0) = false := decide_eq_false (by omega)
  have d4 : decide ((len0 : Int) ≤ (b : Int)) = false := by simp; omega
  have i2 : (b : Int) < (len0 : Int) := by omega
  have n1 : ((a : Int) != (b : Int)) = true := by simp; omega
  have n2 : ((b : Int) != (a : Int)) = true := by simp; omega
  have HA2 : Hid ((bs.set a true).getD b false = false) := by show _ = _; rw [getD_set _ _ _ (by omega), hB]; simp; omega
  have HB2 : Hid ((bs.set b true).getD a false = true) := by show _ = _; rw [getD_set _ _ _ (by omega), hA]; rfl
  have HA : Hid (bs.getD a false = true) := hA
  have HB : Hid (bs.getD b false = false) := hB
  clear hA hB
  have HQ : Hid (ct bs = q) := hq
  clear hq
  go_enter Try.func4, Try.ntmps4
  go_wp2_with (go_at_call 13; refine (bytes13_any _ _ _ _ _ _ _ (by unfold maxLen; omega)).mono ?_; rintro e w' ⟨rfl, rfl⟩)
  refine (count_at a0 len0 cap0 bs q _ hn hz hr HQ.out).mono ?_
  rintro e w' ⟨rfl, rfl⟩
  go_wp2_with fail
  refine (cloneB_pos a0 len0 cap0 bs _ hn hp hz hr).mono ?_
  rintro e w1 ⟨rfl, ho1, hb1⟩
  go_wp2_with fail
  refine (cloneB_pos (some ⟨w.heap.size, 0, none⟩) len0 len0 bs _ hn hp hz (RdV.own ho1)).mono ?_
  rintro e w2 ⟨rfl, ho2, hb2⟩
  go_wp2_with fail
  refine (new_any (some ⟨w1.heap.size, 0, none⟩) len0 len0 q w2).mono ?_
  rintro e w3 ⟨rfl, hw3⟩
  have S3 : SetAt w3 w1.heap.size w2.heap.size w1.heap.size len0 bs q := by rw [hw3]; exact SetAt.made ho2
  have hb3 : Below w2.heap.size w2 w3 := by rw [hw3]; exact (Below.refl _ _).alloc (Nat.le_refl _) _
  clear hw3
  go_wp2_with fail
  refine (add_at w1.heap.size w2.heap.size w1.heap.size len0 a bs q true w3 S3 ha HA.out (by omega) (by omega)).mono ?_
  rintro e w4 ⟨rfl, S4, hk4⟩
  go_wp2_with fail
  refine (add_at w1.heap.size w2.heap.size w1.heap.size len0 b (bs.set a true) _ false w4 S4 hb HA2.out (by first | (simp; done) | (simp; omega)) (by first | (simp; done) | (simp; omega))).mono ?_
  rintro e w5 ⟨rfl, S5, hk5⟩
  have hb5 : Below w1.heap.size w1 w5 := ((hb2.trans (hb3.mono hb2.size)).trans (hk4.below hb2.size (Nat.le_refl _))).trans (hk5.below hb2.size (Nat.le_refl _))
  have r5 : RdV w5 (some ⟨w.heap.size, 0, none⟩) (vb bs) := (RdV.own ho1).below hb5
  clear hb2 hb3 hk4 hk5 S3 S4 ho2
  go_wp2_with fail
  refine (cloneB_pos (some ⟨w.heap.size, 0, none⟩) len0 len0 bs _ hn hp hz r5).mono ?_
  rintro e w6 ⟨rfl, ho6, hb6⟩
  go_wp2_with fail
  refine (new_any (some ⟨w5.heap.size, 0, none⟩) len0 len0 q w6).mono ?_
  rintro e w7 ⟨rfl, hw7⟩
  have S7 : SetAt w7 w5.heap.size w6.heap.size w5.heap.size len0 bs q := by rw [hw7]; exact SetAt.made ho6
  have hb7 : Below w6.heap.size w6 w7 := by rw [hw7]; exact (Below.refl _ _).alloc (Nat.le_refl _) _
  clear hw7
  go_wp2_with fail
  refine (add_at w5.heap.size w6.heap.size w5.heap.size len0 b bs q false w7 S7 hb HB.out (by omega) (by omega)).mono ?_
  rintro e w8 ⟨rfl, S8, hk8⟩
  go_wp2_with fail
  refine (add_at w5.heap.size w6.heap.size w5.heap.size len0 a (bs.set b true) _ true w8 S8 ha HB2.out (by first | (simp; done) | (simp; omega)) (by first | (simp; done) | (simp; omega))).mono ?_
  rintro e w9 ⟨rfl, S9, hk9⟩
  have hb9 : Below w5.heap.size w5 w9 := ((hb6.trans (hb7.mono hb6.size)).trans (hk8.below hb6.size (Nat.le_refl _))).trans (hk9.below hb6.size (Nat.le_refl _))
  have r9 : RdV w9 (some ⟨w.heap.size, 0, none⟩) (vb bs) := r5.below hb9
  have T5 := S5.below hb9 S5.p_lt S5.g_lt
  have HBL : Hid (Below w.heap.size w w9) := (hb1.trans (hb5.mono hb1.size)).trans (hb9.mono (Nat.le_trans hb1.size hb5.size))
  clear hb6 hb7 hk8 hk9 S7 S8 ho6 S5 r5 hb9 hb5 hb1 hr
  obtain ⟨b9, o9, hx9, _, hc9⟩ := r9.at (by rw [vb_len]; omega)
  cases hx9
  have hin : ∀ j, j < len0 → w9.cell? ⟨w.heap.size, j, none⟩ = some (.bool (bs.getD j false)) := fun j hj => by have := hc9 j _ (vb_at (by omega)); rwa [Nat.zero_add] at this
  have ga := hin a ha
  rw [HA.out] at ga
  have gb := hin b hb
  rw [HB.out] at gb
  have p1 := T5.cell0
  have p2 := T5.cell1
  have p3 := S9.cell0
  have p4 := S9.cell1
  simp only [if_true, if_false, Bool.false_eq_true, Int.add_zero] at p2 p4
  have HI : Hid (∀ j, j < len0 → w9.cell? ⟨w.heap.size, j, none⟩ = some (.bool (bs.getD j false))) := hin
  have H1 : Hid (∀ j, j < len0 → w9.cell? ⟨w1.heap.size, j, none⟩ = some (.bool (bs.getD j false || decide (j = a) || decide (j = b)))) := fun j hj => by rw [T5.at hj, two_want1 bs len0 a b j hz ha hb]
  have H2 : Hid (∀ j, j < len0 → w9.cell? ⟨w5.heap.size, j, none⟩ = some (.bool (bs.getD j false || decide (j = a) || decide (j = b)))) := fun j hj => by rw [S9.at hj, two_want2 bs len0 a b j hz ha hb]
  clear T5 S9 r9 hc9 hin
  go_wp2_with fail
  refine (count12_any _ _ _ p2).mono ?_
  rintro e w' ⟨rfl, rfl⟩
  go_wp2_with fail
  refine (count12_any _ _ _ p4).mono ?_
  rintro e w' ⟨rfl, rfl⟩
  go_wp2_with fail
  refine (in_any _ _ _ p1).mono ?_
  rintro e w' ⟨rfl, rfl⟩
  go_wp2_with fail
  refine (in_any _ _ _ p3).mono ?_
  rintro e w' ⟨rfl, rfl⟩
  go_wp2_with fail
  go_loop [21] (fun i => ∃ k : Nat, k ≤ len0 ∧ i = .int .i64 k) (fun i => len0 - (intOf i).toNat)
  case atStart => exact ⟨0, Nat.zero_le _, rfl⟩
  case round =>
    obtain ⟨j, hj, rfl⟩ := hrel
    by_cases hlt : j < len0
    · have i9 : (j : Int) < (len0 : Int) := by omega
      have e0 := HI.out j hlt
      have e1 := H1.out j hlt
      have e2 := H2.out j hlt
      cases hx : bs.getD j false
      · rw [hx] at e0 e1 e2
        by_cases t1 : j = a
        · have t1' : ((j : Int) == (a : Int)) = true := by simp; omega
          rw [decide_eq_true t1] at e1 e2
          simp only [Bool.false_or, Bool.true_or] at e1 e2
          clear hx t1
          clear p1 p2 p3 p4
          go_wp2
          go_round
          case rel => exact ⟨j + 1, by omega, by go_num⟩
          case measure => simp [intOf]; omega
        · have t1' : ((j : Int) == (a : Int)) = false := by simp; omega
          rw [decide_eq_false t1] at e1 e2
          by_cases t2 : j = b
          · have t2' : ((j : Int) == (b : Int)) = true := by simp; omega
            rw [decide_eq_true t2] at e1 e2
            simp only [Bool.or_true] at e1 e2
            clear hx t1 t2
            clear p1 p2 p3 p4
            go_wp2
            go_round
            case rel => exact ⟨j + 1, by omega, by go_num⟩
            case measure => simp [intOf]; omega
          · have t2' : ((j : Int) == (b : Int)) = false := by simp; omega
            rw [decide_eq_false t2] at e1 e2
            simp only [Bool.or_false] at e1 e2
            clear hx t1 t2
            clear p1 p2 p3 p4
            go_wp2
            go_round
            case rel => exact ⟨j + 1, by omega, by go_num⟩
            case measure => simp [intOf]; omega
      · rw [hx] at e0 e1 e2
        simp only [Bool.true_or] at e1 e2
        clear hx
        clear p1 p2 p3 p4
        go_wp2
        go_round
        case rel => exact ⟨j + 1, by omega, by go_num⟩
        case measure => simp [intOf]; omega
    · clear p1 p2 p3 p4
      go_wp2
      go_ret
      exact ⟨rfl, HBL.out⟩

set_option maxRecDepth 100000 in
set_option maxHeartbeats 2000000 in
theorem two_ne_ft (a0 : Option Addr) (len0 cap0 : Nat) (bs : List Bool) (q : Nat) (a b : Nat) (w : World) (hn : len0 ≤ 1048576) (hz : bs.length = len0) (hr : RdV w a0 (vb bs)) (hq : ct bs = q) (ha : a < len0) (hb : b < len0) (hA : bs.getD a false = false) (hB : bs.getD b false = true) (hab : a ≠ b) :
    Calls Try.prog 4 #[.slice a0 len0 cap0, .int .i64 q, .int .i64 a, .int .i64 b] w fun e w' => e = .returned (.bool true) ∧ Below w.heap.size w w' := by
  have hp : 0 < len0 := by omega
  have hf : fits len0 = true := by simp [fits]; omega
  have hq1 : q ≤ 1048576 := by have := ct_le bs; omega
  have d0 : decide ((1048576 : Int) < (len0 : Int)) = false := by simp; omega
  have d1 : decide ((a : Int) < 0) = false := decide_eq_false (by omega)
  have d2 : decide ((len0 : Int) ≤ (a : Int)) = false := by simp; omega
  have i1 : (a : Int) < (len0 : Int) := by omega
  have d3 : decide ((b : Int) < 0) = false := decide_eq_false (by omega)
  have d4 : decide ((len0 : Int) ≤ (b : Int)) = false := by simp; omega
  have i2 : (b : Int) < (len0 : Int) := by omega
  have n1 : ((a : Int) != (b : Int)) = true := by simp; omega
  have n2 : ((b : Int) != (a : Int)) = true := by simp; omega
  have HA2 : Hid ((bs.set a true).getD b false = true) := by show _ = _; rw [getD_set _ _ _ (by omega), hB]; rfl
  have HB2 : Hid ((bs.set b true).getD a false = false) := by show _ = _; rw [getD_set _ _ _ (by omega), hA]; simp; omega
  have HA : Hid (bs.getD a false = false) := hA
  have HB : Hid (bs.getD b false = true) := hB
  clear hA hB
  have HQ : Hid (ct bs = q) := hq
  clear hq
  go_enter Try.func4, Try.ntmps4
  go_wp2_with (go_at_call 13; refine (bytes13_any _ _ _ _ _ _ _ (by unfold maxLen; omega)).mono ?_; rintro e w' ⟨rfl, rfl⟩)
  refine (count_at a0 len0 cap0 bs q _ hn hz hr HQ.out).mono ?_
  rintro e w' ⟨rfl, rfl⟩
  go_wp2_with fail
  refine (cloneB_pos a0 len0 cap0 bs _ hn hp hz hr).mono ?_
  rintro e w1 ⟨rfl, ho1, hb1⟩
  go_wp2_with fail
  refine (cloneB_pos (some ⟨w.heap.size, 0, none⟩) len0 len0 bs _ hn hp hz (RdV.own ho1)).mono ?_
  rintro e w2 ⟨rfl, ho2, hb2⟩
  go_wp2_with fail
  refine (new_any (some ⟨w1.heap.size, 0, none⟩) len0 len0 q w2).mono ?_
  rintro e w3 ⟨rfl, hw3⟩
  have S3 : SetAt w3 w1.heap.size w2.heap.size w1.heap.size len0 bs q := by rw [hw3]; exact SetAt.made ho2
  have hb3 : Below w2.heap.size w2 w3 := by rw [hw3]; exact (Below.refl _ _).alloc (Nat.le_refl _) _
  clear hw3
  go_wp2_with fail
  refine (add_at w1.heap.size w2.heap.size w1.heap.size len0 a bs q false w3 S3 ha HA.out (by omega) (by omega)).mono ?_
  rintro e w4 ⟨rfl, S4, hk4⟩
  go_wp2_with fail
  refine (add_at w1.heap.size w2.heap.size w1.heap.size len0 b (bs.set a true) _ true w4 S4 hb HA2.out (by first | (simp; done) | (simp; omega)) (by first | (simp; done) | (simp; omega))).mono ?_
  rintro e w5 ⟨rfl, S5, hk5⟩
  have hb5 : Below w1.heap.size w1 w5 := ((hb2.trans (hb3.mono hb2.size)).trans (hk4.below hb2.size (Nat.le_refl _))).trans (hk5.below hb2.size (Nat.le_refl _))
  have r5 : RdV w5 (some ⟨w.heap.size, 0, none⟩) (vb bs) := (RdV.own ho1).below hb5
  clear hb2 hb3 hk4 hk5 S3 S4 ho2
  go_wp2_with fail
  refine (cloneB_pos (some ⟨w.heap.size, 0, none⟩) len0 len0 bs _ hn hp hz r5).mono ?_
  rintro e w6 ⟨rfl, ho6, hb6⟩
  go_wp2_with fail
  refine (new_any (some ⟨w5.heap.size, 0, none⟩) len0 len0 q w6).mono ?_
  rintro e w7 ⟨rfl, hw7⟩
  have S7 : SetAt w7 w5.heap.size w6.heap.size w5.heap.size len0 bs q := by rw [hw7]; exact SetAt.made ho6
  have hb7 : Below w6.heap.size w6 w7 := by rw [hw7]; exact (Below.refl _ _).alloc (Nat.le_refl _) _
  clear hw7
  go_wp2_with fail
  refine (add_at w5.heap.size w6.heap.size w5.heap.size len0 b bs q true w7 S7 hb HB.out (by omega) (by omega)).mono ?_
  rintro e w8 ⟨rfl, S8, hk8⟩
  go_wp2_with fail
  refine (add_at w5.heap.size w6.heap.size w5.heap.size len0 a (bs.set b true) _ false w8 S8 ha HB2.out (by first | (simp; done) | (simp; omega)) (by first | (simp; done) | (simp; omega))).mono ?_
  rintro e w9 ⟨rfl, S9, hk9⟩
  have hb9 : Below w5.heap.size w5 w9 := ((hb6.trans (hb7.mono hb6.size)).trans (hk8.below hb6.size (Nat.le_refl _))).trans (hk9.below hb6.size (Nat.le_refl _))
  have r9 : RdV w9 (some ⟨w.heap.size, 0, none⟩) (vb bs) := r5.below hb9
  have T5 := S5.below hb9 S5.p_lt S5.g_lt
  have HBL : Hid (Below w.heap.size w w9) := (hb1.trans (hb5.mono hb1.size)).trans (hb9.mono (Nat.le_trans hb1.size hb5.size))
  clear hb6 hb7 hk8 hk9 S7 S8 ho6 S5 r5 hb9 hb5 hb1 hr
  obtain ⟨b9, o9, hx9, _, hc9⟩ := r9.at (by rw [vb_len]; omega)
  cases hx9
  have hin : ∀ j, j < len0 → w9.cell? ⟨w.heap.size, j, none⟩ = some (.bool (bs.getD j false)) := fun j hj => by have := hc9 j _ (vb_at (by omega)); rwa [Nat.zero_add] at this
  have ga := hin a ha
  rw [HA.out] at ga
  have gb := hin b hb
  rw [HB.out] at gb
  have p1 := T5.cell0
  have p2 := T5.cell1
  have p3 := S9.cell0
  have p4 := S9.cell1
  simp only [if_true, if_false, Bool.false_eq_true, Int.add_zero] at p2 p4
  have HI : Hid (∀ j, j < len0 → w9.cell? ⟨w.heap.size, j, none⟩ = some (.bool (bs.getD j false))) := hin
  have H1 : Hid (∀ j, j < len0 → w9.cell? ⟨w1.heap.size, j, none⟩ = some (.bool (bs.getD j false || decide (j = a) || decide (j = b)))) := fun j hj => by rw [T5.at hj, two_want1 bs len0 a b j hz ha hb]
  have H2 : Hid (∀ j, j < len0 → w9.cell? ⟨w5.heap.size, j, none⟩ = some (.bool (bs.getD j false || decide (j = a) || decide (j = b)))) := fun j hj => by rw [S9.at hj, two_want2 bs len0 a b j hz ha hb]
  clear T5 S9 r9 hc9 hin
  go_wp2_with fail
  refine (count12_any _ _ _ p2).mono ?_
  rintro e w' ⟨rfl, rfl⟩
  go_wp2_with fail
  refine (count12_any _ _ _ p4).mono ?_
  rintro e w' ⟨rfl, rfl⟩
  go_wp2_with fail
  refine (in_any _ _ _ p1).mono ?_
  rintro e w' ⟨rfl, rfl⟩
  go_wp2_with fail
  refine (in_any _ _ _ p3).mono ?_
  rintro e w' ⟨rfl, rfl⟩
  go_wp2_with fail
  go_loop [21] (fun i => ∃ k : Nat, k ≤ len0 ∧ i = .int .i64 k) (fun i => len0 - (intOf i).toNat)
  case atStart => exact ⟨0, Nat.zero_le _, rfl⟩
  case round =>
    obtain ⟨j, hj, rfl⟩ := hrel
    by_cases hlt : j < len0
    · have i9 : (j : Int) < (len0 : Int) := by omega
      have e0 := HI.out j hlt
      have e1 := H1.out j hlt
      have e2 := H2.out j hlt
      cases hx : bs.getD j false
      · rw [hx] at e0 e1 e2
        by_cases t1 : j = a
        · have t1' : ((j : Int) == (a : Int)) = true := by simp; omega
          rw [decide_eq_true t1] at e1 e2
          simp only [Bool.false_or, Bool.true_or] at e1 e2
          clear hx t1
          clear p1 p2 p3 p4
          go_wp2
          go_round
          case rel => exact ⟨j + 1, by omega, by go_num⟩
          case measure => simp [intOf]; omega
        · have t1' : ((j : Int) == (a : Int)) = false := by simp; omega
          rw [decide_eq_false t1] at e1 e2
          by_cases t2 : j = b
          · have t2' : ((j : Int) == (b : Int)) = true := by simp; omega
            rw [decide_eq_true t2] at e1 e2
            simp only [Bool.or_true] at e1 e2
            clear hx t1 t2
            clear p1 p2 p3 p4
            go_wp2
            go_round
            case rel => exact ⟨j + 1, by omega, by go_num⟩
            case measure => simp [intOf]; omega
          · have t2' : ((j : Int) == (b : Int)) = false := by simp; omega
            rw [decide_eq_false t2] at e1 e2
            simp only [Bool.or_false] at e1 e2
            clear hx t1 t2
            clear p1 p2 p3 p4
            go_wp2
            go_round
            case rel => exact ⟨j + 1, by omega, by go_num⟩
            case measure => simp [intOf]; omega
      · rw [hx] at e0 e1 e2
        simp only [Bool.true_or] at e1 e2
        clear hx
        clear p1 p2 p3 p4
        go_wp2
        go_round
        case rel => exact ⟨j + 1, by omega, by go_num⟩
        case measure => simp [intOf]; omega
    · clear p1 p2 p3 p4
      go_wp2
      go_ret
      exact ⟨rfl, HBL.out⟩

set_option maxRecDepth 100000 in
set_option maxHeartbeats 2000000 in
theorem two_ne_ff (a0 : Option Addr) (len0 cap0 : Nat) (bs : List Bool) (q : Nat) (a b : Nat) (w : World) (hn : len0 ≤ 1048576) (hz : bs.length = len0) (hr : RdV w a0 (vb bs)) (hq : ct bs = q) (ha : a < len0) (hb : b < len0) (hA : bs.getD a false = false) (hB : bs.getD b false = false) (hab : a ≠ b) :
    Calls Try.prog 4 #[.slice a0 len0 cap0, .int .i64 q, .int .i64 a, .int .i64 b] w fun e w' => e = .returned (.bool true) ∧ Below w.heap.size w w' := by
  have hp : 0 < len0 := by omega
  have hf : fits len0 = true := by simp [fits]; omega
  have hq1 : q ≤ 1048576 := by have := ct_le bs; omega
  have d0 : decide ((1048576 : Int) < (len0 : Int)) = false := by simp; omega
  have d1 : decide ((a : Int) < 0) = false := decide_eq_false (by omega)
  have d2 : decide ((len0 : Int) ≤ (a : Int)) = false := by simp; omega
  have i1 : (a : Int) < (len0 : Int) := by omega
  have d3 : decide ((b : Int) < 0) = false := decide_eq_false (by omega)
  have d4 : decide ((len0 : Int) ≤ (b : Int)) = false := by simp; omega
  have i2 : (b : Int) < (len0 : Int) := by omega
  have n1 : ((a : Int) != (b : Int)) = true := by simp; omega
  have n2 : ((b : Int) != (a : Int)) = true := by simp; omega
  have HA2 : Hid ((bs.set a true).getD b false = false) := by show _ = _; rw [getD_set _ _ _ (by omega), hB]; simp; omega
  have HB2 : Hid ((bs.set b true).getD a false = false) := by show _ = _; rw [getD_set _ _ _ (by omega), hA]; simp; omega
  have HA : Hid (bs.getD a false = false) := hA
  have HB : Hid (bs.getD b false = false) := hB
  clear hA hB
  have HQ : Hid (ct bs = q) := hq
  clear hq
  go_enter Try.func4, Try.ntmps4
  go_wp2_with (go_at_call 13; refine (bytes13_any _ _ _ _ _ _ _ (by unfold maxLen; omega)).mono ?_; rintro e w' ⟨rfl, rfl⟩)
  refine (count_at a0 len0 cap0 bs q _ hn hz hr HQ.out).mono ?_
  rintro e w' ⟨rfl, rfl⟩
  go_wp2_with fail
  refine (cloneB_pos a0 len0 cap0 bs _ hn hp hz hr).mono ?_
  rintro e w1 ⟨rfl, ho1, hb1⟩
  go_wp2_with fail
  refine (cloneB_pos (some ⟨w.heap.size, 0, none⟩) len0 len0 bs _ hn hp hz (RdV.own ho1)).mono ?_
  rintro e w2 ⟨rfl, ho2, hb2⟩
  go_wp2_with fail
  refine (new_any (some ⟨w1.heap.size, 0, none⟩) len0 len0 q w2).mono ?_
  rintro e w3 ⟨rfl, hw3⟩
  have S3 : SetAt w3 w1.heap.size w2.heap.size w1.heap.size len0 bs q := by rw [hw3]; exact SetAt.made ho2
  have hb3 : Below w2.heap.size w2 w3 := by rw [hw3]; exact (Below.refl _ _).alloc (Nat.le_refl _) _
  clear hw3
  go_wp2_with fail
  refine (add_at w1.heap.size w2.heap.size w1.heap.size len0 a bs q false w3 S3 ha HA.out (by omega) (by omega)).mono ?_
  rintro e w4 ⟨rfl, S4, hk4⟩
  go_wp2_with fail
  refine (add_at w1.heap.size w2.heap.size w1.heap.size len0 b (bs.set a true) _ false w4 S4 hb HA2.out (by first | (simp; done) | (simp; omega)) (by first | (simp; done) | (simp; omega))).mono ?_
  rintro e w5 ⟨rfl, S5, hk5⟩
  have hb5 : Below w1.heap.size w1 w5 := ((hb2.trans (hb3.mono hb2.size)).trans (hk4.below hb2.size (Nat.le_refl _))).trans (hk5.below hb2.size (Nat.le_refl _))
  have r5 : RdV w5 (some ⟨w.heap.size, 0, none⟩) (vb bs) := (RdV.own ho1).below hb5
  clear hb2 hb3 hk4 hk5 S3 S4 ho2
  go_wp2_with fail
  refine (cloneB_pos (some ⟨w.heap.size, 0, none⟩) len0 len0 bs _ hn hp hz r5).mono ?_
  rintro e w6 ⟨rfl, ho6, hb6⟩
  go_wp2_with fail
  refine (new_any (some ⟨w5.heap.size, 0, none⟩) len0 len0 q w6).mono ?_
  rintro e w7 ⟨rfl, hw7⟩
  have S7 : SetAt w7 w5.heap.size w6.heap.size w5.heap.size len0 bs q := by rw [hw7]; exact SetAt.made ho6
  have hb7 : Below w6.heap.size w6 w7 := by rw [hw7]; exact (Below.refl _ _).alloc (Nat.le_refl _) _
  clear hw7
  go_wp2_with fail
  refine (add_at w5.heap.size w6.heap.size w5.heap.size len0 b bs q false w7 S7 hb HB.out (by omega) (by omega)).mono ?_
  rintro e w8 ⟨rfl, S8, hk8⟩
  go_wp2_with fail
  refine (add_at w5.heap.size w6.heap.size w5.heap.size len0 a (bs.set b true) _ false w8 S8 ha HB2.out (by first | (simp; done) | (simp; omega)) (by first | (simp; done) | (simp; omega))).mono ?_
  rintro e w9 ⟨rfl, S9, hk9⟩
  have hb9 : Below w5.heap.size w5 w9 := ((hb6.trans (hb7.mono hb6.size)).trans (hk8.below hb6.size (Nat.le_refl _))).trans (hk9.below hb6.size (Nat.le_refl _))
  have r9 : RdV w9 (some ⟨w.heap.size, 0, none⟩) (vb bs) := r5.below hb9
  have T5 := S5.below hb9 S5.p_lt S5.g_lt
  have HBL : Hid (Below w.heap.size w w9) := (hb1.trans (hb5.mono hb1.size)).trans (hb9.mono (Nat.le_trans hb1.size hb5.size))
  clear hb6 hb7 hk8 hk9 S7 S8 ho6 S5 r5 hb9 hb5 hb1 hr
  obtain ⟨b9, o9, hx9, _, hc9⟩ := r9.at (by rw [vb_len]; omega)
  cases hx9
  have hin : ∀ j, j < len0 → w9.cell? ⟨w.heap.size, j, none⟩ = some (.bool (bs.getD j false)) := fun j hj => by have := hc9 j _ (vb_at (by omega)); rwa [Nat.zero_add] at this
  have ga := hin a ha
  rw [HA.out] at ga
  have gb := hin b hb
  rw [HB.out] at gb
  have p1 := T5.cell0
  have p2 := T5.cell1
  have p3 := S9.cell0
  have p4 := S9.cell1
  simp only [if_true, if_false, Bool.false_eq_true, Int.add_zero] at p2 p4
  have HI : Hid (∀ j, j < len0 → w9.cell? ⟨w.heap.size, j, none⟩ = some (.bool (bs.getD j false))) := hin
  have H1 : Hid (∀ j, j < len0 → w9.cell? ⟨w1.heap.size, j, none⟩ = some (.bool (bs.getD j false || decide (j = a) || decide (j = b)))) := fun j hj => by rw [T5.at hj, two_want1 bs len0 a b j hz ha hb]
  have H2 : Hid (∀ j, j < len0 → w9.cell? ⟨w5.heap.size, j, none⟩ = some (.bool (bs.getD j false || decide (j = a) || decide (j = b)))) := fun j hj => by rw [S9.at hj, two_want2 bs len0 a b j hz ha hb]
  clear T5 S9 r9 hc9 hin
  go_wp2_with fail
  refine (count12_any _ _ _ p2).mono ?_
  rintro e w' ⟨rfl, rfl⟩
  go_wp2_with fail
  refine (count12_any _ _ _ p4).mono ?_
  rintro e w' ⟨rfl, rfl⟩
  go_wp2_with fail
  refine (in_any _ _ _ p1).mono ?_
  rintro e w' ⟨rfl, rfl⟩
  go_wp2_with fail
  refine (in_any _ _ _ p3).mono ?_
  rintro e w' ⟨rfl, rfl⟩
  go_wp2_with fail
  go_loop [21] (fun i => ∃ k : Nat, k ≤ len0 ∧ i = .int .i64 k) (fun i => len0 - (intOf i).toNat)
  case atStart => exact ⟨0, Nat.zero_le _, rfl⟩
  case round =>
    obtain ⟨j, hj, rfl⟩ := hrel
    by_cases hlt : j < len0
    · have i9 : (j : Int) < (len0 : Int) := by omega
      have e0 := HI.out j hlt
      have e1 := H1.out j hlt
      have e2 := H2.out j hlt
      cases hx : bs.getD j false
      · rw [hx] at e0 e1 e2
        by_cases t1 : j = a
        · have t1' : ((j : Int) == (a : Int)) = true := by simp; omega
          rw [decide_eq_true t1] at e1 e2
          simp only [Bool.false_or, Bool.true_or] at e1 e2
          clear hx t1
          clear p1 p2 p3 p4
          go_wp2
          go_round
          case rel => exact ⟨j + 1, by omega, by go_num⟩
          case measure => simp [intOf]; omega
        · have t1' : ((j : Int) == (a : Int)) = false := by simp; omega
          rw [decide_eq_false t1] at e1 e2
          by_cases t2 : j = b
          · have t2' : ((j : Int) == (b : Int)) = true := by simp; omega
            rw [decide_eq_true t2] at e1 e2
            simp only [Bool.or_true] at e1 e2
            clear hx t1 t2
            clear p1 p2 p3 p4
            go_wp2
            go_round
            case rel => exact ⟨j + 1, by omega, by go_num⟩
            case measure => simp [intOf]; omega
          · have t2' : ((j : Int) == (b : Int)) = false := by simp; omega
            rw [decide_eq_false t2] at e1 e2
            simp only [Bool.or_false] at e1 e2
            clear hx t1 t2
            clear p1 p2 p3 p4
            go_wp2
            go_round
            case rel => exact ⟨j + 1, by omega, by go_num⟩
            case measure => simp [intOf]; omega
      · rw [hx] at e0 e1 e2
        simp only [Bool.true_or] at e1 e2
        clear hx
        clear p1 p2 p3 p4
        go_wp2
        go_round
        case rel => exact ⟨j + 1, by omega, by go_num⟩
        case measure => simp [intOf]; omega
    · clear p1 p2 p3 p4
      go_wp2
      go_ret
      exact ⟨rfl, HBL.out⟩

end Go.Proofs.Qxb6630441a.Set
