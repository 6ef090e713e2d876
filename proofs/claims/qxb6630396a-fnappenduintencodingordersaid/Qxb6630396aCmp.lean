/-
  compareBytes and expectedOrder.
-/
import Derived.Test.Qxb6630396aApp
import Derived.BigQuiet
namespace Go.Proofs.Qxb6630396a.Rlp
open Go.RowKit
set_option linter.unusedVariables false

theorem ret_int {k : IntKind} {a b : Int} (h : a = b) : Ending.returned (.int k a) = .returned (.int k b) := by rw [h]

set_option maxHeartbeats 1000000 in
theorem order_any (a b : Int) (w : World) :
    Calls Try.prog 11 #[.int .u64 a, .int .u64 b] w fun e w' => e = .returned (.int .i64 (order a b)) ∧ w = w' := by
  by_cases c : a = b
  · subst c
    go_enter Try.func11, Try.ntmps11
    go_wp2
    go_ret
    exact ⟨ret_int (by simp [order]), rfl⟩
  have hc : (a == b) = false := by simpa using c
  by_cases za : a = 0
  · subst za
    by_cases sb : b < 128
    · go_enter Try.func11, Try.ntmps11
      go_wp2
      go_ret
      exact ⟨ret_int (by rw [order, if_neg c, if_pos rfl, if_pos sb]), rfl⟩
    · go_enter Try.func11, Try.ntmps11
      go_wp2
      go_ret
      exact ⟨ret_int (by rw [order, if_neg c, if_pos rfl, if_neg (by omega)]), rfl⟩
  have hza : (a == 0) = false := by simpa using za
  by_cases zb : b = 0
  · subst zb
    by_cases sa : a < 128
    · go_enter Try.func11, Try.ntmps11
      go_wp2
      go_ret
      exact ⟨ret_int (by rw [order, if_neg c, if_neg za, if_pos rfl, if_pos sa]), rfl⟩
    · go_enter Try.func11, Try.ntmps11
      go_wp2
      go_ret
      exact ⟨ret_int (by rw [order, if_neg c, if_neg za, if_pos rfl, if_neg (by omega)]), rfl⟩
  have hzb : (b == 0) = false := by simpa using zb
  by_cases lt : a < b
  · go_enter Try.func11, Try.ntmps11
    go_wp2
    go_ret
    exact ⟨ret_int (by rw [order, if_neg c, if_neg za, if_neg zb, if_pos lt]), rfl⟩
  · go_enter Try.func11, Try.ntmps11
    go_wp2
    go_ret
    exact ⟨ret_int (by rw [order, if_neg c, if_neg za, if_neg zb, if_neg (by omega)]), rfl⟩

theorem cmp_drop (xs ys : List Int) (k : Nat) (hx : k < xs.length) (hy : k < ys.length) :
    cmp (xs.drop k) (ys.drop k) = if xs.getD k 0 < ys.getD k 0 then -1 else if ys.getD k 0 < xs.getD k 0 then 1 else cmp (xs.drop (k + 1)) (ys.drop (k + 1)) := by
  rw [List.drop_eq_getElem_cons hx, List.drop_eq_getElem_cons hy, cmp_cons]
  simp [List.getD, hx, hy]
theorem cmp_end (xs ys : List Int) (k : Nat) (h : xs.length ≤ k ∨ ys.length ≤ k) (hx : k ≤ xs.length) (hy : k ≤ ys.length) :
    cmp (xs.drop k) (ys.drop k) = if xs.length < ys.length then -1 else if ys.length < xs.length then 1 else 0 := by
  by_cases c1 : xs.length < ys.length
  · obtain rfl : k = xs.length := by omega
    rw [if_pos c1, List.drop_length, List.drop_eq_getElem_cons c1]; rfl
  · by_cases c2 : ys.length < xs.length
    · obtain rfl : k = ys.length := by omega
      rw [if_neg c1, if_pos c2, List.drop_length, List.drop_eq_getElem_cons c2]; rfl
    · have e : xs.length = ys.length := by omega
      obtain rfl : k = xs.length := by omega
      rw [if_neg c1, if_neg c2, List.drop_length, e, List.drop_length]; rfl

set_option maxRecDepth 100000 in
set_option maxHeartbeats 1000000 in
theorem cmp_any (b1 o1 n1 c1 b2 o2 n2 c2 : Nat) (xs ys : List Int) (w : World) (hn1 : xs.length = n1) (hn2 : ys.length = n2) (l1 : n1 ≤ 2000000) (l2 : n2 ≤ 2000000)
    (h1 : ∀ j, j < n1 → w.cell? ⟨b1, o1 + j, none⟩ = some (.int .u8 (xs.getD j 0))) (h2 : ∀ j, j < n2 → w.cell? ⟨b2, o2 + j, none⟩ = some (.int .u8 (ys.getD j 0))) (hb1 : b1 < w.heap.size) (hb2 : b2 < w.heap.size) :
    Calls Try.prog 10 #[.slice (some ⟨b1, o1, none⟩) n1 c1, .slice (some ⟨b2, o2, none⟩) n2 c2] w fun e w' => e = .returned (.int .i64 (cmp xs ys)) ∧ Below w.heap.size w w' := by
  by_cases hs : n2 < n1
  · have d1 : decide ((n2 : Int) < (n1 : Int)) = true := by simp; omega
    have d2 : decide ((n1 : Int) < (n2 : Int)) = false := by simp; omega
    go_enter Try.func10, Try.ntmps10
    go_wp2
    go_loopw [6] (fun i wr => ∃ k : Nat, k ≤ n2 ∧ i = .int .i64 k ∧ cmp xs ys = cmp (xs.drop k) (ys.drop k) ∧ Below w.heap.size w wr) (fun i _ => n2 - (intOf i).toNat)
    case atStart => exact ⟨0, Nat.zero_le _, rfl, rfl, Below.refl _ _⟩
    case round =>
      obtain ⟨k, hk, rfl, hcm, hbel⟩ := hrel
      have HCM : Hid (cmp xs ys = cmp (xs.drop k) (ys.drop k)) := hcm
      clear hcm
      by_cases hlt : k < n2
      · have e1 : wr.cell? ⟨b1, o1 + k, none⟩ = some (.int .u8 (xs.getD k 0)) := (hbel.cell (p := ⟨b1, o1 + k, none⟩) hb1).trans (h1 k (by omega))
        have e2 : wr.cell? ⟨b2, o2 + k, none⟩ = some (.int .u8 (ys.getD k 0)) := (hbel.cell (p := ⟨b2, o2 + k, none⟩) hb2).trans (h2 k (by omega))
        have HD : Hid (cmp (xs.drop k) (ys.drop k) = if xs.getD k 0 < ys.getD k 0 then -1 else if ys.getD k 0 < xs.getD k 0 then 1 else cmp (xs.drop (k + 1)) (ys.drop (k + 1))) := cmp_drop xs ys k (by omega) (by omega)
        have i1 : (k : Int) < (n1 : Int) := by omega
        have i2 : (k : Int) < (n2 : Int) := by omega
        generalize xs.getD k 0 = x at *
        generalize ys.getD k 0 = y at *
        by_cases t1 : x < y
        · have HE : Hid (cmp xs ys = -1) := by show _ = _; rw [HCM.out, HD.out, if_pos t1]
          clear HD HCM h1 h2
          go_wp2
          go_quiet (fail)
          go_wp2
          go_ret
          exact ⟨ret_int HE.out.symm, below_drewN hbel _⟩
        · by_cases t2 : y < x
          · have HE : Hid (cmp xs ys = 1) := by show _ = _; rw [HCM.out, HD.out, if_neg t1, if_pos t2]
            clear HD HCM h1 h2
            go_wp2
            go_quiet (fail)
            go_wp2
            go_quiet (fail)
            go_wp2
            go_ret
            exact ⟨ret_int HE.out.symm, below_drewN (below_drewN hbel _) _⟩
          · have HE : Hid (cmp xs ys = cmp (xs.drop (k + 1)) (ys.drop (k + 1))) := by show _ = _; rw [HCM.out, HD.out, if_neg t1, if_neg t2]
            clear HD HCM h1 h2
            go_wp2
            go_quiet (fail)
            go_wp2
            go_quiet (fail)
            go_wp2
            go_roundw
            case rel => exact ⟨k + 1, by omega, by go_num, HE.out, below_drewN hbel _⟩
            case measure => simp [intOf]; omega
      · obtain rfl : k = n2 := by omega
        have HE : Hid (cmp xs ys = if xs.length < ys.length then -1 else if ys.length < xs.length then 1 else 0) := by show _ = _; rw [HCM.out, cmp_end xs ys k (by omega) (by omega) (by omega)]
        rw [hn1, hn2] at HE
        clear HCM h1 h2
        go_wp2
        go_ret
        exact ⟨ret_int (by rw [HE.out, if_neg (by omega), if_pos (by omega)]), hbel⟩
  · have d1 : decide ((n2 : Int) < (n1 : Int)) = false := by simp; omega
    go_enter Try.func10, Try.ntmps10
    go_wp2
    go_loopw [6] (fun i wr => ∃ k : Nat, k ≤ n1 ∧ i = .int .i64 k ∧ cmp xs ys = cmp (xs.drop k) (ys.drop k) ∧ Below w.heap.size w wr) (fun i _ => n1 - (intOf i).toNat)
    case atStart => exact ⟨0, Nat.zero_le _, rfl, rfl, Below.refl _ _⟩
    case round =>
      obtain ⟨k, hk, rfl, hcm, hbel⟩ := hrel
      have HCM : Hid (cmp xs ys = cmp (xs.drop k) (ys.drop k)) := hcm
      clear hcm
      by_cases hlt : k < n1
      · have e1 : wr.cell? ⟨b1, o1 + k, none⟩ = some (.int .u8 (xs.getD k 0)) := (hbel.cell (p := ⟨b1, o1 + k, none⟩) hb1).trans (h1 k (by omega))
        have e2 : wr.cell? ⟨b2, o2 + k, none⟩ = some (.int .u8 (ys.getD k 0)) := (hbel.cell (p := ⟨b2, o2 + k, none⟩) hb2).trans (h2 k (by omega))
        have HD : Hid (cmp (xs.drop k) (ys.drop k) = if xs.getD k 0 < ys.getD k 0 then -1 else if ys.getD k 0 < xs.getD k 0 then 1 else cmp (xs.drop (k + 1)) (ys.drop (k + 1))) := cmp_drop xs ys k (by omega) (by omega)
        have i1 : (k : Int) < (n1 : Int) := by omega
        have i2 : (k : Int) < (n2 : Int) := by omega
        generalize xs.getD k 0 = x at *
        generalize ys.getD k 0 = y at *
        by_cases t1 : x < y
        · have HE : Hid (cmp xs ys = -1) := by show _ = _; rw [HCM.out, HD.out, if_pos t1]
          clear HD HCM h1 h2
          go_wp2
          go_quiet (fail)
          go_wp2
          go_ret
          exact ⟨ret_int HE.out.symm, below_drewN hbel _⟩
        · by_cases t2 : y < x
          · have HE : Hid (cmp xs ys = 1) := by show _ = _; rw [HCM.out, HD.out, if_neg t1, if_pos t2]
            clear HD HCM h1 h2
            go_wp2
            go_quiet (fail)
            go_wp2
            go_quiet (fail)
            go_wp2
            go_ret
            exact ⟨ret_int HE.out.symm, below_drewN (below_drewN hbel _) _⟩
          · have HE : Hid (cmp xs ys = cmp (xs.drop (k + 1)) (ys.drop (k + 1))) := by show _ = _; rw [HCM.out, HD.out, if_neg t1, if_neg t2]
            clear HD HCM h1 h2
            go_wp2
            go_quiet (fail)
            go_wp2
            go_quiet (fail)
            go_wp2
            go_roundw
            case rel => exact ⟨k + 1, by omega, by go_num, HE.out, below_drewN hbel _⟩
            case measure => simp [intOf]; omega
      · obtain rfl : k = n1 := by omega
        have HE : Hid (cmp xs ys = if xs.length < ys.length then -1 else if ys.length < xs.length then 1 else 0) := by show _ = _; rw [HCM.out, cmp_end xs ys k (by omega) (by omega) (by omega)]
        rw [hn1, hn2] at HE
        clear HCM h1 h2
        by_cases q : k < n2
        · have d3 : decide ((k : Int) < (n2 : Int)) = true := by simp; omega
          go_wp2
          go_ret
          exact ⟨ret_int (by rw [HE.out, if_pos q]), hbel⟩
        · have d3 : decide ((k : Int) < (n2 : Int)) = false := by simp; omega
          go_wp2
          go_ret
          exact ⟨ret_int (by rw [HE.out, if_neg q, if_neg (by omega)]), hbel⟩

theorem cmp_at (b1 n1 c1 b2 n2 c2 : Nat) (xs ys : List Int) (r : Int) (w : World) (hn1 : xs.length = n1) (hn2 : ys.length = n2) (l1 : n1 ≤ 2000000) (l2 : n2 ≤ 2000000) (p1 : 0 < n1) (p2 : 0 < n2)
    (h1 : RdS w (some ⟨b1, 0, none⟩) xs) (h2 : RdS w (some ⟨b2, 0, none⟩) ys) (hr : cmp xs ys = r) :
    Calls Try.prog 10 #[.slice (some ⟨b1, 0, none⟩) n1 c1, .slice (some ⟨b2, 0, none⟩) n2 c2] w fun e w' => e = .returned (.int .i64 r) ∧ Below w.heap.size w w' := by
  subst hr
  obtain ⟨b1', o1', e1, hb1, hc1⟩ := h1.at (by omega)
  cases e1
  obtain ⟨b2', o2', e2, hb2, hc2⟩ := h2.at (by omega)
  cases e2
  exact cmp_any b1 0 n1 c1 b2 0 n2 c2 xs ys w hn1 hn2 l1 l2 (fun j hj => hc1 j (by omega)) (fun j hj => hc2 j (by omega)) hb1 hb2

theorem order_at (a b r : Int) (w : World) (hr : order a b = r) :
    Calls Try.prog 11 #[.int .u64 a, .int .u64 b] w fun e w' => e = .returned (.int .i64 r) ∧ w = w' := by
  subst hr; exact order_any a b w

end Go.Proofs.Qxb6630396a.Rlp
